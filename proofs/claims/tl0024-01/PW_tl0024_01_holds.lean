import PyProof.Rows.All
import Wide.All
import OpenK.AllK
import Wide.FinOn
import Lean
import PySem.Challenge.RW_tl0024_01
open PySem PySem.W PySem.Calls PyProof.Rows
set_option Elab.async false
set_option maxRecDepth 100000
set_option linter.all false
set_option bootstrap.genMatcherCode false
set_option genSizeOf false
set_option genInjectivity false
set_option tactic.hygienic false
set_option genCtorIdx false
namespace Mine
noncomputable def theFun (x : Str) : List Stmt → Option (Arguments × List Stmt × Scope)
  | [] => none
  | .FunctionDef n a b _ _ _ s _ _ _ :: r => if n = x then some (a, b, s) else theFun x r
  | _ :: r => theFun x r
noncomputable def fnamesOf : List Stmt → List Str
  | [] => []
  | .FunctionDef n _ _ _ _ _ _ _ _ _ :: r => n :: fnamesOf r
  | _ :: r => fnamesOf r
end Mine

namespace Mine
noncomputable def myK (P : Params) : Frag :=
  [(2, { cls := Value.none, data := Data.dict #[] }),
   (3, { cls := Value.type "dict", data := Data.dict #[{ hash := PyData.keyHash P (Str.ofString "__name__"), key := Value.str (Str.ofString "__name__") 165, val := Value.str (Str.ofString "law_tl0024_01") 525 }, { hash := PyData.keyHash P (Str.ofString "__doc__"), key := Value.str (Str.ofString "__doc__") 166, val := Value.none }, { hash := PyData.keyHash P (Str.ofString "__package__"), key := Value.str (Str.ofString "__package__") 167, val := Value.none }, { hash := PyData.keyHash P (Str.ofString "__loader__"), key := Value.str (Str.ofString "__loader__") 168, val := Value.builtin "__main__.__loader__#opaque" }, { hash := PyData.keyHash P (Str.ofString "__spec__"), key := Value.str (Str.ofString "__spec__") 169, val := Value.none }, { hash := PyData.keyHash P (Str.ofString "__annotations__"), key := Value.str (Str.ofString "__annotations__") 170, val := Value.ref 6 }, { hash := PyData.keyHash P (Str.ofString "__builtins__"), key := Value.str (Str.ofString "__builtins__") 171, val := Value.ref 4 }, { hash := PyData.keyHash P (Str.ofString "__file__"), key := Value.str (Str.ofString "__file__") 173, val := Value.str (Str.ofString "/claim/cut.py") 172 }, { hash := PyData.keyHash P (Str.ofString "__cached__"), key := Value.str (Str.ofString "__cached__") 174, val := Value.none }, { hash := PyData.keyHash P (Str.ofString "CHAR_MAX"), key := Value.str (Str.ofString "CHAR_MAX") 190, val := Value.int 127 189 }, { hash := PyData.keyHash P (Str.ofString "_grouping_intervals"), key := Value.str (Str.ofString "_grouping_intervals") 199, val := Value.ref 21 }, { hash := PyData.keyHash P (Str.ofString "lt"), key := Value.str (Str.ofString "lt") 209, val := Value.ref 28 }, { hash := PyData.keyHash P (Str.ofString "add"), key := Value.str (Str.ofString "add") 217, val := Value.ref 35 }, { hash := PyData.keyHash P (Str.ofString "mul"), key := Value.str (Str.ofString "mul") 225, val := Value.ref 42 }, { hash := PyData.keyHash P (Str.ofString "sub"), key := Value.str (Str.ofString "sub") 233, val := Value.ref 49 }, { hash := PyData.keyHash P (Str.ofString "contains"), key := Value.str (Str.ofString "contains") 241, val := Value.ref 56 }, { hash := PyData.keyHash P (Str.ofString "getitem"), key := Value.str (Str.ofString "getitem") 249, val := Value.ref 63 }, { hash := PyData.keyHash P (Str.ofString "indexOf"), key := Value.str (Str.ofString "indexOf") 259, val := Value.ref 70 }, { hash := PyData.keyHash P (Str.ofString "setitem"), key := Value.str (Str.ofString "setitem") 268, val := Value.ref 77 }, { hash := PyData.keyHash P (Str.ofString "iadd"), key := Value.str (Str.ofString "iadd") 276, val := Value.ref 84 }, { hash := PyData.keyHash P (Str.ofString "isub"), key := Value.str (Str.ofString "isub") 284, val := Value.ref 91 }, { hash := PyData.keyHash P (Str.ofString "LPAR"), key := Value.str (Str.ofString "LPAR") 288, val := Value.int 7 287 }, { hash := PyData.keyHash P (Str.ofString "RPAR"), key := Value.str (Str.ofString "RPAR") 290, val := Value.int 8 289 }, { hash := PyData.keyHash P (Str.ofString "LSQB"), key := Value.str (Str.ofString "LSQB") 292, val := Value.int 9 291 }, { hash := PyData.keyHash P (Str.ofString "RSQB"), key := Value.str (Str.ofString "RSQB") 294, val := Value.int 10 293 }, { hash := PyData.keyHash P (Str.ofString "COLON"), key := Value.str (Str.ofString "COLON") 296, val := Value.int 11 295 }, { hash := PyData.keyHash P (Str.ofString "COMMA"), key := Value.str (Str.ofString "COMMA") 298, val := Value.int 12 297 }, { hash := PyData.keyHash P (Str.ofString "SEMI"), key := Value.str (Str.ofString "SEMI") 300, val := Value.int 13 299 }, { hash := PyData.keyHash P (Str.ofString "PLUS"), key := Value.str (Str.ofString "PLUS") 302, val := Value.int 14 301 }, { hash := PyData.keyHash P (Str.ofString "MINUS"), key := Value.str (Str.ofString "MINUS") 304, val := Value.int 15 303 }, { hash := PyData.keyHash P (Str.ofString "STAR"), key := Value.str (Str.ofString "STAR") 306, val := Value.int 16 305 }, { hash := PyData.keyHash P (Str.ofString "SLASH"), key := Value.str (Str.ofString "SLASH") 308, val := Value.int 17 307 }, { hash := PyData.keyHash P (Str.ofString "VBAR"), key := Value.str (Str.ofString "VBAR") 310, val := Value.int 18 309 }, { hash := PyData.keyHash P (Str.ofString "AMPER"), key := Value.str (Str.ofString "AMPER") 312, val := Value.int 19 311 }, { hash := PyData.keyHash P (Str.ofString "LESS"), key := Value.str (Str.ofString "LESS") 314, val := Value.int 20 313 }, { hash := PyData.keyHash P (Str.ofString "GREATER"), key := Value.str (Str.ofString "GREATER") 316, val := Value.int 21 315 }, { hash := PyData.keyHash P (Str.ofString "EQUAL"), key := Value.str (Str.ofString "EQUAL") 318, val := Value.int 22 317 }, { hash := PyData.keyHash P (Str.ofString "DOT"), key := Value.str (Str.ofString "DOT") 320, val := Value.int 23 319 }, { hash := PyData.keyHash P (Str.ofString "PERCENT"), key := Value.str (Str.ofString "PERCENT") 322, val := Value.int 24 321 }, { hash := PyData.keyHash P (Str.ofString "LBRACE"), key := Value.str (Str.ofString "LBRACE") 324, val := Value.int 25 323 }, { hash := PyData.keyHash P (Str.ofString "RBRACE"), key := Value.str (Str.ofString "RBRACE") 326, val := Value.int 26 325 }, { hash := PyData.keyHash P (Str.ofString "EQEQUAL"), key := Value.str (Str.ofString "EQEQUAL") 328, val := Value.int 27 327 }, { hash := PyData.keyHash P (Str.ofString "NOTEQUAL"), key := Value.str (Str.ofString "NOTEQUAL") 330, val := Value.int 28 329 }, { hash := PyData.keyHash P (Str.ofString "LESSEQUAL"), key := Value.str (Str.ofString "LESSEQUAL") 332, val := Value.int 29 331 }, { hash := PyData.keyHash P (Str.ofString "GREATEREQUAL"), key := Value.str (Str.ofString "GREATEREQUAL") 334, val := Value.int 30 333 }, { hash := PyData.keyHash P (Str.ofString "TILDE"), key := Value.str (Str.ofString "TILDE") 336, val := Value.int 31 335 }, { hash := PyData.keyHash P (Str.ofString "CIRCUMFLEX"), key := Value.str (Str.ofString "CIRCUMFLEX") 338, val := Value.int 32 337 }, { hash := PyData.keyHash P (Str.ofString "LEFTSHIFT"), key := Value.str (Str.ofString "LEFTSHIFT") 340, val := Value.int 33 339 }, { hash := PyData.keyHash P (Str.ofString "RIGHTSHIFT"), key := Value.str (Str.ofString "RIGHTSHIFT") 342, val := Value.int 34 341 }, { hash := PyData.keyHash P (Str.ofString "DOUBLESTAR"), key := Value.str (Str.ofString "DOUBLESTAR") 344, val := Value.int 35 343 }, { hash := PyData.keyHash P (Str.ofString "PLUSEQUAL"), key := Value.str (Str.ofString "PLUSEQUAL") 346, val := Value.int 36 345 }, { hash := PyData.keyHash P (Str.ofString "MINEQUAL"), key := Value.str (Str.ofString "MINEQUAL") 348, val := Value.int 37 347 }, { hash := PyData.keyHash P (Str.ofString "STAREQUAL"), key := Value.str (Str.ofString "STAREQUAL") 350, val := Value.int 38 349 }, { hash := PyData.keyHash P (Str.ofString "SLASHEQUAL"), key := Value.str (Str.ofString "SLASHEQUAL") 352, val := Value.int 39 351 }, { hash := PyData.keyHash P (Str.ofString "PERCENTEQUAL"), key := Value.str (Str.ofString "PERCENTEQUAL") 354, val := Value.int 40 353 }, { hash := PyData.keyHash P (Str.ofString "AMPEREQUAL"), key := Value.str (Str.ofString "AMPEREQUAL") 356, val := Value.int 41 355 }, { hash := PyData.keyHash P (Str.ofString "VBAREQUAL"), key := Value.str (Str.ofString "VBAREQUAL") 358, val := Value.int 42 357 }, { hash := PyData.keyHash P (Str.ofString "CIRCUMFLEXEQUAL"), key := Value.str (Str.ofString "CIRCUMFLEXEQUAL") 360, val := Value.int 43 359 }, { hash := PyData.keyHash P (Str.ofString "LEFTSHIFTEQUAL"), key := Value.str (Str.ofString "LEFTSHIFTEQUAL") 362, val := Value.int 44 361 }, { hash := PyData.keyHash P (Str.ofString "RIGHTSHIFTEQUAL"), key := Value.str (Str.ofString "RIGHTSHIFTEQUAL") 364, val := Value.int 45 363 }, { hash := PyData.keyHash P (Str.ofString "DOUBLESTAREQUAL"), key := Value.str (Str.ofString "DOUBLESTAREQUAL") 366, val := Value.int 46 365 }, { hash := PyData.keyHash P (Str.ofString "DOUBLESLASH"), key := Value.str (Str.ofString "DOUBLESLASH") 368, val := Value.int 47 367 }, { hash := PyData.keyHash P (Str.ofString "DOUBLESLASHEQUAL"), key := Value.str (Str.ofString "DOUBLESLASHEQUAL") 370, val := Value.int 48 369 }, { hash := PyData.keyHash P (Str.ofString "AT"), key := Value.str (Str.ofString "AT") 372, val := Value.int 49 371 }, { hash := PyData.keyHash P (Str.ofString "ATEQUAL"), key := Value.str (Str.ofString "ATEQUAL") 374, val := Value.int 50 373 }, { hash := PyData.keyHash P (Str.ofString "RARROW"), key := Value.str (Str.ofString "RARROW") 376, val := Value.int 51 375 }, { hash := PyData.keyHash P (Str.ofString "ELLIPSIS"), key := Value.str (Str.ofString "ELLIPSIS") 378, val := Value.int 52 377 }, { hash := PyData.keyHash P (Str.ofString "COLONEQUAL"), key := Value.str (Str.ofString "COLONEQUAL") 380, val := Value.int 53 379 }, { hash := PyData.keyHash P (Str.ofString "EXCLAMATION"), key := Value.str (Str.ofString "EXCLAMATION") 382, val := Value.int 54 381 }, { hash := PyData.keyHash P (Str.ofString "NT_OFFSET"), key := Value.str (Str.ofString "NT_OFFSET") 384, val := Value.int 256 383 }, { hash := PyData.keyHash P (Str.ofString "EXACT_TOKEN_TYPES"), key := Value.str (Str.ofString "EXACT_TOKEN_TYPES") 481, val := Value.ref 92 }, { hash := PyData.keyHash P (Str.ofString "ISNONTERMINAL"), key := Value.str (Str.ofString "ISNONTERMINAL") 488, val := Value.ref 101 }, { hash := PyData.keyHash P (Str.ofString "_MAX_STRING_SIZE"), key := Value.str (Str.ofString "_MAX_STRING_SIZE") 492, val := Value.int 40 491 }, { hash := PyData.keyHash P (Str.ofString "_MOVE_COST"), key := Value.str (Str.ofString "_MOVE_COST") 494, val := Value.int 2 493 }, { hash := PyData.keyHash P (Str.ofString "_CASE_COST"), key := Value.str (Str.ofString "_CASE_COST") 496, val := Value.int 1 495 }, { hash := PyData.keyHash P (Str.ofString "_substitution_cost"), key := Value.str (Str.ofString "_substitution_cost") 504, val := Value.ref 108 }, { hash := PyData.keyHash P (Str.ofString "_levenshtein_distance"), key := Value.str (Str.ofString "_levenshtein_distance") 524, val := Value.ref 115 }, { hash := PyData.keyHash P (Str.ofString "_law_rulers"), key := Value.str (Str.ofString "_law_rulers") 537, val := Value.ref 122 }, { hash := PyData.keyHash P (Str.ofString "_law_cut"), key := Value.str (Str.ofString "_law_cut") 548, val := Value.ref 129 }, { hash := PyData.keyHash P (Str.ofString "_law_read"), key := Value.str (Str.ofString "_law_read") 558, val := Value.ref 136 }, { hash := PyData.keyHash P (Str.ofString "_law_steps"), key := Value.str (Str.ofString "_law_steps") 564, val := Value.ref 141 }, { hash := PyData.keyHash P (Str.ofString "_law_walks"), key := Value.str (Str.ofString "_law_walks") 579, val := Value.ref 148 }, { hash := PyData.keyHash P (Str.ofString "_law_mean"), key := Value.str (Str.ofString "_law_mean") 592, val := Value.ref 155 }, { hash := PyData.keyHash P (Str.ofString "_law_price"), key := Value.str (Str.ofString "_law_price") 598, val := Value.ref 160 }, { hash := PyData.keyHash P (Str.ofString "_law_shared"), key := Value.str (Str.ofString "_law_shared") 608, val := Value.ref 167 }, { hash := PyData.keyHash P (Str.ofString "_law_rounds"), key := Value.str (Str.ofString "_law_rounds") 621, val := Value.ref 174 }, { hash := PyData.keyHash P (Str.ofString "law"), key := Value.str (Str.ofString "law") 627, val := Value.ref 179 }] 87 }),
   (92, { cls := Value.type "dict", data := Data.dict #[{ hash := PyData.keyHash P (Str.ofString "!"), key := Value.str (Str.ofString "!") 385, val := Value.int 54 381 }, { hash := PyData.keyHash P (Str.ofString "!="), key := Value.str (Str.ofString "!=") 387, val := Value.int 28 329 }, { hash := PyData.keyHash P (Str.ofString "%"), key := Value.str (Str.ofString "%") 389, val := Value.int 24 321 }, { hash := PyData.keyHash P (Str.ofString "%="), key := Value.str (Str.ofString "%=") 391, val := Value.int 40 353 }, { hash := PyData.keyHash P (Str.ofString "&"), key := Value.str (Str.ofString "&") 393, val := Value.int 19 311 }, { hash := PyData.keyHash P (Str.ofString "&="), key := Value.str (Str.ofString "&=") 395, val := Value.int 41 355 }, { hash := PyData.keyHash P (Str.ofString "("), key := Value.str (Str.ofString "(") 397, val := Value.int 7 287 }, { hash := PyData.keyHash P (Str.ofString ")"), key := Value.str (Str.ofString ")") 399, val := Value.int 8 289 }, { hash := PyData.keyHash P (Str.ofString "*"), key := Value.str (Str.ofString "*") 401, val := Value.int 16 305 }, { hash := PyData.keyHash P (Str.ofString "**"), key := Value.str (Str.ofString "**") 403, val := Value.int 35 343 }, { hash := PyData.keyHash P (Str.ofString "**="), key := Value.str (Str.ofString "**=") 405, val := Value.int 46 365 }, { hash := PyData.keyHash P (Str.ofString "*="), key := Value.str (Str.ofString "*=") 407, val := Value.int 38 349 }, { hash := PyData.keyHash P (Str.ofString "+"), key := Value.str (Str.ofString "+") 409, val := Value.int 14 301 }, { hash := PyData.keyHash P (Str.ofString "+="), key := Value.str (Str.ofString "+=") 411, val := Value.int 36 345 }, { hash := PyData.keyHash P (Str.ofString ","), key := Value.str (Str.ofString ",") 413, val := Value.int 12 297 }, { hash := PyData.keyHash P (Str.ofString "-"), key := Value.str (Str.ofString "-") 415, val := Value.int 15 303 }, { hash := PyData.keyHash P (Str.ofString "-="), key := Value.str (Str.ofString "-=") 417, val := Value.int 37 347 }, { hash := PyData.keyHash P (Str.ofString "->"), key := Value.str (Str.ofString "->") 419, val := Value.int 51 375 }, { hash := PyData.keyHash P (Str.ofString "."), key := Value.str (Str.ofString ".") 421, val := Value.int 23 319 }, { hash := PyData.keyHash P (Str.ofString "..."), key := Value.str (Str.ofString "...") 423, val := Value.int 52 377 }, { hash := PyData.keyHash P (Str.ofString "/"), key := Value.str (Str.ofString "/") 425, val := Value.int 17 307 }, { hash := PyData.keyHash P (Str.ofString "//"), key := Value.str (Str.ofString "//") 427, val := Value.int 47 367 }, { hash := PyData.keyHash P (Str.ofString "//="), key := Value.str (Str.ofString "//=") 429, val := Value.int 48 369 }, { hash := PyData.keyHash P (Str.ofString "/="), key := Value.str (Str.ofString "/=") 431, val := Value.int 39 351 }, { hash := PyData.keyHash P (Str.ofString ":"), key := Value.str (Str.ofString ":") 433, val := Value.int 11 295 }, { hash := PyData.keyHash P (Str.ofString ":="), key := Value.str (Str.ofString ":=") 435, val := Value.int 53 379 }, { hash := PyData.keyHash P (Str.ofString ";"), key := Value.str (Str.ofString ";") 437, val := Value.int 13 299 }, { hash := PyData.keyHash P (Str.ofString "<"), key := Value.str (Str.ofString "<") 439, val := Value.int 20 313 }, { hash := PyData.keyHash P (Str.ofString "<<"), key := Value.str (Str.ofString "<<") 441, val := Value.int 33 339 }, { hash := PyData.keyHash P (Str.ofString "<<="), key := Value.str (Str.ofString "<<=") 443, val := Value.int 44 361 }, { hash := PyData.keyHash P (Str.ofString "<="), key := Value.str (Str.ofString "<=") 445, val := Value.int 29 331 }, { hash := PyData.keyHash P (Str.ofString "="), key := Value.str (Str.ofString "=") 447, val := Value.int 22 317 }, { hash := PyData.keyHash P (Str.ofString "=="), key := Value.str (Str.ofString "==") 449, val := Value.int 27 327 }, { hash := PyData.keyHash P (Str.ofString ">"), key := Value.str (Str.ofString ">") 451, val := Value.int 21 315 }, { hash := PyData.keyHash P (Str.ofString ">="), key := Value.str (Str.ofString ">=") 453, val := Value.int 30 333 }, { hash := PyData.keyHash P (Str.ofString ">>"), key := Value.str (Str.ofString ">>") 454, val := Value.int 34 341 }, { hash := PyData.keyHash P (Str.ofString ">>="), key := Value.str (Str.ofString ">>=") 455, val := Value.int 45 363 }, { hash := PyData.keyHash P (Str.ofString "@"), key := Value.str (Str.ofString "@") 456, val := Value.int 49 371 }, { hash := PyData.keyHash P (Str.ofString "@="), key := Value.str (Str.ofString "@=") 457, val := Value.int 50 373 }, { hash := PyData.keyHash P (Str.ofString "["), key := Value.str (Str.ofString "[") 458, val := Value.int 9 291 }, { hash := PyData.keyHash P (Str.ofString "]"), key := Value.str (Str.ofString "]") 459, val := Value.int 10 293 }, { hash := PyData.keyHash P (Str.ofString "^"), key := Value.str (Str.ofString "^") 460, val := Value.int 32 337 }, { hash := PyData.keyHash P (Str.ofString "^="), key := Value.str (Str.ofString "^=") 461, val := Value.int 43 359 }, { hash := PyData.keyHash P (Str.ofString "{"), key := Value.str (Str.ofString "{") 462, val := Value.int 25 323 }, { hash := PyData.keyHash P (Str.ofString "|"), key := Value.str (Str.ofString "|") 463, val := Value.int 18 309 }, { hash := PyData.keyHash P (Str.ofString "|="), key := Value.str (Str.ofString "|=") 464, val := Value.int 42 357 }, { hash := PyData.keyHash P (Str.ofString "}"), key := Value.str (Str.ofString "}") 465, val := Value.int 26 325 }, { hash := PyData.keyHash P (Str.ofString "~"), key := Value.str (Str.ofString "~") 466, val := Value.int 31 335 }] 48 })]

noncomputable abbrev PW : Program := PySem.Challenge.pw_tl0024_01
noncomputable def isFD (st : Stmt) : Bool := !(fnamesOf [st]).isEmpty
noncomputable def VW : Program := { PW with main := { PW.main with body := PW.main.body.filter isFD } }
noncomputable def VL : List Str := (valNames PW).filter fun x => !startupNames.contains x
noncomputable abbrev HK : Hook := kHook myK [2, 3, 92] (fun _ => by kernel_rfl)
noncomputable abbrev XT : Shared → Bool := fun _ => true
theorem said_row : PySem.Challenge.rw_tl0024_01.row.wellSaid = true := by kernel_rfl
theorem law_said : OpenLaw.wellSaid PySem.Challenge.rw_tl0024_01 = true := by
  unfold OpenLaw.wellSaid
  rw [said_row]
  kernel_rfl

/-! # the top's run in three pieces, between states that are written out -/
noncomputable def hEn (P : Params) (s : String) (k : Nat) (v : Value) : DictEntry := { hash := PyData.keyHash P (Str.ofString s), key := .str (Str.ofString s) k, val := v }
noncomputable def hVs (t : Nat) : List String → List Value
  | [] => []
  | v :: r => .str (Str.ofString v) t :: hVs (t + 1) r
noncomputable def hTup (l : List Value) : Obj := { cls := .type "tuple", data := .seq ⟨l⟩ }
noncomputable def hFd (x : String) (g : Nat) (m c : Value) : Data := match theFun (Str.ofString x) PW.main.body with
  | some (a, b, s) => .func { name := Str.ofString x, qualname := Str.ofString x, params := a, body := .stmts b, scope := s, globals := g, closure := [], defaults := .none, kwdefaults := .none, pyModule := m, code := c }
  | none => .plain
noncomputable def hCut (k : Nat) : Value := .str (Str.ofString "/claim/cut.py") k
noncomputable def hFn (a : Nat) (x : String) (line argc flags : Int) (vars : List String) (t : Nat) (m : Value) : List Obj :=
  [hTup [], { cls := .none, data := .fields #[] }, hTup (hVs (t + 3) vars), hTup [], { cls := .none, data := hFd x 0 .none .none },
   { cls := .type "code", data := .fields #[.str (Str.ofString x) t, .str (Str.ofString x) (t + 1), hCut (t + 2), .int line 0, .int argc 0, .int 0 0, .int 0 0, .int flags 0, .ref a, .bool true, .int 181 0, .ref (a + 1), .none, .ref (a + 2), .ref (a + 3), .ref (a + 4),
     .int (t + 3 + vars.length : Nat) 0, .int line 0, hCut (t + 4 + vars.length)] },
   { cls := .type "function", data := hFd x 3 m (.ref (a + 5)) }]
noncomputable def hLoc : Value := .str (Str.ofString "cpy313.locale") 187
noncomputable def hOps : Value := .str (Str.ofString "cpy313.operator") 200
noncomputable def hGl (P : Params) : List DictEntry := [hEn P "__name__" 165 (.str (Str.ofString "cpy313.token") 285), hEn P "__doc__" 166 (.none), hEn P "__package__" 167 (.none), hEn P "__loader__" 168 (.builtin "__main__.__loader__#opaque"), hEn P "__spec__" 169 (.none), hEn P "__annotations__" 170 (.ref 6), hEn P "__builtins__" 171 (.ref 4), hEn P "__file__" 173 (.str (Str.ofString "/claim/cut.py") 172), hEn P "__cached__" 174 (.none), hEn P "CHAR_MAX" 190 (.int 127 189), hEn P "_grouping_intervals" 199 (.ref 21), hEn P "lt" 209 (.ref 28), hEn P "add" 217 (.ref 35), hEn P "mul" 225 (.ref 42), hEn P "sub" 233 (.ref 49), hEn P "contains" 241 (.ref 56), hEn P "getitem" 249 (.ref 63), hEn P "indexOf" 259 (.ref 70), hEn P "setitem" 268 (.ref 77), hEn P "iadd" 276 (.ref 84), hEn P "isub" 284 (.ref 91), hEn P "LPAR" 288 (.int 7 287), hEn P "RPAR" 290 (.int 8 289), hEn P "LSQB" 292 (.int 9 291), hEn P "RSQB" 294 (.int 10 293), hEn P "COLON" 296 (.int 11 295), hEn P "COMMA" 298 (.int 12 297), hEn P "SEMI" 300 (.int 13 299), hEn P "PLUS" 302 (.int 14 301), hEn P "MINUS" 304 (.int 15 303), hEn P "STAR" 306 (.int 16 305), hEn P "SLASH" 308 (.int 17 307), hEn P "VBAR" 310 (.int 18 309), hEn P "AMPER" 312 (.int 19 311), hEn P "LESS" 314 (.int 20 313), hEn P "GREATER" 316 (.int 21 315), hEn P "EQUAL" 318 (.int 22 317), hEn P "DOT" 320 (.int 23 319), hEn P "PERCENT" 322 (.int 24 321), hEn P "LBRACE" 324 (.int 25 323), hEn P "RBRACE" 326 (.int 26 325), hEn P "EQEQUAL" 328 (.int 27 327), hEn P "NOTEQUAL" 330 (.int 28 329), hEn P "LESSEQUAL" 332 (.int 29 331), hEn P "GREATEREQUAL" 334 (.int 30 333), hEn P "TILDE" 336 (.int 31 335), hEn P "CIRCUMFLEX" 338 (.int 32 337), hEn P "LEFTSHIFT" 340 (.int 33 339), hEn P "RIGHTSHIFT" 342 (.int 34 341), hEn P "DOUBLESTAR" 344 (.int 35 343), hEn P "PLUSEQUAL" 346 (.int 36 345), hEn P "MINEQUAL" 348 (.int 37 347), hEn P "STAREQUAL" 350 (.int 38 349), hEn P "SLASHEQUAL" 352 (.int 39 351), hEn P "PERCENTEQUAL" 354 (.int 40 353), hEn P "AMPEREQUAL" 356 (.int 41 355), hEn P "VBAREQUAL" 358 (.int 42 357), hEn P "CIRCUMFLEXEQUAL" 360 (.int 43 359), hEn P "LEFTSHIFTEQUAL" 362 (.int 44 361), hEn P "RIGHTSHIFTEQUAL" 364 (.int 45 363), hEn P "DOUBLESTAREQUAL" 366 (.int 46 365), hEn P "DOUBLESLASH" 368 (.int 47 367), hEn P "DOUBLESLASHEQUAL" 370 (.int 48 369), hEn P "AT" 372 (.int 49 371), hEn P "ATEQUAL" 374 (.int 50 373), hEn P "RARROW" 376 (.int 51 375), hEn P "ELLIPSIS" 378 (.int 52 377), hEn P "COLONEQUAL" 380 (.int 53 379), hEn P "EXCLAMATION" 382 (.int 54 381), hEn P "NT_OFFSET" 384 (.int 256 383)]
noncomputable def hCode : Obj := { cls := .type "code", data := .fields #[.str (Str.ofString "<module>") 182, .str (Str.ofString "<module>") 183, hCut 184, .int 1 0, .int 0 0, .int 0 0, .int 0 0, .int 0 0, .ref 11, .bool false, .int 181 0, .ref 12, .none, .none, .none, .none, .int 185 0, .int 1 0, hCut 186] }
noncomputable def hFrame : Obj := { cls := .type "frame", slots := #[some (.ref 13), some (.ref 3), some (.ref 3), none, some (.str (Str.ofString "__main__") 164), none, some (.ref 0)] }
noncomputable def hLines : List (Int × Nat) → List Value
  | [] => []
  | (l, a) :: r => .int l 0 :: .int 0 0 :: .ref a :: hLines r
noncomputable def hHp (o3 : Obj) (o12 : List Value) (rest : List Obj) (P : Params) : Heap := ⟨⟨[boot_o_0 P, boot_o_1 P, boot_o_2 P, o3, boot_o_4 P, boot_o_5 P, boot_o_6 P, boot_o_7 P, boot_o_8 P, boot_o_9 P, boot_o_10 P, hTup [], { cls := .none, data := .fields ⟨o12⟩ }, hCode, hFrame] ++ rest⟩, {}⟩
noncomputable def hL64 : List (Int × Nat) := [(3, 20), (16, 27), (18, 34), (20, 41), (22, 48), (24, 55), (26, 62), (28, 69), (34, 76), (36, 83), (39, 90)]
noncomputable def hFn64 : List Obj := hFn 15 "_grouping_intervals" 3 1 35 ["grouping", "last_interval", "interval"] 191 hLoc ++ (hFn 22 "lt" 16 2 3 ["a", "b"] 202 hOps ++ (hFn 29 "add" 18 2 3 ["a", "b"] 210 hOps ++ (hFn 36 "mul" 20 2 3 ["a", "b"] 218 hOps ++ (hFn 43 "sub" 22 2 3 ["a", "b"] 226 hOps ++ (hFn 50 "contains" 24 2 3 ["a", "b"] 234 hOps ++ (hFn 57 "getitem" 26 2 3 ["a", "b"] 242 hOps ++ (hFn 64 "indexOf" 28 2 3 ["a", "b", "i", "j"] 250 hOps ++ (hFn 71 "setitem" 34 3 3 ["a", "b", "c"] 260 hOps ++ (hFn 78 "iadd" 36 2 3 ["a", "b"] 269 hOps ++ (hFn 85 "isub" 39 2 3 ["a", "b"] 277 hOps))))))))))
noncomputable def hDict (l : List DictEntry) : Obj := { cls := .type "dict", data := .dict ⟨l⟩ l.length }
noncomputable def H15 (P : Params) : Heap := hHp (boot_o_3 P) [] [] P
noncomputable def H64 (P : Params) : Heap := hHp (hDict (hGl P)) (hLines hL64) hFn64 P
noncomputable def hD92 (P : Params) : List DictEntry := [hEn P "!" 385 (.int 54 381), hEn P "!=" 387 (.int 28 329), hEn P "%" 389 (.int 24 321), hEn P "%=" 391 (.int 40 353), hEn P "&" 393 (.int 19 311), hEn P "&=" 395 (.int 41 355), hEn P "(" 397 (.int 7 287), hEn P ")" 399 (.int 8 289), hEn P "*" 401 (.int 16 305), hEn P "**" 403 (.int 35 343), hEn P "**=" 405 (.int 46 365), hEn P "*=" 407 (.int 38 349), hEn P "+" 409 (.int 14 301), hEn P "+=" 411 (.int 36 345), hEn P "," 413 (.int 12 297), hEn P "-" 415 (.int 15 303), hEn P "-=" 417 (.int 37 347), hEn P "->" 419 (.int 51 375), hEn P "." 421 (.int 23 319), hEn P "..." 423 (.int 52 377), hEn P "/" 425 (.int 17 307), hEn P "//" 427 (.int 47 367), hEn P "//=" 429 (.int 48 369), hEn P "/=" 431 (.int 39 351), hEn P ":" 433 (.int 11 295), hEn P ":=" 435 (.int 53 379), hEn P ";" 437 (.int 13 299), hEn P "<" 439 (.int 20 313), hEn P "<<" 441 (.int 33 339), hEn P "<<=" 443 (.int 44 361), hEn P "<=" 445 (.int 29 331), hEn P "=" 447 (.int 22 317), hEn P "==" 449 (.int 27 327), hEn P ">" 451 (.int 21 315), hEn P ">=" 453 (.int 30 333), hEn P ">>" 454 (.int 34 341), hEn P ">>=" 455 (.int 45 363), hEn P "@" 456 (.int 49 371), hEn P "@=" 457 (.int 50 373), hEn P "[" 458 (.int 9 291), hEn P "]" 459 (.int 10 293), hEn P "^" 460 (.int 32 337), hEn P "^=" 461 (.int 43 359), hEn P "{" 462 (.int 25 323), hEn P "|" 463 (.int 18 309), hEn P "|=" 464 (.int 42 357), hEn P "}" 465 (.int 26 325), hEn P "~" 466 (.int 31 335)]
noncomputable def hD93 (P : Params) : List DictEntry := [hEn P "->" 419 (.int 51 375), hEn P "." 421 (.int 23 319), hEn P "..." 423 (.int 52 377), hEn P "/" 425 (.int 17 307), hEn P "//" 427 (.int 47 367), hEn P "//=" 429 (.int 48 369), hEn P "/=" 431 (.int 39 351), hEn P ":" 433 (.int 11 295), hEn P ":=" 435 (.int 53 379), hEn P ";" 437 (.int 13 299), hEn P "<" 439 (.int 20 313), hEn P "<<" 441 (.int 33 339), hEn P "<<=" 443 (.int 44 361), hEn P "<=" 445 (.int 29 331), hEn P "=" 447 (.int 22 317), hEn P "==" 449 (.int 27 327), hEn P ">" 451 (.int 21 315)]
noncomputable def hD94 (P : Params) : List DictEntry := [hEn P ">=" 453 (.int 30 333), hEn P ">>" 454 (.int 34 341), hEn P ">>=" 455 (.int 45 363), hEn P "@" 456 (.int 49 371), hEn P "@=" 457 (.int 50 373), hEn P "[" 458 (.int 9 291), hEn P "]" 459 (.int 10 293), hEn P "^" 460 (.int 32 337), hEn P "^=" 461 (.int 43 359), hEn P "{" 462 (.int 25 323), hEn P "|" 463 (.int 18 309), hEn P "|=" 464 (.int 42 357), hEn P "}" 465 (.int 26 325), hEn P "~" 466 (.int 31 335)]
noncomputable def H65 (P : Params) : Heap := hHp (hDict (hGl P ++ [hEn P "EXACT_TOKEN_TYPES" 481 (.ref 92)])) (hLines hL64) (hFn64 ++ [hDict (hD92 P), hDict (hD93 P), hDict (hD94 P)]) P

noncomputable def envM : Env := { scope := PW.main.scope, locals := mainNs, globals := mainNs, cells := [], code := .ref 13, frame := some 14 }
noncomputable def bM : List Stmt := behindTheImports PW
noncomputable abbrev cM : Code := .body bM envM
noncomputable def pos0 : Pos := { line := 0, col := 0, endLine := 0, endCol := 0 }
noncomputable def pos64 : Pos := { line := 91, col := 0, endLine := 91, endCol := 9 }
noncomputable def pos65 : Pos := { line := 92, col := 0, endLine := 92, endCol := 17 }
noncomputable def annM : Option Value := some (.ref 6)
noncomputable abbrev BM : List Frame := [topFrame pos0]
noncomputable abbrev hSh (h : Heap) (k : Nat) (os : OsState) : Shared := ⟨h, Array.mk [], boot_drawn, k, os⟩
theorem open1 : ∀ w : World, (fencedOpening treeTable PW w 4626).map (fun s => (s.heap, s.gens, s.drawn, s.toks)) = some (boot_heap w.params, Array.mk [], boot_drawn, boot_toks) := boot_open (by kernel_rfl) (by kernel_rfl) (fun s => by kernel_rfl)
theorem pre1 : ∀ (w : World) (os : OsState), topGo treeTable PW w 11 annM 12 (hSh (boot_heap w.params) boot_toks os) (topStub PW) = some (hSh (H15 w.params) 187 os, ⟨denote treeTable cM, cM, pos0, BM⟩) := fun w os => by kernel_rfl
theorem block1 : ∀ (w : World) (os : OsState), segRun treeTable PW w 11 annM 1 1 (hSh (H15 w.params) 187 os) (blockOf bM envM cM pos0 BM) = some (.next, hSh (H15 w.params) 187 os, cM, pos0) := fun w os => by kernel_rfl
theorem seg1 : ∀ (w : World) (os : OsState), segRun treeTable PW w 11 annM 1 812 (hSh (H15 w.params) 187 os) (piecesOf (bM.take 64) envM cM pos0 BM) = some (.next, hSh (H64 w.params) 385 os, cM, pos64) := fun w os => by kernel_rfl
theorem seg2f : ∀ (w : World) (os : OsState), segRun treeTable PW (w.withFollow "special-get-raises" false) 11 annM 1 979 (hSh (H64 (w.withFollow "special-get-raises" false).params) 385 os) (piecesOf ((bM.drop 64).take 1) envM cM pos64 BM) = some (.next, hSh (H65 (w.withFollow "special-get-raises" false).params) 482 os, cM, pos65) := fun w os => by kernel_rfl
theorem seg2t : ∀ (w : World) (os : OsState), segRun treeTable PW (w.withFollow "special-get-raises" true) 11 annM 1 979 (hSh (H64 (w.withFollow "special-get-raises" true).params) 385 os) (piecesOf ((bM.drop 64).take 1) envM cM pos64 BM) = some (.next, hSh (H65 (w.withFollow "special-get-raises" true).params) 482 os, cM, pos65) := fun w os => by kernel_rfl
theorem seg2 (w : World) : ∀ os : OsState, segRun treeTable PW w 11 annM 1 979 (hSh (H64 w.params) 385 os) (piecesOf ((bM.drop 64).take 1) envM cM pos64 BM) = some (.next, hSh (H65 w.params) 482 os, cM, pos65) :=
  byRow2 "special-get-raises" (P := fun w => ∀ os : OsState, segRun treeTable PW w 11 annM 1 979 (hSh (H64 w.params) 385 os) (piecesOf ((bM.drop 64).take 1) envM cM pos64 BM) = some (.next, hSh (H65 w.params) 482 os, cM, pos65)) seg2f seg2t w
theorem fin1 : ∀ (w : World) (os : OsState), (topRun treeTable PW w 11 annM 470 (hSh (H65 w.params) 482 os) (restOf (bM.drop 65) envM cM pos65 BM)).map (fun s => ((staticsOk (importedModules PW.main.body) (boot_heap w.params) s.heap && namesBound PW s.heap && gensDone s && laidKept (boot_heap w.params) s.heap),
    openSeen VW VL (importedModules PW.main.body) XT true s, HK.obs s)) = some (true, openGood VW VL, HK.val w) := fun w os => by kernel_rfl
theorem size1 : ∀ w : World, ((boot_heap w.params).isNs mainGlobals && (Array.mk [] : Array GenState).size == 0, (boot_heap w.params).objs.size, (boot_heap w.params).nsMap mainGlobals "__annotations__") = (true, 11, annM) := fun w => by kernel_rfl
theorem top_all (w : World) (os : OsState) : ∃ r, topRun treeTable PW w 11 annM 4626 (hSh (boot_heap w.params) boot_toks os) (topStub PW) = some r ∧
    (staticsOk (importedModules PW.main.body) (boot_heap w.params) r.heap && namesBound PW r.heap && gensDone r && laidKept (boot_heap w.params) r.heap) = true ∧ openSeen VW VL (importedModules PW.main.body) XT true r = openGood VW VL ∧ HK.obs r = HK.val w := by
  obtain ⟨r, hr, hl⟩ := Option.map_eq_some_iff.mp (fin1 w os)
  have r1 := piece_app (seg2 w os) hr
  rw [show (bM.drop 64).take 1 ++ bM.drop 65 = bM.drop 64 from List.take_append_drop 1 (bM.drop 64)] at r1
  have r2 := piece_app (seg1 w os) r1
  rw [List.take_append_drop] at r2
  have r4 := topRun_mono (4626 - 2274) _ _ _ _ (go_top (pre1 w os) (piece_block (block1 w os) r2))
  exact ⟨r, r4, (Prod.mk.inj hl).1, (Prod.mk.inj (Prod.mk.inj hl).2).1, (Prod.mk.inj (Prod.mk.inj hl).2).2⟩
theorem left_all : LeftO PW VW VL XT HK.obs HK.val 4626 := fun w => by
  obtain ⟨⟨h, gs, d, k, os⟩, e, e'⟩ := Option.map_eq_some_iff.mp (open1 w)
  obtain rfl : h = boot_heap w.params := (Prod.mk.inj e').1
  obtain rfl : gs = Array.mk [] := (Prod.mk.inj (Prod.mk.inj e').2).1
  obtain rfl : d = boot_drawn := (Prod.mk.inj (Prod.mk.inj (Prod.mk.inj e').2).2).1
  obtain rfl : k = boot_toks := (Prod.mk.inj (Prod.mk.inj (Prod.mk.inj e').2).2).2
  obtain ⟨z1, z2, z3⟩ : _ ∧ _ ∧ _ := by simpa only [Prod.mk.injEq] using size1 w
  obtain ⟨r, hr, l1, l2, l3⟩ := top_all w os
  have t : topFrom treeTable PW w 4626 (hSh (boot_heap w.params) boot_toks os) = some r := by
    unfold topFrom
    dsimp only
    rw [z1, z2, z3, hr]
    show (match staticsOk (importedModules PW.main.body) (boot_heap w.params) r.heap && namesBound PW r.heap && gensDone r && laidKept (boot_heap w.params) r.heap with | true => _ | false => _) = _
    rw [l1]
  unfold openEnds
  rw [e]
  show (topFrom treeTable PW w 4626 _).map _ = _
  rw [t]
  exact congrArg some (Prod.ext l2 l3)
end Mine

set_option genCtorIdx false
namespace Mine

/-! # MiniPy: values, a small tree language and its interpreter -/
inductive AV where
  | none
  | bool (b : Bool)
  | int (i : Int)
  | str (s : Str)
  | list (xs : List AV)
  | tup (xs : List AV)
  | tok
  deriving Inhabited

set_option genCtorIdx true in
inductive Cop where | eq | ne | lt | gt | ge | isNone | notNone | mem | notMem
set_option genCtorIdx true in
inductive Bop where | add | sub | mul | fdiv | mod
set_option genCtorIdx true in
inductive Bi where | len | min2 | min3 | minL | sumL | toInt | rangeL

mutual
inductive PE where
  | lit (v : AV)
  | var (i : Nat)
  | and (a b : PE)
  | or (a b : PE)
  | not (a : PE)
  | neg (a : PE)
  | cmp (o : Cop) (a b : PE)
  | bin (o : Bop) (a b : PE)
  | ite (c a b : PE)
  | call (f : Nat) (as : PEs)
  | bi (b : Bi) (as : PEs)
  | sub (a i : PE)
  | slice (a lo hi st : PE)
  | list (es : PEs)
  | tup (es : PEs)
  | join (a b : PE)
  | lower (a : PE)
  | idxOf (i : Nat)
  | comp (elt : PE) (ts : List Nat) (it : PI) (cond : PE)
  | flat (t : Nat) (it : PI) (e : PE)
inductive PEs where
  | nil
  | cons (e : PE) (r : PEs)
inductive PI where
  | expr (e : PE)
  | range (e : PE)
  | enum (e : PE)
  | zipg (k : Nat) (e : PE)
end

inductive Slot where
  | no
  | val (v : AV)
  | own (xs : List AV)
  | ownS (xs : List AV)
  | own2 (xs ys : List AV)
noncomputable abbrev Loc := List Slot
noncomputable def Slot.owned : Slot → Bool
  | .own _ | .ownS _ | .own2 _ _ => true
  | _ => false

inductive Fl where | next | cont | ret (v : AV)

mutual
inductive PS where
  | asg (i : Nat) (e : PE)
  | asgOwn (i : Nat) (b : Bool) (e : PE)
  | asgOwn2 (i : Nat)
  | asgT (is : List Nat) (e : PE)
  | swap (i j : Nat)
  | asg2 (i j : Nat) (e : PE)
  | aug (i : Nat) (o : Bop) (e : PE)
  | augL (i : Nat) (e : PE)
  | setItem (i : Nat) (k e : PE)
  | append (i : Nat) (e : PE)
  | appendLast (i : Nat) (e : PE)
  | appendNew (i : Nat)
  | callSet (i : Nat) (k e : PE)
  | ifs (c : PE) (a b : PB)
  | whiles (c : PE) (a : PB)
  | fors (ts : List Nat) (it : PI) (a : PB) (els : Bool)
  | ret (e : PE)
  | cont
inductive PB where
  | nil
  | cons (s : PS) (r : PB)
end

noncomputable def AV.ctorIdx (x : AV) : Nat := AV.casesOn (motive_1 := fun _ => Nat) x 0 (fun _ => 1) (fun _ => 2) (fun _ => 3) (fun _ => 4) (fun _ => 5) 6
noncomputable def Slot.ctorIdx (x : Slot) : Nat := Slot.casesOn (motive := fun _ => Nat) x 0 (fun _ => 1) (fun _ => 2) (fun _ => 3) (fun _ _ => 4)
noncomputable def Fl.ctorIdx (x : Fl) : Nat := Fl.casesOn (motive := fun _ => Nat) x 0 1 (fun _ => 2)
noncomputable def PE.ctorIdx (x : PE) : Nat := PE.casesOn (motive_1 := fun _ => Nat) x (fun _ => 0) (fun _ => 1) (fun _ _ => 2) (fun _ _ => 3) (fun _ => 4) (fun _ => 5) (fun _ _ _ => 6) (fun _ _ _ => 7) (fun _ _ _ => 8) (fun _ _ => 9) (fun _ _ => 10) (fun _ _ => 11)
  (fun _ _ _ _ => 12) (fun _ => 13) (fun _ => 14) (fun _ _ => 15) (fun _ => 16) (fun _ => 17) (fun _ _ _ _ => 18) (fun _ _ _ => 19)
noncomputable def PEs.ctorIdx (x : PEs) : Nat := PEs.casesOn (motive_2 := fun _ => Nat) x 0 (fun _ _ => 1)
noncomputable def PI.ctorIdx (x : PI) : Nat := PI.casesOn (motive_3 := fun _ => Nat) x (fun _ => 0) (fun _ => 1) (fun _ => 2) (fun _ _ => 3)
noncomputable def PS.ctorIdx (x : PS) : Nat := PS.casesOn (motive_1 := fun _ => Nat) x (fun _ _ => 0) (fun _ _ _ => 1) (fun _ => 2) (fun _ _ => 3) (fun _ _ => 4) (fun _ _ _ => 5) (fun _ _ _ => 6) (fun _ _ => 7) (fun _ _ _ => 8) (fun _ _ => 9) (fun _ _ => 10) (fun _ => 11)
  (fun _ _ _ => 12) (fun _ _ _ => 13) (fun _ _ => 14) (fun _ _ _ _ => 15) (fun _ => 16) 17
noncomputable def PB.ctorIdx (x : PB) : Nat := PB.casesOn (motive_2 := fun _ => Nat) x 0 (fun _ _ => 1)

/-! ## pure operations -/
noncomputable def truth : AV → Option Bool
  | .none => some false
  | .bool b => some b
  | .int i => some (i != 0)
  | .str x => some (x.length != 0)
  | .list xs => some (!xs.isEmpty)
  | .tup xs => some (!xs.isEmpty)
  | .tok => none

noncomputable def idxV (xs : List AV) (k : Int) : Option AV :=
  if 0 ≤ k then xs[k.toNat]? else if -(xs.length : Int) ≤ k then xs[(k + xs.length).toNat]? else none

noncomputable def ints? : List AV → Option (List Int)
  | [] => some []
  | .int i :: r => (ints? r).map (i :: ·)
  | _ :: _ => none
noncomputable def strs? : List AV → Option (List Str)
  | [] => some []
  | .str i :: r => (strs? r).map (i :: ·)
  | _ :: _ => none

noncomputable def minI : List Int → Option Int
  | [] => none
  | a :: r => some (r.foldl (fun m b => if b < m then b else m) a)

/-- the token table -/
noncomputable def tokTab : List (String × Int) := [("!", 54), ("!=", 28), ("%", 24), ("%=", 40), ("&", 19), ("&=", 41), ("(", 7), (")", 8), ("*", 16), ("**", 35), ("**=", 46), ("*=", 38), ("+", 14), ("+=", 36), (",", 12), ("-", 15), ("-=", 37), ("->", 51), (".", 23), ("...", 52), ("/", 17), ("//", 47), ("//=", 48), ("/=", 39), (":", 11), (":=", 53), (";", 13), ("<", 20), ("<<", 33), ("<<=", 44), ("<=", 29), ("=", 22), ("==", 27), (">", 21), (">=", 30), (">>", 34), (">>=", 45), ("@", 49), ("@=", 50), ("[", 9), ("]", 10), ("^", 32), ("^=", 43), ("{", 25), ("|", 18), ("|=", 42), ("}", 26), ("~", 31)]
noncomputable def tokGet (x : Str) : Option Int := (tokTab.map fun p => (Str.ofString p.1, p.2)).lookup x

noncomputable def ii {β : Type} (g : Int → Int → Option β) : AV → AV → Option β
  | .int x, .int y => g x y
  | _, _ => none
noncomputable def eqV : AV → AV → Option Bool
  | .int x, .int y => some (x == y)
  | .str x, .str y => some (x == y)
  | _, _ => none
noncomputable def isN : AV → Bool
  | .none => true
  | _ => false
noncomputable def noneV (t : Bool) (x : AV) : AV → Option Bool
  | .none => some (isN x == t)
  | _ => none
noncomputable def memV : AV → AV → Option Bool
  | .str x, .tok => some (tokGet x).isSome
  | _, _ => none
noncomputable def notMemV : AV → AV → Option Bool
  | .int x, .list ys => (ints? ys).map fun ns => !ns.contains x
  | _, _ => none
noncomputable def cmpV (o : Cop) (a b : AV) : Option Bool := match o with
  | .eq => eqV a b
  | .ne => ii (fun x y => some (x != y)) a b
  | .lt => ii (fun x y => some (decide (x < y))) a b
  | .gt => ii (fun x y => some (decide (y < x))) a b
  | .ge => ii (fun x y => some (decide (y ≤ x))) a b
  | .isNone => noneV true a b
  | .notNone => noneV false a b
  | .mem => memV a b
  | .notMem => notMemV a b

noncomputable def addV : AV → AV → Option AV
  | .int x, .int y => some (.int (x + y))
  | .str x, .str y => if x.length + y.length ≤ sizeLine then some (.str (x ++ y)) else none
  | .list xs, .list ys => if xs.length + ys.length ≤ sizeLine then some (.list (xs ++ ys)) else none
  | _, _ => none
noncomputable def binV (o : Bop) (a b : AV) : Option AV := match o with
  | .add => addV a b
  | .sub => ii (fun x y => some (.int (x - y))) a b
  | .mul => ii (fun x y => if x.natAbs < 2 ^ 63 ∨ y.natAbs < 2 ^ 63 then some (.int (x * y)) else none) a b
  | .fdiv => ii (fun x y => if y ≠ 0 ∧ y.natAbs < 1073741824 then some (.int (Int.fdiv x y)) else none) a b
  | .mod => ii (fun x y => if y ≠ 0 then some (.int (Int.fmod x y)) else none) a b

noncomputable def rangeL (a n c : Int) : List AV := (List.range n.toNat).map fun (i : Nat) => .int (a + (i : Int) * c)

noncomputable def lenV : AV → Option AV
  | .str x => some (.int x.length)
  | .list xs => some (.int xs.length)
  | _ => none
noncomputable def i3 {β : Type} (g : Int → Int → Int → Option β) : AV → AV → AV → Option β
  | .int x, .int y, .int z => g x y z
  | _, _, _ => none
noncomputable def nsV {β : Type} (g : List Int → Option β) : AV → Option β
  | .list xs => (ints? xs).bind g
  | _ => none
noncomputable def intV : AV → Option AV
  | .int a => some (.int a)
  | _ => none
noncomputable def l1 {β : Type} (g : AV → Option β) : List AV → Option β
  | [a] => g a
  | _ => none
noncomputable def l2 {β : Type} (g : AV → AV → Option β) : List AV → Option β
  | [a, b] => g a b
  | _ => none
noncomputable def l3 {β : Type} (g : AV → AV → AV → Option β) : List AV → Option β
  | [a, b, c] => g a b c
  | _ => none
noncomputable def biV (b : Bi) (as : List AV) : Option AV := match b with
  | .len => l1 lenV as
  | .min2 => l2 (ii fun a b => some (.int (if b < a then b else a))) as
  | .min3 => l3 (i3 fun a b c => some (.int (if b < a then (if c < b then c else b) else (if c < a then c else a)))) as
  | .minL => l1 (nsV fun ns => (minI ns).map .int) as
  | .sumL => l1 (nsV fun ns => some (.int ns.sum)) as
  | .toInt => l1 intV as
  | .rangeL => l3 (i3 fun a b c => if Builtin.Range.small a b c = true ∧ c ≠ 0 ∧ Builtin.divisionGoesByPylong (b - a) c = false ∧ Builtin.Range.rangeSize a b c ≤ 2 ^ 24 then some (.list (rangeL a (Builtin.Range.rangeSize a b c) c)) else none) as

noncomputable def part? : AV → Option (Option Int)
  | .none => some none
  | .int i => some (some i)
  | _ => none

noncomputable def slIdx (lo hi st : Option Int) (n : Nat) : List Nat :=
  sliceRange (sliceBounds lo hi st n).1 (sliceBounds lo hi st n).2.1 (sliceBounds lo hi st n).2.2
noncomputable def slL (xs : List AV) (lo hi st : Option Int) : List AV := (slIdx lo hi st xs.length).filterMap (xs[·]?)

noncomputable def sliceV (a lo hi st : AV) : Option AV := match a, part? lo, part? hi, part? st with
  | .str x, some l, some h, some none => some (.str (Txt.slice x l h))
  | .list xs, some l, some h, some s => if s = some 0 ∨ sizeLine < (slL xs l h s).length then none else some (.list (slL xs l h s))
  | _, _, _, _ => none

noncomputable def subV (a i : AV) : Option AV := match a, i with
  | .list xs, .int k => idxV xs k
  | .tup xs, .int k => idxV xs k
  | .str x, .int k => if 0 ≤ k then (x.cps[k.toNat]?).map fun c => .str ⟨#[c]⟩ else if -(x.length : Int) ≤ k then (x.cps[(k + x.length).toNat]?).map fun c => .str ⟨#[c]⟩ else none
  | .tok, .str x => (tokGet x).map .int
  | _, _ => none

noncomputable def joinV (a b : AV) : Option AV := match a, b with
  | .str sep, .list xs => (strs? xs).bind fun ss => if (ss.map (·.length)).sum + ss.length * sep.length ≤ 16777216 ∧ (Txt.join sep ss).length ≤ sizeLine then some (.str (Txt.join sep ss)) else none
  | _, _ => none
noncomputable def lowerV : AV → Option AV
  | .str x => if (Txt.lower x).length ≤ sizeLine then some (.str (Txt.lower x)) else none
  | _ => none

/-- what the walk over a value hands out, one by one -/
noncomputable def itemsV : AV → Option (List AV)
  | .list xs => some xs
  | .tup xs => some xs
  | _ => none
noncomputable def rangeV : AV → Option (List AV)
  | .int n => if -(2 ^ 62) < n ∧ n < 2 ^ 62 then some (rangeL 0 n 1) else none
  | _ => none
noncomputable def chars (x : Str) : List AV := x.cps.toList.map fun c => .str ⟨#[c]⟩
noncomputable def enumF (n : Nat) : List AV → List AV
  | [] => []
  | x :: r => .tup [.int n, x] :: enumF (n + 1) r
noncomputable def enumV : AV → Option (List AV)
  | .list xs => some (enumF 0 xs)
  | _ => none

/-- what _grouping_intervals tells, at most k of it; none where it raises -/
noncomputable def giRep (k : Nat) (i : Int) : List Int := List.replicate k i
noncomputable def gi : Nat → Option Int → List Int → Option (List Int)
  | 0, _, _ => some []
  | _ + 1, _, [] => none
  | k + 1, last, i :: r =>
    if i = 127 then some []
    else if i = 0 then (match last with | none => none | some l => some (giRep (k + 1) l))
    else (gi k (some i) r).map (i :: ·)
noncomputable def zipIdx (n : Nat) : List Int → List AV
  | [] => []
  | i :: r => .tup [.int n, .int i] :: zipIdx (n + 1) r
noncomputable def zipgV (k : Nat) : AV → Option (List AV)
  | .list xs => (ints? xs).bind fun ns => (gi k none ns).map (zipIdx 0)
  | _ => none

noncomputable def bindT (ρ : Loc) : List Nat → List AV → Option Loc
  | [], [] => some ρ
  | i :: is, v :: vs => bindT (ρ.set i (.val v)) is vs
  | _, _ => none
/-- a loop's target: one name, or a tuple of names -/
noncomputable def bindV (ρ : Loc) (ts : List Nat) (v : AV) : Option Loc := match ts with
  | [i] => some (ρ.set i (.val v))
  | ts => match v with | .tup vs => bindT ρ ts vs | _ => none

noncomputable def valAt (ρ : Loc) (i : Nat) : Option AV := match ρ[i]? with
  | some (.val v) => some v
  | _ => none
/-- an item read does not freeze -/
noncomputable def baseAt (ρ : Loc) (i : Nat) : Option AV := match ρ[i]? with
  | some (.val v) => some v
  | some (.own xs) => some (.list xs)
  | some (.ownS xs) => some (.list xs)
  | _ => none

noncomputable def subB (ρ : Loc) (r : Option AV) : PE → Option AV
  | .var j => baseAt ρ j
  | _ => r
noncomputable def subR (r : List Nat) : PE → List Nat
  | .var _ => []
  | _ => r

/-! ## the interpreter; C tells what a call gives -/
section
variable (C : Nat → List AV → Option AV)

noncomputable def foldC (f : AV → Option (Option AV)) : List AV → Option (List AV)
  | [] => some []
  | x :: r => (f x).bind fun o => (foldC f r).map fun ys => match o with | some y => y :: ys | none => ys
noncomputable def foldA (f : AV → Option (List AV)) : List AV → Option (List AV)
  | [] => some []
  | x :: r => (f x).bind fun o => (foldA f r).map fun ys => o ++ ys

mutual
noncomputable def evE : PE → Loc → Option AV
  | .lit v, _ => some v
  | .var i, ρ => valAt ρ i
  | .and a b, ρ => (evE a ρ).bind fun v => (truth v).bind fun t => if t then evE b ρ else some v
  | .or a b, ρ => (evE a ρ).bind fun v => (truth v).bind fun t => if t then some v else evE b ρ
  | .not a, ρ => (evE a ρ).bind fun v => (truth v).map fun t => .bool (!t)
  | .neg a, ρ => (evE a ρ).bind fun v => match v with | .int i => some (.int (-i)) | _ => none
  | .cmp o a b, ρ => (evE a ρ).bind fun v => (evE b ρ).bind fun u => (cmpV o v u).map .bool
  | .bin o a b, ρ => (evE a ρ).bind fun v => (evE b ρ).bind fun u => binV o v u
  | .ite c a b, ρ => (evE c ρ).bind fun v => (truth v).bind fun t => if t then evE a ρ else evE b ρ
  | .call f as, ρ => (evEs as ρ).bind fun vs => C f vs
  | .bi b as, ρ => (evEs as ρ).bind fun vs => biV b vs
  | .sub a i, ρ => (subB ρ (evE a ρ) a).bind fun v => (evE i ρ).bind fun u => subV v u
  | .slice a lo hi st, ρ => (evE a ρ).bind fun v => (evE lo ρ).bind fun l => (evE hi ρ).bind fun h => (evE st ρ).bind fun s => sliceV v l h s
  | .list es, ρ => (evEs es ρ).bind fun vs => if vs.length ≤ sizeLine then some (.list vs) else none
  | .tup es, ρ => (evEs es ρ).bind fun vs => if vs.length ≤ sizeLine then some (.tup vs) else none
  | .join a b, ρ => (evE a ρ).bind fun v => (evE b ρ).bind fun u => joinV v u
  | .lower a, ρ => (evE a ρ).bind lowerV
  | .idxOf i, ρ => (valAt ρ i).bind fun v => match v with | .str x => (x.cps[0]?).bind fun (c : Nat) => if 97 ≤ c ∧ c ≤ 100 then some (.int ((c : Int) - 97)) else none | _ => none
  | .comp elt ts it cond, ρ => (evI it ρ).bind fun xs =>
      (foldC (fun x => (bindV ρ ts x).bind fun ρ' => (evE cond ρ').bind fun c => (truth c).bind fun t => if t then (evE elt ρ').map some else some none) xs).bind fun ys =>
        if xs.length ≤ sizeLine then some (.list ys) else none
  | .flat t it e, ρ => (evI it ρ).bind fun xs =>
      (foldA (fun x => (evE e (ρ.set t (.val x))).bind fun v => match v with | .list ys => some ys | _ => none) xs).bind fun ys => if ys.length ≤ sizeLine then some (.list ys) else none
noncomputable def evEs : PEs → Loc → Option (List AV)
  | .nil, _ => some []
  | .cons e r, ρ => (evE e ρ).bind fun v => (evEs r ρ).map fun vs => v :: vs
noncomputable def evI : PI → Loc → Option (List AV)
  | .expr e, ρ => (evE e ρ).bind itemsV
  | .range e, ρ => (evE e ρ).bind rangeV
  | .enum e, ρ => (evE e ρ).bind enumV
  | .zipg k e, ρ => (evE e ρ).bind (zipgV k)
end

noncomputable def evT (c : PE) (ρ : Loc) : Option Bool := (evE C c ρ).bind truth

mutual
noncomputable def reads : PE → List Nat
  | .var i => [i]
  | .and a b | .or a b | .cmp _ a b | .bin _ a b | .join a b => reads a ++ reads b
  | .not a | .neg a | .lower a => reads a
  | .ite c a b => reads c ++ reads a ++ reads b
  | .call _ as | .bi _ as | .list as | .tup as => readss as
  | .sub a i => subR (reads a) a ++ reads i
  | .slice a b c d => reads a ++ reads b ++ reads c ++ reads d
  | .lit _ | .idxOf _ | .comp _ _ _ _ | .flat _ _ _ => []
noncomputable def readss : PEs → List Nat
  | .nil => []
  | .cons e r => reads e ++ readss r
end
noncomputable def freeze1 (ρ : Loc) (i : Nat) : Loc := match ρ[i]? with
  | some (.own xs) => ρ.set i (.val (.list xs))
  | some (.ownS xs) => ρ.set i (.val (.list xs))
  | some (.own2 xs ys) => ρ.set i (.val (.list (xs ++ [.list ys])))
  | _ => ρ
noncomputable def freeze (ρ : Loc) (is : List Nat) : Loc := is.foldl freeze1 ρ

noncomputable def evFor (f : AV → Loc → Option (Fl × Loc)) (els : Bool) : List AV → Loc → Option (Fl × Loc)
  | [], ρ => if els then none else some (.next, ρ)
  | x :: r, ρ => (f x ρ).bind fun y => match y.1 with
    | .ret v => some (.ret v, y.2)
    | _ => evFor f els r y.2
noncomputable def evWh (c : Loc → Option Bool) (f : Loc → Option (Fl × Loc)) : Nat → Loc → Option (Fl × Loc)
  | 0, _ => none
  | n + 1, ρ => (c ρ).bind fun t => if t then (f ρ).bind fun y => (match y.1 with
      | .ret v => some (.ret v, y.2)
      | _ => evWh c f n y.2) else some (.next, ρ)

mutual
noncomputable def evS : PS → Loc → Option (Fl × Loc)
  | .asg i e, ρ => let ρ := freeze ρ (reads e); (evE C e ρ).map fun v => (.next, ρ.set i (.val v))
  | .asgOwn i b e, ρ => (evE C e ρ).bind fun v => match v with | .list xs => some (.next, ρ.set i (if b then .ownS xs else .own xs)) | _ => none
  | .asgOwn2 i, ρ => some (.next, ρ.set i (.own2 [] []))
  | .asgT is e, ρ => (evE C e ρ).bind fun v => (itemsV v).bind fun vs => (bindT ρ is vs).map fun ρ' => (.next, ρ')
  | .swap i j, ρ => (valAt ρ i).bind fun v => (valAt ρ j).map fun u => (.next, (ρ.set i (.val u)).set j (.val v))
  | .asg2 i j e, ρ => (evE C e ρ).map fun v => (.next, (ρ.set i (.val v)).set j (.val v))
  | .aug i o e, ρ => (valAt ρ i).bind fun u => (evE C e ρ).bind fun v => match u, v with
      | .int a, .int b => (binV o (.int a) (.int b)).map fun r => (.next, ρ.set i (.val r))
      | _, _ => none
  | .augL i e, ρ => match ρ[i]? with
      | some (.own xs) => (evE C e ρ).bind fun v => match v with
        | .list ys => if xs.length + ys.length ≤ sizeLine then some (.next, ρ.set i (.own (xs ++ ys))) else none
        | _ => none
      | _ => none
  | .setItem i k e, ρ => match ρ[i]? with
      | some (.ownS xs) => (evE C e ρ).bind fun v => (evE C k ρ).bind fun u => match u with
        | .int n => if 0 ≤ n ∧ n < xs.length then some (.next, ρ.set i (.ownS (xs.set n.toNat v))) else none
        | _ => none
      | _ => none
  | .callSet i k e, ρ => match ρ[i]? with
      | some (.ownS xs) => (evE C k ρ).bind fun u => (evE C e ρ).bind fun v => match u with
        | .int n => if 0 ≤ n ∧ n < xs.length then some (.next, ρ.set i (.ownS (xs.set n.toNat v))) else none
        | _ => none
      | _ => none
  | .append i e, ρ => let ρ := freeze ρ (reads e); match ρ[i]? with
      | some (.own xs) => (evE C e ρ).bind fun v => if xs.length < sizeLine then some (.next, ρ.set i (.own (xs ++ [v]))) else none
      | _ => none
  | .appendLast i e, ρ => match ρ[i]? with
      | some (.own2 xs ys) => (evE C e ρ).bind fun v => if ys.length < sizeLine then some (.next, ρ.set i (.own2 xs (ys ++ [v]))) else none
      | _ => none
  | .appendNew i, ρ => match ρ[i]? with
      | some (.own2 xs ys) => if xs.length + 1 < sizeLine then some (.next, ρ.set i (.own2 (xs ++ [.list ys]) [])) else none
      | _ => none
  | .ifs c a b, ρ => (evT C c ρ).bind fun t => if t then evB a ρ else evB b ρ
  | .whiles c a, ρ => evWh (evT C c) (fun ρ => evB a ρ) 1000 ρ
  | .fors ts it a els, ρ => (evI C it ρ).bind fun xs => evFor (fun x ρ => (bindV ρ ts x).bind fun ρ' => evB a ρ') els xs ρ
  | .ret e, ρ => let ρ := freeze ρ (reads e); (evE C e ρ).map fun v => (.ret v, ρ)
  | .cont, ρ => some (.cont, ρ)
noncomputable def evB : PB → Loc → Option (Fl × Loc)
  | .nil, ρ => some (.next, ρ)
  | .cons s r, ρ => (evS s ρ).bind fun y => match y.1 with
    | .next => evB r y.2
    | f => some (f, y.2)
end
end

structure PFun where
  n : Nat
  body : PB

noncomputable def evFn (C : Nat → List AV → Option AV) (f : PFun) (args : List AV) : Option AV :=
  (evB C f.body (args.map .val ++ List.replicate (f.n - args.length) .no)).map fun y => match y.1 with | .ret v => v | _ => .none

/-- the program: its defs, by number -/
noncomputable def evCall (P : Nat → Option (Nat × PFun)) : Nat → Nat → List AV → Option AV
  | 0, _, _ => none
  | n + 1, f, args => (P f).bind fun pf => if args.length = pf.1 then evFn (evCall P n) pf.2 args else none

/-! ## what each clause says -/
theorem qE1 {C : Nat → List AV → Option AV} (v : AV) (ρ : Loc) : evE C (.lit v) ρ = some v := rfl
theorem qE2 {C : Nat → List AV → Option AV} (i : Nat) (ρ : Loc) : evE C (.var i) ρ = valAt ρ i := rfl
theorem qE3 {C : Nat → List AV → Option AV} (a : PE) (b : PE) (ρ : Loc) : evE C (.and a b) ρ = (evE C a ρ).bind fun v => (truth v).bind fun t => if t then evE C b ρ else some v := rfl
theorem qE4 {C : Nat → List AV → Option AV} (a : PE) (b : PE) (ρ : Loc) : evE C (.or a b) ρ = (evE C a ρ).bind fun v => (truth v).bind fun t => if t then some v else evE C b ρ := rfl
theorem qE5 {C : Nat → List AV → Option AV} (a : PE) (ρ : Loc) : evE C (.not a) ρ = (evE C a ρ).bind fun v => (truth v).map fun t => .bool (!t) := rfl
theorem qE6 {C : Nat → List AV → Option AV} (a : PE) (ρ : Loc) : evE C (.neg a) ρ = ((evE C a ρ).bind fun v => match v with | .int i => some (.int (-i)) | _ => none) := rfl
theorem qE7 {C : Nat → List AV → Option AV} (o : Cop) (a : PE) (b : PE) (ρ : Loc) : evE C (.cmp o a b) ρ = (evE C a ρ).bind fun v => (evE C b ρ).bind fun u => (cmpV o v u).map .bool := rfl
theorem qE8 {C : Nat → List AV → Option AV} (o : Bop) (a : PE) (b : PE) (ρ : Loc) : evE C (.bin o a b) ρ = (evE C a ρ).bind fun v => (evE C b ρ).bind fun u => binV o v u := rfl
theorem qE9 {C : Nat → List AV → Option AV} (c : PE) (a : PE) (b : PE) (ρ : Loc) : evE C (.ite c a b) ρ = (evE C c ρ).bind fun v => (truth v).bind fun t => if t then evE C a ρ else evE C b ρ := rfl
theorem qE10 {C : Nat → List AV → Option AV} (f : Nat) (as : PEs) (ρ : Loc) : evE C (.call f as) ρ = (evEs C as ρ).bind fun vs => C f vs := rfl
theorem qE11 {C : Nat → List AV → Option AV} (b : Bi) (as : PEs) (ρ : Loc) : evE C (.bi b as) ρ = (evEs C as ρ).bind fun vs => biV b vs := rfl
theorem qE12 {C : Nat → List AV → Option AV} (a : PE) (i : PE) (ρ : Loc) : evE C (.sub a i) ρ = (subB ρ (evE C a ρ) a).bind fun v => (evE C i ρ).bind fun u => subV v u := rfl
theorem qE13 {C : Nat → List AV → Option AV} (a : PE) (lo : PE) (hi : PE) (st : PE) (ρ : Loc) : evE C (.slice a lo hi st) ρ = (evE C a ρ).bind fun v => (evE C lo ρ).bind fun l => (evE C hi ρ).bind fun h => (evE C st ρ).bind fun s => sliceV v l h s := rfl
theorem qE14 {C : Nat → List AV → Option AV} (es : PEs) (ρ : Loc) : evE C (.list es) ρ = (evEs C es ρ).bind fun vs => if vs.length ≤ sizeLine then some (.list vs) else none := rfl
theorem qE15 {C : Nat → List AV → Option AV} (es : PEs) (ρ : Loc) : evE C (.tup es) ρ = (evEs C es ρ).bind fun vs => if vs.length ≤ sizeLine then some (.tup vs) else none := rfl
theorem qE16 {C : Nat → List AV → Option AV} (a : PE) (b : PE) (ρ : Loc) : evE C (.join a b) ρ = (evE C a ρ).bind fun v => (evE C b ρ).bind fun u => joinV v u := rfl
theorem qE17 {C : Nat → List AV → Option AV} (a : PE) (ρ : Loc) : evE C (.lower a) ρ = (evE C a ρ).bind lowerV := rfl
theorem qE18 {C : Nat → List AV → Option AV} (i : Nat) (ρ : Loc) : evE C (.idxOf i) ρ = ((valAt ρ i).bind fun v => match v with | .str x => (x.cps[0]?).bind fun (c : Nat) => if 97 ≤ c ∧ c ≤ 100 then some (.int ((c : Int) - 97)) else none | _ => none) := rfl
theorem qE19 {C : Nat → List AV → Option AV} (elt : PE) (ts : (List Nat)) (it : PI) (cond : PE) (ρ : Loc) : evE C (.comp elt ts it cond) ρ = ((evI C it ρ).bind fun xs =>
      (foldC (fun x => (bindV ρ ts x).bind fun ρ' => (evE C cond ρ').bind fun c => (truth c).bind fun t => if t then (evE C elt ρ').map some else some none) xs).bind fun ys =>
        if xs.length ≤ sizeLine then some (.list ys) else none) := rfl
theorem qE20 {C : Nat → List AV → Option AV} (t : Nat) (it : PI) (e : PE) (ρ : Loc) : evE C (.flat t it e) ρ = ((evI C it ρ).bind fun xs =>
      (foldA (fun x => (evE C e (ρ.set t (.val x))).bind fun v => match v with | .list ys => some ys | _ => none) xs).bind fun ys => if ys.length ≤ sizeLine then some (.list ys) else none) := rfl
theorem qEs1 {C : Nat → List AV → Option AV} (ρ : Loc) : evEs C (.nil) ρ = some [] := rfl
theorem qEs2 {C : Nat → List AV → Option AV} (e : PE) (r : PEs) (ρ : Loc) : evEs C (.cons e r) ρ = (evE C e ρ).bind fun v => (evEs C r ρ).map fun vs => v :: vs := rfl
theorem qI1 {C : Nat → List AV → Option AV} (e : PE) (ρ : Loc) : evI C (.expr e) ρ = (evE C e ρ).bind itemsV := rfl
theorem qI2 {C : Nat → List AV → Option AV} (e : PE) (ρ : Loc) : evI C (.range e) ρ = (evE C e ρ).bind rangeV := rfl
theorem qI3 {C : Nat → List AV → Option AV} (e : PE) (ρ : Loc) : evI C (.enum e) ρ = (evE C e ρ).bind enumV := rfl
theorem qI4 {C : Nat → List AV → Option AV} (k : Nat) (e : PE) (ρ : Loc) : evI C (.zipg k e) ρ = (evE C e ρ).bind (zipgV k) := rfl
theorem qS1 {C : Nat → List AV → Option AV} (i : Nat) (e : PE) (ρ : Loc) : evS C (.asg i e) ρ = (let ρ := freeze ρ (reads e); (evE C e ρ).map fun v => (.next, ρ.set i (.val v))) := rfl
theorem qS2 {C : Nat → List AV → Option AV} (i : Nat) (b : Bool) (e : PE) (ρ : Loc) : evS C (.asgOwn i b e) ρ = ((evE C e ρ).bind fun v => match v with | .list xs => some (.next, ρ.set i (if b then .ownS xs else .own xs)) | _ => none) := rfl
theorem qS3 {C : Nat → List AV → Option AV} (i : Nat) (ρ : Loc) : evS C (.asgOwn2 i) ρ = some (.next, ρ.set i (.own2 [] [])) := rfl
theorem qS4 {C : Nat → List AV → Option AV} (is : (List Nat)) (e : PE) (ρ : Loc) : evS C (.asgT is e) ρ = (evE C e ρ).bind fun v => (itemsV v).bind fun vs => (bindT ρ is vs).map fun ρ' => (.next, ρ') := rfl
theorem qS5 {C : Nat → List AV → Option AV} (i : Nat) (j : Nat) (ρ : Loc) : evS C (.swap i j) ρ = (valAt ρ i).bind fun v => (valAt ρ j).map fun u => (.next, (ρ.set i (.val u)).set j (.val v)) := rfl
theorem qS6 {C : Nat → List AV → Option AV} (i : Nat) (j : Nat) (e : PE) (ρ : Loc) : evS C (.asg2 i j e) ρ = (evE C e ρ).map fun v => (.next, (ρ.set i (.val v)).set j (.val v)) := rfl
theorem qS7 {C : Nat → List AV → Option AV} (i : Nat) (o : Bop) (e : PE) (ρ : Loc) : evS C (.aug i o e) ρ = ((valAt ρ i).bind fun u => (evE C e ρ).bind fun v => match u, v with
      | .int a, .int b => (binV o (.int a) (.int b)).map fun r => (.next, ρ.set i (.val r))
      | _, _ => none) := rfl
theorem qS8 {C : Nat → List AV → Option AV} (i : Nat) (e : PE) (ρ : Loc) : evS C (.augL i e) ρ = (match ρ[i]? with
      | some (.own xs) => (evE C e ρ).bind fun v => match v with
        | .list ys => if xs.length + ys.length ≤ sizeLine then some (.next, ρ.set i (.own (xs ++ ys))) else none
        | _ => none
      | _ => none) := rfl
theorem qS9 {C : Nat → List AV → Option AV} (i : Nat) (k : PE) (e : PE) (ρ : Loc) : evS C (.setItem i k e) ρ = (match ρ[i]? with
      | some (.ownS xs) => (evE C e ρ).bind fun v => (evE C k ρ).bind fun u => match u with
        | .int n => if 0 ≤ n ∧ n < xs.length then some (.next, ρ.set i (.ownS (xs.set n.toNat v))) else none
        | _ => none
      | _ => none) := rfl
theorem qS10 {C : Nat → List AV → Option AV} (i : Nat) (k : PE) (e : PE) (ρ : Loc) : evS C (.callSet i k e) ρ = (match ρ[i]? with
      | some (.ownS xs) => (evE C k ρ).bind fun u => (evE C e ρ).bind fun v => match u with
        | .int n => if 0 ≤ n ∧ n < xs.length then some (.next, ρ.set i (.ownS (xs.set n.toNat v))) else none
        | _ => none
      | _ => none) := rfl
theorem qS11 {C : Nat → List AV → Option AV} (i : Nat) (e : PE) (ρ : Loc) : evS C (.append i e) ρ = (let ρ := freeze ρ (reads e); match ρ[i]? with
      | some (.own xs) => (evE C e ρ).bind fun v => if xs.length < sizeLine then some (.next, ρ.set i (.own (xs ++ [v]))) else none
      | _ => none) := rfl
theorem qS12 {C : Nat → List AV → Option AV} (i : Nat) (e : PE) (ρ : Loc) : evS C (.appendLast i e) ρ = (match ρ[i]? with
      | some (.own2 xs ys) => (evE C e ρ).bind fun v => if ys.length < sizeLine then some (.next, ρ.set i (.own2 xs (ys ++ [v]))) else none
      | _ => none) := rfl
theorem qS13 {C : Nat → List AV → Option AV} (i : Nat) (ρ : Loc) : evS C (.appendNew i) ρ = (match ρ[i]? with
      | some (.own2 xs ys) => if xs.length + 1 < sizeLine then some (.next, ρ.set i (.own2 (xs ++ [.list ys]) [])) else none
      | _ => none) := rfl
theorem qS14 {C : Nat → List AV → Option AV} (c : PE) (a : PB) (b : PB) (ρ : Loc) : evS C (.ifs c a b) ρ = (evT C c ρ).bind fun t => if t then evB C a ρ else evB C b ρ := rfl
theorem qS15 {C : Nat → List AV → Option AV} (c : PE) (a : PB) (ρ : Loc) : evS C (.whiles c a) ρ = evWh (evT C c) (fun ρ => evB C a ρ) 1000 ρ := rfl
theorem qS16 {C : Nat → List AV → Option AV} (ts : (List Nat)) (it : PI) (a : PB) (els : Bool) (ρ : Loc) : evS C (.fors ts it a els) ρ = (evI C it ρ).bind fun xs => evFor (fun x ρ => (bindV ρ ts x).bind fun ρ' => evB C a ρ') els xs ρ := rfl
theorem qS17 {C : Nat → List AV → Option AV} (e : PE) (ρ : Loc) : evS C (.ret e) ρ = (let ρ := freeze ρ (reads e); (evE C e ρ).map fun v => (.ret v, ρ)) := rfl
theorem qS18 {C : Nat → List AV → Option AV} (ρ : Loc) : evS C (.cont) ρ = some (.cont, ρ) := rfl
theorem qB1 {C : Nat → List AV → Option AV} (ρ : Loc) : evB C (.nil) ρ = some (.next, ρ) := rfl
theorem qB2 {C : Nat → List AV → Option AV} (s : PS) (r : PB) (ρ : Loc) : evB C (.cons s r) ρ = ((evS C s ρ).bind fun y => match y.1 with
    | .next => evB C r y.2
    | f => some (f, y.2)) := rfl
theorem qR1 (v : AV) : reads (.lit v) = [] := rfl
theorem qR2 (i : Nat) : reads (.var i) = [i] := rfl
theorem qR3 (a b : PE) : reads (.and a b) = reads a ++ reads b := rfl
theorem qR4 (a b : PE) : reads (.or a b) = reads a ++ reads b := rfl
theorem qR5 (a : PE) : reads (.not a) = reads a := rfl
theorem qR6 (a : PE) : reads (.neg a) = reads a := rfl
theorem qR7 (o : Cop) (a b : PE) : reads (.cmp o a b) = reads a ++ reads b := rfl
theorem qR8 (o : Bop) (a b : PE) : reads (.bin o a b) = reads a ++ reads b := rfl
theorem qR9 (c a b : PE) : reads (.ite c a b) = reads c ++ reads a ++ reads b := rfl
theorem qR10 (f : Nat) (as : PEs) : reads (.call f as) = readss as := rfl
theorem qR11 (f : Bi) (as : PEs) : reads (.bi f as) = readss as := rfl
theorem qR12 (j : Nat) (i : PE) : reads (.sub (.var j) i) = reads i := rfl
theorem qR13 (a i : PE) : reads (.sub a i) = subR (reads a) a ++ reads i := rfl
theorem qR14 (a b c d : PE) : reads (.slice a b c d) = reads a ++ reads b ++ reads c ++ reads d := rfl
theorem qR15 (as : PEs) : reads (.list as) = readss as := rfl
theorem qR16 (as : PEs) : reads (.tup as) = readss as := rfl
theorem qR17 (a b : PE) : reads (.join a b) = reads a ++ reads b := rfl
theorem qR18 (a : PE) : reads (.lower a) = reads a := rfl
theorem qR19 (i : Nat) : reads (.idxOf i) = [] := rfl
theorem qR20 (e : PE) (ts : List Nat) (it : PI) (c : PE) : reads (.comp e ts it c) = [] := rfl
theorem qR21 (t : Nat) (it : PI) (e : PE) : reads (.flat t it e) = [] := rfl
theorem qRs1 : readss .nil = [] := rfl
theorem qRs2 (e : PE) (r : PEs) : readss (.cons e r) = reads e ++ readss r := rfl
theorem qF1 (f : AV → Loc → Option (Fl × Loc)) (els : Bool) (ρ : Loc) : evFor f els [] ρ = if els then none else some (.next, ρ) := rfl
theorem qF2 (f : AV → Loc → Option (Fl × Loc)) (els : Bool) (x : AV) (r : List AV) (ρ : Loc) : evFor f els (x :: r) ρ = (f x ρ).bind fun y => match y.1 with
    | .ret v => some (.ret v, y.2)
    | _ => evFor f els r y.2 := rfl
theorem qW2 (c : Loc → Option Bool) (f : Loc → Option (Fl × Loc)) (n : Nat) (ρ : Loc) : evWh c f (n + 1) ρ = (c ρ).bind fun t => if t then (f ρ).bind fun y => (match y.1 with
      | .ret v => some (.ret v, y.2)
      | _ => evWh c f n y.2) else some (.next, ρ) := rfl
theorem qW1 (c : Loc → Option Bool) (f : Loc → Option (Fl × Loc)) (ρ : Loc) : evWh c f 0 ρ = none := rfl
theorem qE0 {C : Nat → List AV → Option AV} (j : Nat) (i : PE) (ρ : Loc) : evE C (.sub (.var j) i) ρ = (baseAt ρ j).bind fun v => (evE C i ρ).bind fun u => subV v u := rfl
theorem qE12s {C : Nat → List AV → Option AV} (a b : PE) (i : PE) (ρ : Loc) : evE C (.sub (.sub a b) i) ρ = (evE C (.sub a b) ρ).bind fun v => (evE C i ρ).bind fun u => subV v u := rfl
theorem qR13s (a b : PE) (i : PE) : reads (.sub (.sub a b) i) = reads (.sub a b) ++ reads i := rfl
theorem qE12l {C : Nat → List AV → Option AV} (a : AV) (i : PE) (ρ : Loc) : evE C (.sub (.lit a) i) ρ = (evE C (.lit a) ρ).bind fun v => (evE C i ρ).bind fun u => subV v u := rfl
theorem qR13l (a : AV) (i : PE) : reads (.sub (.lit a) i) = reads (.lit a) ++ reads i := rfl
theorem qE12i {C : Nat → List AV → Option AV} (a : PEs) (i : PE) (ρ : Loc) : evE C (.sub (.list a) i) ρ = (evE C (.list a) ρ).bind fun v => (evE C i ρ).bind fun u => subV v u := rfl
theorem qR13i (a : PEs) (i : PE) : reads (.sub (.list a) i) = reads (.list a) ++ reads i := rfl
theorem qE12c {C : Nat → List AV → Option AV} (f : Nat) (a : PEs) (i : PE) (ρ : Loc) : evE C (.sub (.call f a) i) ρ = (evE C (.call f a) ρ).bind fun v => (evE C i ρ).bind fun u => subV v u := rfl
theorem qR13c (f : Nat) (a : PEs) (i : PE) : reads (.sub (.call f a) i) = reads (.call f a) ++ reads i := rfl
theorem qStr (i : Str) (r : List AV) : strs? (.str i :: r) = (strs? r).map (i :: ·) := rfl
theorem qInt (i : Int) (r : List AV) : ints? (.int i :: r) = (ints? r).map (i :: ·) := rfl
theorem qEn (n : Nat) (x : AV) (r : List AV) : enumF n (x :: r) = .tup [.int n, x] :: enumF (n + 1) r := rfl
theorem qFC (f : AV → Option (Option AV)) (x : AV) (r : List AV) : foldC f (x :: r) = (f x).bind fun o => (foldC f r).map fun ys => match o, ys with | some y, ys => y :: ys | none, ys => ys := rfl
theorem qFC0 (f : AV → Option (Option AV)) : foldC f [] = some [] := rfl
theorem qFA (f : AV → Option (List AV)) (x : AV) (r : List AV) : foldA f (x :: r) = (f x).bind fun o => (foldA f r).map fun ys => o ++ ys := rfl
theorem qGi (k : Nat) (last : Option Int) (i : Int) (r : List Int) : gi (k + 1) last (i :: r) = if i = 127 then some []
    else if i = 0 then (match last with | none => none | some l => some (giRep (k + 1) l))
    else (gi k (some i) r).map (i :: ·) := rfl
theorem qGi0 (last : Option Int) (r : List Int) : gi 0 last r = some [] := rfl
theorem qZ (n : Nat) (i : Int) (r : List Int) : zipIdx n (i :: r) = .tup [.int n, .int i] :: zipIdx (n + 1) r := rfl
theorem qEC (P : Nat → Option (Nat × PFun)) (n f : Nat) (args : List AV) : evCall P (n + 1) f args = (P f).bind fun pf => if args.length = pf.1 then evFn (evCall P n) pf.2 args else none := rfl
end Mine

namespace Mine

structure Sc where
  kind : Str → Option NameKind
  idx : Str → Option Nat
  n : Nat

noncomputable def posOf (x : Str) : List (Str × NameKind) → Nat → Option Nat
  | [], _ => none
  | (y, _) :: r, n => if x = y then some n else posOf x r (n + 1)
noncomputable def scOf (s : Scope) : Sc := ⟨fun x => s.names.lookup x, fun x => posOf x s.names 0, s.names.length⟩
noncomputable def scIn (sc : Sc) (s : Scope) : Sc := ⟨fun x => s.names.lookup x, fun x => match s.names.lookup x with
  | some .local => (posOf x s.names 0).map (sc.n + ·)
  | some .free => sc.idx x
  | _ => none, sc.n + s.names.length⟩

/-- the module's own constants -/
noncomputable def gconst (x : Str) : Option AV :=
  if x = "_MOVE_COST" then some (.int 2) else if x = "_CASE_COST" then some (.int 1) else if x = "_MAX_STRING_SIZE" then some (.int 40)
  else if x = "NT_OFFSET" then some (.int 256) else if x = "EXACT_TOKEN_TYPES" then some .tok else if x = "CHAR_MAX" then some (.int 127) else none
/-- the module's own defs -/
noncomputable def gnames : List String := ["lt", "add", "mul", "sub", "contains", "getitem", "indexOf", "setitem", "iadd", "isub", "ISNONTERMINAL", "_substitution_cost", "_levenshtein_distance",
  "_law_rulers", "_law_cut", "_law_read", "_law_steps", "_law_walks", "_law_mean", "_law_price", "_law_shared", "_law_rounds", "law"]
noncomputable def findS (x : Str) : List String → Nat → Option Nat
  | [], _ => none
  | y :: r, n => if x = Str.ofString y then some n else findS x r (n + 1)
noncomputable def gfun (x : Str) : Option Nat := findS x gnames 0

/-- one look at a tree's top for all the tests below -/
noncomputable def ekind : Expr → Nat
  | .Name .. => 2
  | .Tuple .. => 3
  | .ListComp .. => 4
  | .Call .. => 5
  | .Starred .. => 6
  | .SetComp .. => 6
  | .DictComp .. => 6
  | _ => 0
noncomputable def isNoneC : Expr → Bool
  | .Constant .none _ _ => true
  | _ => false
noncomputable def isNm (e : Expr) : Bool := Nat.beq (ekind e) 2
noncomputable def copOf (op : CmpOp) (r : Expr) : Option Cop := match op with
  | .Eq => some .eq
  | .NotEq => some .ne
  | .Lt => some .lt
  | .Gt => some .gt
  | .GtE => some .ge
  | .Is => if isNoneC r then some .isNone else none
  | .IsNot => if isNoneC r then some .notNone else none
  | .In => if isNm r then some .mem else none
  | .NotIn => if isNm r then some .notMem else none
  | _ => none
noncomputable def bopOf : Operator → Option Bop
  | .Add => some .add
  | .Sub => some .sub
  | .Mult => some .mul
  | .FloorDiv => some .fdiv
  | .Mod => some .mod
  | _ => none
noncomputable def isGlob (sc : Sc) (x : Str) : Bool := sc.kind x == some .globalImplicit
noncomputable def biOf (sc : Sc) (f : Str) (n : Nat) : Option Bi :=
  if isGlob sc f then
    if f = "len" ∧ n = 1 then some .len else if f = "min" ∧ n = 2 then some .min2 else if f = "min" ∧ n = 3 then some .min3 else if f = "min" ∧ n = 1 then some .minL
    else if f = "sum" ∧ n = 1 then some .sumL else if f = "int" ∧ n = 1 then some .toInt else none
  else none

noncomputable def namesOf? : List Expr → Option (List Str)
  | [] => some []
  | .Name x _ :: r => (namesOf? r).map (x :: ·)
  | _ :: _ => none
noncomputable def idxs (sc : Sc) : List Str → Option (List Nat)
  | [] => some []
  | x :: r => if sc.kind x = some .local then (sc.idx x).bind fun i => (idxs sc r).map (i :: ·) else none
noncomputable def targets (sc : Sc) : Expr → Option (List Nat)
  | .Name x _ => idxs sc [x]
  | .Tuple es _ _ => (namesOf? es).bind fun xs => if 2 ≤ xs.length then idxs sc xs else none
  | _ => none

noncomputable def mapEs (f : Expr → Option PE) : List Expr → Option PEs
  | [] => some .nil
  | e :: r => (f e).bind fun p => (mapEs f r).map fun ps => .cons p ps
noncomputable def partC (f : Expr → Option PE) : Option Expr → Option PE
  | none => some (.lit .none)
  | some e => f e

/-- a comprehension's own scope is as it should be -/
noncomputable def compOK (sc : Sc) (s : Scope) : Bool :=
  s.kind == .function && s.names.all fun p => s.names.lookup p.1 == some p.2 && (p.2 == .local || p.2 == .globalImplicit || (p.2 == .free && (sc.kind p.1 == some .cell || sc.kind p.1 == some .free) && p.1 != ("__classdict__" : Str)))
noncomputable def isTup (e : Expr) : Bool := Nat.beq (ekind e) 3
noncomputable def isCall (e : Expr) : Bool := Nat.beq (ekind e) 5
noncomputable def isRaise : List Stmt → Bool
  | [.Raise ..] => true
  | _ => false

noncomputable def own1 (sc : Sc) (x : Str) : Option Nat := if x ≠ "__debug__" ∧ sc.kind x = some .local then sc.idx x else none

theorem qPos (x y : Str) (k : NameKind) (r : List (Str × NameKind)) (n : Nat) : posOf x ((y, k) :: r) n = if x = y then some n else posOf x r (n + 1) := rfl
theorem qFi (x : Str) (y : String) (r : List String) (n : Nat) : findS x (y :: r) n = if x = Str.ofString y then some n else findS x r (n + 1) := rfl
theorem qMap (f : Expr → Option PE) (e : Expr) (r : List Expr) : mapEs f (e :: r) = (f e).bind fun p => (mapEs f r).map fun ps => .cons p ps := rfl
theorem qMap0 (f : Expr → Option PE) : mapEs f [] = some .nil := rfl
theorem qIdx (sc : Sc) (x : Str) (r : List Str) : idxs sc (x :: r) = if sc.kind x = some .local then (sc.idx x).bind fun i => (idxs sc r).map (i :: ·) else none := rfl
theorem qNam (x : Str) (p : Pos) (r : List Expr) : namesOf? (.Name x p :: r) = (namesOf? r).map (x :: ·) := rfl

end Mine

namespace Mine

noncomputable abbrev Look := Addr → Option Obj
noncomputable def Sub (g g' : Look) : Prop := ∀ a o, g a = some o → g' a = some o

/-- the heap but for the addresses that the frames own -/
noncomputable def gX (h : Heap) (X : List Addr) : Look := fun a => if a ∈ X then none else h.get? a

mutual
noncomputable def VR (tokA : Addr) (g : Look) : AV → Value → Prop
  | .none, v => v = .none
  | .bool b, v => v = .bool b
  | .int i, v => ∃ t, v = .int i t
  | .str x, v => ∃ t, v = .str x t ∧ x.length ≤ sizeLine
  | .list xs, v => ∃ a o vs n, v = .ref a ∧ g a = some o ∧ o.cls = .type "list" ∧ o.data = .seq vs n ∧ VRs tokA g xs vs.toList ∧ xs.length ≤ sizeLine
  | .tup xs, v => ∃ a o vs n, v = .ref a ∧ g a = some o ∧ o.cls = .type "tuple" ∧ o.data = .seq vs n ∧ VRs tokA g xs vs.toList ∧ xs.length ≤ sizeLine
  | .tok, v => v = .ref tokA
noncomputable def VRs (tokA : Addr) (g : Look) : List AV → List Value → Prop
  | [], [] => True
  | x :: xs, v :: vs => VR tokA g x v ∧ VRs tokA g xs vs
  | _, _ => False
end

mutual
theorem VR.mono {tokA : Addr} {g g' : Look} (hs : Sub g g') : ∀ {x : AV} {v : Value}, VR tokA g x v → VR tokA g' x v
  | .none, _, h => h
  | .bool _, _, h => h
  | .int _, _, h => h
  | .str _, _, h => h
  | .list xs, _, ⟨a, o, vs, n, e1, e2, e3, e4, e5, e6⟩ => ⟨a, o, vs, n, e1, hs _ _ e2, e3, e4, VRs.mono hs e5, e6⟩
  | .tup xs, _, ⟨a, o, vs, n, e1, e2, e3, e4, e5, e6⟩ => ⟨a, o, vs, n, e1, hs _ _ e2, e3, e4, VRs.mono hs e5, e6⟩
  | .tok, _, h => h
theorem VRs.mono {tokA : Addr} {g g' : Look} (hs : Sub g g') : ∀ {xs : List AV} {vs : List Value}, VRs tokA g xs vs → VRs tokA g' xs vs
  | [], [], _ => trivial
  | _ :: _, _ :: _, ⟨h1, h2⟩ => ⟨VR.mono hs h1, VRs.mono hs h2⟩
  | [], _ :: _, h => h.elim
  | _ :: _, [], h => h.elim
end

theorem VRs.length {tokA : Addr} {g : Look} : ∀ {xs : List AV} {vs : List Value}, VRs tokA g xs vs → vs.length = xs.length
  | [], [], _ => rfl
  | _ :: _, _ :: _, ⟨_, h2⟩ => by simp [VRs.length h2]
  | [], _ :: _, h => h.elim
  | _ :: _, [], h => h.elim
theorem VRs.get {tokA : Addr} {g : Look} : ∀ {xs : List AV} {vs : List Value}, VRs tokA g xs vs → ∀ {i : Nat} {x : AV}, xs[i]? = some x → ∃ v, vs[i]? = some v ∧ VR tokA g x v
  | [], [], _, _, _, e => by simp at e
  | x :: _, v :: _, ⟨h1, _⟩, 0, _, e => by simp at e; subst e; exact ⟨v, rfl, h1⟩
  | _ :: _, _ :: _, ⟨_, h2⟩, i + 1, _, e => by simp at e; simpa using VRs.get h2 e
  | [], _ :: _, h, _, _, _ => h.elim
  | _ :: _, [], h, _, _, _ => h.elim
theorem VRs.append {tokA : Addr} {g : Look} : ∀ {xs ys : List AV} {vs us : List Value}, VRs tokA g xs vs → VRs tokA g ys us → VRs tokA g (xs ++ ys) (vs ++ us)
  | [], _, [], _, _, h => h
  | _ :: _, _, _ :: _, _, ⟨h1, h2⟩, h => ⟨h1, VRs.append h2 h⟩
  | [], _, _ :: _, _, h, _ => h.elim
  | _ :: _, _, [], _, h, _ => h.elim
theorem VRs.set {tokA : Addr} {g : Look} : ∀ {xs : List AV} {vs : List Value}, VRs tokA g xs vs → ∀ (i : Nat) {x : AV} {v : Value}, VR tokA g x v → VRs tokA g (xs.set i x) (vs.set i v)
  | [], [], _, _, _, _, _ => trivial
  | _ :: _, _ :: _, ⟨_, h2⟩, 0, _, _, h => ⟨h, h2⟩
  | _ :: _, _ :: _, ⟨h1, h2⟩, i + 1, _, _, h => ⟨h1, VRs.set h2 i h⟩
  | [], _ :: _, h, _, _, _, _ => h.elim
  | _ :: _, [], h, _, _, _, _ => h.elim
theorem VRs.pick {tokA : Addr} {g : Look} {xs : List AV} {vs : List Value} (h : VRs tokA g xs vs) : ∀ (is : List Nat), VRs tokA g (is.filterMap (xs[·]?)) (is.filterMap (vs[·]?))
  | [] => trivial
  | i :: is => by
    rw [List.filterMap_cons, List.filterMap_cons]
    cases e : xs[i]? with
    | none =>
      have : vs[i]? = none := by
        rw [List.getElem?_eq_none_iff] at e ⊢
        rw [h.length]; exact e
      rw [this]; exact VRs.pick h is
    | some x =>
      obtain ⟨v, e', hv⟩ := h.get e
      rw [e']; exact ⟨hv, VRs.pick h is⟩

theorem gX_sub {h h' : Heap} {X : List Addr} (hk : ∀ b o, h.get? b = some o → h'.get? b = some o) : Sub (gX h X) (gX h' X) := by
  intro a o e
  unfold gX at e ⊢
  split at e
  · cases e
  · rename_i hx; rw [if_neg hx]; exact hk _ _ e
theorem gX_get {h : Heap} {X : List Addr} {a : Addr} {o : Obj} (e : gX h X a = some o) : h.get? a = some o ∧ a ∉ X := by
  unfold gX at e
  split at e
  · cases e
  · rename_i hx; exact ⟨e, hx⟩
theorem gX_of {h : Heap} {X : List Addr} {a : Addr} {o : Obj} (e : h.get? a = some o) (hx : a ∉ X) : gX h X a = some o := by
  unfold gX; rw [if_neg hx]; exact e
/-- fewer owned addresses: more is seen -/
theorem gX_less {h : Heap} {X Y : List Addr} (hs : ∀ a ∈ Y, a ∈ X) : Sub (gX h X) (gX h Y) := by
  intro a o e
  obtain ⟨e1, e2⟩ := gX_get e
  exact gX_of e1 fun q => e2 (hs a q)

theorem VR.isList {tokA : Addr} {h : Heap} {X : List Addr} {xs : List AV} {v : Value} (r : VR tokA (gX h X) (.list xs) v) :
    ∃ a vs, v = .ref a ∧ h.IsList a vs ∧ VRs tokA (gX h X) xs vs.toList ∧ xs.length ≤ sizeLine ∧ vs.size = xs.length ∧ a ∉ X := by
  obtain ⟨a, o, vs, n, e1, e2, e3, e4, e5, e6⟩ := r
  exact ⟨a, vs, e1, ⟨o, (gX_get e2).1, e3, n, e4⟩, e5, e6, by rw [← e5.length]; simp, (gX_get e2).2⟩
theorem VR.isTup {tokA : Addr} {h : Heap} {X : List Addr} {xs : List AV} {v : Value} (r : VR tokA (gX h X) (.tup xs) v) :
    ∃ a vs, v = .ref a ∧ IsTup h a vs ∧ VRs tokA (gX h X) xs vs.toList ∧ xs.length ≤ sizeLine ∧ vs.size = xs.length ∧ a ∉ X := by
  obtain ⟨a, o, vs, n, e1, e2, e3, e4, e5, e6⟩ := r
  exact ⟨a, vs, e1, ⟨o, (gX_get e2).1, e3, n, e4⟩, e5, e6, by rw [← e5.length]; simp, (gX_get e2).2⟩
theorem VR.ofList {tokA : Addr} {h : Heap} {X : List Addr} {xs : List AV} {a : Addr} {vs : Array Value} (hl : h.IsList a vs) (hx : a ∉ X) (hv : VRs tokA (gX h X) xs vs.toList) (hz : xs.length ≤ sizeLine) :
    VR tokA (gX h X) (.list xs) (.ref a) := by
  obtain ⟨o, ho, hc, n, hd⟩ := hl
  exact ⟨a, o, vs, n, rfl, gX_of ho hx, hc, hd, hv, hz⟩
theorem VR.ofTup {tokA : Addr} {h : Heap} {X : List Addr} {xs : List AV} {a : Addr} {vs : Array Value} (hl : IsTup h a vs) (hx : a ∉ X) (hv : VRs tokA (gX h X) xs vs.toList) (hz : xs.length ≤ sizeLine) :
    VR tokA (gX h X) (.tup xs) (.ref a) := by
  obtain ⟨o, ho, hc, n, hd⟩ := hl
  exact ⟨a, o, vs, n, rfl, gX_of ho hx, hc, hd, hv, hz⟩

structure GK (a b : Array GenState) : Prop where
  bare : AllBare a → AllBare b
  kept : ∀ (i : Nat) (g : GenState), a[i]? = some g → b[i]? = some g
theorem GK.refl (a : Array GenState) : GK a a := ⟨id, fun _ _ e => e⟩
theorem GK.trans {a b c : Array GenState} (x : GK a b) (y : GK b c) : GK a c := ⟨fun q => y.bare (x.bare q), fun i g e => y.kept i g (x.kept i g e)⟩
/-- what an expression leaves of the state -/
structure Ext (s s' : Shared) : Prop where
  heap : ∀ b o, s.heap.get? b = some o → s'.heap.get? b = some o
  os : s'.os = s.os
  gens : GK s.gens s'.gens
theorem Ext.refl (s : Shared) : Ext s s := ⟨fun _ _ e => e, rfl, .refl _⟩
theorem Ext.trans {s s' s'' : Shared} (a : Ext s s') (b : Ext s' s'') : Ext s s'' := ⟨fun x o e => b.heap x o (a.heap x o e), b.os.trans a.os, a.gens.trans b.gens⟩
theorem Ext.mk' {s : Shared} {h' : Heap} {tk : Nat} (hk : ∀ b o, s.heap.get? b = some o → h'.get? b = some o) : Ext s { s with heap := h', toks := tk } := ⟨hk, rfl, .refl _⟩
theorem Ext.tk {s : Shared} {tk : Nat} : Ext s { s with toks := tk } := ⟨fun _ _ e => e, rfl, .refl _⟩
theorem Ext.push {s : Shared} (o : Obj) {tk : Nat} : Ext s { s with heap := s.heap.push o, toks := tk } := ⟨fun _ _ e => Heap.get?_push_of_some _ e, rfl, .refl _⟩
theorem Ext.hp {s : Shared} {h' : Heap} (hk : ∀ b o, s.heap.get? b = some o → h'.get? b = some o) : Ext s { s with heap := h' } := ⟨hk, rfl, .refl _⟩

structure Ao (n : Nat) (A : Around) : Prop where
  hh : A.handled = none
  dep : A.depth + n < recursionLimit
  un : A.units + 4 * n + 16 < cLine
theorem Ao.in1 {n : Nat} {A : Around} (a : Ao (n + 1) A) : Ao n A.in1 := ⟨a.hh, by have := a.dep; simp only [Around.in1_depth]; (first | lia | omega), by have := a.un; simp only [Around.in1_units]; (first | lia | omega)⟩
theorem Ao.less {n : Nat} {A : Around} (a : Ao (n + 1) A) : Ao n A := ⟨a.hh, by have := a.dep; (first | lia | omega), by have := a.un; (first | lia | omega)⟩
theorem Ao.le {n m : Nat} {A : Around} (a : Ao n A) (h : m ≤ n) : Ao m A := ⟨a.hh, by have := a.dep; (first | lia | omega), by have := a.un; (first | lia | omega)⟩
theorem Ao.deeper {n : Nat} {A : Around} {env : Env} (a : Ao (n + 1) A) : Ao n (A.deeper env) := ⟨a.hh, by have := a.dep; show A.depth + 1 + n < _; (first | lia | omega), by have := a.un; show A.units + 3 + 4 * n + 16 < _; (first | lia | omega)⟩

/-- the names of the world: the module's own names, the built-in ones, the token table's place -/
structure Gp where
  mg : Str → Option Value
  mb : Str → Option Value
  tokA : Addr

noncomputable abbrev body0 : List Stmt := PySem.Challenge.pw_tl0024_01.main.body
noncomputable def bnames : List (String × Value) := [("len", .builtin "len"), ("min", .builtin "min"), ("sum", .builtin "sum"), ("int", .type "int"), ("range", .type "range"), ("list", .type "list"), ("enumerate", .type "enumerate"), ("zip", .type "zip")]

structure GOK (prog : Program) (w : World) (Γ : Gp) (h : Heap) : Prop where
  lim : h.NoLimit
  g : h.Ns mainGlobals Γ.mg
  b : h.Ns builtinsNs Γ.mb
  tk : ∃ f, h.MapOf (strKind prog w) Γ.tokA f ∧ ∀ x, (∀ i, tokGet x = some i → ∃ t, f x = some (.int i t)) ∧ (tokGet x = none → f x = none)
  tks : (Γ.tokA == sysModules) = false
  booked : NoneBooked h
  cst : ∀ x v, gconst x = some v → ∃ v', Γ.mg x = some v' ∧ ∀ g, VR Γ.tokA g v v'
  fns : ∀ x ps b sc, theFun x body0 = some (ps, b, sc) → ∃ a o pm cd doc, Γ.mg x = some (.ref a) ∧ h.get? a = some o ∧ o.data = .func (docDef x ps b sc pm cd doc) ∧ h.CodeRec cd x
  bi : ∀ p ∈ bnames, Γ.mg (Str.ofString p.1) = none ∧ Γ.mb (Str.ofString p.1) = some p.2

theorem MapOf_keeps {prog : Program} {w : World} {h h' : Heap} {a : Addr} {f : Str → Option Value} (x : h.MapOf (strKind prog w) a f) (hk : ∀ b o, h.get? b = some o → h'.get? b = some o) : h'.MapOf (strKind prog w) a f := by
  obtain ⟨o, es, n, e1, r⟩ := x
  exact ⟨o, es, n, hk _ _ e1, r⟩

theorem GOK.keeps {prog : Program} {w : World} {Γ : Gp} {h h' : Heap} (G : GOK prog w Γ h) (hk : ∀ b o, h.get? b = some o → h'.get? b = some o) : GOK prog w Γ h' where
  lim := G.lim.keeps hk
  g := G.g.keeps hk
  b := G.b.keeps hk
  tk := let ⟨f, h1, h2⟩ := G.tk; ⟨f, MapOf_keeps h1 hk, h2⟩
  tks := G.tks
  booked := let ⟨mc, h1, h2⟩ := G.booked; ⟨mc, h1.keeps hk, h2⟩
  cst := G.cst
  fns := fun x ps b sc e => let ⟨a, o, pm, cd, doc, h1, h2, h3, h4⟩ := G.fns x ps b sc e; ⟨a, o, pm, cd, doc, h1, hk _ _ h2, h3, h4.keeps hk⟩
  bi := G.bi

/-! ## environments -/
noncomputable def Loads (env : Env) (x : Str) (h : Heap) (v : Value) : Prop :=
  (env.kindOf x = some .local ∧ ∃ m, h.Ns env.locals m ∧ m x = some v) ∨
  ((env.kindOf x = some .cell ∨ (env.kindOf x = some .free ∧ (x == ("__classdict__" : Str)) = false)) ∧ ∃ c, env.cells.lookup x = some c ∧ h.IsCell c (some v))
theorem Loads.keeps {env : Env} {x : Str} {h h' : Heap} {v : Value} (l : Loads env x h v) (hk : ∀ b o, h.get? b = some o → h'.get? b = some o) : Loads env x h' v := by
  rcases l with ⟨h1, m, h2, h3⟩ | ⟨h1, c, h2, h3⟩
  · exact .inl ⟨h1, m, h2.keeps hk, h3⟩
  · exact .inr ⟨h1, c, h2, h3.keeps hk⟩

structure ScOK (sc : Sc) : Prop where
  inj : ∀ x y i, sc.idx x = some i → sc.idx y = some i → x = y
  lt : ∀ x i, sc.idx x = some i → i < sc.n

structure EnvOK (tokA : Addr) (env : Env) (sc : Sc) (ρ : Loc) (X : List Addr) (h : Heap) : Prop where
  kind : env.scope.kind = .function
  gl : env.globals = mainGlobals
  bu : env.builtins = builtinsNs
  kinds : ∀ x, sc.kind x = some .globalImplicit → env.kindOf x = some .globalImplicit
  val : ∀ x i v, sc.idx x = some i → (sc.kind x = some .local ∨ sc.kind x = some .cell ∨ sc.kind x = some .free) → ρ[i]? = some (.val v) → ∃ v', Loads env x h v' ∧ VR tokA (gX h X) v v'
  own : ∀ x i xs, sc.idx x = some i → (sc.kind x = some .local ∨ sc.kind x = some .cell ∨ sc.kind x = some .free) → (ρ[i]? = some (.own xs) ∨ ρ[i]? = some (.ownS xs)) → ∃ a vs, Loads env x h (.ref a) ∧ h.IsList a vs ∧ VRs tokA (gX h X) xs vs.toList ∧ xs.length ≤ sizeLine
  kcf : ∀ x, (sc.kind x = some .cell ∨ sc.kind x = some .free) → env.kindOf x = some .cell ∨ (env.kindOf x = some .free ∧ (x == ("__classdict__" : Str)) = false)
  scok : ScOK sc
  hi : ∀ (i : Nat) (sl : Slot), sc.n ≤ i → ρ[i]? = some sl → sl = .no
  cells : ∀ x, (sc.kind x = some .cell ∨ sc.kind x = some .free) → ∃ c o, env.cells.lookup x = some c ∧ h.get? c = some o
  ownk : ∀ x (i : Nat) sl, sc.idx x = some i → ρ[i]? = some sl → sl.owned = true → sc.kind x = some .local
theorem EnvOK.keeps {tokA : Addr} {env : Env} {sc : Sc} {ρ : Loc} {X : List Addr} {h h' : Heap} (e : EnvOK tokA env sc ρ X h) (hk : ∀ b o, h.get? b = some o → h'.get? b = some o) : EnvOK tokA env sc ρ X h' where
  kind := e.kind
  gl := e.gl
  bu := e.bu
  kinds := e.kinds
  val := fun x i v h1 h2 h3 => let ⟨v', l, r⟩ := e.val x i v h1 h2 h3; ⟨v', l.keeps hk, r.mono (gX_sub hk)⟩
  own := fun x i xs h1 h2 h3 => let ⟨a, vs, l, il, r, z⟩ := e.own x i xs h1 h2 h3; ⟨a, vs, l.keeps hk, il.at (fun o => hk a o), r.mono (gX_sub hk), z⟩
  kcf := e.kcf
  scok := e.scok
  hi := e.hi
  cells := fun x hx => let ⟨c, o, h1, h2⟩ := e.cells x hx; ⟨c, o, h1, hk _ _ h2⟩
  ownk := e.ownk

section
variable {M : Model} {A : Around} {E : Value → Shared → Prop} {s : Shared}
theorem loads_ {env : Env} {x : Str} {pos : Pos} {v : Value} {Q : Value → Shared → Prop} (hk : env.scope.kind = .function) (l : Loads env x s.heap v) (h : Q v s) (hd : (x == ("__debug__" : Str)) = false) :
    wpAny M A (eval (.Name x pos) env) Q E s := by
  refine wpAny_Name ?_ hd
  rcases l with ⟨h1, m, h2, h3⟩ | ⟨h1 | ⟨h1, h1'⟩, c, h2, h3⟩
  · exact wpAny_loadName_local hk h1 h2 h3 h
  · exact wpAny_loadName_cell hk h1 h2 h3 h
  · exact wpAny_loadName_free hk h1 h2 h3 h h1'
end

end Mine

namespace Mine

section
variable {prog : Program} {w : World} {A : Around} {E : Value → Shared → Prop} {s : Shared} {tokA : Addr} {X : List Addr}

theorem lt63 {n : Nat} (h : n ≤ sizeLine) : (n : Int) < 2 ^ 63 := by rw [sizeLine_eq] at h; (first | lia | omega)

theorem truth_ {x : AV} {v : Value} {b : Bool} {Q : Bool → Shared → Prop} (hv : VR tokA (gX s.heap X) x v) (ht : truth x = some b) (h : ∀ s', Ext s s' → Q b s') :
    wpAny (model prog w) A (truthy v) Q E s := by
  cases x with
  | none => cases hv; cases ht; exact truthy_none (h _ (.refl _))
  | bool c => cases hv; cases ht; exact wpAny_truthy_bool (h _ (.refl _))
  | int i => obtain ⟨t, rfl⟩ := hv; cases ht; exact PySem.P.truthy_int (h _ (.refl _))
  | str y =>
    obtain ⟨t, rfl, hz⟩ := hv
    cases ht
    refine PySem.P.truthy_str (by have := lt63 hz; (first | lia | omega)) ?_
    have : ((y.length : Int) != 0) = (y.length != 0) := by
      rw [Bool.eq_iff_iff, bne_iff_ne, bne_iff_ne]; (first | lia | omega)
    rw [this]
    exact h _ .tk
  | list xs =>
    obtain ⟨a, vs, rfl, il, r, hz, hs, _⟩ := hv.isList
    cases ht
    refine wpAny_truthy_list il (by rw [hs]; exact lt63 hz) ?_
    have : vs.isEmpty = xs.isEmpty := by
      rw [← Array.isEmpty_toList]
      cases xs <;> cases e : vs.toList <;> first | rfl | (rw [e] at r; exact r.elim)
    rw [this]; exact h _ .tk
  | tup xs =>
    obtain ⟨a, vs, rfl, il, r, hz, hs, _⟩ := hv.isTup
    cases ht
    refine truthy_tuple il (by rw [hs]; exact lt63 hz) ?_
    have : vs.isEmpty = xs.isEmpty := by
      rw [← Array.isEmpty_toList]
      cases xs <;> cases e : vs.toList <;> first | rfl | (rw [e] at r; exact r.elim)
    rw [this]; exact h _ .tk
  | tok => cases ht

theorem ints_cons (x : AV) (r : List AV) (ns : List Int) (h : ints? (x :: r) = some ns) : ∃ i ms, x = .int i ∧ ints? r = some ms ∧ ns = i :: ms := by
  cases x with
  | int i =>
    have h' : (ints? r).map (i :: ·) = some ns := h
    cases e : ints? r with
    | none => rw [e] at h'; cases h'
    | some ms => rw [e] at h'; exact ⟨i, ms, rfl, rfl, (Option.some.inj h').symm⟩
  | _ => cases h
theorem ints_of {g : Look} : ∀ {xs : List AV} {ns : List Int} {vs : List Value}, ints? xs = some ns → VRs tokA g xs vs → IntsAre vs ns := by
  intro xs
  induction xs with
  | nil =>
    intro ns vs h r
    cases vs with
    | nil => cases h; exact .nil
    | cons _ _ => exact r.elim
  | cons x r ih =>
    intro ns vs h hr
    cases vs with
    | nil => exact hr.elim
    | cons v vs =>
      obtain ⟨i, ms, rfl, e, rfl⟩ := ints_cons _ _ _ h
      obtain ⟨⟨t, hv⟩, h2⟩ := hr
      subst hv
      exact .cons i t (ih e h2)

theorem intsAre_any {vs : List Value} {ns : List Int} (h : IntsAre vs ns) (k : Int) : vs.any (fun y => match y with | .int i _ => i == k | _ => false) = ns.contains k := by
  induction h with
  | nil => rfl
  | cons n t _ ih =>
    rw [List.any_cons, List.contains_cons, ih]
    show ((n == k) || _) = _
    rw [show (n == k) = (k == n) from by rw [Bool.eq_iff_iff, beq_iff_eq, beq_iff_eq]; exact eq_comm]
theorem intsAre_mem {vs : List Value} {ns : List Int} (h : IntsAre vs ns) : ∀ v ∈ vs, ∃ a t, v = .int a t := by
  induction h with
  | nil => intro v hv; cases hv
  | cons n t _ ih => intro v hv; cases hv with
    | head => exact ⟨n, t, rfl⟩
    | tail _ hm => exact ih v hm

theorem str_beq (x y : Str) : (x.cps.toList == y.cps.toList) = (x == y) := by
  obtain ⟨⟨a⟩⟩ := x
  obtain ⟨⟨b⟩⟩ := y
  rw [Bool.eq_iff_iff, beq_iff_eq, beq_iff_eq]
  constructor
  · intro h; exact congrArg (fun l => Str.mk (Array.mk l)) h
  · intro h; injection h with h; injection h

theorem ii_inv {β : Type} {g : Int → Int → Option β} {x y : AV} {c : β} (h : ii g x y = some c) : ∃ i j, x = .int i ∧ y = .int j ∧ g i j = some c := by
  cases x <;> first | (cases h; done) | skip
  cases y <;> first | (cases h; done) | exact ⟨_, _, rfl, rfl, h⟩
theorem eqV_inv {x y : AV} {c : Bool} (h : eqV x y = some c) : (∃ i j, x = .int i ∧ y = .int j ∧ (i == j) = c) ∨ (∃ i j, x = .str i ∧ y = .str j ∧ (i == j) = c) := by
  cases x <;> first | (cases h; done) | skip
  · cases y <;> first | (cases h; done) | exact .inl ⟨_, _, rfl, rfl, Option.some.inj h⟩
  · cases y <;> first | (cases h; done) | exact .inr ⟨_, _, rfl, rfl, Option.some.inj h⟩
theorem noneV_inv {t : Bool} {x y : AV} {c : Bool} (h : noneV t x y = some c) : y = .none ∧ (isN x == t) = c := by
  cases y <;> first | exact ⟨rfl, Option.some.inj h⟩ | cases h
theorem memV_inv {x y : AV} {c : Bool} (h : memV x y = some c) : ∃ k, x = .str k ∧ y = .tok ∧ (tokGet k).isSome = c := by
  cases x <;> first | (cases h; done) | skip
  cases y <;> first | (cases h; done) | exact ⟨_, rfl, rfl, Option.some.inj h⟩
theorem notMemV_inv {x y : AV} {c : Bool} (h : notMemV x y = some c) : ∃ i ys ns, x = .int i ∧ y = .list ys ∧ ints? ys = some ns ∧ (!ns.contains i) = c := by
  cases x <;> first | (cases h; done) | skip
  cases y <;> first | (cases h; done) | skip
  obtain ⟨ns, e, h⟩ := Option.map_eq_some_iff.mp h
  exact ⟨_, _, ns, rfl, rfl, e, h⟩

theorem isNone_is {g : Look} {x : AV} {a : Value} (hx : VR tokA g x a) : (a == Value.none) = isN x := by
  cases x <;> (first | (obtain ⟨t, rfl⟩ := hx) | (obtain ⟨t, rfl, _⟩ := hx) | (obtain ⟨t, _, _, _, rfl, _⟩ := hx) | cases hx) <;> rfl

noncomputable def opOf : Cop → CmpOp
  | .eq => .Eq
  | .ne => .NotEq
  | .lt => .Lt
  | .gt => .Gt
  | .ge => .GtE
  | .isNone => .Is
  | .notNone => .IsNot
  | .mem => .In
  | .notMem => .NotIn
/-- one comparison, its sign told -/
theorem cmp1 {o : Cop} {x y : AV} {a b : Value} {c : Bool} {Q : Value → Shared → Prop} {Γ : Gp} (G : GOK prog w Γ s.heap) (hx : VR Γ.tokA (gX s.heap X) x a) (hy : VR Γ.tokA (gX s.heap X) y b)
    (hc : cmpV o x y = some c) (h : ∀ s', Ext s s' → Q (.bool c) s') : wpAny (model prog w) A (compareOp (opOf o) a b) Q E s := by
  have hq : ∀ (c' : Bool), c' = c → Q (.bool c') s := fun c' e => e.symm ▸ h _ (.refl _)
  cases o with
  | eq =>
    rcases eqV_inv hc with ⟨i, j, rfl, rfl, e⟩ | ⟨i, j, rfl, rfl, e⟩
    · obtain ⟨t, rfl⟩ := hx; obtain ⟨u, rfl⟩ := hy
      exact PySem.P.eq_int (hq _ e)
    · obtain ⟨t, rfl, _⟩ := hx; obtain ⟨u, rfl, _⟩ := hy
      exact PySem.P.eq_str (hq _ (by rw [str_beq]; exact e))
  | ne =>
    obtain ⟨i, j, rfl, rfl, e⟩ := ii_inv hc
    obtain ⟨t, rfl⟩ := hx; obtain ⟨u, rfl⟩ := hy
    exact PySem.P.ne_int (hq _ (Option.some.inj e))
  | lt =>
    obtain ⟨i, j, rfl, rfl, e⟩ := ii_inv hc
    obtain ⟨t, rfl⟩ := hx; obtain ⟨u, rfl⟩ := hy
    exact PySem.P.lt_int (hq _ (Option.some.inj e))
  | gt =>
    obtain ⟨i, j, rfl, rfl, e⟩ := ii_inv hc
    obtain ⟨t, rfl⟩ := hx; obtain ⟨u, rfl⟩ := hy
    exact PySem.P.gt_int (hq _ (Option.some.inj e))
  | ge =>
    obtain ⟨i, j, rfl, rfl, e⟩ := ii_inv hc
    obtain ⟨t, rfl⟩ := hx; obtain ⟨u, rfl⟩ := hy
    exact PySem.P.ge_int (hq _ (Option.some.inj e))
  | isNone =>
    obtain ⟨rfl, e⟩ := noneV_inv hc
    cases hy
    refine is_none (hq _ ?_)
    rw [isNone_is hx, ← e]
    cases isN x <;> rfl
  | notNone =>
    obtain ⟨rfl, e⟩ := noneV_inv hc
    cases hy
    refine isNot_none (hq _ ?_)
    rw [isNone_is hx, ← e]
    cases isN x <;> rfl
  | mem =>
    obtain ⟨k, rfl, rfl, e⟩ := memV_inv hc
    obtain ⟨t, rfl, _⟩ := hx
    cases hy
    obtain ⟨f, hf, hs⟩ := G.tk
    have e : (f k).isSome = c := by
      rw [← e]
      cases q : tokGet k with
      | none => rw [(hs k).2 q]; rfl
      | some i => obtain ⟨u, e⟩ := (hs k).1 i q; rw [e]; rfl
    exact wpAny_in_of (strKind_is prog w k t) G.tks hf (by rw [e]; exact h _ .tk)
  | notMem =>
    obtain ⟨i, ys, ns, rfl, rfl, e, ec⟩ := notMemV_inv hc
    obtain ⟨t, rfl⟩ := hx
    obtain ⟨l, vs, rfl, il, rr, hz, hs, _⟩ := hy.isList
    have hi := ints_of e rr
    refine PySem.SeqInW.notIn_listW (items := vs) (fun y => match y with | .int j _ => j == i | _ => false) (fun y hy => ?_) il ?_
    · obtain ⟨j, u, rfl⟩ := intsAre_mem hi y (Array.mem_toList_iff.mpr hy)
      exact PySem.MeetsSeq.EqGives.int j i u t
    · rw [← Array.any_toList, intsAre_any hi i]; exact hq _ ec
theorem copOf_op {op : CmpOp} {r : Expr} {o : Cop} (h : copOf op r = some o) : op = (opOf o) := by
  have key : ∀ {p : Bool} {o' : Cop}, (if p then some o' else none) = some o → o = o' := fun {p o'} h => by
    cases p
    · cases h
    · exact (Option.some.inj h).symm
  cases op <;> first | (cases h; rfl) | (cases h; done) | (have := key h; subst this; rfl)
theorem cmp_ {op : CmpOp} {r : Expr} {o : Cop} {x y : AV} {a b : Value} {c : Bool} {Q : Value → Shared → Prop} {Γ : Gp} (G : GOK prog w Γ s.heap) (ho : copOf op r = some o) (hx : VR Γ.tokA (gX s.heap X) x a) (hy : VR Γ.tokA (gX s.heap X) y b)
    (hc : cmpV o x y = some c) (h : ∀ s', Ext s s' → Q (.bool c) s') : wpAny (model prog w) A (compareOp op a b) Q E s := by
  rw [copOf_op ho]; exact cmp1 G hx hy hc h

theorem add_lists_ {l b : Addr} {vs ws : Array Value} {Q : Value → Shared → Prop} (hl : s.heap.IsList l vs) (hb : s.heap.IsList b ws) (hz : vs.size + ws.size ≤ sizeLine)
    (h : Q (.ref s.heap.objs.size) { s with heap := s.heap.push { cls := .type "list", data := .seq (vs ++ ws) } }) : wpAny (model prog w) A (binaryOp .Add (.ref l) (.ref b)) Q E s := by
  obtain ⟨⟨c1, d1, dt1, sl1⟩, ho, hc, n, hd⟩ := id hl
  obtain ⟨⟨c2, d2, dt2, sl2⟩, ho2, hc2, n2, hd2⟩ := id hb
  dsimp only at hc hd hc2 hd2
  subst hc hd hc2 hd2
  exact concat_meets ⟨_, ho, rfl⟩ ⟨_, ho2, rfl⟩ noFill_list_add seq_list_add PySem.F.slot_list_add PySem.F.entry_list_add (PySem.F.args_list_add_2 _ _) (list_addW l b vs ws n n2 d1 d2 sl1 sl2 hz) ⟨ho, ho2, h⟩

noncomputable def bopTo : Bop → Operator
  | .add => .Add
  | .sub => .Sub
  | .mul => .Mult
  | .fdiv => .FloorDiv
  | .mod => .Mod
theorem bopOf_op {op : Operator} {o : Bop} (h : bopOf op = some o) : op = bopTo o := by
  cases op <;> first | (cases h; rfl) | cases h
theorem addV_inv {x y z : AV} (h : addV x y = some z) : (∃ i j, x = .int i ∧ y = .int j ∧ z = .int (i + j)) ∨ (∃ i j, x = .str i ∧ y = .str j ∧ i.length + j.length ≤ sizeLine ∧ z = .str (i ++ j)) ∨
    (∃ i j, x = .list i ∧ y = .list j ∧ i.length + j.length ≤ sizeLine ∧ z = .list (i ++ j)) := by
  cases x <;> first | (cases h; done) | skip
  · cases y <;> first | (cases h; done) | exact .inl ⟨_, _, rfl, rfl, (Option.some.inj h).symm⟩
  · cases y <;> first | (cases h; done) | skip
    unfold addV at h
    dsimp only at h
    split at h
    · rename_i hz; exact .inr (.inl ⟨_, _, rfl, rfl, hz, (Option.some.inj h).symm⟩)
    · cases h
  · cases y <;> first | (cases h; done) | skip
    unfold addV at h
    dsimp only at h
    split at h
    · rename_i hz; exact .inr (.inr ⟨_, _, rfl, rfl, hz, (Option.some.inj h).symm⟩)
    · cases h
theorem if_some {p : Prop} [Decidable p] {a z : AV} (h : (if p then some a else none) = some z) : p ∧ z = a := by
  split at h
  · rename_i hp; exact ⟨hp, (Option.some.inj h).symm⟩
  · cases h

theorem mulOk {a b : Int} (h : a.natAbs < 2 ^ 63 ∨ b.natAbs < 2 ^ 63) : IntMulOk a b := by
  rcases h with h | h
  · exact IntMulOk.of_left (intBits_le_64 (by omega) (by omega))
  · exact IntMulOk.of_right (intBits_le_64 (by omega) (by omega))

theorem fresh_not {h : Heap} {X : List Addr} (hX : ∀ a ∈ X, a < h.objs.size) : h.objs.size ∉ X := fun q => Nat.lt_irrefl _ (hX _ q)

/-- a list just made -/
theorem made_list {h h' : Heap} {X : List Addr} {xs : List AV} {vs : Array Value} {a : Addr} (hX : a ∉ X) (hk : ∀ b o, h.get? b = some o → h'.get? b = some o) (hl : h'.IsList a vs)
    (r : VRs tokA (gX h X) xs vs.toList) (hz : xs.length ≤ sizeLine) : VR tokA (gX h' X) (.list xs) (.ref a) := VR.ofList hl hX (r.mono (gX_sub hk)) hz

theorem str_app_len (x y : Str) : (x ++ y).length = x.length + y.length := strLen_append x y
theorem str_app_nil (x y : Str) (h : (x.length == 0) = true) : x ++ y = y := by
  obtain ⟨⟨a⟩⟩ := x
  obtain ⟨⟨b⟩⟩ := y
  have : a = [] := by simpa [Str.length] using h
  subst this
  show Str.mk (Array.mk [] ++ Array.mk b) = _
  simp
theorem str_app_nil' (x y : Str) (h : (y.length == 0) = true) : x ++ y = x := by
  obtain ⟨⟨a⟩⟩ := x
  obtain ⟨⟨b⟩⟩ := y
  have : b = [] := by simpa [Str.length] using h
  subst this
  show Str.mk (Array.mk a ++ Array.mk []) = _
  simp

theorem bin_ {op : Operator} {o : Bop} {x y z : AV} {a b : Value} {Q : Value → Shared → Prop} (ho : bopOf op = some o) (hX : ∀ a ∈ X, a < s.heap.objs.size) (hx : VR tokA (gX s.heap X) x a) (hy : VR tokA (gX s.heap X) y b)
    (hc : binV o x y = some z) (h : ∀ s' v', Ext s s' → VR tokA (gX s'.heap X) z v' → Q v' s') : wpAny (model prog w) A (binaryOp op a b) Q E s := by
  rw [bopOf_op ho]
  cases o with
  | add =>
    rcases addV_inv hc with ⟨i, j, rfl, rfl, rfl⟩ | ⟨i, j, rfl, rfl, hz, rfl⟩ | ⟨i, j, rfl, rfl, hz, rfl⟩
    · obtain ⟨t, rfl⟩ := hx; obtain ⟨u, rfl⟩ := hy
      exact PySem.P.add_int (h _ _ .tk ⟨_, rfl⟩)
    · obtain ⟨t, rfl, hx⟩ := hx; obtain ⟨u, rfl, hy⟩ := hy
      refine PySem.P.add_str ?_
      have hz' : (i ++ j).length ≤ sizeLine := by rw [str_app_len]; exact hz
      split
      · rename_i e
        exact h _ _ (.refl _) ⟨u, by rw [str_app_nil i j e], hz'⟩
      · split
        · rename_i e
          exact h _ _ (.refl _) ⟨t, by rw [str_app_nil' i j e], hz'⟩
        · exact ⟨hz', h _ _ .tk ⟨_, rfl, hz'⟩⟩
    · obtain ⟨l, vs, rfl, il, r, _, hs, _⟩ := hx.isList
      obtain ⟨l2, ws, rfl, il2, r2, _, hs2, _⟩ := hy.isList
      refine add_lists_ il il2 (by rw [hs, hs2]; exact hz) (h _ _ (.hp fun b o e => Heap.get?_push_of_some _ e) ?_)
      exact made_list (fresh_not hX) (fun b o e => Heap.get?_push_of_some _ e) ⟨_, Heap.get?_push_size _ rfl, rfl, 0, rfl⟩ (by rw [Array.toList_append]; exact r.append r2) (by rw [List.length_append]; exact hz)
  | sub =>
    obtain ⟨i, j, rfl, rfl, e⟩ := ii_inv hc
    obtain ⟨t, rfl⟩ := hx; obtain ⟨u, rfl⟩ := hy
    cases e
    exact PySem.P.sub_int (h _ _ .tk ⟨_, rfl⟩)
  | mul =>
    obtain ⟨i, j, rfl, rfl, e⟩ := ii_inv hc
    obtain ⟨t, rfl⟩ := hx; obtain ⟨u, rfl⟩ := hy
    obtain ⟨hz, rfl⟩ := if_some e
    exact PySem.P.mul_int (h _ _ .tk ⟨_, rfl⟩) (mulOk hz)
  | fdiv =>
    obtain ⟨i, j, rfl, rfl, e⟩ := ii_inv hc
    obtain ⟨t, rfl⟩ := hx; obtain ⟨u, rfl⟩ := hy
    obtain ⟨hz, rfl⟩ := if_some e
    exact PyProof.Rows.floordiv_int hz.1 (h _ _ .tk ⟨_, rfl⟩) (.inl (PyProof.noPylong_small hz.2))
  | mod =>
    obtain ⟨i, j, rfl, rfl, e⟩ := ii_inv hc
    obtain ⟨t, rfl⟩ := hx; obtain ⟨u, rfl⟩ := hy
    obtain ⟨hz, rfl⟩ := if_some e
    exact PyProof.Rows.mod_int hz (h _ _ .tk ⟨_, rfl⟩)
end

end Mine

namespace Mine

noncomputable def biVal : Bi → Value
  | .len => .builtin "len"
  | .min2 | .min3 | .minL => .builtin "min"
  | .sumL => .builtin "sum"
  | .toInt => .type "int"
  | .rangeL => .none

theorem intItems_of {vs : List Value} {ns : List Int} (h : IntsAre vs ns) : ∃ xs : Array (Int × Tok), intItems xs = vs.toArray ∧ xs.toList.map (·.1) = ns := by
  induction h with
  | nil => exact ⟨#[], by simp [intItems], rfl⟩
  | cons n t _ ih =>
    obtain ⟨xs, e1, e2⟩ := ih
    refine ⟨((n, t) :: xs.toList).toArray, ?_, by simp [e2]⟩
    simp only [intItems, List.map_toArray, List.map_cons]
    have : xs.toList.map (fun p => Value.int p.1 p.2) = (intItems xs).toList := by simp [intItems]
    rw [this, e1]

theorem numAt_list (xs : Array (Int × Tok)) (i : Nat) (h : i < xs.size) : (xs.toList.map (·.1))[i]? = some (numAt xs i) := by
  simp [numAt, h]

theorem preSum_take (xs : Array (Int × Tok)) : ∀ k, k ≤ xs.size → preSum (numAt xs) k = ((xs.toList.map (·.1)).take k).sum
  | 0, _ => by simp [preSum]
  | k + 1, h => by
    rw [preSum, preSum_take xs k (by (first | lia | omega)), List.take_add_one, numAt_list xs k (by (first | lia | omega))]
    simp [List.sum_append]
theorem preSum_all (xs : Array (Int × Tok)) (ns : List Int) (e : xs.toList.map (·.1) = ns) : preSum (numAt xs) xs.size = ns.sum := by
  rw [preSum_take xs _ (Nat.le_refl _), e, List.take_of_length_le]
  rw [← e]; simp

theorem minI_mem : ∀ (r : List Int) (a : Int), (r.foldl (fun m b => if b < m then b else m) a) ∈ a :: r ∧ ∀ x ∈ a :: r, (r.foldl (fun m b => if b < m then b else m) a) ≤ x
  | [], a => ⟨by simp, by simp⟩
  | b :: r, a => by
    rw [List.foldl_cons]
    by_cases hb : b < a
    · rw [if_pos hb]
      obtain ⟨h1, h2⟩ := minI_mem r b
      refine ⟨List.mem_cons_of_mem _ h1, fun x hx => ?_⟩
      rcases List.mem_cons.mp hx with rfl | hx
      · exact Int.le_trans (h2 b (by simp)) (by (first | lia | omega))
      · exact h2 x hx
    · rw [if_neg hb]
      obtain ⟨h1, h2⟩ := minI_mem r a
      refine ⟨?_, fun x hx => ?_⟩
      · rcases List.mem_cons.mp h1 with h | h
        · rw [h]; simp
        · exact List.mem_cons_of_mem _ (List.mem_cons_of_mem _ h)
      · rcases List.mem_cons.mp hx with rfl | hx
        · exact h2 _ (by simp)
        · rcases List.mem_cons.mp hx with rfl | hx
          · exact Int.le_trans (h2 a (by simp)) (by (first | lia | omega))
          · exact h2 x (List.mem_cons_of_mem _ hx)
theorem minI_is {ns : List Int} {m k : Int} (h : minI ns = some m) (hk : k ∈ ns) (hl : ∀ x ∈ ns, k ≤ x) : k = m := by
  cases ns with
  | nil => cases h
  | cons a r =>
    have h' : m = _ := (Option.some.inj h).symm
    obtain ⟨h1, h2⟩ := minI_mem r a
    have e1 := hl _ h1
    have e2 := h2 _ hk
    rw [h']; (first | lia | omega)

section
variable {tokA : Addr} {g : Look}
theorem VRs.one {x : AV} {vs : List Value} (h : VRs tokA g [x] vs) : ∃ v, vs = [v] ∧ VR tokA g x v := by
  cases vs with
  | nil => exact h.elim
  | cons v r => cases r with
    | nil => exact ⟨v, rfl, h.1⟩
    | cons _ _ => exact h.2.elim
theorem VRs.two {x y : AV} {vs : List Value} (h : VRs tokA g [x, y] vs) : ∃ v u, vs = [v, u] ∧ VR tokA g x v ∧ VR tokA g y u := by
  cases vs with
  | nil => exact h.elim
  | cons v r =>
    obtain ⟨u, rfl, h2⟩ := VRs.one h.2
    exact ⟨v, u, rfl, h.1, h2⟩
theorem VRs.three {x y z : AV} {vs : List Value} (h : VRs tokA g [x, y, z] vs) : ∃ v u t, vs = [v, u, t] ∧ VR tokA g x v ∧ VR tokA g y u ∧ VR tokA g z t := by
  cases vs with
  | nil => exact h.elim
  | cons v r =>
    obtain ⟨u, t, rfl, h2, h3⟩ := VRs.two h.2
    exact ⟨v, u, t, rfl, h.1, h2, h3⟩
end

section
variable {prog : Program} {w : World} {A : Around} {E : Value → Shared → Prop} {s : Shared} {tokA : Addr} {X : List Addr}

theorem l1_inv {β : Type} {g : AV → Option β} {as : List AV} {z : β} (h : l1 g as = some z) : ∃ a, as = [a] ∧ g a = some z := by
  match as, h with
  | [a], h => exact ⟨a, rfl, h⟩
theorem l2_inv {β : Type} {g : AV → AV → Option β} {as : List AV} {z : β} (h : l2 g as = some z) : ∃ a b, as = [a, b] ∧ g a b = some z := by
  match as, h with
  | [a, b], h => exact ⟨a, b, rfl, h⟩
theorem l3_inv {β : Type} {g : AV → AV → AV → Option β} {as : List AV} {z : β} (h : l3 g as = some z) : ∃ a b c, as = [a, b, c] ∧ g a b c = some z := by
  match as, h with
  | [a, b, c], h => exact ⟨a, b, c, rfl, h⟩
theorem i3_inv {β : Type} {g : Int → Int → Int → Option β} {x y z : AV} {c : β} (h : i3 g x y z = some c) : ∃ i j k, x = .int i ∧ y = .int j ∧ z = .int k ∧ g i j k = some c := by
  cases x <;> first | (cases h; done) | skip
  cases y <;> first | (cases h; done) | skip
  cases z <;> first | (cases h; done) | exact ⟨_, _, _, rfl, rfl, rfl, h⟩
theorem nsV_inv {β : Type} {g : List Int → Option β} {x : AV} {c : β} (h : nsV g x = some c) : ∃ xs ns, x = .list xs ∧ ints? xs = some ns ∧ g ns = some c := by
  cases x <;> first | (cases h; done) | skip
  obtain ⟨ns, e, h⟩ := Option.bind_eq_some_iff.mp h
  exact ⟨_, ns, rfl, e, h⟩
theorem lenV_inv {x z : AV} (h : lenV x = some z) : (∃ y, x = .str y ∧ z = .int y.length) ∨ (∃ xs, x = .list xs ∧ z = .int xs.length) := by
  cases x <;> first | (cases h; done) | exact .inl ⟨_, rfl, (Option.some.inj h).symm⟩ | exact .inr ⟨_, rfl, (Option.some.inj h).symm⟩
theorem bi_ {b : Bi} {as : List AV} {vs : List Value} {z : AV} {Q : Value → Shared → Prop} (hh : A.handled = none) (hv : VRs tokA (gX s.heap X) as vs) (hb : biV b as = some z) (hne : b ≠ .rangeL)
    (h : ∀ s' v', Ext s s' → VR tokA (gX s'.heap X) z v' → Q v' s') : wpAny (model prog w) A (call (biVal b) vs) Q E s := by
  cases b with
  | len =>
    obtain ⟨a, rfl, hb⟩ := l1_inv hb
    rcases lenV_inv hb with ⟨x, rfl, rfl⟩ | ⟨xs, rfl, rfl⟩
    · obtain ⟨v, rfl, t, rfl, hz⟩ := hv.one
      exact PySem.P.len_str (by have := lt63 hz; omega) (h _ _ .tk ⟨_, rfl⟩)
    · obtain ⟨v, rfl, hx⟩ := hv.one
      obtain ⟨l, us, rfl, il, r, hz, hs, _⟩ := hx.isList
      exact call_len_list il (by rw [hs]; exact lt63 hz) (h _ _ .tk ⟨_, by rw [hs]⟩)
  | min2 =>
    obtain ⟨x, y, rfl, hb⟩ := l2_inv hb
    obtain ⟨a, b, rfl, rfl, hb⟩ := ii_inv hb
    obtain ⟨_, _, rfl, ⟨t, rfl⟩, ⟨u, rfl⟩⟩ := hv.two
    cases hb
    refine min_two_ints hh fun h' tk hk => h _ _ (.mk' hk) ?_
    split
    · exact ⟨u, rfl⟩
    · exact ⟨t, rfl⟩
  | min3 =>
    obtain ⟨x, y, z, rfl, hb⟩ := l3_inv hb
    obtain ⟨a, b, c, rfl, rfl, rfl, hb⟩ := i3_inv hb
    obtain ⟨_, _, _, rfl, ⟨t, rfl⟩, ⟨u, rfl⟩, ⟨v, rfl⟩⟩ := hv.three
    cases hb
    refine min_three_ints hh fun h' tk hk => h _ _ (.mk' hk) ?_
    split <;> split
    · exact ⟨v, rfl⟩
    · exact ⟨u, rfl⟩
    · exact ⟨v, rfl⟩
    · exact ⟨t, rfl⟩
  | minL =>
    obtain ⟨x, rfl, hb⟩ := l1_inv hb
    obtain ⟨xs, ns, rfl, e, hb⟩ := nsV_inv hb
    obtain ⟨v, rfl, hx⟩ := hv.one
    obtain ⟨l, us, rfl, il, r, hz, hs, _⟩ := hx.isList
    obtain ⟨m, em, rfl⟩ := Option.map_eq_some_iff.mp hb
    obtain ⟨ps, e1, e2⟩ := intItems_of (ints_of e r)
    have il' : s.heap.IsList l (intItems ps) := by rw [e1]; simpa using il
    have hne : 0 < ps.size := by
      cases q : ps.size with
      | zero =>
        have : ps.toList = [] := by simpa using q
        rw [this] at e2; subst e2; cases em
      | succ n => exact Nat.succ_pos n
    refine min_intList hh il' hne fun v h' tk hv hk => ?_
    obtain ⟨t, rfl⟩ := intItems_at hv
    obtain ⟨h1, h2⟩ := argBest_lt (numAt ps) (ps.size - 1)
    refine h _ _ (.mk' hk) ⟨t, ?_⟩
    congr 1
    refine minI_is em ?_ fun x hx => ?_
    · rw [← e2]; exact List.mem_of_getElem? (numAt_list ps _ (by omega))
    · rw [← e2] at hx
      obtain ⟨i, hi⟩ := List.getElem?_of_mem hx
      have hil : i < ps.size := by
        have := (List.getElem?_eq_some_iff.mp hi).1
        simpa using this
      have := numAt_list ps i hil
      rw [hi] at this
      rw [Option.some.inj this]
      exact h2 i (by omega)
  | sumL =>
    obtain ⟨x, rfl, hb⟩ := l1_inv hb
    obtain ⟨xs, ns, rfl, e, hb⟩ := nsV_inv hb
    obtain ⟨v, rfl, hx⟩ := hv.one
    obtain ⟨l, us, rfl, il, r, hz, hs, _⟩ := hx.isList
    cases hb
    obtain ⟨ps, e1, e2⟩ := intItems_of (ints_of e r)
    have il' : s.heap.IsList l (intItems ps) := by rw [e1]; simpa using il
    refine call_sum_walkG (iter_intList il' fun s₂ e st hfp hlI => ?_)
    subst e
    refine ⟨_, _, _, _, _, _, numAt ps, rfl, Walks.list (A := A.in1) hh _ l hlI (intItems ps), st, hfp, (fun _ _ => intItems_at), fun h' tk t' hk => ?_⟩
    have e3 : (intItems ps).size = ps.size := by simp [intItems]
    rw [e3, preSum_all ps ns e2]
    exact h _ _ (.mk' (old_kept hk)) ⟨t', rfl⟩
  | toInt =>
    obtain ⟨x, rfl, hb⟩ := l1_inv hb
    obtain ⟨_, rfl, hx⟩ := hv.one
    cases x <;> first | (cases hb; done) | skip
    obtain ⟨t, rfl⟩ := hx
    cases hb
    exact call_int_int (h _ _ (.refl _) ⟨_, rfl⟩)
  | rangeL => exact absurd rfl hne

theorem itemsOf_range {n : Nat} {a c : Int} {acc : Array Value} {g : Look} (h : ItemsOf (fun i v => ∃ t, v = Value.int (a + (i : Int) * c) t) acc n) : VRs tokA g (rangeL a n c) acc.toList := by
  obtain ⟨hs, hv⟩ := h
  have key : ∀ (k : Nat) (vs : List Value) (j : Nat), vs.length = k → (∀ i v, vs[i]? = some v → ∃ t, v = Value.int (a + ((j + i : Nat) : Int) * c) t) →
      VRs tokA g ((List.range' j k).map fun (i : Nat) => AV.int (a + (i : Int) * c)) vs := by
    intro k
    induction k with
    | zero => intro vs j hl _; rw [List.length_eq_zero_iff.mp hl]; trivial
    | succ k ih =>
      intro vs j hl hv
      cases vs with
      | nil => cases hl
      | cons v vs =>
        rw [List.range'_succ, List.map_cons]
        refine ⟨?_, ih vs (j + 1) (by simpa using hl) fun i u hu => ?_⟩
        · obtain ⟨t, e⟩ := hv 0 v rfl
          exact ⟨t, by rw [e]; simp⟩
        · obtain ⟨t, e⟩ := hv (i + 1) u (by simpa using hu)
          exact ⟨t, by rw [e, show j + (i + 1) = j + 1 + i by (first | lia | omega)]⟩
  have := key n acc.toList 0 (by simpa using hs) fun i v e => by
    obtain ⟨t, e'⟩ := hv i v (by simpa using e)
    exact ⟨t, by rw [e']; simp⟩
  unfold rangeL
  rw [Int.toNat_natCast, List.range_eq_range']
  exact this

end
end Mine

namespace Mine

noncomputable def Live (X : List Addr) (h : Heap) : Prop := ∀ a ∈ X, ∃ o, h.get? a = some o
theorem Live.keeps {X : List Addr} {h h' : Heap} (l : Live X h) (hk : ∀ b o, h.get? b = some o → h'.get? b = some o) : Live X h' := fun a ha => let ⟨o, e⟩ := l a ha; ⟨o, hk _ _ e⟩
theorem Live.lt {X : List Addr} {h : Heap} (l : Live X h) : ∀ a ∈ X, a < h.objs.size := fun a ha => let ⟨_, e⟩ := l a ha; Heap.lt_size e
theorem Live.fresh {X : List Addr} {h : Heap} (l : Live X h) : h.objs.size ∉ X := fun q => Nat.lt_irrefl _ (l.lt _ q)

theorem findS_spec {x : Str} {f : Nat} : ∀ {l : List String} {n : Nat}, findS x l n = some f → ∃ y, n ≤ f ∧ l[f - n]? = some y ∧ x = Str.ofString y
  | [], _, h => by cases h
  | y :: r, n, h => by
    rewrite [qFi] at h
    split at h
    · rename_i e; cases h; exact ⟨y, Nat.le_refl _, by simp, e⟩
    · obtain ⟨z, h1, h2, h3⟩ := findS_spec h
      refine ⟨z, by (first | lia | omega), ?_, h3⟩
      rw [show f - n = (f - (n + 1)) + 1 by (first | lia | omega)]; simpa using h2
theorem gfun_spec {x : Str} {f : Nat} (h : gfun x = some f) : ∃ y, gnames[f]? = some y ∧ x = Str.ofString y := by
  obtain ⟨y, _, h2, h3⟩ := findS_spec h
  exact ⟨y, by simpa using h2, h3⟩

theorem theFun_some : ∀ y ∈ gnames, (theFun (Str.ofString y) body0).isSome = true := by decide +kernel

section
variable (prog : Program) (w : World) (Γ : Gp) (n : Nat) (C : Nat → List AV → Option AV)

noncomputable def SemCall (f : Nat) (args : List AV) (r : AV) : Prop :=
  ∀ (y : String), gnames[f]? = some y → ∀ (a : Addr), Γ.mg (Str.ofString y) = some (.ref a) → ∀ (A : Around) (X : List Addr) (s : Shared) (vs : List Value) (Q : Value → Shared → Prop) (E : Value → Shared → Prop),
    Ao n A → GOK prog w Γ s.heap → Live X s.heap → VRs Γ.tokA (gX s.heap X) args vs → (∀ s' v', Ext s s' → VR Γ.tokA (gX s'.heap X) r v' → Q v' s') → wpAny (model prog w) A (call (.ref a) vs) Q E s
noncomputable def CallsOK : Prop := ∀ f args r, C f args = some r → SemCall prog w Γ n f args r

structure Cx (A : Around) (env : Env) (sc : Sc) (ρ : Loc) (X : List Addr) (s : Shared) : Prop where
  ao : Ao n A
  g : GOK prog w Γ s.heap
  e : EnvOK Γ.tokA env sc ρ X s.heap
  l : Live X s.heap
variable {prog w Γ n} in
theorem Cx.ext {A : Around} {env : Env} {sc : Sc} {ρ : Loc} {X : List Addr} {s s' : Shared} (c : Cx prog w Γ n A env sc ρ X s) (x : Ext s s') : Cx prog w Γ n A env sc ρ X s' :=
  ⟨c.ao, c.g.keeps x.heap, c.e.keeps x.heap, c.l.keeps x.heap⟩

noncomputable def SndE (sc : Sc) (e : Expr) (p : PE) : Prop := ∀ (env : Env) (ρ : Loc) (v : AV) (A : Around) (X : List Addr) (s : Shared) (Q : Value → Shared → Prop) (E : Value → Shared → Prop),
  evE C p ρ = some v → Cx prog w Γ n A env sc ρ X s → (∀ s' v', Ext s s' → VR Γ.tokA (gX s'.heap X) v v' → Q v' s') → wpAny (model prog w) A (eval e env) Q E s
end

section
variable {prog : Program} {w : World} {Γ : Gp} {n : Nat} {C : Nat → List AV → Option AV} {A : Around} {env : Env} {sc : Sc} {ρ : Loc} {X : List Addr} {s : Shared} {E : Value → Shared → Prop}

theorem VR.ext {tokA : Addr} {x : AV} {v : Value} {s s' : Shared} (h : VR tokA (gX s.heap X) x v) (e : Ext s s') : VR tokA (gX s'.heap X) x v := h.mono (gX_sub e.heap)
theorem VRs.ext {tokA : Addr} {x : List AV} {v : List Value} {s s' : Shared} (h : VRs tokA (gX s.heap X) x v) (e : Ext s s') : VRs tokA (gX s'.heap X) x v := h.mono (gX_sub e.heap)

theorem glob_builtin {x : String} {pos : Pos} {fv : Value} {Q : Value → Shared → Prop} (c : Cx prog w Γ n A env sc ρ X s) (hx : isGlob sc (Str.ofString x) = true) (hm : (x, fv) ∈ bnames) (h : Q fv s) :
    wpAny (model prog w) A (eval (.Name (Str.ofString x) pos) env) Q E s := by
  obtain ⟨h1, h2⟩ := c.g.bi _ hm
  have hd : (Str.ofString x == ("__debug__" : Str)) = false := by
    revert hm; unfold bnames; intro hm
    have : ∀ p ∈ bnames, (Str.ofString p.1 == ("__debug__" : Str)) = false := by decide +kernel
    exact this _ hm
  exact Name_function_global c.e.kind (c.e.kinds _ (by simpa [isGlob] using hx)) (loadGlobal_builtin (by rw [c.e.gl]; exact c.g.g) h1 (by rw [c.e.bu]; exact c.g.b) h2 h) hd

theorem glob_fun {x : Str} {f : Nat} {pos : Pos} {Q : Value → Shared → Prop} (c : Cx prog w Γ n A env sc ρ X s) (hx : isGlob sc x = true) (hm : gfun x = some f)
    (h : ∀ y a o fd, gnames[f]? = some y → Γ.mg (Str.ofString y) = some (.ref a) → s.heap.get? a = some o → o.data = .func fd → Q (.ref a) s) :
    wpAny (model prog w) A (eval (.Name x pos) env) Q E s := by
  obtain ⟨y, hy, rfl⟩ := gfun_spec hm
  have hmem : y ∈ gnames := List.mem_of_getElem? hy
  have hs := theFun_some y hmem
  obtain ⟨⟨ps, b, sc'⟩, ht⟩ := Option.isSome_iff_exists.mp hs
  obtain ⟨a, o, pm, cd, doc, h1, h2, h3, _⟩ := c.g.fns _ _ _ _ ht
  have hd : (Str.ofString y == ("__debug__" : Str)) = false := by
    have : ∀ y ∈ gnames, (Str.ofString y == ("__debug__" : Str)) = false := by decide +kernel
    exact this _ hmem
  exact Name_function_global c.e.kind (c.e.kinds _ (by simpa [isGlob] using hx)) (loadGlobal_global (by rw [c.e.gl]; exact c.g.g) h1 (h y a o _ hy h1 h2 h3)) hd

theorem star_not {e : Expr} {r : List Expr} (h : ∀ v p, e ≠ .Starred v p) : starEach (e :: r) env = (false, eval e env) :: starEach r env := by
  cases e <;> first | rfl | exact absurd rfl (h _ _)

/-- the arguments, one by one -/
theorem args_ {f : Expr → Option PE} (hs : ∀ e p, f e = some p → SndE prog w Γ n C sc e p) (hst : ∀ e p, f e = some p → ∀ v q, e ≠ .Starred v q) {pos : Pos} :
    ∀ {es : List Expr} {ps : PEs} {vs : List AV} {s : Shared} {Q : List Value → Shared → Prop}, mapEs f es = some ps → evEs C ps ρ = some vs → Cx prog w Γ n A env sc ρ X s →
      (∀ s' us, Ext s s' → VRs Γ.tokA (gX s'.heap X) vs us → Q us s') → wpAny (model prog w) A (spliced (backTo pos (starEach es env))) Q E s := by
  intro es
  induction es with
  | nil =>
    intro ps vs s Q hm hv c h
    cases hm
    cases hv
    exact spliced_nil (h _ _ (.refl _) trivial)
  | cons e r ih =>
    intro ps vs s Q hm hv c h
    simp only [qMap, Option.bind_eq_some_iff, Option.map_eq_some_iff] at hm
    obtain ⟨p, hp, q, hq, rfl⟩ := hm
    simp only [qEs1,qEs2, Option.bind_eq_some_iff, Option.map_eq_some_iff] at hv
    obtain ⟨v, hv, us, hus, rfl⟩ := hv
    rw [star_not (hst _ _ hp)]
    show wpAny _ A (spliced ((false, eval e env) :: backTo pos (starEach r env))) Q E s
    refine spliced_cons (hs _ _ hp env ρ v A X s _ _ hv c fun s₁ v' x₁ r₁ => ?_)
    refine ih hq hus (c.ext x₁) fun s₂ us' x₂ r₂ => h _ _ (x₁.trans x₂) ⟨r₁.ext x₂, r₂⟩

theorem any_star {f : Expr → Option PE} (hst : ∀ e p, f e = some p → ∀ v q, e ≠ .Starred v q) {pos : Pos} : ∀ {es : List Expr} {ps : PEs}, mapEs f es = some ps → (backTo pos (starEach es env)).any (·.1) = false := by
  intro es
  induction es with
  | nil => intro ps _; rfl
  | cons e r ih =>
    intro ps hm
    simp only [qMap, Option.bind_eq_some_iff, Option.map_eq_some_iff] at hm
    obtain ⟨p, hp, q, hq, rfl⟩ := hm
    rw [star_not (hst _ _ hp)]
    show (false || (backTo pos (starEach r env)).any (·.1)) = false
    rw [ih hq]; rfl

end
end Mine

namespace Mine
section
variable {prog : Program} {w : World} {Γ : Gp} {n : Nat} {C : Nat → List AV → Option AV} {sc : Sc}

theorem snd_none {k pos} : SndE prog w Γ n C sc (.Constant .none k pos) (.lit .none) := fun env ρ v A X s Q E hv c h => by
  cases hv; exact Constant_none (h _ _ (.refl _) rfl)
theorem snd_int {i k pos} : SndE prog w Γ n C sc (.Constant (.int i) k pos) (.lit (.int i)) := fun env ρ v A X s Q E hv c h => by
  cases hv; exact wpAny_Constant_int (h _ _ .tk ⟨_, rfl⟩)
theorem snd_str {x k pos} (hz : x.length ≤ 1000) : SndE prog w Γ n C sc (.Constant (.str x) k pos) (.lit (.str x)) := fun env ρ v A X s Q E hv c h => by
  cases hv; exact Constant_str (h _ _ .tk ⟨_, rfl, by rw [sizeLine_eq]; (first | lia | omega)⟩)

theorem valAt_spec {ρ : Loc} {i : Nat} {v : AV} (h : valAt ρ i = some v) : ρ[i]? = some (.val v) := by
  unfold valAt at h
  split at h
  · rename_i e; cases h; exact e
  · cases h

theorem snd_var {x : Str} {pos : Pos} {i : Nat} (hi : sc.idx x = some i) (hk : sc.kind x = some .local ∨ sc.kind x = some .cell ∨ sc.kind x = some .free) (hd : x ≠ "__debug__") :
    SndE prog w Γ n C sc (.Name x pos) (.var i) := fun env ρ v A X s Q E hv c h => by
  obtain ⟨v', l, r⟩ := c.e.val x i v hi hk (valAt_spec hv)
  exact loads_ c.e.kind l (h _ _ (.refl _) r) (by simpa using hd)
theorem snd_glob {x : Str} {pos : Pos} {v : AV} (hk : sc.kind x = some .globalImplicit) (hg : gconst x = some v) (hd : x ≠ "__debug__") : SndE prog w Γ n C sc (.Name x pos) (.lit v) := fun env ρ v A X s Q E hv c h => by
  cases hv
  obtain ⟨v', h1, h2⟩ := c.g.cst _ _ hg
  exact Name_function_global c.e.kind (c.e.kinds _ hk) (loadGlobal_global (by rw [c.e.gl]; exact c.g.g) h1 (h _ _ (.refl _) (h2 _))) (by simpa using hd)

theorem snd_and {a b : Expr} {p q : PE} {pos : Pos} (ha : SndE prog w Γ n C sc a p) (hb : SndE prog w Γ n C sc b q) : SndE prog w Γ n C sc (.BoolOp .And [a, b] pos) (.and p q) := fun env ρ v A X s Q E hv c h => by
  simp only [qE1,qE2,qE3,qE4,qE5,qE6,qE7,qE8,qE9,qE10,qE11,qE0,qE12,qE13,qE14,qE15,qE16,qE17,qE18,qE19,qE20, Option.bind_eq_some_iff] at hv
  obtain ⟨u, hu, t, ht, hv⟩ := hv
  refine BoolOp_and (ha env ρ u A X s _ _ hu c fun s₁ u' x₁ r₁ => truth_ r₁ ht fun s₂ x₂ => ?_)
  cases t with
  | false => simp only [Bool.false_eq_true, if_false] at hv ⊢; cases hv; exact h _ _ (x₁.trans x₂) (r₁.ext x₂)
  | true => simp only [if_true] at hv ⊢; exact BoolOp_one (hb env ρ v A X s₂ _ _ hv ((c.ext x₁).ext x₂) fun s₃ v' x₃ r₃ => h _ _ ((x₁.trans x₂).trans x₃) r₃)
theorem snd_or {a b : Expr} {p q : PE} {pos : Pos} (ha : SndE prog w Γ n C sc a p) (hb : SndE prog w Γ n C sc b q) : SndE prog w Γ n C sc (.BoolOp .Or [a, b] pos) (.or p q) := fun env ρ v A X s Q E hv c h => by
  simp only [qE1,qE2,qE3,qE4,qE5,qE6,qE7,qE8,qE9,qE10,qE11,qE0,qE12,qE13,qE14,qE15,qE16,qE17,qE18,qE19,qE20, Option.bind_eq_some_iff] at hv
  obtain ⟨u, hu, t, ht, hv⟩ := hv
  refine BoolOp_or (ha env ρ u A X s _ _ hu c fun s₁ u' x₁ r₁ => truth_ r₁ ht fun s₂ x₂ => ?_)
  cases t with
  | true => simp only [if_true] at hv ⊢; cases hv; exact h _ _ (x₁.trans x₂) (r₁.ext x₂)
  | false => simp only [Bool.false_eq_true, if_false] at hv ⊢; exact BoolOp_one (hb env ρ v A X s₂ _ _ hv ((c.ext x₁).ext x₂) fun s₃ v' x₃ r₃ => h _ _ ((x₁.trans x₂).trans x₃) r₃)
theorem snd_and3 {a b e : Expr} {p q r : PE} {pos : Pos} (ha : SndE prog w Γ n C sc a p) (hb : SndE prog w Γ n C sc b q) (he : SndE prog w Γ n C sc e r) : SndE prog w Γ n C sc (.BoolOp .And [a, b, e] pos) (.and p (.and q r)) := fun env ρ v A X s Q E hv c h => by
  simp only [qE1,qE2,qE3,qE4,qE5,qE6,qE7,qE8,qE9,qE10,qE11,qE0,qE12,qE13,qE14,qE15,qE16,qE17,qE18,qE19,qE20, Option.bind_eq_some_iff] at hv
  obtain ⟨u, hu, t, ht, hv⟩ := hv
  refine BoolOp_and (ha env ρ u A X s _ _ hu c fun s₁ u' x₁ r₁ => truth_ r₁ ht fun s₂ x₂ => ?_)
  cases t with
  | false => simp only [Bool.false_eq_true, if_false] at hv ⊢; cases hv; exact h _ _ (x₁.trans x₂) (r₁.ext x₂)
  | true =>
    simp only [if_true, Option.bind_eq_some_iff] at hv ⊢
    exact snd_and hb he env ρ v A X s₂ Q E (by simp only [qE1,qE2,qE3,qE4,qE5,qE6,qE7,qE8,qE9,qE10,qE11,qE0,qE12,qE13,qE14,qE15,qE16,qE17,qE18,qE19,qE20, Option.bind_eq_some_iff]; exact hv) ((c.ext x₁).ext x₂) fun s₃ v' x₃ r₃ => h _ _ ((x₁.trans x₂).trans x₃) r₃

theorem snd_not {a : Expr} {p : PE} {pos : Pos} (ha : SndE prog w Γ n C sc a p) : SndE prog w Γ n C sc (.UnaryOp .Not a pos) (.not p) := fun env ρ v A X s Q E hv c h => by
  simp only [qE1,qE2,qE3,qE4,qE5,qE6,qE7,qE8,qE9,qE10,qE11,qE0,qE12,qE13,qE14,qE15,qE16,qE17,qE18,qE19,qE20, Option.bind_eq_some_iff, Option.map_eq_some_iff] at hv
  obtain ⟨u, hu, t, ht, rfl⟩ := hv
  exact UnaryOp_ (ha env ρ u A X s _ _ hu c fun s₁ u' x₁ r₁ => not_of (truth_ r₁ ht fun s₂ x₂ => h _ _ (x₁.trans x₂) rfl))
theorem snd_neg {a : Expr} {p : PE} {pos : Pos} (ha : SndE prog w Γ n C sc a p) : SndE prog w Γ n C sc (.UnaryOp .USub a pos) (.neg p) := fun env ρ v A X s Q E hv c h => by
  simp only [qE1,qE2,qE3,qE4,qE5,qE6,qE7,qE8,qE9,qE10,qE11,qE0,qE12,qE13,qE14,qE15,qE16,qE17,qE18,qE19,qE20, Option.bind_eq_some_iff] at hv
  obtain ⟨u, hu, hv⟩ := hv
  cases u <;> first | (cases hv; done) | skip
  cases hv
  refine UnaryOp_ (ha env ρ _ A X s _ _ hu c fun s₁ u' x₁ r₁ => ?_)
  obtain ⟨t, rfl⟩ := r₁
  exact PySem.P.neg_int (h _ _ (x₁.trans .tk) ⟨_, rfl⟩)

theorem snd_cmp {op : CmpOp} {l r : Expr} {o : Cop} {p q : PE} {pos : Pos} (ho : copOf op r = some o) (hr : behindInMarks op r = false) (ha : SndE prog w Γ n C sc l p) (hb : SndE prog w Γ n C sc r q) :
    SndE prog w Γ n C sc (.Compare l [op] [r] pos) (.cmp o p q) := fun env ρ v A X s Q E hv c h => by
  simp only [qE1,qE2,qE3,qE4,qE5,qE6,qE7,qE8,qE9,qE10,qE11,qE0,qE12,qE13,qE14,qE15,qE16,qE17,qE18,qE19,qE20, Option.bind_eq_some_iff, Option.map_eq_some_iff] at hv
  obtain ⟨u, hu, t, ht, b, hb', rfl⟩ := hv
  refine wpAny_Compare1 (ha env ρ u A X s _ _ hu c fun s₁ u' x₁ r₁ => hb env ρ t A X s₁ _ _ ht (c.ext x₁) fun s₂ t' x₂ r₂ => ?_) hr
  exact cmp_ ((c.ext x₁).ext x₂).g ho (r₁.ext x₂) r₂ hb' fun s₃ x₃ => h _ _ ((x₁.trans x₂).trans x₃) rfl

theorem snd_bin {op : Operator} {l r : Expr} {o : Bop} {p q : PE} {pos : Pos} (ho : bopOf op = some o) (ha : SndE prog w Γ n C sc l p) (hb : SndE prog w Γ n C sc r q) :
    SndE prog w Γ n C sc (.BinOp l op r pos) (.bin o p q) := fun env ρ v A X s Q E hv c h => by
  simp only [qE1,qE2,qE3,qE4,qE5,qE6,qE7,qE8,qE9,qE10,qE11,qE0,qE12,qE13,qE14,qE15,qE16,qE17,qE18,qE19,qE20, Option.bind_eq_some_iff] at hv
  obtain ⟨u, hu, t, ht, hv⟩ := hv
  refine wpAny_BinOp (ha env ρ u A X s _ _ hu c fun s₁ u' x₁ r₁ => hb env ρ t A X s₁ _ _ ht (c.ext x₁) fun s₂ t' x₂ r₂ => ?_)
  exact bin_ ho ((c.ext x₁).ext x₂).l.lt (r₁.ext x₂) r₂ hv fun s₃ v' x₃ r₃ => h _ _ ((x₁.trans x₂).trans x₃) r₃

theorem snd_pow {a m : Int} {k k' p p' pos} (h0 : 0 ≤ m ∧ m ≤ 100 ∧ a.natAbs < 1000) : SndE prog w Γ n C sc (.BinOp (.Constant (.int a) k p) .Pow (.Constant (.int m) k' p') pos) (.lit (.int (a ^ m.toNat))) := fun env ρ v A X s Q E hv c h => by
  cases hv
  refine wpAny_BinOp (wpAny_Constant_int (wpAny_Constant_int ?_))
  exact pow_int_small h0.1 (by omega) (by omega) (h _ _ .tk ⟨_, rfl⟩)

theorem isTrue_ (e : Expr) (pe : PE) (h : SndE prog w Γ n C sc e pe) (hp : ∀ env whole, isTrue e env whole = (do let v ← whole; standAt e.pos; holding [v] (truthy v))) {env : Env} {ρ : Loc} {v : AV} {b : Bool} {A : Around} {X : List Addr} {s : Shared} {Q : Bool → Shared → Prop} {E : Value → Shared → Prop}
    (hv : evE C pe ρ = some v) (ht : truth v = some b) (c : Cx prog w Γ n A env sc ρ X s) (hq : ∀ s', Ext s s' → Q b s') : wpAny (model prog w) A (isTrue e env (eval e env)) Q E s :=
  isTrue_plain (h env ρ v A X s _ _ hv c fun s₁ v' x₁ r₁ => truth_ r₁ ht fun s₂ x₂ => hq _ (x₁.trans x₂)) (hp _ _)
end
end Mine

namespace Mine

section
variable (prog : Program) (w : World) (Γ : Gp) (n : Nat) (C : Nat → List AV → Option AV)
noncomputable def SndT (sc : Sc) (e : Expr) (p : PE) : Prop := ∀ (env : Env) (ρ : Loc) (b : Bool) (A : Around) (X : List Addr) (s : Shared) (Q : Bool → Shared → Prop) (E : Value → Shared → Prop),
  evT C p ρ = some b → Cx prog w Γ n A env sc ρ X s → (∀ s', Ext s s' → Q b s') → wpAny (model prog w) A (isTrue e env (eval e env)) Q E s
end
section
variable {prog : Program} {w : World} {Γ : Gp} {n : Nat} {C : Nat → List AV → Option AV} {sc : Sc}

theorem sndT_plain {e : Expr} {pe : PE} (h : SndE prog w Γ n C sc e pe) (hp : ∀ env whole, isTrue e env whole = (do let v ← whole; standAt e.pos; holding [v] (truthy v))) : SndT prog w Γ n C sc e pe := fun env ρ b A X s Q E hb c hq => by
  simp only [evT, Option.bind_eq_some_iff] at hb
  obtain ⟨v, hv, ht⟩ := hb
  exact isTrue_ e pe h hp hv ht c hq
theorem sndT_and {a b : Expr} {p q : PE} {pos : Pos} (ha : SndT prog w Γ n C sc a p) (hb : SndT prog w Γ n C sc b q) : SndT prog w Γ n C sc (.BoolOp .And [a, b] pos) (.and p q) := fun env ρ t A X s Q E ht c h => by
  simp only [evT, qE1, qE2, qE3, qE4, qE5, qE6, qE7, qE8, qE9, qE10, qE11, qE0, qE12, qE13, qE14, qE15, qE16, qE17, qE18, qE19, qE20, Option.bind_eq_some_iff] at ht
  obtain ⟨v, ⟨u, hu, k, hk, hv⟩, ht⟩ := ht
  refine isTrue_and (ha env ρ k A X s _ _ (by simp only [evT, Option.bind_eq_some_iff]; exact ⟨u, hu, hk⟩) c fun s₁ x₁ => ?_)
  cases k with
  | false => simp only [Bool.false_eq_true, if_false] at hv ⊢; cases hv; rw [hk] at ht; cases ht; exact h _ x₁
  | true =>
    simp only [if_true] at hv ⊢
    refine isTrue_and (hb env ρ t A X s₁ _ _ (by simp only [evT, Option.bind_eq_some_iff]; exact ⟨v, hv, ht⟩) (c.ext x₁) fun s₂ x₂ => ?_)
    cases t with
    | false => simp only [Bool.false_eq_true, if_false]; exact h _ (x₁.trans x₂)
    | true => simp only [if_true]; exact isTrue_and_nil (h _ (x₁.trans x₂))
theorem sndT_and3 {a b e : Expr} {p q r : PE} {pos : Pos} (ha : SndT prog w Γ n C sc a p) (hb : SndT prog w Γ n C sc b q) (he : SndT prog w Γ n C sc e r) : SndT prog w Γ n C sc (.BoolOp .And [a, b, e] pos) (.and p (.and q r)) := fun env ρ t A X s Q E ht c h => by
  simp only [evT, qE1, qE2, qE3, qE4, qE5, qE6, qE7, qE8, qE9, qE10, qE11, qE0, qE12, qE13, qE14, qE15, qE16, qE17, qE18, qE19, qE20, Option.bind_eq_some_iff] at ht
  obtain ⟨v, ⟨u, hu, k, hk, hv⟩, ht⟩ := ht
  refine isTrue_and (ha env ρ k A X s _ _ (by simp only [evT, Option.bind_eq_some_iff]; exact ⟨u, hu, hk⟩) c fun s₁ x₁ => ?_)
  cases k with
  | false => simp only [Bool.false_eq_true, if_false] at hv ⊢; cases hv; rw [hk] at ht; cases ht; exact h _ x₁
  | true =>
    simp only [if_true] at hv ⊢
    exact sndT_and (pos := pos) hb he env ρ t A X s₁ Q E (by simp only [evT, qE1, qE2, qE3, qE4, qE5, qE6, qE7, qE8, qE9, qE10, qE11, qE0, qE12, qE13, qE14, qE15, qE16, qE17, qE18, qE19, qE20, Option.bind_eq_some_iff]; exact ⟨v, by simpa only [Option.bind_eq_some_iff] using hv, ht⟩) (c.ext x₁) fun s₂ x₂ => h _ (x₁.trans x₂)
theorem sndT_or {a b : Expr} {p q : PE} {pos : Pos} (ha : SndT prog w Γ n C sc a p) (hb : SndT prog w Γ n C sc b q) : SndT prog w Γ n C sc (.BoolOp .Or [a, b] pos) (.or p q) := fun env ρ t A X s Q E ht c h => by
  simp only [evT, qE1, qE2, qE3, qE4, qE5, qE6, qE7, qE8, qE9, qE10, qE11, qE0, qE12, qE13, qE14, qE15, qE16, qE17, qE18, qE19, qE20, Option.bind_eq_some_iff] at ht
  obtain ⟨v, ⟨u, hu, k, hk, hv⟩, ht⟩ := ht
  refine isTrue_or (ha env ρ k A X s _ _ (by simp only [evT, Option.bind_eq_some_iff]; exact ⟨u, hu, hk⟩) c fun s₁ x₁ => ?_)
  cases k with
  | true => simp only [if_true] at hv ⊢; cases hv; rw [hk] at ht; cases ht; exact h _ x₁
  | false =>
    simp only [Bool.false_eq_true, if_false] at hv ⊢
    refine isTrue_or (hb env ρ t A X s₁ _ _ (by simp only [evT, Option.bind_eq_some_iff]; exact ⟨v, hv, ht⟩) (c.ext x₁) fun s₂ x₂ => ?_)
    cases t with
    | true => simp only [if_true]; exact h _ (x₁.trans x₂)
    | false => simp only [Bool.false_eq_true, if_false]; exact isTrue_or_nil (h _ (x₁.trans x₂))
theorem sndT_not {a : Expr} {p : PE} {pos : Pos} (ha : SndT prog w Γ n C sc a p) : SndT prog w Γ n C sc (.UnaryOp .Not a pos) (.not p) := fun env ρ t A X s Q E ht c h => by
  simp only [evT, qE1, qE2, qE3, qE4, qE5, qE6, qE7, qE8, qE9, qE10, qE11, qE0, qE12, qE13, qE14, qE15, qE16, qE17, qE18, qE19, qE20, Option.bind_eq_some_iff, Option.map_eq_some_iff] at ht
  obtain ⟨v, ⟨u, hu, k, hk, rfl⟩, ht⟩ := ht
  cases ht
  exact isTrue_not (ha env ρ k A X s _ _ (by simp only [evT, Option.bind_eq_some_iff]; exact ⟨u, hu, hk⟩) c fun s₁ x₁ => h _ x₁)
theorem sndT_cmp {op : CmpOp} {l r : Expr} {o : Cop} {p q : PE} {pos : Pos} (ho : copOf op r = some o) (hr : behindInMarks op r = false) (ha : SndE prog w Γ n C sc l p) (hb : SndE prog w Γ n C sc r q) :
    SndT prog w Γ n C sc (.Compare l [op] [r] pos) (.cmp o p q) := fun env ρ t A X s Q E ht c h => by
  simp only [evT, qE1, qE2, qE3, qE4, qE5, qE6, qE7, qE8, qE9, qE10, qE11, qE0, qE12, qE13, qE14, qE15, qE16, qE17, qE18, qE19, qE20, Option.bind_eq_some_iff, Option.map_eq_some_iff] at ht
  obtain ⟨v, ⟨u, hu, k, hk, b, hb', rfl⟩, ht⟩ := ht
  cases ht
  refine wpAny_isTrue_Compare1 (ha env ρ u A X s _ _ hu c fun s₁ u' x₁ r₁ => hb env ρ k A X s₁ _ _ hk (c.ext x₁) fun s₂ t' x₂ r₂ => ?_) hr
  exact cmp_ ((c.ext x₁).ext x₂).g ho (r₁.ext x₂) r₂ hb' fun s₃ x₃ => wpAny_truthy_bool (h _ ((x₁.trans x₂).trans x₃))
theorem snd_ite {a b e : Expr} {p q r : PE} {pos : Pos} (hc : SndT prog w Γ n C sc e r) (ha : SndE prog w Γ n C sc a p) (hb : SndE prog w Γ n C sc b q) : SndE prog w Γ n C sc (.IfExp e a b pos) (.ite r p q) := fun env ρ v A X s Q E hv c h => by
  simp only [qE1,qE2,qE3,qE4,qE5,qE6,qE7,qE8,qE9,qE10,qE11,qE0,qE12,qE13,qE14,qE15,qE16,qE17,qE18,qE19,qE20, Option.bind_eq_some_iff] at hv
  obtain ⟨u, hu, t, ht, hv⟩ := hv
  refine IfExp_ (hc env ρ t A X s _ _ (by simp only [evT, Option.bind_eq_some_iff]; exact ⟨u, hu, ht⟩) c fun s₁ x₁ => ?_)
  cases t with
  | true => simp only [if_true] at hv ⊢; exact ha env ρ v A X s₁ _ _ hv (c.ext x₁) fun s₂ v' x₂ r₂ => h _ _ (x₁.trans x₂) r₂
  | false => simp only [Bool.false_eq_true, if_false] at hv ⊢; exact hb env ρ v A X s₁ _ _ hv (c.ext x₁) fun s₂ v' x₂ r₂ => h _ _ (x₁.trans x₂) r₂
theorem sndT_ite {a b e : Expr} {p q r : PE} {pos : Pos} (hc : SndT prog w Γ n C sc e r) (ha : SndT prog w Γ n C sc a p) (hb : SndT prog w Γ n C sc b q) : SndT prog w Γ n C sc (.IfExp e a b pos) (.ite r p q) := fun env ρ t A X s Q E ht c h => by
  simp only [evT, qE1, qE2, qE3, qE4, qE5, qE6, qE7, qE8, qE9, qE10, qE11, qE0, qE12, qE13, qE14, qE15, qE16, qE17, qE18, qE19, qE20, Option.bind_eq_some_iff] at ht
  obtain ⟨v, ⟨u, hu, k, hk, hv⟩, ht⟩ := ht
  refine isTrue_IfExp (hc env ρ k A X s _ _ (by simp only [evT, Option.bind_eq_some_iff]; exact ⟨u, hu, hk⟩) c fun s₁ x₁ => ?_)
  cases k with
  | true => simp only [if_true] at hv ⊢; exact ha env ρ t A X s₁ _ _ (by simp only [evT, Option.bind_eq_some_iff]; exact ⟨v, hv, ht⟩) (c.ext x₁) fun s₂ x₂ => h _ (x₁.trans x₂)
  | false => simp only [Bool.false_eq_true, if_false] at hv ⊢; exact hb env ρ t A X s₁ _ _ (by simp only [evT, Option.bind_eq_some_iff]; exact ⟨v, hv, ht⟩) (c.ext x₁) fun s₂ x₂ => h _ (x₁.trans x₂)

/-! ## displays, calls, items -/
theorem snd_list {f : Expr → Option PE} (hs : ∀ e p, f e = some p → SndE prog w Γ n C sc e p) (hst : ∀ e p, f e = some p → ∀ v q, e ≠ .Starred v q) {es : List Expr} {ps : PEs} {pos : Pos} (hm : mapEs f es = some ps) :
    SndE prog w Γ n C sc (.List es pos) (.list ps) := fun env ρ v A X s Q E hv c h => by
  simp only [qE1,qE2,qE3,qE4,qE5,qE6,qE7,qE8,qE9,qE10,qE11,qE0,qE12,qE13,qE14,qE15,qE16,qE17,qE18,qE19,qE20, Option.bind_eq_some_iff] at hv
  obtain ⟨vs, hvs, hv⟩ := hv
  split at hv
  · rename_i hz
    cases hv
    refine List_ (args_ hs hst hm hvs c fun s₁ us x₁ r₁ => wpAny_newList ?_ (by rw [r₁.length]; exact hz))
    exact h _ _ (x₁.trans (.hp fun b o e => Heap.get?_push_of_some _ e)) (made_list (c.ext x₁).l.fresh (fun b o e => Heap.get?_push_of_some _ e) ⟨_, Heap.get?_push_size _ rfl, rfl, 0, rfl⟩ (by simpa using r₁) hz)
  · cases hv
theorem snd_tup {f : Expr → Option PE} (hs : ∀ e p, f e = some p → SndE prog w Γ n C sc e p) (hst : ∀ e p, f e = some p → ∀ v q, e ≠ .Starred v q) {es : List Expr} {ps : PEs} {k : Nat} {pos : Pos} (hm : mapEs f es = some ps) :
    SndE prog w Γ n C sc (.Tuple es k pos) (.tup ps) := fun env ρ v A X s Q E hv c h => by
  simp only [qE1,qE2,qE3,qE4,qE5,qE6,qE7,qE8,qE9,qE10,qE11,qE0,qE12,qE13,qE14,qE15,qE16,qE17,qE18,qE19,qE20, Option.bind_eq_some_iff] at hv
  obtain ⟨vs, hvs, hv⟩ := hv
  split at hv
  · rename_i hz
    cases hv
    refine Tuple_ (args_ hs hst hm hvs c fun s₁ us x₁ r₁ => wpAny_newTuple ?_ (by rw [r₁.length]; exact hz))
    have hk : ∀ b o, s₁.heap.get? b = some o → (s₁.heap.push { cls := .type "tuple", data := .seq us.toArray }).get? b = some o := fun b o e => Heap.get?_push_of_some _ e
    exact h _ _ (x₁.trans (.hp hk)) (VR.ofTup ⟨_, Heap.get?_push_size _ rfl, rfl, 0, rfl⟩ (c.ext x₁).l.fresh (by simpa using r₁.mono (gX_sub hk)) hz)
  · cases hv

theorem snd_call (hC : CallsOK prog w Γ n C) {f : Expr → Option PE} (hs : ∀ e p, f e = some p → SndE prog w Γ n C sc e p) (hst : ∀ e p, f e = some p → ∀ v q, e ≠ .Starred v q) {x : Str} {g : Nat} {a : Expr} {as : List Expr} {ps : PEs} {px pos : Pos}
    (hx : isGlob sc x = true) (hg : gfun x = some g) (hm : mapEs f (a :: as) = some ps) : SndE prog w Γ n C sc (.Call (.Name x px) (a :: as) [] pos) (.call g ps) := fun env ρ v A X s Q E hv c h => by
  simp only [qE1,qE2,qE3,qE4,qE5,qE6,qE7,qE8,qE9,qE10,qE11,qE0,qE12,qE13,qE14,qE15,qE16,qE17,qE18,qE19,qE20, Option.bind_eq_some_iff] at hv
  obtain ⟨vs, hvs, hv⟩ := hv
  refine Call_Name rfl (glob_fun c hx hg fun y fa o fd hy hmg ho hd => ?_)
  obtain ⟨p, hp⟩ : ∃ p, f a = some p := by
    simp only [qMap, Option.bind_eq_some_iff] at hm
    obtain ⟨p, hp, _⟩ := hm; exact ⟨p, hp⟩
  have hsp : wpAny (model prog w) A (spliced (backTo pos (starEach (a :: as) env))) (fun us s₁ => (s₁.heap.get? fa = some o ∧ o.data = .func fd) ∧ wpAny (model prog w) A (call (.ref fa) us) Q E s₁) E s :=
    args_ hs hst hm hvs c fun s₁ us x₁ r₁ => ⟨⟨x₁.heap _ _ ho, hd⟩, hC _ _ _ hv y hy fa hmg A X s₁ us Q E c.ao (c.ext x₁).g (c.ext x₁).l r₁ fun s₂ v' x₂ r₂ => h _ _ (x₁.trans x₂) r₂⟩
  rw [star_not (hst _ _ hp)] at hsp ⊢
  exact callWith_function (o := o) (fd := fd) (evalArgs_plain hsp)

theorem biOf_inv {f : Str} {m : Nat} {b : Bi} (h : biOf sc f m = some b) : isGlob sc f = true ∧ b ≠ .rangeL ∧ ∃ x : String, f = Str.ofString x ∧ (x, biVal b) ∈ bnames := by
  unfold biOf at h
  split at h
  · rename_i hg
    refine ⟨hg, ?_⟩
    (repeat' split at h) <;> first
      | (cases h; done)
      | (rename_i e; cases h; exact ⟨nofun, "len", e.1, by simp [bnames, biVal]⟩)
      | (rename_i e; cases h; exact ⟨nofun, "min", e.1, by simp [bnames, biVal]⟩)
      | (rename_i e; cases h; exact ⟨nofun, "sum", e.1, by simp [bnames, biVal]⟩)
      | (rename_i e; cases h; exact ⟨nofun, "int", e.1, by simp [bnames, biVal]⟩)
  · cases h

theorem snd_bi {f : Expr → Option PE} (hs : ∀ e p, f e = some p → SndE prog w Γ n C sc e p) (hst : ∀ e p, f e = some p → ∀ v q, e ≠ .Starred v q) {x : Str} {b : Bi} {a : Expr} {as : List Expr} {ps : PEs} {px pos : Pos} {m : Nat}
    (hb : biOf sc x m = some b) (hm : mapEs f (a :: as) = some ps) : SndE prog w Γ n C sc (.Call (.Name x px) (a :: as) [] pos) (.bi b ps) := fun env ρ v A X s Q E hv c h => by
  simp only [qE1,qE2,qE3,qE4,qE5,qE6,qE7,qE8,qE9,qE10,qE11,qE0,qE12,qE13,qE14,qE15,qE16,qE17,qE18,qE19,qE20, Option.bind_eq_some_iff] at hv
  obtain ⟨vs, hvs, hv⟩ := hv
  obtain ⟨hx, hne, y, rfl, hmem⟩ := biOf_inv hb
  refine Call_Name rfl (glob_builtin c hx hmem ?_)
  obtain ⟨p, hp⟩ : ∃ p, f a = some p := by
    simp only [qMap, Option.bind_eq_some_iff] at hm
    obtain ⟨p, hp, _⟩ := hm; exact ⟨p, hp⟩
  have hany : (backTo pos (starEach as env)).any (·.1) = false := by
    simp only [qMap, Option.bind_eq_some_iff, Option.map_eq_some_iff] at hm
    obtain ⟨_, _, q, hq, _⟩ := hm
    exact any_star hst hq
  have hsp : wpAny (model prog w) A (spliced (backTo pos (starEach (a :: as) env))) (fun us s₁ => wpAny (model prog w) A (call (biVal b) us) Q E s₁) E s :=
    args_ hs hst hm hvs c fun s₁ us x₁ r₁ => bi_ c.ao.hh r₁ hv hne fun s₂ v' x₂ r₂ => h _ _ (x₁.trans x₂) r₂
  have hs1 := star_not (env := env) (r := as) (hst _ _ hp)
  cases b with
  | len => exact callWith_builtin1 hsp hs1 hany
  | min2 => exact callWith_builtin1 hsp hs1 hany
  | min3 => exact callWith_builtin1 hsp hs1 hany
  | minL => exact callWith_builtin1 hsp hs1 hany
  | sumL => exact callWith_builtin1 hsp hs1 hany
  | toInt => exact callWith_type1 hsp hs1 hany
  | rangeL => exact absurd rfl hne

theorem str_len_idx (x : Str) (i : Int) : seqIndex? i x.length = (if 0 ≤ i then (if i < x.length then some i.toNat else none) else if -(x.length : Int) ≤ i then some (i + x.length).toNat else none) := by
  unfold seqIndex?
  by_cases h1 : i < 0
  · by_cases h2 : -(x.length : Int) ≤ i
    · have : ¬ 0 ≤ i := by (first | lia | omega)
      simp [h1, h2, this, show 0 ≤ i + (x.length : Int) by (first | lia | omega), show i + (x.length : Int) < x.length by (first | lia | omega)]
    · have : ¬ 0 ≤ i := by (first | lia | omega)
      simp [h1, h2, this, show ¬ 0 ≤ i + (x.length : Int) by (first | lia | omega)]
  · have h3 : 0 ≤ i := by (first | lia | omega)
    by_cases h2 : i < x.length
    · simp [h1, h2, h3]
    · simp [h1, h2, h3]
end
end Mine

namespace Mine

theorem subscripted_any (slice : Expr) (o i : Value) : ∃ ops, subscripted slice false o i = operate ops (getItem o i) := by
  cases slice with
  | Slice a b st p => cases st with
    | none => exact ⟨_, rfl⟩
    | some e => exact ⟨_, rfl⟩
  | _ => exact ⟨_, rfl⟩

/-- a base's value: seen, or a list that the frame owns -/
noncomputable def VB (tokA : Addr) (h : Heap) (X : List Addr) (x : AV) (v : Value) : Prop :=
  VR tokA (gX h X) x v ∨ ∃ xs a vs, x = .list xs ∧ v = .ref a ∧ h.IsList a vs ∧ VRs tokA (gX h X) xs vs.toList ∧ xs.length ≤ sizeLine
theorem VB.keeps {tokA : Addr} {h h' : Heap} {X : List Addr} {x : AV} {v : Value} (r : VB tokA h X x v) (hk : ∀ b o, h.get? b = some o → h'.get? b = some o) : VB tokA h' X x v := by
  rcases r with r | ⟨xs, a, vs, e1, e2, il, r, z⟩
  · exact .inl (r.mono (gX_sub hk))
  · exact .inr ⟨xs, a, vs, e1, e2, il.at (fun o => hk a o), r.mono (gX_sub hk), z⟩
theorem VB.list {tokA : Addr} {h : Heap} {X : List Addr} {xs : List AV} {v : Value} (r : VB tokA h X (.list xs) v) :
    ∃ a vs, v = .ref a ∧ h.IsList a vs ∧ VRs tokA (gX h X) xs vs.toList ∧ xs.length ≤ sizeLine ∧ vs.size = xs.length := by
  rcases r with r | ⟨ys, a, vs, e1, e2, il, r, z⟩
  · obtain ⟨a, vs, e, il, r, z, s, _⟩ := r.isList
    exact ⟨a, vs, e, il, r, z, s⟩
  · cases e1
    exact ⟨a, vs, e2, il, r, z, by rw [← r.length]; simp⟩

section
variable {prog : Program} {w : World} {A : Around} {E : Value → Shared → Prop} {s : Shared} {Γ : Gp} {X : List Addr}

theorem idxV_spec {tokA : Addr} {g : Look} {xs : List AV} {vs : Array Value} {k : Int} {z : AV} (r : VRs tokA g xs vs.toList) (hs : vs.size = xs.length) (h : idxV xs k = some z) :
    (0 ≤ k ∧ ∃ v, vs[k.toNat]? = some v ∧ VR tokA g z v ∧ k < vs.size) ∨ (k < 0 ∧ -(vs.size : Int) ≤ k ∧ ∃ v, vs[(k + vs.size).toNat]? = some v ∧ VR tokA g z v) := by
  unfold idxV at h
  split at h
  · rename_i h0
    obtain ⟨v, e, rv⟩ := r.get h
    refine .inl ⟨h0, v, by simpa using e, rv, ?_⟩
    have := (List.getElem?_eq_some_iff.mp h).1
    (first | lia | omega)
  · split at h
    · rename_i h0 h1
      obtain ⟨v, e, rv⟩ := r.get h
      exact .inr ⟨by (first | lia | omega), by (first | lia | omega), v, by rw [hs]; simpa using e, rv⟩
    · cases h

theorem subV_inv {a i z : AV} (h : subV a i = some z) : (∃ xs k, a = .list xs ∧ i = .int k ∧ idxV xs k = some z) ∨ (∃ xs k, a = .tup xs ∧ i = .int k ∧ idxV xs k = some z) ∨
    (∃ (x : Str) (k : Int), a = .str x ∧ i = .int k ∧ (if 0 ≤ k then (x.cps[k.toNat]?).map fun c => AV.str ⟨#[c]⟩ else if -(x.length : Int) ≤ k then (x.cps[(k + x.length).toNat]?).map fun c => AV.str ⟨#[c]⟩ else none) = some z) ∨
    (∃ x, a = .tok ∧ i = .str x ∧ (tokGet x).map .int = some z) := by
  cases a with
  | list xs => cases i with | int k => exact .inl ⟨xs, k, rfl, rfl, h⟩ | _ => cases h
  | tup xs => cases i with | int k => exact .inr (.inl ⟨xs, k, rfl, rfl, h⟩) | _ => cases h
  | str x => cases i with | int k => exact .inr (.inr (.inl ⟨x, k, rfl, rfl, h⟩)) | _ => cases h
  | tok => cases i with | str x => exact .inr (.inr (.inr ⟨x, rfl, rfl, h⟩)) | _ => cases h
  | _ => cases h
theorem sub_ {value slice : Expr} {x i z : AV} {xv iv : Value} {Q : Value → Shared → Prop} (g : GOK prog w Γ s.heap) (hx : VB Γ.tokA s.heap X x xv) (hi : VR Γ.tokA (gX s.heap X) i iv) (hv : subV x i = some z)
    (h : ∀ s' v', Ext s s' → VR Γ.tokA (gX s'.heap X) z v' → Q v' s') : wpAny (model prog w) A (subscriptTail value slice xv iv) Q E s := by
  obtain ⟨ops, hs⟩ := subscripted_any slice xv iv
  replace hv := subV_inv hv
  rcases hv with ⟨xs, k, rfl, rfl, hv⟩ | ⟨xs, k, rfl, rfl, hv⟩ | ⟨x, k, rfl, rfl, hv⟩ | ⟨x, rfl, rfl, hv⟩
  · obtain ⟨a, vs, rfl, il, r, hz, hsz⟩ := hx.list
    obtain ⟨t, rfl⟩ := hi
    have hb := lt63 hz
    refine tail_any il.typeIs slot_list_getitem.lookup ?_ hs
    rcases idxV_spec r hsz hv with ⟨h0, v, e, rv, hk⟩ | ⟨h0, h1, v, e, rv⟩
    · exact wpAny_getItem_list il h0 (by (first | lia | omega)) e (h _ _ (.refl _) rv)
    · exact wpAny_getItem_list_neg il h0 h1 (by (first | lia | omega)) e (h _ _ (.refl _) rv)
  · obtain ⟨a, vs, rfl, it, r, hz, hsz, _⟩ := (hx.resolve_right (by rintro ⟨_, _, _, e, _⟩; cases e)).isTup
    obtain ⟨t, rfl⟩ := hi
    have hb := lt63 hz
    refine tail_any (T := "tuple") (by obtain ⟨o, ho, hc, n, hd⟩ := it; exact ⟨o, ho, hc⟩) slot_tuple_getitem.lookup ?_ hs
    rcases idxV_spec r hsz hv with ⟨h0, v, e, rv, hk⟩ | ⟨h0, h1, v, e, rv⟩
    · refine PyProof.Rows.getItem_tuple it (by (first | lia | omega)) (by (first | lia | omega)) (j := k.toNat) ?_ e (h _ _ (.refl _) rv)
      unfold seqIndex?
      simp [show ¬ k < 0 by (first | lia | omega), h0, hk]
    · refine PyProof.Rows.getItem_tuple it (by (first | lia | omega)) (by (first | lia | omega)) (j := (k + vs.size).toNat) ?_ e (h _ _ (.refl _) rv)
      unfold seqIndex?
      simp [h0, show 0 ≤ k + (vs.size : Int) by (first | lia | omega), show k + (vs.size : Int) < vs.size by (first | lia | omega)]
  · obtain ⟨t, rfl, hz⟩ := hx.resolve_right (by rintro ⟨_, _, _, e, _⟩; cases e)
    obtain ⟨u, rfl⟩ := hi
    have hb := lt63 hz
    refine tail_any (typeIs_str _ _ _) PySem.F.slot_str_getitem.lookup ?_ hs
    split at hv
    · rename_i h0
      rw [Option.map_eq_some_iff] at hv
      obtain ⟨c, hc, rfl⟩ := hv
      have hl : k.toNat < x.length := (Array.getElem?_eq_some_iff.mp hc).1
      refine PySem.P.getItem_str (c := c) (by simp; (first | lia | omega)) ?_ (h _ _ .tk ⟨_, rfl, by show 1 ≤ _; rw [sizeLine_eq]; (first | lia | omega)⟩)
      rw [str_len_idx, if_pos h0, if_pos (by (first | lia | omega))]
      exact hc
    · rename_i h0
      split at hv
      · rename_i h1
        rw [Option.map_eq_some_iff] at hv
        obtain ⟨c, hc, rfl⟩ := hv
        refine PySem.P.getItem_str (c := c) (by simp; (first | lia | omega)) ?_ (h _ _ .tk ⟨_, rfl, by show 1 ≤ _; rw [sizeLine_eq]; (first | lia | omega)⟩)
        rw [str_len_idx, if_neg h0, if_pos h1]
        exact hc
      · cases hv
  · have e : xv = .ref Γ.tokA := hx.resolve_right (by rintro ⟨_, _, _, e, _⟩; cases e)
    subst e
    obtain ⟨t, rfl, hz⟩ := hi
    rw [Option.map_eq_some_iff] at hv
    obtain ⟨i, hi, rfl⟩ := hv
    obtain ⟨f, hm, hf⟩ := g.tk
    obtain ⟨u, hu⟩ := (hf x).1 i hi
    exact tail_any hm.typeIs slot_dict_getitem.lookup (wpAny_getItem_of (strKind_is prog w x t) hm hu (h _ _ .tk ⟨_, rfl⟩)) hs

theorem part_is {g : Look} {tokA : Addr} {x : AV} {v : Value} {p : Option Int} (h : part? x = some p) (r : VR tokA g x v) : IsPart v p := by
  cases x with
  | none => cases h; cases r; exact .none
  | int i => cases h; obtain ⟨t, rfl⟩ := r; exact .int _ _
  | _ => cases h
theorem isPart_opt {v : Value} {p : Option Int} (h : IsPart v p) : ∃ q : Option (Int × Tok), v = partValue q ∧ q.map (·.1) = p := by
  cases h with
  | none => exact ⟨none, rfl, rfl⟩
  | int i t => exact ⟨some (i, t), rfl, rfl⟩

theorem slicePick_list (vs : Array Value) (lo hi st : Option Int) : (slicePick vs lo hi st).toList = (slIdx lo hi st vs.size).filterMap (vs.toList[·]?) := by
  unfold slicePick slIdx; simp
theorem sliceV_inv {a lo hi st z : AV} (h : sliceV a lo hi st = some z) : (∃ x l u, a = .str x ∧ part? lo = some l ∧ part? hi = some u ∧ part? st = some none ∧ AV.str (Txt.slice x l u) = z) ∨
    (∃ xs l u s, a = .list xs ∧ part? lo = some l ∧ part? hi = some u ∧ part? st = some s ∧ (if s = some 0 ∨ sizeLine < (slL xs l u s).length then none else some (AV.list (slL xs l u s))) = some z) := by
  have key : ∀ l u s, part? lo = l → part? hi = u → part? st = s → (∃ x l u, a = .str x ∧ part? lo = some l ∧ part? hi = some u ∧ part? st = some none ∧ AV.str (Txt.slice x l u) = z) ∨
      (∃ xs l u s, a = .list xs ∧ part? lo = some l ∧ part? hi = some u ∧ part? st = some s ∧ (if s = some 0 ∨ sizeLine < (slL xs l u s).length then none else some (AV.list (slL xs l u s))) = some z) := by
    intro l u s e1 e2 e3
    unfold sliceV at h
    rw [e1, e2, e3] at h
    cases a with
    | str x => cases l with
      | some l => cases u with
        | some u => cases s with
          | some s => cases s with
            | none => exact .inl ⟨x, l, u, rfl, e1, e2, e3, Option.some.inj h⟩
            | some _ => cases h
          | none => cases h
        | none => cases h
      | none => cases h
    | list xs => cases l with
      | some l => cases u with
        | some u => cases s with
          | some s => exact .inr ⟨xs, l, u, s, rfl, e1, e2, e3, h⟩
          | none => cases h
        | none => cases h
      | none => cases h
    | _ => cases h
  exact key _ _ _ rfl rfl rfl

/-- a slice object stands at sl -/
theorem slice_ {value slice : Expr} {x l u st z : AV} {xv lv uv sv : Value} {sl : Addr} {Q : Value → Shared → Prop} (fr : s.heap.objs.size ∉ X) (hx : VR Γ.tokA (gX s.heap X) x xv) (hs : s.heap.IsSliceOf sl lv uv sv)
    (hl : VR Γ.tokA (gX s.heap X) l lv) (hu : VR Γ.tokA (gX s.heap X) u uv) (hst : VR Γ.tokA (gX s.heap X) st sv) (hv : sliceV x l u st = some z) 
    (h : ∀ s' v', Ext s s' → VR Γ.tokA (gX s'.heap X) z v' → Q v' s') : wpAny (model prog w) A (subscriptTail value slice xv (.ref sl)) Q E s := by
  obtain ⟨ops, hss⟩ := subscripted_any slice xv (.ref sl)
  replace hv := sliceV_inv hv
  rcases hv with ⟨y, pl, pu, rfl, e1, e2, e3, rfl⟩ | ⟨xs, pl, pu, ps, rfl, e1, e2, e3, hv⟩
  · obtain ⟨t, rfl, hz⟩ := hx
    obtain ⟨ql, rfl, k1⟩ := isPart_opt (part_is e1 hl)
    obtain ⟨qu, rfl, k2⟩ := isPart_opt (part_is e2 hu)
    obtain ⟨qs, rfl, k3⟩ := isPart_opt (part_is e3 hst)
    have hq : qs = none := by cases qs with | none => rfl | some _ => cases k3
    subst hq
    refine tail_any (typeIs_str _ _ _) PySem.F.slot_str_getitem.lookup (wpAny_getItem_str_slice (st := none) hs rfl ?_) hss
    have hz' : (Txt.slice y pl pu).length ≤ sizeLine := Nat.le_trans (Txt.slice_le _ _ _) hz
    unfold sliceMade slicePicked
    rw [k1, k2]
    exact post_val_or_str ⟨hz', fun t' k => h { s with toks := k } _ .tk ⟨t', rfl, hz'⟩⟩
  · obtain ⟨a, vs, rfl, il, r, hz, hsz, _⟩ := hx.isList
    split at hv
    · cases hv
    rename_i h0
    rw [not_or] at h0
    cases hv
    refine tail_any il.typeIs slot_list_getitem.lookup (wpAny_getItem_list_slice il hs (part_is e1 hl) (part_is e2 hu) (part_is e3 hst) h0.1 ?_ (by rw [hsz]; exact hz)) hss
    have hk : ∀ b o, s.heap.get? b = some o → (s.heap.push { cls := .type "list", data := .seq (slicePick vs pl pu ps) }).get? b = some o := fun b o e => Heap.get?_push_of_some _ e
    refine h _ _ (.hp hk) (VR.ofList ⟨_, Heap.get?_push_size _ rfl, rfl, 0, rfl⟩ fr ?_ ?_)
    · rw [slicePick_list, hsz]
      exact (r.mono (gX_sub hk)).pick _
    · exact Nat.le_of_not_lt h0.2
end
end Mine

namespace Mine

section
variable (prog : Program) (w : World) (Γ : Gp) (n : Nat) (C : Nat → List AV → Option AV)
noncomputable def baseE (p : PE) (ρ : Loc) : Option AV := subB ρ (evE C p ρ) p
noncomputable def SndB (sc : Sc) (e : Expr) (p : PE) : Prop := ∀ (env : Env) (ρ : Loc) (v : AV) (A : Around) (X : List Addr) (s : Shared) (Q : Value → Shared → Prop) (E : Value → Shared → Prop),
  baseE C p ρ = some v → Cx prog w Γ n A env sc ρ X s → (∀ s' v', Ext s s' → VB Γ.tokA s'.heap X v v' → Q v' s') → wpAny (model prog w) A (eval e env) Q E s
end
section
variable {prog : Program} {w : World} {Γ : Gp} {n : Nat} {C : Nat → List AV → Option AV} {sc : Sc}

theorem sndB_of {e : Expr} {p : PE} (h : SndE prog w Γ n C sc e p) (hp : ∀ ρ, baseE C p ρ = evE C p ρ) : SndB prog w Γ n C sc e p := fun env ρ v A X s Q E hv c hq =>
  h env ρ v A X s Q E (by rw [← hp]; exact hv) c fun s' v' x r => hq s' v' x (.inl r)
theorem baseAt_spec {ρ : Loc} {i : Nat} {v : AV} (h : baseAt ρ i = some v) : ρ[i]? = some (.val v) ∨ ∃ xs, v = .list xs ∧ (ρ[i]? = some (.own xs) ∨ ρ[i]? = some (.ownS xs)) := by
  unfold baseAt at h
  cases e : ρ[i]? with
  | none => rw [e] at h; cases h
  | some sl =>
    rw [e] at h
    cases sl with
    | val v => cases h; exact .inl rfl
    | own xs => cases h; exact .inr ⟨_, rfl, .inl rfl⟩
    | ownS xs => cases h; exact .inr ⟨_, rfl, .inr rfl⟩
    | _ => cases h
theorem sndB_var {x : Str} {pos : Pos} {i : Nat} (hi : sc.idx x = some i) (hk : sc.kind x = some .local ∨ sc.kind x = some .cell ∨ sc.kind x = some .free) (hd : x ≠ "__debug__") :
    SndB prog w Γ n C sc (.Name x pos) (.var i) := fun env ρ v A X s Q E hv c h => by
  rcases baseAt_spec hv with e | ⟨xs, rfl, e⟩
  · obtain ⟨v', l, r⟩ := c.e.val x i v hi hk e
    exact loads_ c.e.kind l (h _ _ (.refl _) (.inl r)) (by simpa using hd)
  · obtain ⟨a, vs, l, il, r, hz⟩ := c.e.own x i xs hi hk e
    exact loads_ c.e.kind l (h _ _ (.refl _) (.inr ⟨xs, a, vs, rfl, rfl, il, r, hz⟩)) (by simpa using hd)

theorem evE_sub (p q : PE) (ρ : Loc) : evE C (.sub p q) ρ = (baseE C p ρ).bind fun v => (evE C q ρ).bind fun u => subV v u := by
  cases p <;> rfl
theorem snd_sub {a i : Expr} {p q : PE} {pos : Pos} (ha : SndB prog w Γ n C sc a p) (hi : SndE prog w Γ n C sc i q) : SndE prog w Γ n C sc (.Subscript a i pos) (.sub p q) := fun env ρ v A X s Q E hv c h => by
  simp only [evE_sub, Option.bind_eq_some_iff] at hv
  obtain ⟨u, hu', t, ht, hv⟩ := hv
  refine Subscript_ (ha env ρ u A X s _ _ hu' c fun s₁ u' x₁ r₁ => hi env ρ t A X s₁ _ _ ht (c.ext x₁) fun s₂ t' x₂ r₂ => ?_)
  exact sub_ ((c.ext x₁).ext x₂).g (r₁.keeps x₂.heap) r₂ hv fun s₃ v' x₃ r₃ => h _ _ ((x₁.trans x₂).trans x₃) r₃

/-- a part of a slice -/
noncomputable def SndP (prog : Program) (w : World) (Γ : Gp) (n : Nat) (C : Nat → List AV → Option AV) (sc : Sc) (e : Option Expr) (p : PE) : Prop := ∀ (env : Env) (ρ : Loc) (v : AV) (A : Around) (X : List Addr) (s : Shared) (Q : Value → Shared → Prop) (E : Value → Shared → Prop),
  evE C p ρ = some v → Cx prog w Γ n A env sc ρ X s → (∀ s' v', Ext s s' → VR Γ.tokA (gX s'.heap X) v v' → Q v' s') → wpAny (model prog w) A (evalPart e env) Q E s
theorem sndP_none : SndP prog w Γ n C sc none (.lit .none) := fun env ρ v A X s Q E hv c h => by
  cases hv; exact wpAny_evalPart_none (h _ _ (.refl _) rfl)
theorem sndP_some {e : Expr} {p : PE} (h : SndE prog w Γ n C sc e p) : SndP prog w Γ n C sc (some e) p := fun env ρ v A X s Q E hv c hq =>
  wpAny_evalPart_some (h env ρ v A X s Q E hv c hq)

theorem snd_slice {a : Expr} {lo hi st : Option Expr} {p l u k : PE} {pos q : Pos} (ha : SndE prog w Γ n C sc a p) (hl : SndP prog w Γ n C sc lo l) (hu : SndP prog w Γ n C sc hi u) (hs : SndP prog w Γ n C sc st k) :
    SndE prog w Γ n C sc (.Subscript a (.Slice lo hi st q) pos) (.slice p l u k) := fun env ρ v A X s Q E hv c h => by
  simp only [qE1,qE2,qE3,qE4,qE5,qE6,qE7,qE8,qE9,qE10,qE11,qE0,qE12,qE13,qE14,qE15,qE16,qE17,qE18,qE19,qE20, Option.bind_eq_some_iff] at hv
  obtain ⟨x, hx, i, hi', j, hj, t, ht, hv⟩ := hv
  refine Subscript_ (ha env ρ x A X s _ _ hx c fun s₁ x' x₁ r₁ => wpAny_Slice (hl env ρ i A X s₁ _ _ hi' (c.ext x₁) fun s₂ i' x₂ r₂ =>
    hu env ρ j A X s₂ _ _ hj ((c.ext x₁).ext x₂) fun s₃ j' x₃ r₃ => hs env ρ t A X s₃ _ _ ht (((c.ext x₁).ext x₂).ext x₃) fun s₄ t' x₄ r₄ => ?_))
  have hk : ∀ b o, s₄.heap.get? b = some o → (s₄.heap.push { cls := .type "slice", data := .fields #[i', j', t'] }).get? b = some o := fun b o e => Heap.get?_push_of_some _ e
  have xp : Ext s₄ { s₄ with heap := s₄.heap.push { cls := .type "slice", data := .fields #[i', j', t'] } } := .hp hk
  have cc := ((((c.ext x₁).ext x₂).ext x₃).ext x₄).ext xp
  exact slice_ cc.l.fresh ((((r₁.ext x₂).ext x₃).ext x₄).ext xp) (Heap.IsSliceOf.new _ _ _ _) (((r₂.ext x₃).ext x₄).ext xp) ((r₃.ext x₄).ext xp) (r₄.ext xp) hv
    fun s₅ v' x₅ r₅ => h _ _ ((((x₁.trans x₂).trans x₃).trans x₄).trans (xp.trans x₅)) r₅

theorem strs_are {g : Look} {tokA : Addr} : ∀ {xs : List AV} {vs : List Value} {ss : List Str}, strs? xs = some ss → VRs tokA g xs vs → StrsAre vs ss
  | [], [], _, e, _ => by cases e; exact .nil
  | [], _ :: _, _, _, h => h.elim
  | _ :: _, [], _, _, h => h.elim
  | x :: xs, v :: vs, ss, e, h => by
    cases x with
    | str y =>
      simp only [qStr, Option.map_eq_some_iff] at e
      obtain ⟨r, e, rfl⟩ := e
      obtain ⟨⟨t, rfl, _⟩, h2⟩ := h
      exact .cons y t (strs_are e h2)
    | _ => cases e

theorem snd_join {a : Expr} {k p0 : _} {sep : Str} {q : PE} {m : Str} {ap pos : Pos} (hm : m = "join") (hl : ap.endLine = pos.line) (hz : sep.length ≤ 1000) (ha : SndE prog w Γ n C sc a q) (hns : ∀ v p, a ≠ .Starred v p) :
    SndE prog w Γ n C sc (.Call (.Attribute (.Constant (.str sep) k p0) m ap) [a] [] pos) (.join (.lit (.str sep)) q) := fun env ρ v A X s Q E hv c h => by
  simp only [qE1,qE2,qE3,qE4,qE5,qE6,qE7,qE8,qE9,qE10,qE11,qE0,qE12,qE13,qE14,qE15,qE16,qE17,qE18,qE19,qE20, Option.bind_eq_some_iff, Option.some.injEq] at hv
  obtain ⟨_, rfl, u, hu, hv⟩ := hv
  subst hm
  refine Call_method1 rfl (star_not hns) (by simpa using hl) (Constant_str ?_)
  refine ⟨"str", _, PySem.F.plainAttrs_str, PySem.F.slot_str_join, PySem.F.type_str_join, typeIs_str _ _ _, nofun, callWith_builtin rfl (evalArgs_plain (spliced_cons (ha env ρ u A X _ _ _ hu (c.ext .tk) fun s₁ u' x₁ r₁ => spliced_nil ?_)))⟩
  cases u with
  | list =>
    obtain ⟨l, us, rfl, il, r, hz', hsz, _⟩ := r₁.isList
    replace hv := Option.bind_eq_some_iff.mp hv
    obtain ⟨ss, hss, hv⟩ := hv
    split at hv
    · rename_i hc
      cases hv
      exact PyProof.Rows.join_list il (strs_are hss r) hc.1 fun t' k => h _ _ (Ext.tk.trans (x₁.trans .tk)) ⟨_, rfl, hc.2⟩
    · cases hv
  | _ => cases hv

theorem snd_lower {x : Str} {p0 : Pos} {p : PE} {m : Str} {ap pos : Pos} (hm : m = "lower") (hl : ap.endLine = pos.line) (ha : SndE prog w Γ n C sc (.Name x p0) p) :
    SndE prog w Γ n C sc (.Call (.Attribute (.Name x p0) m ap) [] [] pos) (.lower p) := fun env ρ v A X s Q E hv c h => by
  simp only [qE1,qE2,qE3,qE4,qE5,qE6,qE7,qE8,qE9,qE10,qE11,qE0,qE12,qE13,qE14,qE15,qE16,qE17,qE18,qE19,qE20, Option.bind_eq_some_iff] at hv
  obtain ⟨u, hu, hv⟩ := hv
  subst hm
  refine Call_method0 rfl (by simpa using hl) (ha env ρ u A X s _ _ hu c fun s₁ u' x₁ r₁ => ?_)
  cases u with
  | str y =>
    obtain ⟨t, rfl, hz⟩ := r₁
    replace hv : (if (Txt.lower y).length ≤ sizeLine then some (AV.str (Txt.lower y)) else none) = some v := hv
    split at hv
    · rename_i hz2
      cases hv
      refine PySem.SB.lower ?_ (h _ _ (x₁.trans .tk) ⟨_, rfl, hz2⟩)
      unfold Builtin.Str.tooLong
      simpa using hz2
    · cases hv
  | _ => cases hv
end
end Mine

namespace Mine

/-- what stands out of W stays, and stays out -/
structure Ev (W : List Addr) (s : Shared) (W' : List Addr) (s' : Shared) : Prop where
  sub : Sub (gX s.heap W) (gX s'.heap W')
  os : s'.os = s.os
  gens : GK s.gens s'.gens
theorem Ev.refl (W : List Addr) (s : Shared) : Ev W s W s := ⟨fun _ _ e => e, rfl, .refl _⟩
theorem Ev.trans {W W' W'' : List Addr} {s s' s'' : Shared} (x : Ev W s W' s') (y : Ev W' s' W'' s'') : Ev W s W'' s'' := ⟨fun a o e => y.sub a o (x.sub a o e), y.os.trans x.os, x.gens.trans y.gens⟩
theorem Ext.ev {W : List Addr} {s s' : Shared} (x : Ext s s') : Ev W s W s' := ⟨gX_sub x.heap, x.os, x.gens⟩
theorem Ev.less {W W' : List Addr} {s : Shared} (h : ∀ a ∈ W', a ∈ W) : Ev W s W' s := ⟨gX_less h, rfl, .refl _⟩
theorem gX_app {h : Heap} {X W : List Addr} {a : Addr} {o : Obj} : gX h (X ++ W) a = some o ↔ a ∉ X ∧ gX h W a = some o := by
  constructor
  · intro e
    obtain ⟨e1, e2⟩ := gX_get e
    rw [List.mem_append, not_or] at e2
    exact ⟨e2.1, gX_of e1 e2.2⟩
  · rintro ⟨e1, e2⟩
    obtain ⟨e2, e3⟩ := gX_get e2
    exact gX_of e2 (by rw [List.mem_append, not_or]; exact ⟨e1, e3⟩)
theorem Ev.subX {W W' : List Addr} {s s' : Shared} (x : Ev W s W' s') (X : List Addr) : Sub (gX s.heap (X ++ W)) (gX s'.heap (X ++ W')) := by
  intro a o e
  rw [gX_app] at e ⊢
  exact ⟨e.1, x.sub _ _ e.2⟩
theorem Ev.of_same {W : List Addr} {s : Shared} {h' : Heap} {tk : Nat} {a : Addr} (ha : a ∈ W) (hs : Heap.SameBut a s.heap h') : Ev W s W { s with heap := h', toks := tk } := by
  refine ⟨fun b o e => ?_, rfl, .refl _⟩
  obtain ⟨e1, e2⟩ := gX_get e
  exact gX_of (hs.extBut b o (fun q => e2 (q ▸ ha)) e1) e2

noncomputable def OwnR (tokA : Addr) (h : Heap) (g : Look) (sl : Slot) (as : List Addr) : Prop := match sl with
  | .own xs => ∃ (a : Addr) (vs : Array Value), as = [a] ∧ h.PlainList a vs ∧ VRs tokA g xs vs.toList ∧ xs.length ≤ sizeLine
  | .ownS xs => ∃ (a : Addr) (vs : Array Value), as = [a] ∧ h.IsList a vs ∧ VRs tokA g xs vs.toList ∧ xs.length ≤ sizeLine
  | .own2 xs ys => ∃ (a b : Addr) (us vs : Array Value), as = [a, b] ∧ a ≠ b ∧ h.PlainList a (us.push (.ref b)) ∧ h.PlainList b vs ∧ VRs tokA g xs us.toList ∧ VRs tokA g ys vs.toList ∧ xs.length + 1 ≤ sizeLine ∧ ys.length ≤ sizeLine
  | _ => True
theorem OwnR.keeps {tokA : Addr} {h h' : Heap} {g g' : Look} {sl : Slot} {as : List Addr} (r : OwnR tokA h g sl as) (hg : Sub g g') (hk : ∀ a ∈ as, ∀ o, h.get? a = some o → h'.get? a = some o) : OwnR tokA h' g' sl as := by
  cases sl with
  | no => trivial
  | val v => trivial
  | own xs => obtain ⟨a, vs, rfl, h1, h2, h3⟩ := r; exact ⟨a, vs, rfl, h1.at (hk a (by simp)), h2.mono hg, h3⟩
  | ownS xs => obtain ⟨a, vs, rfl, h1, h2, h3⟩ := r; exact ⟨a, vs, rfl, h1.at (hk a (by simp)), h2.mono hg, h3⟩
  | own2 xs ys =>
    obtain ⟨a, b, us, vs, rfl, h0, h1, h2, h3, h4, h5, h6⟩ := r
    exact ⟨a, b, us, vs, rfl, h0, h1.at (hk a (by simp)), h2.at (hk b (by simp)), h3.mono hg, h4.mono hg, h5, h6⟩

structure Fx (env : Env) (sc : Sc) : Prop where
  kind : env.scope.kind = .function
  gl : env.globals = mainGlobals
  bu : env.builtins = builtinsNs
  kinds : ∀ x, sc.kind x = some .globalImplicit → env.kindOf x = some .globalImplicit
  kl : ∀ x, sc.kind x = some .local → env.kindOf x = some .local
  kc : ∀ x, sc.kind x = some .cell → env.kindOf x = some .cell
  kf : ∀ x, sc.kind x = some .free → env.kindOf x = some .cell ∨ (env.kindOf x = some .free ∧ (x == ("__classdict__" : Str)) = false)
  ok : ScOK sc

noncomputable abbrev OA := Nat → List Addr
noncomputable def OA.set (oa : OA) (i : Nat) (as : List Addr) : OA := fun j => if j = i then as else oa j
noncomputable abbrev NM := Str → Option Value
noncomputable abbrev nset (m : NM) (x : Str) (v : Value) : NM := fun y => if y = x then some v else m y

/-- a function's frame, between its statements -/
structure Fm (prog : Program) (w : World) (Γ : Gp) (env : Env) (sc : Sc) (h₀ : Heap) (X W : List Addr) (ρ : Loc) (m : NM) (oa : OA) (s : Shared) : Prop where
  root : GOK prog w Γ h₀ ∧ Sub h₀.get? (gX s.heap W)
  live : Live (X ++ W) s.heap
  lin : env.locals ∈ W
  ns : s.heap.Ns env.locals m
  loc : ∀ x i v, sc.kind x = some .local → sc.idx x = some i → ρ[i]? = some (.val v) → ∃ v', m x = some v' ∧ VR Γ.tokA (gX s.heap (X ++ W)) v v'
  cel : ∀ x, (sc.kind x = some .cell ∨ sc.kind x = some .free) → ∃ c, env.cells.lookup x = some c ∧ ∀ i v, sc.idx x = some i → ρ[i]? = some (.val v) → ∃ v', s.heap.IsCell c (some v') ∧ VR Γ.tokA (gX s.heap (X ++ W)) v v'
  cew : ∀ x c, sc.kind x = some .cell → env.cells.lookup x = some c → c ∈ W ∧ c ≠ env.locals ∧ (∀ i, c ∉ oa i) ∧ ∃ v, s.heap.IsCell c v
  cef : ∀ x c, sc.kind x = some .free → env.cells.lookup x = some c → ∃ o, h₀.get? c = some o
  cei : ∀ x y c, sc.kind x = some .cell → sc.kind y = some .cell → env.cells.lookup x = some c → env.cells.lookup y = some c → x = y
  own : ∀ x i sl, sc.idx x = some i → ρ[i]? = some sl → sl.owned = true → sc.kind x = some .local ∧ ∃ a r, oa i = a :: r ∧ m x = some (.ref a) ∧ OwnR Γ.tokA s.heap (gX s.heap (X ++ W)) sl (oa i)
  oax : ∀ i, ∀ a ∈ oa i, a ∈ W ∧ a ∉ X ∧ a ≠ env.locals
  oad : ∀ i j a, a ∈ oa i → a ∈ oa j → i = j
  hi : ∀ (i : Nat) (sl : Slot), sc.n ≤ i → ρ[i]? = some sl → sl = .no

section
variable {prog : Program} {w : World} {Γ : Gp} {n : Nat} {A : Around} {env : Env} {sc : Sc} {h₀ : Heap} {X W : List Addr} {ρ : Loc} {m : NM} {oa : OA} {s s' : Shared}

theorem Fm.gok (f : Fm prog w Γ env sc h₀ X W ρ m oa s) : GOK prog w Γ s.heap := by
  obtain ⟨g, hk⟩ := f.root
  exact g.keeps fun b o e => (gX_get (hk b o e)).1
theorem root_ev {W' : List Addr} (r : GOK prog w Γ h₀ ∧ Sub h₀.get? (gX s.heap W)) (x : Ev W s W' s') : GOK prog w Γ h₀ ∧ Sub h₀.get? (gX s'.heap W') :=
  let ⟨g, hk⟩ := r; ⟨g, fun a o e => x.sub a o (hk a o e)⟩
theorem Fm.cef' (f : Fm prog w Γ env sc h₀ X W ρ m oa s) {x : Str} {c : Addr} (h : sc.kind x = some .free) (hc : env.cells.lookup x = some c) : c ∉ W :=
  let ⟨o, e⟩ := f.cef x c h hc; (gX_get (f.root.2 c o e)).2

theorem Fm.cx (f : Fm prog w Γ env sc h₀ X W ρ m oa s) (fx : Fx env sc) (ao : Ao n A) : Cx prog w Γ n A env sc ρ (X ++ W) s where
  ao := ao
  g := f.gok
  l := f.live
  e := {
    kind := fx.kind
    gl := fx.gl
    bu := fx.bu
    kinds := fx.kinds
    val := fun x i v hi hk hv => by
      rcases hk with hk | hk
      · obtain ⟨v', h1, h2⟩ := f.loc x i v hk hi hv
        exact ⟨v', .inl ⟨fx.kl x hk, m, f.ns, h1⟩, h2⟩
      · obtain ⟨c, h1, h2⟩ := f.cel x hk
        obtain ⟨v', h2, h3⟩ := h2 i v hi hv
        refine ⟨v', .inr ⟨?_, c, h1, h2⟩, h3⟩
        rcases hk with hk | hk
        · exact .inl (fx.kc x hk)
        · exact (fx.kf x hk)
    own := fun x i xs hi hk hv => by
      rcases hv with hv | hv
      · obtain ⟨h1, a, r, h2, h3, h4⟩ := f.own x i _ hi hv rfl
        obtain ⟨a', vs, h5, h6, h7, h8⟩ := h4
        rw [h2] at h5
        cases h5
        exact ⟨a, vs, .inl ⟨fx.kl x h1, m, f.ns, h3⟩, h6.isList, h7, h8⟩
      · obtain ⟨h1, a, r, h2, h3, h4⟩ := f.own x i _ hi hv rfl
        obtain ⟨a', vs, h5, h6, h7, h8⟩ := h4
        rw [h2] at h5
        cases h5
        exact ⟨a, vs, .inl ⟨fx.kl x h1, m, f.ns, h3⟩, h6, h7, h8⟩
    kcf := fun x h => by
      rcases h with h | h
      · exact .inl (fx.kc x h)
      · exact fx.kf x h
    scok := fx.ok
    hi := f.hi
    cells := fun x h => by
      obtain ⟨c, h1, _⟩ := f.cel x h
      rcases h with h | h
      · obtain ⟨_, _, _, v, o, e, _⟩ := f.cew x c h h1; exact ⟨c, o, h1, e⟩
      · obtain ⟨o, e⟩ := f.cef x c h h1; exact ⟨c, o, h1, (gX_get (f.root.2 c o e)).1⟩
    ownk := fun x i sl h1 h2 h3 => (f.own x i sl h1 h2 h3).1 }

theorem Fm.keeps (f : Fm prog w Γ env sc h₀ X W ρ m oa s) (x : Ext s s') : Fm prog w Γ env sc h₀ X W ρ m oa s' where
  root := root_ev f.root x.ev
  live := f.live.keeps x.heap
  lin := f.lin
  ns := f.ns.keeps x.heap
  loc := fun y i v h1 h2 h3 => let ⟨v', h4, h5⟩ := f.loc y i v h1 h2 h3; ⟨v', h4, h5.mono (gX_sub x.heap)⟩
  cel := fun y h => let ⟨c, h1, h2⟩ := f.cel y h; ⟨c, h1, fun i v h3 h4 => let ⟨v', h5, h6⟩ := h2 i v h3 h4; ⟨v', h5.keeps x.heap, h6.mono (gX_sub x.heap)⟩⟩
  cew := fun y c h1 h2 => let ⟨h3, h4, h5, v, h6⟩ := f.cew y c h1 h2; ⟨h3, h4, h5, v, h6.keeps x.heap⟩
  cef := f.cef
  cei := f.cei
  own := fun y i sl h1 h2 h3 => let ⟨h4, a, r, h5, h6, h7⟩ := f.own y i sl h1 h2 h3; ⟨h4, a, r, h5, h6, h7.keeps (gX_sub x.heap) fun b _ o => x.heap b o⟩
  oax := f.oax
  oad := f.oad
  hi := f.hi

theorem set_get {ρ : Loc} {i j : Nat} {sl sl' : Slot} (h : (ρ.set i sl)[j]? = some sl') : (j = i ∧ sl' = sl) ∨ (j ≠ i ∧ ρ[j]? = some sl') := by
  rw [List.getElem?_set] at h
  split at h
  · rename_i e
    split at h
    · cases h; exact .inl ⟨e.symm, rfl⟩
    · cases h
  · rename_i e; exact .inr ⟨fun q => e q.symm, h⟩

theorem hi_set {ρ : Loc} {n i : Nat} {sl' : Slot} (h : ∀ (j : Nat) (sl : Slot), n ≤ j → ρ[j]? = some sl → sl = .no) (hi : i < n) : ∀ (j : Nat) (sl : Slot), n ≤ j → (ρ.set i sl')[j]? = some sl → sl = .no := fun j sl hj hs => by
  rcases set_get hs with ⟨e, _⟩ | ⟨_, hs⟩
  · (first | lia | omega)
  · exact h j sl hj hs
theorem OA.set_mem {oa : OA} {i j : Nat} {as : List Addr} {a : Addr} (h : a ∈ oa.set i as j) : (j = i ∧ a ∈ as) ∨ (j ≠ i ∧ a ∈ oa j) := by
  unfold OA.set at h
  split at h
  · exact .inl ⟨‹_›, h⟩
  · exact .inr ⟨‹_›, h⟩

/-- a local name is given a new slot -/
theorem Fm.putLocal (f : Fm prog w Γ env sc h₀ X W ρ m oa s) (fx : Fx env sc) {x : Str} {i : Nat} {sl : Slot} {v' : Value} {as : List Addr} {h' : Heap} {tk : Nat} (hk : sc.kind x = some .local) (hi : sc.idx x = some i)
    (hn : h'.Ns env.locals (nset m x v')) (hs : Heap.SameBut env.locals s.heap h')
    (hv : ∀ v, sl = .val v → VR Γ.tokA (gX s.heap (X ++ W)) v v') (ho : sl.owned = true → ∃ a r, as = a :: r ∧ v' = .ref a ∧ OwnR Γ.tokA s.heap (gX s.heap (X ++ W)) sl as)
    (ha : ∀ a ∈ as, a ∈ W ∧ a ∉ X ∧ a ≠ env.locals) (hc : ∀ x c, sc.kind x = some .cell → env.cells.lookup x = some c → c ∉ as) (hd : ∀ j a, j ≠ i → a ∈ as → a ∉ oa j) :
    Fm prog w Γ env sc h₀ X W (ρ.set i sl) (nset m x v') (oa.set i as) { s with heap := h', toks := tk } := by
  have hev : Ev W s W { s with heap := h', toks := tk } := .of_same f.lin hs
  have hsub := hev.subX X
  have hne : ∀ y j, sc.idx y = some j → j ≠ i → y ≠ x := fun y j hj hji e => by subst e; rw [hi] at hj; cases hj; exact hji rfl
  constructor
  · exact root_ev f.root hev
  · intro a ha
    obtain ⟨o, e⟩ := f.live a ha
    by_cases q : a = env.locals
    · subst q; obtain ⟨o', _, _, e', _⟩ := hn; exact ⟨o', e'⟩
    · exact ⟨o, hs.extBut a o q e⟩
  · exact f.lin
  · exact hn
  · intro y j v h1 h2 h3
    rcases set_get h3 with ⟨rfl, rfl⟩ | ⟨hji, h3⟩
    · have := fx.ok.inj y x _ h2 hi; subst this
      exact ⟨v', by simp [nset], (hv v rfl).mono hsub⟩
    · obtain ⟨u, h4, h5⟩ := f.loc y j v h1 h2 h3
      exact ⟨u, by simp [nset, hne y j h2 hji, h4], h5.mono hsub⟩
  · intro y h
    obtain ⟨c, h1, h2⟩ := f.cel y h
    refine ⟨c, h1, fun j v h3 h4 => ?_⟩
    rcases set_get h4 with ⟨rfl, rfl⟩ | ⟨hji, h4⟩
    · have := fx.ok.inj y x _ h3 hi; subst this
      rw [hk] at h; rcases h with h | h <;> cases h
    · obtain ⟨u, h5, h6⟩ := h2 j v h3 h4
      refine ⟨u, h5.sameBut hs ?_, h6.mono hsub⟩
      rcases h with h | h
      · exact (f.cew y c h h1).2.1
      · exact fun q => f.cef' h h1 (q ▸ f.lin)
  · intro y c h1 h2
    obtain ⟨h3, h4, h5, u, h6⟩ := f.cew y c h1 h2
    refine ⟨h3, h4, fun j hj => ?_, u, h6.sameBut hs h4⟩
    rcases OA.set_mem hj with ⟨rfl, hq⟩ | ⟨_, hq⟩
    · exact hc y c h1 h2 hq
    · exact h5 j hq
  · exact f.cef
  · exact f.cei
  · intro y j sl' h1 h2 h3
    rcases set_get h2 with ⟨rfl, rfl⟩ | ⟨hji, h2⟩
    · have := fx.ok.inj y x _ h1 hi; subst this
      obtain ⟨a, r, e1, e2, e3⟩ := ho h3
      have e4 : oa.set j as j = as := by simp [OA.set]
      refine ⟨hk, a, r, by rw [e4, e1], by simp [nset, e2], ?_⟩
      rw [e4]
      exact e3.keeps hsub fun b hb o e => hs.extBut b o (ha b hb).2.2 e
    · obtain ⟨h4, a, r, h5, h6, h7⟩ := f.own y j sl' h1 h2 h3
      have e4 : oa.set i as j = oa j := by simp [OA.set, hji]
      refine ⟨h4, a, r, by rw [e4, h5], by simp [nset, hne y j h1 hji, h6], ?_⟩
      rw [e4]
      exact h7.keeps hsub fun b hb o e => hs.extBut b o (f.oax j b hb).2.2 e
  · intro j a hj
    rcases OA.set_mem hj with ⟨rfl, hq⟩ | ⟨_, hq⟩
    · exact ha a hq
    · exact f.oax j a hq
  · intro j k a hj hk'
    rcases OA.set_mem hj with ⟨rfl, hp⟩ | ⟨hji, hp⟩ <;> rcases OA.set_mem hk' with ⟨e2, hq⟩ | ⟨hki, hq⟩
    · exact e2.symm
    · exact absurd hq (hd k a hki hp)
    · subst e2; exact absurd hp (hd j a hji hq)
    · exact f.oad j k a hp hq
  · exact hi_set f.hi (fx.ok.lt x i hi)

/-- a cell is given a value -/
theorem Fm.putCell (f : Fm prog w Γ env sc h₀ X W ρ m oa s) (fx : Fx env sc) {x : Str} {i : Nat} {c : Addr} {v : AV} {v' : Value} {h' : Heap} (hk : sc.kind x = some .cell) (hi : sc.idx x = some i) (hc : env.cells.lookup x = some c)
    (hn : h'.IsCell c (some v')) (hs : Heap.SameBut c s.heap h') (hv : VR Γ.tokA (gX s.heap (X ++ W)) v v') :
    Fm prog w Γ env sc h₀ X W (ρ.set i (.val v)) m (oa.set i []) { s with heap := h' } := by
  obtain ⟨hcW, hcL, hco, _⟩ := f.cew x c hk hc
  have hev : Ev W s W { s with heap := h' } := .of_same hcW hs
  have hsub := hev.subX X
  have hne : ∀ y j, sc.idx y = some j → j ≠ i → y ≠ x := fun y j hj hji e => by subst e; rw [hi] at hj; cases hj; exact hji rfl
  constructor
  · exact root_ev f.root hev
  · intro a ha
    obtain ⟨o, e⟩ := f.live a ha
    by_cases q : a = c
    · subst q; obtain ⟨o', e', _⟩ := hn; exact ⟨o', e'⟩
    · exact ⟨o, hs.extBut a o q e⟩
  · exact f.lin
  · exact f.ns.at' fun o e => hs.extBut _ o (Ne.symm hcL) e
  · intro y j u h1 h2 h3
    rcases set_get h3 with ⟨rfl, e⟩ | ⟨hji, h3⟩
    · have := fx.ok.inj y x _ h2 hi; subst this
      rw [hk] at h1; cases h1
    · obtain ⟨u, h4, h5⟩ := f.loc y j u h1 h2 h3
      exact ⟨u, h4, h5.mono hsub⟩
  · intro y h
    obtain ⟨d, h1, h2⟩ := f.cel y h
    refine ⟨d, h1, fun j u h3 h4 => ?_⟩
    rcases set_get h4 with ⟨rfl, e⟩ | ⟨hji, h4⟩
    · have := fx.ok.inj y x _ h3 hi; subst this
      cases e
      rw [hc] at h1; cases h1
      exact ⟨v', hn, hv.mono hsub⟩
    · obtain ⟨u, h5, h6⟩ := h2 j u h3 h4
      refine ⟨u, h5.sameBut hs ?_, h6.mono hsub⟩
      rintro rfl
      rcases h with h | h
      · exact hne y j h3 hji (f.cei y x d h hk h1 hc)
      · exact f.cef' h h1 hcW
  · intro y d h1 h2
    obtain ⟨h3, h4, h5, u, h6⟩ := f.cew y d h1 h2
    refine ⟨h3, h4, fun j hj => ?_, ?_⟩
    · rcases OA.set_mem hj with ⟨_, hq⟩ | ⟨_, hq⟩
      · cases hq
      · exact h5 j hq
    · by_cases q : d = c
      · subst q; exact ⟨_, hn⟩
      · exact ⟨u, h6.sameBut hs q⟩
  · exact f.cef
  · exact f.cei
  · intro y j sl' h1 h2 h3
    rcases set_get h2 with ⟨rfl, rfl⟩ | ⟨hji, h2⟩
    · cases h3
    · obtain ⟨h4, a, r, h5, h6, h7⟩ := f.own y j sl' h1 h2 h3
      have e4 : oa.set i [] j = oa j := by simp [OA.set, hji]
      refine ⟨h4, a, r, by rw [e4, h5], h6, ?_⟩
      rw [e4]
      exact h7.keeps hsub fun b hb o e => hs.extBut b o (fun q => hco j (q ▸ hb)) e
  · intro j a hj
    rcases OA.set_mem hj with ⟨_, hq⟩ | ⟨_, hq⟩
    · cases hq
    · exact f.oax j a hq
  · intro j k a hj hk'
    rcases OA.set_mem hj with ⟨e1, hp⟩ | ⟨hji, hp⟩ <;> rcases OA.set_mem hk' with ⟨e2, hq⟩ | ⟨hki, hq⟩
    · cases hp
    · cases hp
    · cases hq
    · exact f.oad j k a hp hq
  · exact hi_set f.hi (fx.ok.lt x i hi)

theorem store_ {E : Value → Shared → Prop} {x : Str} {i : Nat} {v : AV} {v' : Value} {Q : Unit → Shared → Prop} (f : Fm prog w Γ env sc h₀ X W ρ m oa s) (fx : Fx env sc) (hk : sc.kind x = some .local ∨ sc.kind x = some .cell) (hi : sc.idx x = some i)
    (hv : VR Γ.tokA (gX s.heap (X ++ W)) v v') (h : ∀ s' m' oa', Fm prog w Γ env sc h₀ X W (ρ.set i (.val v)) m' oa' s' → Ev W s W s' → Q () s') : wpAny (model prog w) A (storeName env x v') Q E s := by
  rcases hk with hk | hk
  · refine wpAny_storeName_local (fx.kl x hk) f.ns (fun h' hn hs => ?_) (by simp [fx.kind])
    exact h _ _ _ (f.putLocal fx (as := []) hk hi hn hs (fun u e => by cases e; exact hv) (by simp [Slot.owned]) (by simp) (by simp) (by simp)) (.of_same f.lin hs)
  · obtain ⟨c, hc, _⟩ := f.cel x (.inl hk)
    obtain ⟨hcW, _, _, v₀, hv₀⟩ := f.cew x c hk hc
    refine wpAny_storeName_cell fx.kind (fx.kc x hk) hc hv₀ fun h' hn hs => ?_
    exact h _ _ _ (f.putCell fx hk hi hc hn hs hv) (.of_same hcW hs)

/-- fewer hidden, none owned -/
theorem Fm.freeze1 (f : Fm prog w Γ env sc h₀ X W ρ m oa s) (fx : Fx env sc) (i : Nat) : ∃ W' oa', Fm prog w Γ env sc h₀ X W' (Mine.freeze1 ρ i) m oa' s ∧ (∀ a ∈ W', a ∈ W) := by
  by_cases hx : ∃ x sl, sc.idx x = some i ∧ ρ[i]? = some sl ∧ sl.owned = true
  · obtain ⟨x, sl, hi, hsl, ho⟩ := hx
    obtain ⟨hk, a, r, hoa, hma, hr⟩ := f.own x i sl hi hsl ho
    have hW : ∀ b ∈ W.filter (fun b => !(oa i).contains b), b ∈ W := fun b hb => (List.mem_filter.mp hb).1
    have hnot : ∀ b ∈ oa i, b ∉ W.filter (fun b => !(oa i).contains b) := fun b hb hb' => by
      have := (List.mem_filter.mp hb').2
      simp at this; exact this hb
    have hin : ∀ b ∈ W, b ∉ oa i → b ∈ W.filter (fun b => !(oa i).contains b) := fun b hb hb' => List.mem_filter.mpr ⟨hb, by simpa using hb'⟩
    have hev : Ev W s (W.filter fun b => !(oa i).contains b) s := .less hW
    have hsub := hev.subX X
    have hvis : ∀ b ∈ oa i, ∀ o, s.heap.get? b = some o → gX s.heap (X ++ W.filter (fun b => !(oa i).contains b)) b = some o := fun b hb o e =>
      gX_of e (by rw [List.mem_append, not_or]; exact ⟨(f.oax i b hb).2.1, hnot b hb⟩)
    have hz : ∃ xs, Mine.freeze1 ρ i = ρ.set i (.val (.list xs)) ∧ VR Γ.tokA (gX s.heap (X ++ W.filter fun b => !(oa i).contains b)) (.list xs) (.ref a) := by
      unfold Mine.freeze1
      rw [hsl]
      cases sl with
      | no => cases ho
      | val v => cases ho
      | own xs =>
        obtain ⟨a', vs, e1, h1, h2, h3⟩ := hr
        rw [hoa] at e1; cases e1
        obtain ⟨k, e⟩ := h1
        exact ⟨xs, rfl, a, _, vs, k, rfl, hvis a (by rw [hoa]; simp) _ e, rfl, rfl, h2.mono hsub, h3⟩
      | ownS xs =>
        obtain ⟨a', vs, e1, h1, h2, h3⟩ := hr
        rw [hoa] at e1; cases e1
        obtain ⟨o, e, hc, k, hd⟩ := h1
        exact ⟨xs, rfl, a, _, vs, k, rfl, hvis a (by rw [hoa]; simp) _ e, hc, hd, h2.mono hsub, h3⟩
      | own2 xs ys =>
        obtain ⟨a', b, us, vs, e1, h0, h1, h2, h3, h4, h5, h6⟩ := hr
        rw [hoa] at e1; cases e1
        obtain ⟨k, e⟩ := h1
        obtain ⟨l, e'⟩ := h2
        refine ⟨xs ++ [.list ys], rfl, a, _, _, k, rfl, hvis a (by rw [hoa]; simp) _ e, rfl, rfl, ?_, by simpa using h5⟩
        rw [Array.toList_push]
        exact (h3.mono hsub).append ⟨⟨b, _, vs, l, rfl, hvis b (by rw [hoa]; simp) _ e', rfl, rfl, h4.mono hsub, h6⟩, trivial⟩
    obtain ⟨xs, hz, hvr⟩ := hz
    refine ⟨W.filter (fun b => !(oa i).contains b), oa.set i [], ?_, hW⟩
    rw [hz]
    constructor
    · exact root_ev f.root hev
    · intro b hb
      rcases List.mem_append.mp hb with hb | hb
      · exact f.live b (List.mem_append_left _ hb)
      · exact f.live b (List.mem_append_right _ (hW b hb))
    · exact hin _ f.lin fun q => (f.oax i _ q).2.2 rfl
    · exact f.ns
    · intro y j v h1 h2 h3
      rcases set_get h3 with ⟨rfl, e⟩ | ⟨hji, h3⟩
      · have := fx.ok.inj y x _ h2 hi; subst this
        cases e
        exact ⟨_, hma, hvr⟩
      · obtain ⟨u, h4, h5⟩ := f.loc y j v h1 h2 h3
        exact ⟨u, h4, h5.mono hsub⟩
    · intro y h
      obtain ⟨c, h1, h2⟩ := f.cel y h
      refine ⟨c, h1, fun j v h3 h4 => ?_⟩
      rcases set_get h4 with ⟨rfl, _⟩ | ⟨hji, h4⟩
      · have := fx.ok.inj y x _ h3 hi; subst this
        rw [hk] at h; rcases h with h | h <;> cases h
      · obtain ⟨u, h5, h6⟩ := h2 j v h3 h4
        exact ⟨u, h5, h6.mono hsub⟩
    · intro y c h1 h2
      obtain ⟨h3, h4, h5, h6⟩ := f.cew y c h1 h2
      refine ⟨hin _ h3 (h5 i), h4, fun j hj => ?_, h6⟩
      rcases OA.set_mem hj with ⟨_, hq⟩ | ⟨_, hq⟩
      · cases hq
      · exact h5 j hq
    · exact f.cef
    · exact f.cei
    · intro y j sl' h1 h2 h3
      rcases set_get h2 with ⟨rfl, rfl⟩ | ⟨hji, h2⟩
      · cases h3
      · obtain ⟨h4, a', r', h5, h6, h7⟩ := f.own y j sl' h1 h2 h3
        have e4 : oa.set i [] j = oa j := by simp [OA.set, hji]
        refine ⟨h4, a', r', by rw [e4, h5], h6, ?_⟩
        rw [e4]
        exact h7.keeps hsub fun b _ o e => e
    · intro j b hj
      rcases OA.set_mem hj with ⟨_, hq⟩ | ⟨hji, hq⟩
      · cases hq
      · obtain ⟨h1, h2, h3⟩ := f.oax j b hq
        exact ⟨hin b h1 fun q => hji (f.oad j i b hq q), h2, h3⟩
    · intro j k b hj hk'
      rcases OA.set_mem hj with ⟨e1, hp⟩ | ⟨hji, hp⟩ <;> rcases OA.set_mem hk' with ⟨e2, hq⟩ | ⟨hki, hq⟩
      · cases hp
      · cases hp
      · cases hq
      · exact f.oad j k b hp hq
    · exact hi_set f.hi (fx.ok.lt x i hi)
  · refine ⟨W, oa, ?_, fun _ h => h⟩
    have hno : ∀ x sl, sc.idx x = some i → (Mine.freeze1 ρ i)[i]? = some sl → ρ[i]? = some sl := by
      intro x sl hi hsl
      unfold Mine.freeze1 at hsl
      split at hsl
      · rename_i e; exact absurd ⟨x, _, hi, e, rfl⟩ hx
      · rename_i e; exact absurd ⟨x, _, hi, e, rfl⟩ hx
      · rename_i e; exact absurd ⟨x, _, hi, e, rfl⟩ hx
      · exact hsl
    have hoth : ∀ j sl, j ≠ i → (Mine.freeze1 ρ i)[j]? = some sl → ρ[j]? = some sl := by
      intro j sl hj hsl
      unfold Mine.freeze1 at hsl
      split at hsl <;> first
        | exact hsl
        | (rcases set_get hsl with ⟨e, _⟩ | ⟨_, e⟩
           · exact absurd e hj
           · exact e)
    have hall : ∀ x j sl, sc.idx x = some j → (Mine.freeze1 ρ i)[j]? = some sl → ρ[j]? = some sl := fun x j sl hi hsl => by
      by_cases q : j = i
      · subst q; exact hno x sl hi hsl
      · exact hoth j sl q hsl
    exact { f with
      loc := fun y j v h1 h2 h3 => f.loc y j v h1 h2 (hall y j _ h2 h3)
      cel := fun y h => let ⟨c, h1, h2⟩ := f.cel y h; ⟨c, h1, fun j v h3 h4 => h2 j v h3 (hall y j _ h3 h4)⟩
      own := fun y j sl h1 h2 h3 => f.own y j sl h1 (hall y j _ h1 h2) h3
      hi := fun j sl hj h2 => by
        by_cases q : j = i
        · subst q
          unfold Mine.freeze1 at h2
          split at h2
          · rename_i e; cases f.hi _ _ hj e
          · rename_i e; cases f.hi _ _ hj e
          · rename_i e; cases f.hi _ _ hj e
          · exact f.hi _ _ hj h2
        · exact f.hi j sl hj (hoth j sl q h2) }

theorem Fm.freeze (fx : Fx env sc) : ∀ (is : List Nat) {W : List Addr} {ρ : Loc} {oa : OA}, Fm prog w Γ env sc h₀ X W ρ m oa s → ∃ W' oa', Fm prog w Γ env sc h₀ X W' (Mine.freeze ρ is) m oa' s ∧ (∀ a ∈ W', a ∈ W)
  | [], W, _, oa, f => ⟨W, oa, f, fun _ h => h⟩
  | i :: is, _, _, _, f => by
    obtain ⟨W1, oa1, f1, h1⟩ := f.freeze1 fx i
    obtain ⟨W2, oa2, f2, h2⟩ := Fm.freeze fx is f1
    exact ⟨W2, oa2, f2, fun a h => h1 a (h2 a h)⟩

/-- an iterator moves: what is hidden and not the frame's own changes -/
theorem Fm.hid {wr : List Addr} (f : Fm prog w Γ env sc h₀ X W ρ m oa s) (x : Ev wr s wr s') (hin : ∀ b ∈ wr, b ∈ X) (hl : Live wr s'.heap) (hW : ∀ b ∈ wr, b ∉ W) (h0 : ∀ b ∈ wr, h₀.get? b = none) : Fm prog w Γ env sc h₀ X W ρ m oa s' := by
  have kp : ∀ b o, b ∉ wr → s.heap.get? b = some o → s'.heap.get? b = some o := fun b o hb e => (gX_get (x.sub b o (gX_of e hb))).1
  have hsub : Sub (gX s.heap (X ++ W)) (gX s'.heap (X ++ W)) := fun a o e => by
    obtain ⟨e1, e2⟩ := gX_get e
    exact gX_of (kp a o (fun q => e2 (List.mem_append_left _ (hin a q))) e1) e2
  have hw : ∀ b, b ∈ W → b ∉ wr := fun b hb q => hW b q hb
  refine ⟨⟨f.root.1, fun a o e => ?_⟩, ?_, f.lin, f.ns.at' fun o e => kp _ o (hw _ f.lin) e, ?_, ?_, ?_, f.cef, f.cei, ?_, f.oax, f.oad, f.hi⟩
  · obtain ⟨e1, e2⟩ := gX_get (f.root.2 a o e)
    exact gX_of (kp a o (fun q => by rw [h0 a q] at e; cases e) e1) e2
  · intro a ha
    by_cases q : a ∈ wr
    · exact hl a q
    · obtain ⟨o, e⟩ := f.live a ha; exact ⟨o, kp a o q e⟩
  · exact fun y i v h1 h2 h3 => let ⟨v', h4, h5⟩ := f.loc y i v h1 h2 h3; ⟨v', h4, h5.mono hsub⟩
  · intro y h
    obtain ⟨c, h1, h2⟩ := f.cel y h
    refine ⟨c, h1, fun i v h3 h4 => ?_⟩
    obtain ⟨v', ⟨o, h5, h6⟩, h7⟩ := h2 i v h3 h4
    refine ⟨v', ⟨o, kp c o ?_ h5, h6⟩, h7.mono hsub⟩
    rcases h with h | h
    · exact hw c (f.cew y c h h1).1
    · intro q; obtain ⟨o, e⟩ := f.cef y c h h1; rw [h0 c q] at e; cases e
  · exact fun y c h1 h2 => let ⟨h3, h4, h5, v, o, h6, h7⟩ := f.cew y c h1 h2; ⟨h3, h4, h5, v, o, kp c o (hw c h3) h6, h7⟩
  · exact fun y i sl h1 h2 h3 => let ⟨h4, a, r, h5, h6, h7⟩ := f.own y i sl h1 h2 h3; ⟨h4, a, r, h5, h6, h7.keeps hsub fun b hb o => kp b o (hw b (f.oax i b hb).1)⟩
/-- a loop ends: its iterator is seen again, and never looked at -/
theorem Fm.drop {wr : List Addr} (f : Fm prog w Γ env sc h₀ (wr ++ X) W ρ m oa s) (x : Ev wr s wr s') (hW : ∀ b ∈ wr, b ∉ W) (hX : ∀ b ∈ wr, b ∉ X) (h0 : ∀ b ∈ wr, h₀.get? b = none) : Fm prog w Γ env sc h₀ X W ρ m oa s' := by
  have kp : ∀ b o, b ∉ wr → s.heap.get? b = some o → s'.heap.get? b = some o := fun b o hb e => (gX_get (x.sub b o (gX_of e hb))).1
  have hsub : Sub (gX s.heap ((wr ++ X) ++ W)) (gX s'.heap (X ++ W)) := fun a o e => by
    obtain ⟨e1, e2⟩ := gX_get e
    rw [List.append_assoc, List.mem_append, not_or] at e2
    exact gX_of (kp a o e2.1 e1) e2.2
  have hw : ∀ b, b ∈ W → b ∉ wr := fun b hb q => hW b q hb
  refine ⟨⟨f.root.1, fun a o e => ?_⟩, ?_, f.lin, f.ns.at' fun o e => kp _ o (hw _ f.lin) e, ?_, ?_, ?_, f.cef, f.cei, ?_, ?_, f.oad, f.hi⟩
  · obtain ⟨e1, e2⟩ := gX_get (f.root.2 a o e)
    exact gX_of (kp a o (fun q => by rw [h0 a q] at e; cases e) e1) e2
  · intro a ha
    obtain ⟨o, e⟩ := f.live a (by rw [List.append_assoc]; exact List.mem_append_right _ ha)
    refine ⟨o, kp a o (fun q => ?_) e⟩
    rcases List.mem_append.mp ha with h | h
    · exact hX a q h
    · exact hW a q h
  · exact fun y i v h1 h2 h3 => let ⟨v', h4, h5⟩ := f.loc y i v h1 h2 h3; ⟨v', h4, h5.mono hsub⟩
  · intro y h
    obtain ⟨c, h1, h2⟩ := f.cel y h
    refine ⟨c, h1, fun i v h3 h4 => ?_⟩
    obtain ⟨v', ⟨o, h5, h6⟩, h7⟩ := h2 i v h3 h4
    refine ⟨v', ⟨o, kp c o ?_ h5, h6⟩, h7.mono hsub⟩
    rcases h with h | h
    · exact hw c (f.cew y c h h1).1
    · intro q; obtain ⟨o, e⟩ := f.cef y c h h1; rw [h0 c q] at e; cases e
  · exact fun y c h1 h2 => let ⟨h3, h4, h5, v, o, h6, h7⟩ := f.cew y c h1 h2; ⟨h3, h4, h5, v, o, kp c o (hw c h3) h6, h7⟩
  · exact fun y i sl h1 h2 h3 => let ⟨h4, a, r, h5, h6, h7⟩ := f.own y i sl h1 h2 h3; ⟨h4, a, r, h5, h6, h7.keeps hsub fun b hb o => kp b o (hw b (f.oax i b hb).1)⟩
  · exact fun i a ha => let ⟨h1, h2, h3⟩ := f.oax i a ha; ⟨h1, fun q => h2 (List.mem_append_right _ q), h3⟩
/-- something made since is hidden -/
theorem Fm.grow {wr : List Addr} (f : Fm prog w Γ env sc h₀ X W ρ m oa s) (x : Ext s s') (hf : ∀ a ∈ wr, s.heap.get? a = none) (hl : Live wr s'.heap) : Fm prog w Γ env sc h₀ (wr ++ X) W ρ m oa s' := by
  have hsub : Sub (gX s.heap (X ++ W)) (gX s'.heap ((wr ++ X) ++ W)) := fun a o e => by
    obtain ⟨e1, e2⟩ := gX_get e
    refine gX_of (x.heap a o e1) ?_
    rw [List.append_assoc, List.mem_append, not_or]
    exact ⟨fun q => by (rw [hf a q] at e1; cases e1), e2⟩
  have f' := f.keeps x
  refine ⟨f'.root, ?_, f.lin, f'.ns, ?_, ?_, f'.cew, f.cef, f.cei, ?_, ?_, f.oad, f.hi⟩
  · intro a ha
    rw [List.append_assoc] at ha
    rcases List.mem_append.mp ha with h | h
    · exact hl a h
    · exact f'.live a h
  · exact fun y i v h1 h2 h3 => let ⟨v', h4, h5⟩ := f.loc y i v h1 h2 h3; ⟨v', h4, h5.mono hsub⟩
  · exact fun y h => let ⟨c, h1, h2⟩ := f.cel y h; ⟨c, h1, fun i v h3 h4 => let ⟨v', h5, h6⟩ := h2 i v h3 h4; ⟨v', h5.keeps x.heap, h6.mono hsub⟩⟩
  · exact fun y i sl h1 h2 h3 => let ⟨h4, a, r, h5, h6, h7⟩ := f.own y i sl h1 h2 h3; ⟨h4, a, r, h5, h6, h7.keeps hsub fun b _ o => x.heap b o⟩
  · intro i a ha
    obtain ⟨h1, h2, h3⟩ := f.oax i a ha
    refine ⟨h1, fun q => ?_, h3⟩
    rcases List.mem_append.mp q with q | q
    · obtain ⟨o, e⟩ := f.live a (List.mem_append_right _ h1)
      rw [hf a q] at e; cases e
    · exact h2 q

theorem Fm.fewer {ρ' : Loc} (f : Fm prog w Γ env sc h₀ X W ρ' m oa s) (h : ∀ (i : Nat) (sl : Slot), ρ[i]? = some sl → sl = .no ∨ ρ'[i]? = some sl) : Fm prog w Γ env sc h₀ X W ρ m oa s :=
  { f with
    loc := fun x i v h1 h2 h3 => f.loc x i v h1 h2 ((h _ _ h3).resolve_left nofun)
    cel := fun x hx => let ⟨c, h1, h2⟩ := f.cel x hx; ⟨c, h1, fun i v h3 h4 => h2 i v h3 ((h _ _ h4).resolve_left nofun)⟩
    own := fun x i sl h1 h2 h3 => f.own x i sl h1 ((h _ _ h2).resolve_left fun e => by subst e; cases h3) h3
    hi := fun i sl h1 h2 => by
      rcases h i sl h2 with e | e
      · exact e
      · exact f.hi i sl h1 e }
end
end Mine

namespace Mine

/-- an iterator that hands out what xs relates to -/
structure Src (prog : Program) (w : World) (A : Around) (tokA : Addr) (X wr : List Addr) (I : Addr) (t : Expr) (St : List AV → List Addr → Shared → Prop) : Prop where
  live : ∀ xs W s, St xs W s → Live wr s.heap
  out : ∀ xs W s, St xs W s → ∀ b ∈ wr, b ∉ W
  frame : ∀ xs W W' s s', St xs W s → Ev W s W' s' → St xs W' s'
  item : ∀ x xs W (s : Shared) (Q : Option Value → Shared → Prop) (E : Value → Shared → Prop), St (x :: xs) W s → Live ((wr ++ X) ++ W) s.heap →
    (∀ s' v, Ev wr s wr s' → Live wr s'.heap → VR tokA (gX s'.heap ((wr ++ X) ++ W)) x v →
      (∀ (Q' : Unit → Shared → Prop) (E' : Value → Shared → Prop), (∀ s'', Ev wr s' wr s'' → St xs W s'' → Q' () s'') → wpAny (model prog w) A (letOwnedTupleGo t (.ref I) v) Q' E' s') → Q (some v) s') →
    wpAny (model prog w) A (pyNext (.ref I)) Q E s
  done : ∀ W (s : Shared) (Q : Option Value → Shared → Prop) (E : Value → Shared → Prop), St [] W s → (∀ s', Ev wr s wr s' → Q none s') → wpAny (model prog w) A (pyNext (.ref I)) Q E s
  self : ∀ xs W (s : Shared) (Q : Value → Shared → Prop) (E : Value → Shared → Prop), St xs W s → Q (.ref I) s → wpAny (model prog w) A (pyIter (.ref I)) Q E s

section
variable {prog : Program} {w : World} {A : Around} {E : Value → Shared → Prop} {s : Shared} {tokA : Addr} {X : List Addr}

noncomputable def ownedKinds : List String := ["enumerate", "zip", "dict_itemiterator", "dict_reverseitemiterator", "odict_iterator", "itertools.zip_longest", "itertools.pairwise"]
set_option backward.match.sparseCases true in
theorem letOwned_plain {t : Expr} {I : Addr} {v : Value} {Q : Unit → Shared → Prop} (h : ∃ o nm, s.heap.get? I = some o ∧ o.cls = .type nm ∧ ownedKinds.contains nm = false) (hQ : Q () s) :
    wpAny (model prog w) A (letOwnedTupleGo t (.ref I) v) Q E s := by
  obtain ⟨o, nm, ho, hc, hn⟩ := h
  have key : ∀ a : Addr, wpAny (model prog w) A (do
      let o ← load I
      match o.cls, o.data with
      | .type n, .fields vs =>
        if ownedKinds.contains n && vs[0]? == some (rawInt a) then
          rule "for.unpacks-the-owned-tuple"
          updateField I 0 .none
      | _, _ => pure () : Sem Unit) Q E s := fun a => by
    refine wpAny_bind (wpAny_load ho ?_)
    rw [hc]
    cases o.data with
    | fields vs => simp only [hn, Bool.false_and, Bool.false_eq_true, if_false]; exact wpAny_pure hQ
    | _ => exact wpAny_pure hQ
  cases t with
  | Tuple es k p => cases v with
    | ref a => exact key a
    | _ => exact wpAny_pure hQ
  | List es p => cases v with
    | ref a => exact key a
    | _ => exact wpAny_pure hQ
  | _ => exact wpAny_pure hQ

theorem kept_ev {wr W : List Addr} {h' : Heap} {tk : Nat} (hk : ∀ b o, b ∉ wr → s.heap.get? b = some o → h'.get? b = some o) (hs : ∀ b ∈ wr, b ∈ W) : Ev W s W { s with heap := h', toks := tk } := by
  refine ⟨fun b o e => ?_, rfl, .refl _⟩
  obtain ⟨e1, e2⟩ := gX_get e
  exact gX_of (hk b o (fun q => e2 (hs b q)) e1) e2

theorem Src.ofWalks {I : Addr} {fp : List Addr} {n : Nat} {P : Nat → Value → Prop} {S : Nat → Heap → Prop} (Wk : Walks prog w A I fp [I] n P S) (t : Expr)
    (hcls : ∀ i h, S i h → ∃ o nm, h.get? I = some o ∧ o.cls = .type nm ∧ ownedKinds.contains nm = false) (xs₀ : List AV) (hn : xs₀.length = n) :
    Src prog w A tokA X [I] I t (fun xs W s => (∃ i, S i s.heap ∧ i ≤ n ∧ xs = xs₀.drop i) ∧ (∀ b ∈ fp, b ∉ W ∧ ∃ o, s.heap.get? b = some o) ∧
      ∀ j x v, xs₀[j]? = some x → P j v → VR tokA (gX s.heap (([I] ++ X) ++ W)) x v) where
  live := fun xs W s st b hb => (st.2.1 b (Wk.sub b hb)).2
  out := fun xs W s st b hb => (st.2.1 b (Wk.sub b hb)).1
  frame := fun xs W W' s s' st ev => by
    have hk : ∀ b ∈ fp, ∀ o, s.heap.get? b = some o → s'.heap.get? b = some o ∧ b ∉ W' := fun b hb o e => gX_get (ev.sub b o (gX_of e (st.2.1 b hb).1))
    obtain ⟨⟨i, h1, h2, h3⟩, h4, h5⟩ := st
    refine ⟨⟨i, Wk.frame _ _ _ h1 fun b hb o e => (hk b hb o e).1, h2, h3⟩, fun b hb => ?_, fun j x v hj hp => (h5 j x v hj hp).mono (ev.subX _)⟩
    obtain ⟨o, e⟩ := (h4 b hb).2
    exact ⟨(hk b hb o e).2, o, (hk b hb o e).1⟩
  item := fun x xs W s Q E st _ hQ => by
    obtain ⟨⟨i, h1, h2, h3⟩, h4, h5⟩ := st
    have hi : i < n := by
      have := congrArg List.length h3
      simp at this; (first | lia | omega)
    have hx : xs₀[i]? = some x := by
      have := congrArg (·[0]?) h3
      simpa using this.symm
    have hxs : xs = xs₀.drop (i + 1) := by
      have := congrArg List.tail h3
      simpa using this
    refine Wk.item i s Q E hi h1 fun v h' tk hp st' hk => ?_
    have ev : Ev [I] s [I] { s with heap := h', toks := tk } := kept_ev hk fun _ h => h
    have evX : Sub (gX s.heap (([I] ++ X) ++ W)) (gX h' (([I] ++ X) ++ W)) := (kept_ev (s := s) (tk := tk) (W := ([I] ++ X) ++ W) hk fun b hb => by simp at hb; subst hb; simp).sub
    obtain ⟨o, nm, e1, e2, e3⟩ := hcls _ _ st'
    have hl : Live [I] h' := fun a ha => by simp at ha; subst ha; exact ⟨o, e1⟩
    refine hQ _ v ev hl ((h5 i x v hx hp).mono evX) fun Q' E' hq => letOwned_plain ⟨o, nm, e1, e2, e3⟩ (hq _ (.refl _ _) ?_)
    refine ⟨⟨i + 1, st', hi, hxs⟩, fun b hb => ⟨(h4 b hb).1, ?_⟩, fun j y u hj hu => (h5 j y u hj hu).mono evX⟩
    obtain ⟨ob, eb⟩ := (h4 b hb).2
    by_cases q : b = I
    · subst q; exact ⟨o, e1⟩
    · exact ⟨ob, hk b ob (by simpa using q) eb⟩
  done := fun W s Q E st hQ => by
    obtain ⟨⟨i, h1, h2, h3⟩, h4, h5⟩ := st
    have hi : i = n := by
      have := congrArg List.length h3
      simp at this; (first | lia | omega)
    subst hi
    exact Wk.done s Q E h1 fun h' tk hk => hQ _ (kept_ev hk fun _ h => h)
  self := fun xs W s Q E st hQ => by
    obtain ⟨⟨i, h1, _⟩, _⟩ := st
    exact Wk.self i s Q E h1 hQ

theorem idxs_vr {tokA : Addr} {g : Look} {xs : List AV} {vs : Array Value} (r : VRs tokA g xs vs.toList) : ∀ (j : Nat) (x : AV) (v : Value), xs[j]? = some x → vs[j]? = some v → VR tokA g x v := fun j x v hx hv => by
  obtain ⟨u, hu, r⟩ := r.get hx
  rw [Array.getElem?_toList] at hu
  rw [hu] at hv; cases hv; exact r

/-- an iterator was made at s -/
noncomputable def Hands (prog : Program) (w : World) (A : Around) (tokA : Addr) (X Z : List Addr) (t : Expr) (xs : List AV) (s : Shared) (Q : Value → Shared → Prop) : Prop :=
  ∀ s₂ I wr St, Ext s s₂ → (∀ a ∈ wr, s.heap.get? a = none) → Src prog w A tokA X wr I t St → St xs Z s₂ → Q (.ref I) s₂
theorem Hands.ext {Z : List Addr} {t : Expr} {xs : List AV} {s₁ : Shared} {Q : Value → Shared → Prop} (h : Hands prog w A tokA X Z t xs s Q) (x : Ext s s₁) : Hands prog w A tokA X Z t xs s₁ Q := fun s₂ I wr St x₂ hf sr st =>
  h s₂ I wr St (x.trans x₂) (fun a ha => by
    cases e : s.heap.get? a with
    | none => rfl
    | some o => have := x.heap a o e; rw [hf a ha] at this; cases this) sr st

theorem fresh_none (h : Heap) {a : Addr} (ha : h.objs.size ≤ a) : h.get? a = none := by
  cases e : h.get? a with
  | none => rfl
  | some o => exact absurd (Heap.lt_size e) (Nat.not_lt.mpr ha)

theorem grow_sub {Z wr : List Addr} {s s₂ : Shared} (x : Ext s s₂) (hf : ∀ a ∈ wr, s.heap.get? a = none) : Sub (gX s.heap (X ++ Z)) (gX s₂.heap ((wr ++ X) ++ Z)) := fun a o e => by
  obtain ⟨e1, e2⟩ := gX_get e
  refine gX_of (x.heap a o e1) ?_
  rw [List.append_assoc, List.mem_append, not_or]
  exact ⟨fun q => by (rw [hf a q] at e1; cases e1), e2⟩

/-- walking a list -/
theorem src_list (hh : A.handled = none) (t : Expr) {xs : List AV} {v : Value} {Q : Value → Shared → Prop} {Z : List Addr} (hv : VR tokA (gX s.heap (X ++ Z)) (.list xs) v) (hl : Live (X ++ Z) s.heap)
    (h : Hands prog w A tokA X Z t xs s Q) : wpAny (model prog w) A (pyIter v) Q E s := by
  obtain ⟨ax, vs, rfl, il, r, hz, hsz, hax⟩ := hv.isList
  refine wpAny_pyIter_list il ?_
  have hk : ∀ b o, s.heap.get? b = some o → (s.heap.push { cls := .type "list_iterator", data := .fields #[.ref ax, .int 0 0] }).get? b = some o := fun b o e => Heap.get?_push_of_some _ e
  have hne : ax ≠ s.heap.objs.size := fun q => by obtain ⟨o, e, _⟩ := il; exact Nat.lt_irrefl _ (q ▸ Heap.lt_size e)
  have hf : ∀ a ∈ [s.heap.objs.size], s.heap.get? a = none := fun a ha => by simp at ha; subst ha; exact fresh_none _ (Nat.le_refl _)
  have hfr := hl.fresh
  rw [List.mem_append, not_or] at hfr hax
  refine h _ _ _ _ (.hp hk) hf (Src.ofWalks (Walks.list hh _ ax hne vs) t (fun i h st => ?_) xs hsz.symm) ⟨⟨0, ⟨⟨_, Heap.get?_push_size _ rfl, rfl, rfl⟩, il.at (hk _)⟩, Nat.zero_le _, rfl⟩, fun b hb => ?_, fun j x v hx hp => ?_⟩
  · obtain ⟨⟨o, e, hc, _⟩, _⟩ := st
    exact ⟨o, _, e, hc, by decide⟩
  · simp only [List.mem_cons, List.not_mem_nil, or_false] at hb
    rcases hb with rfl | rfl
    · exact ⟨hfr.2, _, Heap.get?_push_size _ rfl⟩
    · obtain ⟨o, e, _⟩ := il
      exact ⟨hax.2, o, hk _ _ e⟩
  · exact idxs_vr (r.mono (grow_sub (.hp hk) hf)) j x v hx hp

/-- walking a tuple -/
theorem src_tup (hh : A.handled = none) (t : Expr) {xs : List AV} {v : Value} {Q : Value → Shared → Prop} {Z : List Addr} (hv : VR tokA (gX s.heap (X ++ Z)) (.tup xs) v) (hl : Live (X ++ Z) s.heap)
    (h : Hands prog w A tokA X Z t xs s Q) : wpAny (model prog w) A (pyIter v) Q E s := by
  obtain ⟨ax, vs, rfl, il, r, hz, hsz, hax⟩ := hv.isTup
  have il' : s.heap.IsTuple ax vs := il
  refine wpAny_pyIter_tuple il' ?_
  have hk : ∀ b o, s.heap.get? b = some o → (s.heap.push { cls := .type "tuple_iterator", data := .fields #[.ref ax, .int 0 0] }).get? b = some o := fun b o e => Heap.get?_push_of_some _ e
  have hne : ax ≠ s.heap.objs.size := fun q => by obtain ⟨o, e, _⟩ := il; exact Nat.lt_irrefl _ (q ▸ Heap.lt_size e)
  have hf : ∀ a ∈ [s.heap.objs.size], s.heap.get? a = none := fun a ha => by simp at ha; subst ha; exact fresh_none _ (Nat.le_refl _)
  have hfr := hl.fresh
  rw [List.mem_append, not_or] at hfr hax
  refine h _ _ _ _ (.hp hk) hf (Src.ofWalks (Walks.tuple hh _ ax hne vs) t (fun i h st => ?_) xs hsz.symm) ⟨⟨0, ⟨⟨_, Heap.get?_push_size _ rfl, rfl, rfl⟩, il'.at (hk _)⟩, Nat.zero_le _, rfl⟩, fun b hb => ?_, fun j x v hx hp => ?_⟩
  · obtain ⟨⟨o, e, hc, _⟩, _⟩ := st
    exact ⟨o, _, e, hc, by decide⟩
  · simp only [List.mem_cons, List.not_mem_nil, or_false] at hb
    rcases hb with rfl | rfl
    · exact ⟨hfr.2, _, Heap.get?_push_size _ rfl⟩
    · obtain ⟨o, e, _⟩ := il
      exact ⟨hax.2, o, hk _ _ e⟩
  · exact idxs_vr (r.mono (grow_sub (.hp hk) hf)) j x v hx hp

/-- walking range(n) -/
theorem src_range (hh : A.handled = none) (t : Expr) {k : Int} {u : Tok} {Q : Value → Shared → Prop} {Z : List Addr} (hk : -(2 ^ 62) < k ∧ k < 2 ^ 62) (hl : Live (X ++ Z) s.heap)
    (h : Hands prog w A tokA X Z t (rangeL 0 k 1) s Q) : wpAny (model prog w) A (call (.type "range") [.int k u]) (fun xv s₁ => wpAny (model prog w) A (pyIter xv) Q E s₁) E s := by
  have hsz : Builtin.Range.rangeSize 0 k 1 = (k.toNat : Int) := by
    unfold Builtin.Range.rangeSize
    simp
    split <;> (first | lia | omega)
  have hsm : Builtin.Range.small 0 k 1 = true := small_one (by (first | lia | omega)) (by (first | lia | omega)) (by (first | lia | omega)) (by (first | lia | omega))
  refine call_range_1 ?_
  generalize hs1 : ({ s with heap := s.heap.push { cls := .type "range", data := .fields #[.int 0 s.toks, .int k u, .int 1 (s.toks + 1)] }, toks := s.toks + 1 + 1 } : Shared) = s1
  have x1 : Ext s s1 := by subst hs1; exact .push _
  have hr : IsRange s1.heap s.heap.objs.size 0 k 1 s.toks u (s.toks + 1) := by subst hs1; exact Heap.get?_push_size _ rfl
  have hl1 : Live (X ++ Z) s1.heap := hl.keeps x1.heap
  refine wpAny_pyIter_range hr hsm ?_
  rw [hsz]
  have hkp : ∀ b o, s1.heap.get? b = some o → (s1.heap.push { cls := .type "range_iterator", data := .fields #[rawInt 0, rawInt (k.toNat : Int), rawInt 1] }).get? b = some o := fun b o e => Heap.get?_push_of_some _ e
  have hf : ∀ a ∈ [s1.heap.objs.size], s1.heap.get? a = none := fun a ha => by simp at ha; subst ha; exact fresh_none _ (Nat.le_refl _)
  have hfr := hl1.fresh
  rw [List.mem_append, not_or] at hfr
  refine (h.ext x1) _ _ _ _ (.hp hkp) hf (Src.ofWalks (Walks.range hh _ 0 1 k.toNat) t (fun i h st => ⟨_, _, st, rfl, by decide⟩) (rangeL 0 k 1) (by simp [rangeL])) ⟨⟨0, ?_, Nat.zero_le _, rfl⟩, fun b hb => ?_, fun j x v hx hp => ?_⟩
  · have : IsRangeIter (s1.heap.push { cls := .type "range_iterator", data := .fields #[rawInt 0, rawInt (k.toNat : Int), rawInt 1] }) s1.heap.objs.size 0 (k.toNat : Int) 1 := Heap.get?_push_size _ rfl
    simpa using this
  · simp only [List.mem_cons, List.not_mem_nil, or_false] at hb
    subst hb
    exact ⟨hfr.2, _, Heap.get?_push_size _ rfl⟩
  · obtain ⟨t', rfl⟩ := hp
    have hj := (List.getElem?_eq_some_iff.mp hx).1
    simp only [rangeL, List.length_map, List.length_range] at hj
    simp only [rangeL, List.getElem?_map, List.getElem?_range hj, Option.map_some] at hx
    cases hx
    exact ⟨t', rfl⟩

theorem enumF_get : ∀ (xs : List AV) (n j : Nat), (enumF n xs)[j]? = (xs[j]?).map fun x => AV.tup [.int ((n + j : Nat) : Int), x]
  | [], n, j => rfl
  | x :: xs, n, 0 => rfl
  | x :: xs, n, j + 1 => by
    simp only [qEn, List.getElem?_cons_succ, enumF_get xs (n + 1) j]
    rw [show n + 1 + j = n + (j + 1) by (first | lia | omega)]
theorem enumF_len : ∀ (xs : List AV) (n : Nat), (enumF n xs).length = xs.length
  | [], _ => rfl
  | x :: xs, n => congrArg (· + 1) (enumF_len xs (n + 1))

/-- walking enumerate(list) into a tuple of names -/
theorem src_enum (hh : A.handled = none) {es : List Expr} {kk : Nat} {tp : Pos} {xs : List AV} {v : Value} {Q : Value → Shared → Prop} {Z : List Addr} (hv : VR tokA (gX s.heap (X ++ Z)) (.list xs) v) (hl : Live (X ++ Z) s.heap)
    (h : Hands prog w A tokA X Z (.Tuple es kk tp) (enumF 0 xs) s Q) : wpAny (model prog w) A (call (.type "enumerate") [v]) (fun xv s₁ => wpAny (model prog w) A (pyIter xv) Q E s₁) E s := by
  obtain ⟨ax, vs, rfl, il, r, hz, hsz, hax⟩ := hv.isList
  refine call_enumerate_list il fun h' he hit hsize hkp => ?_
  refine wpAny_pyIter_enum he ?_
  have hlt : ax < s.heap.objs.size := by obtain ⟨o, e, _⟩ := il; exact Heap.lt_size e
  have hf : ∀ a ∈ [s.heap.objs.size + 1, s.heap.objs.size], s.heap.get? a = none := fun a ha => by
    simp only [List.mem_cons, List.not_mem_nil, or_false] at ha
    rcases ha with rfl | rfl
    · exact fresh_none _ (Nat.le_succ _)
    · exact fresh_none _ (Nat.le_refl _)
  rw [List.mem_append, not_or] at hax
  have hfr : ∀ a, s.heap.objs.size ≤ a → a ∉ X ∧ a ∉ Z := fun a ha => by
    constructor <;> intro q
    · exact absurd (hl.lt a (List.mem_append_left _ q)) (Nat.not_lt.mpr ha)
    · exact absurd (hl.lt a (List.mem_append_right _ q)) (Nat.not_lt.mpr ha)
  have n1 : s.heap.objs.size + 1 ≠ s.heap.objs.size := Nat.succ_ne_self _
  have n2 : ax ≠ s.heap.objs.size + 1 := Nat.ne_of_lt (Nat.lt_succ_of_lt hlt)
  have n3 : ax ≠ s.heap.objs.size := Nat.ne_of_lt hlt
  have f1 : s.heap.objs.size + 1 ∉ X ∧ s.heap.objs.size + 1 ∉ Z := hfr _ (Nat.le_succ _)
  have f2 := hfr _ (Nat.le_refl _)
  generalize s.heap.objs.size + 1 = e at *
  generalize s.heap.objs.size = it at *
  have Wt := WalksT.enumerate (prog := prog) (w := w) (A := A) hh e it ax n1 n2 n3 vs
  refine h { s with heap := h' } _ [e, it] (fun ys W s' => (∃ i : Nat, ((∃ old, IsEnum s'.heap e it (i : Int) old) ∧ s'.heap.IsListIter it ax i ∧ s'.heap.IsList ax vs) ∧ i ≤ vs.size ∧ ys = (enumF 0 xs).drop i) ∧
    (e ∉ W ∧ it ∉ W ∧ ax ∉ W) ∧ VRs tokA (gX s'.heap (([e, it] ++ X) ++ W)) xs vs.toList) (.hp hkp) hf ?_ ⟨⟨0, ⟨⟨_, he⟩, hit, il.at (hkp _)⟩, Nat.zero_le _, rfl⟩, ⟨f1.2, f2.2, hax.2⟩, r.mono (grow_sub (.hp hkp) hf)⟩
  constructor
  · rintro ys W s' ⟨⟨i, ⟨⟨old, h1⟩, h2, h3⟩, _⟩, _⟩ b hb
    simp only [List.mem_cons, List.not_mem_nil, or_false] at hb
    rcases hb with rfl | rfl
    · exact ⟨_, h1⟩
    · obtain ⟨o, e, _⟩ := h2; exact ⟨o, e⟩
  · rintro ys W s' ⟨_, ⟨h1, h2, h3⟩, _⟩ b hb
    simp only [List.mem_cons, List.not_mem_nil, or_false] at hb
    rcases hb with rfl | rfl
    · exact h1
    · exact h2
  · rintro ys W W' s' s'' ⟨⟨i, ⟨⟨old, h1⟩, h2, h3⟩, h4, h5⟩, ⟨o1, o2, o3⟩, hvr⟩ ev
    have k1 : ∀ b o, b ∉ W → s'.heap.get? b = some o → s''.heap.get? b = some o ∧ b ∉ W' := fun b o hb e => gX_get (ev.sub b o (gX_of e hb))
    obtain ⟨q1, q2⟩ := k1 _ _ o1 h1
    have q3 := h2.at fun o e => (k1 _ o o2 e).1
    have q4 := h3.at fun o e => (k1 _ o o3 e).1
    refine ⟨⟨i, ⟨⟨old, q1⟩, q3, q4⟩, h4, h5⟩, ⟨q2, ?_, ?_⟩, hvr.mono (ev.subX _)⟩
    · obtain ⟨o, e, _⟩ := h2; exact (k1 _ o o2 e).2
    · obtain ⟨o, e, _⟩ := h3; exact (k1 _ o o3 e).2
  · rintro x ys W s' Q' E' ⟨⟨i, st, h4, h5⟩, ho, hvr⟩ hlv hQ
    have hi : i < vs.size := by
      have := congrArg List.length h5
      rw [List.length_cons, List.length_drop, enumF_len] at this
      clear h5
      generalize ys.length = a at this
      omega
    have hx : (enumF 0 xs)[i]? = some x := by
      have := congrArg (·[0]?) h5
      simpa using this.symm
    have hxs : ys = (enumF 0 xs).drop (i + 1) := by
      have := congrArg List.tail h5
      simpa using this
    refine Wt.item i s' Q' E' hi st fun T vals h₂ tk hp hT hIT hM hk => ?_
    have ev : Ev [e, it] s' [e, it] { s' with heap := h₂, toks := tk } := kept_ev hk fun _ h => h
    have evX : Sub (gX s'.heap (([e, it] ++ X) ++ W)) (gX h₂ (([e, it] ++ X) ++ W)) := (kept_ev (s := s') (tk := tk) (W := ([e, it] ++ X) ++ W) hk fun b hb => by
      rw [List.append_assoc]; exact List.mem_append_left _ hb).sub
    obtain ⟨t', y, hy, rfl⟩ := hp
    rw [enumF_get, Option.map_eq_some_iff] at hx
    obtain ⟨y', hy', rfl⟩ := hx
    have hTX : T ∉ ([e, it] ++ X) ++ W := fun q => absurd (hlv.lt T q) (Nat.not_lt.mpr hT)
    have hv1 : VR tokA (gX h₂ (([e, it] ++ X) ++ W)) y' y := (idxs_vr hvr i y' y hy' hy).mono evX
    refine hQ _ _ ev ?_ (VR.ofTup hIT hTX ⟨⟨t', by simp⟩, hv1, trivial⟩ (by simp [sizeLine_eq])) fun Q'' E'' hq => ?_
    · obtain ⟨⟨z, m1⟩, m2, _⟩ := hM
      intro b hb
      simp only [List.mem_cons, List.not_mem_nil, or_false] at hb
      rcases hb with rfl | rfl
      · exact ⟨_, m1⟩
      · obtain ⟨o, e, _⟩ := m2; exact ⟨o, e⟩
    · refine Wt.go es kk tp i T _ _ _ hM fun h₃ st' hk' => ?_
      refine hq _ (kept_ev (s := { s' with heap := h₂, toks := tk }) (tk := tk) hk' fun _ h => h) ⟨⟨i + 1, st', hi, hxs⟩, ho, ?_⟩
      refine (hvr.mono evX).mono ?_
      exact (kept_ev (s := { s' with heap := h₂, toks := tk }) (tk := tk) (W := ([e, it] ++ X) ++ W) hk' fun b hb => by
        rw [List.append_assoc]; exact List.mem_append_left _ hb).sub
  · rintro W s' Q' E' ⟨⟨i, st, h4, h5⟩, ho, hvr⟩ hQ
    have hi : i = vs.size := by
      have := congrArg List.length h5
      rw [List.length_nil, List.length_drop, enumF_len] at this
      exact Nat.le_antisymm h4 (hsz ▸ Nat.le_of_sub_eq_zero this.symm)
    subst hi
    exact Wt.done s' Q' E' st fun h₂ tk hk => hQ _ (kept_ev hk fun _ h => h)
  · rintro ys W s' Q' E' ⟨⟨i, st, _⟩, _⟩ hQ
    exact Wt.self i s' Q' E' st hQ
end
end Mine

namespace Mine

section
variable {prog : Program} {w : World} {A : Around} {E : Value → Shared → Prop} {s : Shared}

theorem draw_list {it l : Addr} {items : Array Value} (hne : l ≠ it) : ∀ (n i : Nat) (s : Shared) (Q : List Value → Shared → Prop), s.heap.IsListIter it l i → s.heap.IsList l items → i + n ≤ items.size →
    (∀ h', h'.IsListIter it l (i + n) → Heap.SameBut it s.heap h' → Q ((items.toList.drop i).take n) { s with heap := h' }) → wpAny (model prog w) A (draw (.ref it) n) Q E s := by
  intro n
  induction n with
  | zero =>
    intro i s Q hit _ _ hQ
    exact wpAny_pure (by simpa using hQ s.heap hit (Heap.SameBut.refl ..))
  | succ n ih =>
    intro i s Q hit hl hle hQ
    have hlt : i < items.size := by (first | lia | omega)
    show wpAny _ _ (pyNext (.ref it) >>= _) Q E s
    refine wpAny_bind (wpAny_pyNext_list_item hit hl (x := items[i]) (by simp [hlt]) fun h₁ hit₁ hs₁ => ?_)
    refine wpAny_bind (wpAny_holding (ih (i + 1) _ _ hit₁ (hl.extBut hs₁.extBut hne) (by (first | lia | omega)) fun h₂ hit₂ hs₂ => wpAny_pure ?_))
    have hd : items.toList.drop i = items[i] :: items.toList.drop (i + 1) := by simp [List.drop_eq_getElem_cons, hlt]
    have key := hQ h₂ (by rw [show i + (n + 1) = i + 1 + n by (first | lia | omega)]; exact hit₂) (hs₁.trans hs₂)
    rw [hd, List.take_succ_cons] at key
    exact key

theorem unpackItems_list {t : Addr} {items : Array Value} {Q : List Value → Shared → Prop} (hh : A.handled = none) (ht : s.heap.IsList t items)
    (hQ : ∀ h', Heap.ExtBut s.heap.objs.size s.heap h' → Q items.toList { s with heap := h' }) : wpAny (model prog w) A (unpackItems (.ref t) items.size none) Q E s := by
  have hlt : t ≠ s.heap.objs.size := by obtain ⟨o, ho, _⟩ := ht; exact Nat.ne_of_lt (Heap.lt_size ho)
  have hk : ∀ ob b o, s.heap.get? b = some o → (s.heap.push ob).get? b = some o := fun ob b o e => Heap.get?_push_of_some _ e
  unfold unpackItems
  refine wpAny_bind ?_
  unfold notIterableAtAll
  refine wpAny_bind (wpAny_specialOf ht.typeIs slot_list_iter.lookup ?_)
  refine wpAny_pure ?_
  simp only [Bool.false_eq_true, if_false]
  refine wpAny_bind (wpAny_holding (wpAny_pyIter_list ht ?_))
  have ht' := ht.at (hk { cls := .type "list_iterator", data := .fields #[.ref t, .int 0 0] } t)
  refine wpAny_bind (wpAny_holding (draw_list hlt items.size 0 _ _ ⟨_, Heap.get?_push_size _ rfl, rfl, rfl⟩ ht' (by (first | lia | omega)) fun h₁ hit₁ hs₁ => ?_))
  have hall : List.take items.size (List.drop 0 items.toList) = items.toList := by
    rw [List.drop_zero]; exact List.take_of_length_le (by simp)
  rw [hall]
  rw [if_neg (by simp)]
  have ht₁ : h₁.IsList t items := ht'.extBut hs₁.extBut hlt
  refine wpAny_bind (wpAny_holding (wpAny_pyNext_list_end hh hit₁ ht₁ (by simp) fun h₂ he₂ => ?_))
  simp only [Option.isSome_none, Bool.false_eq_true, if_false]
  exact wpAny_pure (hQ h₂ fun b o hb e => he₂ b o hb (hs₁.extBut b o hb (hk _ _ _ e)))

theorem assign_list {env : Env} {elts : List Expr} {x1} {pos : Pos} {t : Addr} {items : Array Value} {Q : Unit → Shared → Prop} (hh : A.handled = none) (ht : s.heap.IsList t items)
    (hn : (assignEach elts env).length = items.size) (hstar : (assignEach elts env).findIdx? (·.1) = none)
    (h : ∀ h', Heap.ExtBut s.heap.objs.size s.heap h' → wpAny (model prog w) A (assignInOrder ((assignEach elts env).map (·.2)) items.toList) Q E { s with heap := h' }) :
    wpAny (model prog w) A (assign (.Tuple elts x1 pos) env (.ref t)) Q E s := by
  rw [PyProof.Rows.assign_Tuple]
  refine wpAny_bind (wpAny_standAt ?_)
  unfold unpack
  rw [hn, hstar]
  exact wpAny_bind (wpAny_holding (unpackItems_list hh ht h))

theorem ext_but {h' : Heap} (h : Heap.ExtBut s.heap.objs.size s.heap h') : Ext s { s with heap := h' } := .hp fun b o e => h b o (fun q => Nat.lt_irrefl _ (q ▸ Heap.lt_size e)) e
end

section
variable {prog : Program} {w : World} {Γ : Gp} {n : Nat} {A : Around} {env : Env} {sc : Sc} {h₀ : Heap} {X W : List Addr} {E : Value → Shared → Prop}

theorem names_len : ∀ {es : List Expr} {xs : List Str}, namesOf? es = some xs → es.length = xs.length
  | [], xs, h => by cases h; rfl
  | e :: r, xs, h => by
    cases e with
    | Name x p =>
      simp only [qNam, Option.map_eq_some_iff] at h
      obtain ⟨ys, h, rfl⟩ := h
      simp [names_len h]
    | _ => cases h
theorem assignEach_names : ∀ {es : List Expr} {xs : List Str}, namesOf? es = some xs → (assignEach es env).length = es.length ∧ (assignEach es env).findIdx? (·.1) = none
  | [], xs, h => ⟨rfl, rfl⟩
  | e :: r, xs, h => by
    cases e with
    | Name x p =>
      simp only [qNam, Option.map_eq_some_iff] at h
      obtain ⟨ys, h, rfl⟩ := h
      obtain ⟨h1, h2⟩ := assignEach_names h
      constructor
      · show (assignEach r env).length + 1 = _
        simp [h1]
      · show List.findIdx? _ ((false, assign (.Name x p) env) :: assignEach r env) = none
        rw [List.findIdx?_cons]
        simp [h2]
    | _ => cases h
theorem bindT_len : ∀ {is : List Nat} {vs : List AV} {ρ ρ' : Loc}, bindT ρ is vs = some ρ' → is.length = vs.length
  | [], [], _, _, _ => rfl
  | _ :: is, _ :: vs, _, _, h => by
    exact congrArg (· + 1) (bindT_len (ρ := _) h)
  | [], _ :: _, _, _, h => by cases h
  | _ :: _, [], _, _, h => by cases h
theorem idxs_len : ∀ {xs : List Str} {is : List Nat}, idxs sc xs = some is → is.length = xs.length
  | [], is, h => by cases h; rfl
  | x :: xs, is, h => by
    rewrite [qIdx] at h
    split at h
    · simp only [Option.bind_eq_some_iff, Option.map_eq_some_iff] at h
      obtain ⟨i, _, js, h, rfl⟩ := h
      simp [idxs_len h]
    · cases h

theorem store_names (fx : Fx env sc) : ∀ {es : List Expr} {xs : List Str} {is : List Nat} {ys : List AV} {vs : List Value} {ρ ρ' : Loc} {m : NM} {oa : OA} {s : Shared} {Q : Unit → Shared → Prop},
    namesOf? es = some xs → idxs sc xs = some is → bindT ρ is ys = some ρ' → VRs Γ.tokA (gX s.heap (X ++ W)) ys vs → Fm prog w Γ env sc h₀ X W ρ m oa s →
    (∀ s' m' oa', Fm prog w Γ env sc h₀ X W ρ' m' oa' s' → Ev W s W s' → Q () s') → wpAny (model prog w) A (assignInOrder ((assignEach es env).map (·.2)) vs) Q E s := by
  intro es
  induction es with
  | nil =>
    intro xs is ys vs ρ ρ' m oa s Q h1 h2 h3 h4 f h
    cases h1; cases h2
    cases ys with
    | nil =>
      cases vs with
      | nil => cases h3; exact wpAny_pure (h _ _ _ f (.refl _ _))
      | cons _ _ => exact h4.elim
    | cons _ _ => cases h3
  | cons e r ih =>
    intro xs is ys vs ρ ρ' m oa s Q h1 h2 h3 h4 f h
    cases e with
    | Name x p =>
      simp only [qNam, Option.map_eq_some_iff] at h1
      obtain ⟨zs, h1, rfl⟩ := h1
      rewrite [qIdx] at h2
      split at h2
      · rename_i hk
        simp only [Option.bind_eq_some_iff, Option.map_eq_some_iff] at h2
        obtain ⟨i, hi, js, h2, rfl⟩ := h2
        cases ys with
        | nil => cases h3
        | cons y ys =>
          cases vs with
          | nil => exact h4.elim
          | cons v vs =>
            replace h3 : bindT (ρ.set i (.val y)) js ys = some ρ' := h3
            show wpAny _ A (assignInOrder (assign (.Name x p) env :: (assignEach r env).map (·.2)) (v :: vs)) Q E s
            refine wpAny_assignInOrder_more (PyProof.Rows.assign_Name (store_ f fx (.inl hk) hi h4.1 fun s' m' oa' f' ev => ?_))
            exact ih h1 h2 h3 (h4.2.mono (ev.subX X)) f' fun s'' m'' oa'' f'' ev' => h _ _ _ f'' (ev.trans ev')
      · cases h2
    | _ => cases h1

theorem unpack_names (fx : Fx env sc) (hh : A.handled = none) {es : List Expr} {k : Nat} {tp : Pos} {xs : List Str} {is : List Nat} {v : AV} {ys : List AV} {v' : Value} {ρ ρ' : Loc} {m : NM} {oa : OA} {s : Shared} {Q : Unit → Shared → Prop}
    (h1 : namesOf? es = some xs) (h2 : idxs sc xs = some is) (hy : itemsV v = some ys) (h3 : bindT ρ is ys = some ρ') (hv : VR Γ.tokA (gX s.heap (X ++ W)) v v') (f : Fm prog w Γ env sc h₀ X W ρ m oa s)
    (h : ∀ s' m' oa', Fm prog w Γ env sc h₀ X W ρ' m' oa' s' → Ev W s W s' → Q () s') : wpAny (model prog w) A (assign (.Tuple es k tp) env v') Q E s := by
  obtain ⟨e1, e2⟩ := assignEach_names (env := env) h1
  have hl := (bindT_len h3).symm.trans ((idxs_len h2).trans (names_len h1).symm)
  cases v with
  | list zs =>
    cases hy
    obtain ⟨a, vs, rfl, il, r, hz, hsz, _⟩ := hv.isList
    refine assign_list hh il (by rw [e1, hsz, hl]) e2 fun h' he => ?_
    have x := ext_but he
    exact store_names fx h1 h2 h3 (r.mono (gX_sub x.heap)) (f.keeps x) fun s' m' oa' f' ev => h _ _ _ f' (x.ev.trans ev)
  | tup zs =>
    cases hy
    obtain ⟨a, vs, rfl, il, r, hz, hsz, _⟩ := hv.isTup
    refine assign_Tuple_tuple hh il (by rw [e1, hsz, hl]) e2 fun h' he => ?_
    have x := ext_but he
    exact store_names fx h1 h2 h3 (r.mono (gX_sub x.heap)) (f.keeps x) fun s' m' oa' f' ev => h _ _ _ f' (x.ev.trans ev)
  | _ => cases hy

theorem targets_inv {t : Expr} {ts : List Nat} (h : targets sc t = some ts) : (∃ x p i, t = .Name x p ∧ sc.kind x = some .local ∧ sc.idx x = some i ∧ ts = [i]) ∨
    (∃ es k p xs, t = .Tuple es k p ∧ namesOf? es = some xs ∧ 2 ≤ xs.length ∧ idxs sc xs = some ts) := by
  cases t with
  | Name x p =>
    replace h : (if sc.kind x = some .local then (sc.idx x).bind fun i => (some []).map (i :: ·) else none) = some ts := h
    split at h
    · rename_i hk
      obtain ⟨i, hi, h⟩ := Option.bind_eq_some_iff.mp h
      cases h
      exact .inl ⟨x, p, i, rfl, hk, hi, rfl⟩
    · cases h
  | Tuple es k p =>
    obtain ⟨xs, h1, h⟩ := Option.bind_eq_some_iff.mp (show ((namesOf? es).bind fun xs => if 2 ≤ xs.length then idxs sc xs else none) = some ts from h)
    split at h
    · rename_i h2; exact .inr ⟨es, k, p, xs, rfl, h1, h2, h⟩
    · cases h
  | _ => cases h
/-- a loop's target is bound -/
theorem bind_target (fx : Fx env sc) (hh : A.handled = none) {t : Expr} {ts : List Nat} {v : AV} {v' : Value} {ρ ρ' : Loc} {m : NM} {oa : OA} {s : Shared} {Q : Unit → Shared → Prop}
    (ht : targets sc t = some ts) (hb : bindV ρ ts v = some ρ') (hv : VR Γ.tokA (gX s.heap (X ++ W)) v v') (f : Fm prog w Γ env sc h₀ X W ρ m oa s)
    (h : ∀ s' m' oa', Fm prog w Γ env sc h₀ X W ρ' m' oa' s' → Ev W s W s' → Q () s') : wpAny (model prog w) A (assign t env v') Q E s := by
  rcases targets_inv ht with ⟨x, p, i, rfl, hk, hi, rfl⟩ | ⟨es, k, p, xs, rfl, h1, h2, ht⟩
  · cases hb
    exact PyProof.Rows.assign_Name (store_ f fx (.inl hk) hi hv h)
  · have hl := idxs_len ht
    cases ts with
    | nil => cases v with | tup => exact unpack_names fx hh h1 ht rfl hb hv f h | _ => cases hb
    | cons i r => cases r with
      | nil => exact absurd (Nat.le_trans h2 (Nat.le_of_eq hl.symm)) (show ¬ 2 ≤ 1 by decide)
      | cons j r => cases v with | tup => exact unpack_names fx hh h1 ht rfl hb hv f h | _ => cases hb
end
end Mine

namespace Mine

/-! ## scopes -/
theorem mem_of_lookup {x : Str} {k : NameKind} : ∀ {l : List (Str × NameKind)}, l.lookup x = some k → (x, k) ∈ l
  | [], h => by cases h
  | (y, j) :: r, h => by
    rw [List.lookup_cons] at h
    split at h
    · rename_i e
      have := eq_of_beq e; subst this
      cases h; exact List.mem_cons_self ..
    · exact List.mem_cons_of_mem _ (mem_of_lookup h)
theorem posOf_spec {x : Str} : ∀ {l : List (Str × NameKind)} {n i : Nat}, posOf x l n = some i → n ≤ i ∧ (l[i - n]?).map (·.1) = some x
  | [], _, _, h => by cases h
  | (y, j) :: r, n, i, h => by
    rewrite [qPos] at h
    split at h
    · rename_i e; cases h; simp [e]
    · obtain ⟨h1, h2⟩ := posOf_spec h
      refine ⟨by (first | lia | omega), ?_⟩
      rw [show i - n = (i - (n + 1)) + 1 by (first | lia | omega)]
      simpa using h2
theorem posOf_lt {x : Str} {l : List (Str × NameKind)} {i : Nat} (h : posOf x l 0 = some i) : i < l.length := by
  obtain ⟨_, h⟩ := posOf_spec h
  rw [Option.map_eq_some_iff] at h
  obtain ⟨p, h, _⟩ := h
  simpa using (List.getElem?_eq_some_iff.mp h).1
theorem posOf_inj {x y : Str} {l : List (Str × NameKind)} {i : Nat} (h : posOf x l 0 = some i) (h' : posOf y l 0 = some i) : x = y := by
  obtain ⟨_, h⟩ := posOf_spec h
  obtain ⟨_, h'⟩ := posOf_spec h'
  rw [h] at h'; cases h'; rfl
theorem scOf_ok (s : Scope) : ScOK (scOf s) := ⟨fun _ _ _ h h' => posOf_inj h h', fun _ _ h => posOf_lt h⟩
theorem scIn_idx {sc : Sc} {s : Scope} {x : Str} {i : Nat} (h : (scIn sc s).idx x = some i) : (s.names.lookup x = some .local ∧ ∃ j, posOf x s.names 0 = some j ∧ i = sc.n + j) ∨ (s.names.lookup x = some .free ∧ sc.idx x = some i) := by
  unfold scIn at h
  dsimp only at h
  cases e : s.names.lookup x with
  | none => rw [e] at h; cases h
  | some k =>
    rw [e] at h
    cases k with
    | «local» =>
      obtain ⟨j, hj, e⟩ := Option.map_eq_some_iff.mp h
      exact .inl ⟨rfl, j, hj, e.symm⟩
    | free => exact .inr ⟨rfl, h⟩
    | _ => cases h
theorem scIn_ok {sc : Sc} (h : ScOK sc) (s : Scope) : ScOK (scIn sc s) := by
  constructor
  · intro x y i hx hy
    rcases scIn_idx hx with ⟨_, j, h1, h2⟩ | ⟨_, h1⟩ <;> rcases scIn_idx hy with ⟨_, k, h3, h4⟩ | ⟨_, h3⟩
    · have : j = k := by (first | lia | omega)
      subst this; exact posOf_inj h1 h3
    · have := h.lt _ _ h3; (first | lia | omega)
    · have := h.lt _ _ h1; (first | lia | omega)
    · exact h.inj _ _ _ h1 h3
  · intro x i hx
    show i < sc.n + s.names.length
    rcases scIn_idx hx with ⟨_, j, h1, h2⟩ | ⟨_, h1⟩
    · have := posOf_lt h1; (first | lia | omega)
    · have := h.lt _ _ h1; (first | lia | omega)

theorem lookup_map_snd (f : Str → NameKind → NameKind) (x : Str) : ∀ l : List (Str × NameKind), (l.map fun p => (p.1, f p.1 p.2)).lookup x = (l.lookup x).map (f x)
  | [] => rfl
  | (y, j) :: r => by
    rw [List.map_cons, List.lookup_cons, List.lookup_cons, lookup_map_snd f x r]
    cases e : x == y with
    | true => have := eq_of_beq e; subst this; rfl
    | false => rfl
theorem relabel_lookup {scope : Scope} {env : Env} (x : Str) : (relabel scope env).names.lookup x = (scope.names.lookup x).map fun k => if (k == .free && env.scope.kind == .function && env.kindOf x == some .cell) = true then .cell else k := by
  rw [← lookup_map_snd (fun y k => if (k == .free && env.scope.kind == .function && env.kindOf y == some .cell) = true then .cell else k)]
  unfold relabel
  congr 1
  refine List.map_congr_left fun p _ => ?_
  obtain ⟨y, j⟩ := p
  dsimp only
  split <;> rfl

theorem compOK_spec {sc : Sc} {s : Scope} (h : compOK sc s = true) : s.kind = .function ∧ ∀ p ∈ s.names, s.names.lookup p.1 = some p.2 ∧
    (p.2 = .local ∨ p.2 = .globalImplicit ∨ (p.2 = .free ∧ (sc.kind p.1 = some .cell ∨ sc.kind p.1 = some .free) ∧ (p.1 == ("__classdict__" : Str)) = false)) := by
  unfold compOK at h
  simp only [Bool.and_eq_true, List.all_eq_true, Bool.or_eq_true, beq_iff_eq, bne_iff_ne, ne_eq] at h
  refine ⟨h.1, fun p hp => ?_⟩
  obtain ⟨h1, h2⟩ := h.2 p hp
  refine ⟨h1, ?_⟩
  rcases h2 with (h2 | h2) | ⟨⟨h2, h3⟩, h4⟩
  · exact .inl h2
  · exact .inr (.inl h2)
  · exact .inr (.inr ⟨h2, h3, by simpa using h4⟩)

section
variable {prog : Program} {w : World} {Γ : Gp} {n : Nat} {A : Around} {env : Env} {sc : Sc} {ρ : Loc} {X : List Addr} {E : Value → Shared → Prop} {s : Shared}

theorem closure_ {scope : Scope} (h : ∀ p ∈ scope.names, p.2 = .free → ∃ c, env.cells.lookup p.1 = some c) :
    ∃ cl, closureFor scope env = pure cl ∧ ∀ x, scope.names.lookup x = some .free → cl.lookup x = env.cells.lookup x := by
  have key : ∀ (l : List (Str × NameKind)), (∀ p ∈ l, p.2 = .free → ∃ c, env.cells.lookup p.1 = some c) → ∀ cs : List (Str × Addr),
      ∃ cl, (forIn l cs fun (x : Str × NameKind) (r : List (Str × Addr)) => (if (x.snd == NameKind.free) = true then do
          let c ← cellOf env x.fst
          pure (ForInStep.yield ((x.fst, c) :: r))
        else pure (ForInStep.yield r) : Sem (ForInStep (List (Str × Addr))))) = pure cl ∧
      (∀ x, (x, NameKind.free) ∈ l → cl.lookup x = env.cells.lookup x) ∧ (∀ x, (x, NameKind.free) ∉ l → cl.lookup x = cs.lookup x) := by
    intro l
    induction l with
    | nil => intro _ cs; exact ⟨cs, rfl, fun x hx => (by cases hx), fun _ _ => rfl⟩
    | cons p r ih =>
      obtain ⟨y, k⟩ := p
      intro hp cs
      have hr := ih fun q hq => hp q (List.mem_cons_of_mem _ hq)
      by_cases hk : k = .free
      · subst hk
        obtain ⟨c, hc⟩ := hp _ (List.mem_cons_self ..) rfl
        obtain ⟨cl, h1, h2, h3⟩ := hr ((y, c) :: cs)
        refine ⟨cl, ?_, fun x hx => ?_, fun x hx => ?_⟩
        · rw [List.forIn_cons]
          simp only [beq_self_eq_true, if_true]
          unfold cellOf
          simp only at hc
          rw [hc]
          exact h1
        · by_cases hx' : (x, NameKind.free) ∈ r
          · exact h2 x hx'
          · rcases List.mem_cons.mp hx with e | e
            · cases e
              rw [h3 _ hx']
              simp only [List.lookup_cons, beq_self_eq_true]
              exact hc.symm
            · exact absurd e hx'
        · rw [List.mem_cons, not_or] at hx
          rw [h3 x hx.2, List.lookup_cons]
          have : (x == y) = false := by
            cases e : x == y with
            | false => rfl
            | true => exact absurd (by rw [eq_of_beq e]) hx.1
          rw [this]
      · obtain ⟨cl, h1, h2, h3⟩ := hr cs
        refine ⟨cl, ?_, fun x hx => ?_, fun x hx => ?_⟩
        · rw [List.forIn_cons]
          have : (k == NameKind.free) = false := by simpa using hk
          simp only [this]
          exact h1
        · rcases List.mem_cons.mp hx with e | e
          · cases e; exact absurd rfl hk
          · exact h2 x e
        · rw [List.mem_cons, not_or] at hx
          exact h3 x hx.2
  obtain ⟨cl, h1, h2, _⟩ := key scope.names h []
  refine ⟨cl, ?_, fun x hx => h2 x (mem_of_lookup hx)⟩
  simp only [closureFor]
  rw [h1]
  rfl
end
end Mine

namespace Mine

section
variable (prog : Program) (w : World) (Γ : Gp) (n : Nat) (C : Nat → List AV → Option AV)
/-- what a loop walks over -/
noncomputable def SndI (sc : Sc) (t e : Expr) (p : PI) : Prop := ∀ (env : Env) (ρ : Loc) (xs : List AV) (A : Around) (X Z : List Addr) (s : Shared) (Q : Value → Shared → Prop) (E : Value → Shared → Prop),
  evI C p ρ = some xs → Cx prog w Γ n A env sc ρ (X ++ Z) s → Hands prog w A Γ.tokA X Z t xs s Q → wpAny (model prog w) A (eval e env) (fun xv s₁ => wpAny (model prog w) A (pyIter xv) Q E s₁) E s
/-- a clause's tests -/
noncomputable def SndF (sc : Sc) (ifs : List Expr) (c : PE) : Prop := ∀ (env : Env) (ρ : Loc) (b : Bool) (A : Around) (X : List Addr) (s : Shared) (Q : Bool → Shared → Prop) (E : Value → Shared → Prop),
  evT C c ρ = some b → Cx prog w Γ n A env sc ρ X s → (∀ s', Ext s s' → Q b s') →
    wpAny (model prog w) A (forIn ifs true fun c r => if r = true then do let ok ← isTrue c env (eval c env); pure (ForInStep.yield ok) else pure (ForInStep.yield r)) Q E s
end

section
variable {prog : Program} {w : World} {Γ : Gp} {n : Nat} {C : Nat → List AV → Option AV} {A : Around} {env : Env} {sc : Sc} {ρ : Loc} {X : List Addr} {E : Value → Shared → Prop} {s : Shared}

theorem sndF_nil : SndF prog w Γ n C sc [] (.lit (.bool true)) := fun env ρ b A X s Q E hb c h => by
  cases hb; exact wpAny_tests_nil (h _ (.refl _))
theorem sndF_one {e : Expr} {p : PE} (ht : SndT prog w Γ n C sc e p) : SndF prog w Γ n C sc [e] p := fun env ρ b A X s Q E hb c h =>
  wpAny_tests_one (ht env ρ b A X s Q E hb c h)

theorem compLoop_rule {R : Result → Shared → Prop} {elt target iter : Expr} {ifs : List Expr} {scope : Scope} {pos : Pos} {it acc : Value} (I : Nat → Shared → Prop)
    (turn : ∀ n s, I n s → wpAny (model prog w) A (pyNext it) (fun r s₁ => match r with
      | none => R (.ok .next) s₁
      | some v => wpAny (model prog w) A (letOwnedTupleGo target it v) (fun _ s₁' => wpAny (model prog w) A (assign target env v) (fun _ s₂ =>
          wpAny (model prog w) A (forIn ifs true fun c r => if r = true then do let ok ← isTrue c env (eval c env); pure (ForInStep.yield ok) else pure (ForInStep.yield r)) (fun ok s₃ =>
            if ok = true then wpAny (model prog w) A (eval elt env) (fun x s₄ =>
              wpAny (model prog w) A (call (.builtin "list.append") [acc, x]) (fun _ s₅ => ∃ m, m < n ∧ I m s₅) (notedBy (model prog w) A env fun e s' => R (.error e) s') s₄) (notedBy (model prog w) A env fun e s' => R (.error e) s') s₃
            else ∃ m, m < n ∧ I m s₃) (notedBy (model prog w) A env fun e s' => R (.error e) s') s₂) (notedBy (model prog w) A env fun e s' => R (.error e) s') s₁') (notedBy (model prog w) A env fun e s' => R (.error e) s') s₁)
          (notedBy (model prog w) A env fun e s' => R (.error e) s') s)
    (n : Nat) (h : I n s) : codeAny (model prog w) A (.compLoop (.ListComp elt [⟨target, iter, ifs, 0⟩] scope pos) 0 it acc env) R s := by
  refine codeAny_loop rfl I (fun n s hI => ?_) n h
  show wpAny _ A ((compTurn (.ListComp elt [⟨target, iter, ifs, 0⟩] scope pos) 0 it acc env).onRaise (fun x => do noteFrame x env; theTreesLotGoes x)) _ _ s
  refine wpAny_noted ?_
  rw [compTurn_list]
  refine wpAny_bind (wpAny_standAt (wpAny_bind (wpAny_mono (turn n s hI) (fun r s₁ h₁ => ?_) fun _ _ h' => h')))
  cases r with
  | none => exact wpAny_pure h₁
  | some v =>
    refine wpAny_bind (wpAny_mono h₁ (fun _ s₁' h₁' => ?_) fun _ _ h' => h')
    refine wpAny_bind (wpAny_mono h₁' (fun _ s₂ h₂ => wpAny_bind (wpAny_mono h₂ (fun ok s₃ h₃ => ?_) fun _ _ h' => h')) fun _ _ h' => h')
    cases ok with
    | false => exact wpAny_pure ⟨rfl, h₃⟩
    | true =>
      exact wpAny_bind (wpAny_bind (wpAny_mono h₃ (fun x s₄ h₄ => wpAny_bind (wpAny_mono h₄ (fun _ s₅ h₅ => wpAny_pure (wpAny_pure ⟨rfl, h₅⟩)) fun _ _ h' => h')) fun _ _ h' => h'))

/-- a comprehension's frame -/
theorem fx_comp {scope : Scope} {cenv : Env} (c : Cx prog w Γ n A env sc ρ X s) (hok : compOK sc scope = true) (h1 : cenv.scope = relabel scope env) (h2 : cenv.globals = env.globals) (h3 : cenv.builtins = env.builtins) : Fx cenv (scIn sc scope) := by
  obtain ⟨hk, hn⟩ := compOK_spec hok
  have hko : ∀ x, cenv.kindOf x = (scope.names.lookup x).map fun k => if (k == .free && env.scope.kind == .function && env.kindOf x == some .cell) = true then .cell else k := fun x => by
    show cenv.scope.names.lookup x = _
    rw [h1]; exact relabel_lookup x
  constructor
  · rw [h1]; exact hk
  · rw [h2]; exact c.e.gl
  · rw [h3]; exact c.e.bu
  · intro x hx
    have hx' : scope.names.lookup x = some .globalImplicit := hx
    rw [hko, hx']; rfl
  · intro x hx
    have hx' : scope.names.lookup x = some .local := hx
    rw [hko, hx']; rfl
  · intro x hx
    have hx' : scope.names.lookup x = some .cell := hx
    obtain ⟨_, h⟩ := hn _ (mem_of_lookup hx')
    rcases h with h | h | ⟨h, _⟩ <;> cases h
  · intro x hx
    have hx' : scope.names.lookup x = some .free := hx
    obtain ⟨_, h⟩ := hn _ (mem_of_lookup hx')
    have hcl : (x == ("__classdict__" : Str)) = false := by
      rcases h with h | h | ⟨_, _, h⟩
      · cases h
      · cases h
      · exact h
    rw [hko, hx', Option.map_some]
    split
    · exact .inl rfl
    · exact .inr ⟨rfl, hcl⟩
  · exact scIn_ok c.e.scok scope

theorem fm_comp {scope : Scope} {cenv : Env} {cl : List (Str × Addr)} {Y : List Addr} {Ca : Addr} {s₄ : Shared} (c : Cx prog w Γ n A env sc ρ X s) (hok : compOK sc scope = true) (hcells : cenv.cells = cl) (hloc : cenv.locals = Ca)
    (hcl : ∀ x, scope.names.lookup x = some .free → cl.lookup x = env.cells.lookup x) (x₄ : Ext s s₄) (hY : ∀ a ∈ Y ++ [Ca], a ∈ X ∨ s.heap.get? a = none) (hCa : s.heap.get? Ca = none) (hl : Live (Y ++ [Ca]) s₄.heap)
    (hn : s₄.heap.Ns Ca fun _ => none) : Fm prog w Γ cenv (scIn sc scope) s.heap Y [Ca] ρ (fun _ => none) (fun _ => []) s₄ := by
  obtain ⟨hk, hnm⟩ := compOK_spec hok
  have hsub : Sub (gX s.heap X) (gX s₄.heap (Y ++ [Ca])) := fun a o e => by
    obtain ⟨e1, e2⟩ := gX_get e
    refine gX_of (x₄.heap a o e1) fun q => ?_
    rcases hY a q with h | h
    · exact e2 h
    · rw [h] at e1; cases e1
  have hfree : ∀ x, scope.names.lookup x = some .free → sc.kind x = some .cell ∨ sc.kind x = some .free := fun x hx => by
    obtain ⟨_, h⟩ := hnm _ (mem_of_lookup hx)
    rcases h with h | h | ⟨_, h, _⟩
    · cases h
    · cases h
    · exact h
  have hnc : ∀ x, scope.names.lookup x ≠ some .cell := fun x hx => by
    obtain ⟨_, h⟩ := hnm _ (mem_of_lookup hx)
    rcases h with h | h | ⟨h, _⟩ <;> cases h
  constructor
  · refine ⟨c.g, fun a o e => gX_of (x₄.heap a o e) fun q => ?_⟩
    simp at q; subst q; rw [hCa] at e; cases e
  · exact hl
  · rw [hloc]; simp
  · rw [hloc]; exact hn
  · intro x i v hx hi hv
    have hx' : scope.names.lookup x = some .local := hx
    rcases scIn_idx hi with ⟨_, j, _, rfl⟩ | ⟨h, _⟩
    · cases c.e.hi _ _ (Nat.le_add_right _ _) hv
    · rw [hx'] at h; cases h
  · intro x hx
    have hx' : scope.names.lookup x = some .free := by
      rcases hx with hx | hx
      · exact absurd hx (hnc x)
      · exact hx
    obtain ⟨ca, o, h1, h2⟩ := c.e.cells x (hfree x hx')
    refine ⟨ca, by rw [hcells, hcl x hx']; exact h1, fun i v hi hv => ?_⟩
    rcases scIn_idx hi with ⟨h, _⟩ | ⟨_, hi⟩
    · rw [hx'] at h; cases h
    · obtain ⟨v', hl', hr⟩ := c.e.val x i v hi ((hfree x hx').elim (fun h => .inr (.inl h)) fun h => .inr (.inr h)) hv
      refine ⟨v', ?_, hr.mono hsub⟩
      rcases hl' with ⟨h, _⟩ | ⟨_, cb, h3, h4⟩
      · rcases c.e.kcf x (hfree x hx') with h' | ⟨h', _⟩ <;> rw [h'] at h <;> cases h
      · rw [h1] at h3; cases h3
        exact h4.keeps x₄.heap
  · intro x d hx
    exact absurd hx (hnc x)
  · intro x d hx hd
    have hx' : scope.names.lookup x = some .free := hx
    obtain ⟨ca, o, h1, h2⟩ := c.e.cells x (hfree x hx')
    rw [hcells, hcl x hx', h1] at hd
    cases hd
    exact ⟨o, h2⟩
  · intro x y d hx
    exact absurd hx (hnc x)
  · intro x i sl hi hs ho
    rcases scIn_idx hi with ⟨_, j, _, rfl⟩ | ⟨h, hi⟩
    · have := c.e.hi _ _ (Nat.le_add_right _ _) hs
      subst this; cases ho
    · have := c.e.ownk x i sl hi hs ho
      rcases hfree x h with h | h <;> rw [this] at h <;> cases h
  · intro i a ha; cases ha
  · intro i j a ha; cases ha
  · intro i sl hi hs
    exact c.e.hi i sl (Nat.le_trans (Nat.le_add_right _ _) hi) hs

theorem bindT_get : ∀ {is : List Nat} {vs : List AV} {ρ ρ' : Loc}, bindT ρ is vs = some ρ' → ∀ i, i ∉ is → ρ'[i]? = ρ[i]?
  | [], [], _, _, h, _, _ => by cases h; rfl
  | j :: is, _ :: vs, ρ, _, h, i, hi => by
    rw [List.mem_cons, not_or] at hi
    rw [bindT_get (ρ := ρ.set j _) h i hi.2, List.getElem?_set_ne (Ne.symm hi.1)]
  | [], _ :: _, _, _, h, _, _ => by cases h
  | _ :: _, [], _, _, h, _, _ => by cases h
theorem bindV_get {ts : List Nat} {v : AV} {ρ ρ' : Loc} (h : bindV ρ ts v = some ρ') (i : Nat) (hi : i ∉ ts) : ρ'[i]? = ρ[i]? := by
  cases ts with
  | nil => cases v with | tup => exact bindT_get h i hi | _ => cases h
  | cons j r => cases r with
    | nil =>
      cases h
      rw [List.getElem?_set_ne (Ne.symm fun (e : i = j) => hi (List.mem_cons.mpr (.inl e)))]
    | cons k r => cases v with | tup => exact bindT_get h i hi | _ => cases h
theorem idxs_ge {scope : Scope} : ∀ {xs : List Str} {is : List Nat}, idxs (scIn sc scope) xs = some is → ∀ i ∈ is, sc.n ≤ i
  | [], is, h => by cases h; simp
  | x :: xs, is, h => by
    rewrite [qIdx] at h
    split at h
    · rename_i hk
      have hk' : scope.names.lookup x = some .local := hk
      simp only [Option.bind_eq_some_iff, Option.map_eq_some_iff] at h
      obtain ⟨i, hi, js, h, rfl⟩ := h
      intro j hj
      rcases List.mem_cons.mp hj with rfl | hj
      · rcases scIn_idx hi with ⟨_, k, _, rfl⟩ | ⟨h', _⟩
        · exact Nat.le_add_right _ _
        · rw [hk'] at h'; cases h'
      · exact idxs_ge h j hj
    · cases h
theorem targets_ge {scope : Scope} {t : Expr} {ts : List Nat} (h : targets (scIn sc scope) t = some ts) : ∀ i ∈ ts, sc.n ≤ i := by
  rcases targets_inv h with ⟨x, p, i, rfl, hk, hi, rfl⟩ | ⟨es, k, p, xs, rfl, h1, h2, ht⟩
  · exact idxs_ge (xs := [x]) h
  · exact idxs_ge ht

noncomputable def compStep (C : Nat → List AV → Option AV) (ts : List Nat) (elt cond : PE) (ρ : Loc) (x : AV) : Option (Option AV) :=
  (bindV ρ ts x).bind fun ρ' => (evE C cond ρ').bind fun c => (truth c).bind fun t => if t then (evE C elt ρ').map some else some none

/-- the loop of a comprehension -/
theorem comp_loop {elt t iter : Expr} {ifs : List Expr} {scope : Scope} {pos : Pos} {cenv : Env} {p c : PE} {ts : List Nat} {I D Ca : Addr} {wr : List Addr} {St : List AV → List Addr → Shared → Prop} {R : Result → Shared → Prop}
    (hE : SndE prog w Γ n C (scIn sc scope) elt p) (hF : SndF prog w Γ n C (scIn sc scope) ifs c) (ht : targets (scIn sc scope) t = some ts) (fx : Fx cenv (scIn sc scope)) (hloc : cenv.locals = Ca) (ao : Ao n A)
    (src : Src prog w A Γ.tokA X wr I t St) {xs ys : List AV} (hzs : foldC (compStep C ts p c ρ) xs = some ys) (hsz : xs.length ≤ sizeLine) (hhi : ∀ (i : Nat) (sl : Slot), sc.n ≤ i → ρ[i]? = some sl → sl = .no)
    {s₀ : Shared} (x₀ : Ext s₀ s) (hD : s₀.heap.get? D = none) (hwr : ∀ a ∈ wr, s₀.heap.get? a = none) (hDC : D ≠ Ca) (hDw : D ∉ wr) (hCw : Ca ∉ wr) (hDX : D ∉ X) (hCX : Ca ∉ X) (hC0 : s₀.heap.get? Ca = none)
    (f : Fm prog w Γ cenv (scIn sc scope) s₀.heap ((wr ++ X) ++ [D]) [Ca] ρ (fun _ => none) (fun _ => []) s) (st : St xs [D, Ca] s) (hacc : s.heap.PlainList D #[])
    (hR : ∀ s' m, Ext s₀ s' → s'.heap.Ns Ca m → VR Γ.tokA (gX s'.heap (Ca :: X)) (.list ys) (.ref D) → R (.ok .next) s') :
    codeAny (model prog w) A (.compLoop (.ListComp elt [⟨t, iter, ifs, 0⟩] scope pos) 0 (.ref I) (.ref D) cenv) R s := by
  have hid : ((wr ++ X) ++ [D]) ++ [Ca] = (wr ++ X) ++ [D, Ca] := List.append_assoc _ _ _
  refine compLoop_rule (fun k s' => ∃ rest m oa zs acc vs, k = rest.length ∧ Ext s₀ s' ∧ St rest [D, Ca] s' ∧ Fm prog w Γ cenv (scIn sc scope) s₀.heap ((wr ++ X) ++ [D]) [Ca] ρ m oa s' ∧
    s'.heap.PlainList D vs ∧ VRs Γ.tokA (gX s'.heap ((wr ++ X) ++ [D, Ca])) acc vs.toList ∧ foldC (compStep C ts p c ρ) rest = some zs ∧ acc ++ zs = ys ∧ acc.length + rest.length ≤ xs.length) ?_ xs.length
    ⟨xs, _, _, ys, [], #[], rfl, x₀, st, f, hacc, trivial, hzs, rfl, by simp⟩
  rintro k s' ⟨rest, m, oa, zs, acc, vs, rfl, x', st', f', hpl, hvs, hfold, happ, hlen⟩
  cases rest with
  | nil =>
    refine src.done _ _ _ _ st' fun s'' ev => ?_
    cases hfold
    rw [List.append_nil] at happ
    subst happ
    have kp : ∀ b o, b ∉ wr → s'.heap.get? b = some o → s''.heap.get? b = some o := fun b o hb e => (gX_get (ev.sub b o (gX_of e hb))).1
    obtain ⟨kk, hpl'⟩ := hpl
    refine hR s'' m ⟨fun b o e => kp b o (fun q => by rw [hwr b q] at e; cases e) (x'.heap b o e), ev.os.trans x'.os, x'.gens.trans ev.gens⟩ ((hloc ▸ f'.ns).at' fun o e => kp _ o hCw e) ⟨D, _, vs, kk, rfl, gX_of (kp D _ hDw hpl') (by simp [hDC, hDX]), rfl, rfl, hvs.mono fun a o e => ?_, by have := hlen; simp at this; (first | lia | omega)⟩
    obtain ⟨e1, e2⟩ := gX_get e
    simp only [List.mem_append, List.mem_cons, List.not_mem_nil, or_false, not_or] at e2
    exact gX_of (kp a o e2.1.1 e1) (by simp [e2.1.2, e2.2.2])
  | cons x rest =>
    rewrite [qFC] at hfold
    simp only [Option.bind_eq_some_iff, Option.map_eq_some_iff] at hfold
    obtain ⟨o, ho, zs', hfold, rfl⟩ := hfold
    unfold compStep at ho
    simp only [Option.bind_eq_some_iff] at ho
    obtain ⟨ρ', hb, cv, hcv, b, hbt, ho⟩ := ho
    refine src.item x rest _ _ _ _ st' (by rw [← hid]; exact f'.live) fun s₁ v ev lv rv hgo => ?_
    refine hgo _ _ fun s₂ ev₂ st₂ => ?_
    have ev' := ev.trans ev₂
    have hin : ∀ b ∈ wr, b ∈ (wr ++ X) ++ [D] := fun b hb => List.mem_append_left _ (List.mem_append_left _ hb)
    have hWw : ∀ b ∈ wr, b ∉ [Ca] := fun b hb q => by simp at q; subst q; exact hCw hb
    have f₂ := f'.hid ev' hin (src.live _ _ _ st₂) hWw hwr
    have kp : ∀ b o, b ∉ wr → s'.heap.get? b = some o → s₂.heap.get? b = some o := fun b o hb e => (gX_get (ev'.sub b o (gX_of e hb))).1
    have hsub₂ : ∀ {Z : List Addr} {sa sb : Shared}, Ev wr sa wr sb → Sub (gX sa.heap ((wr ++ X) ++ Z)) (gX sb.heap ((wr ++ X) ++ Z)) := fun e a o h => by
      obtain ⟨e1, e2⟩ := gX_get h
      refine gX_of (gX_get (e.sub a o (gX_of e1 fun q => e2 (List.mem_append_left _ (List.mem_append_left _ q))))).1 e2
    have rv₂ : VR Γ.tokA (gX s₂.heap (((wr ++ X) ++ [D]) ++ [Ca])) x v := by rw [hid]; exact rv.mono (hsub₂ ev₂)
    refine bind_target fx ao.hh ht hb rv₂ f₂ fun s₃ m₃ oa₃ f₃ ev₃ => ?_
    have kp₃ : ∀ b o, b ∉ [Ca] → s₂.heap.get? b = some o → s₃.heap.get? b = some o := fun b o hb e => (gX_get (ev₃.sub b o (gX_of e hb))).1
    have evW : ∀ {sa sb : Shared}, Ev [Ca] sa [Ca] sb → Ev [D, Ca] sa [D, Ca] sb := fun e => ⟨fun a o h => by
      obtain ⟨e1, e2⟩ := gX_get h
      refine gX_of (gX_get (e.sub a o (gX_of e1 fun q => e2 (List.mem_cons_of_mem _ q)))).1 e2, e.os, e.gens⟩
    have st₃ := src.frame _ _ _ _ _ st₂ (evW ev₃)
    have hvs₃ : VRs Γ.tokA (gX s₃.heap ((wr ++ X) ++ [D, Ca])) acc vs.toList := (hvs.mono (hsub₂ ev')).mono ((evW ev₃).subX _)
    have hpl₃ : s₃.heap.PlainList D vs := (hpl.at fun o e => kp D o hDw e).at fun o e => kp₃ D o (by simp [hDC]) e
    have x₃ : Ext s₀ s₃ := ⟨fun b o e => (gX_get (f₃.root.2 b o e)).1, ev₃.os.trans (ev'.os.trans x'.os), (x'.gens.trans ev'.gens).trans ev₃.gens⟩
    refine hF _ _ b _ _ s₃ _ _ (by unfold evT; rw [hcv]; exact hbt) (f₃.cx fx ao) fun s₄ x₄ => ?_
    have back : ∀ (i : Nat) (sl : Slot), ρ[i]? = some sl → sl = .no ∨ ρ'[i]? = some sl := fun i sl e => by
      by_cases q : i ∈ ts
      · exact .inl (hhi i sl (targets_ge ht i q) e)
      · exact .inr (by rw [bindV_get hb i q]; exact e)
    cases b with
    | false =>
      simp only [Bool.false_eq_true, if_false] at ho ⊢
      cases ho
      refine ⟨rest.length, by simp, rest, m₃, oa₃, zs', acc, vs, rfl, x₃.trans x₄, src.frame _ _ _ _ _ st₃ x₄.ev, (f₃.keeps x₄).fewer back, hpl₃.at (x₄.heap _), hvs₃.mono (gX_sub x₄.heap), hfold, happ, ?_⟩
      simp at hlen; (first | lia | omega)
    | true =>
      simp only [if_true, Option.map_eq_some_iff] at ho ⊢
      obtain ⟨y, hy, rfl⟩ := ho
      refine hE _ _ y _ _ s₄ _ _ hy ((f₃.keeps x₄).cx fx ao) fun s₅ v₅ x₅ r₅ => ?_
      have hpl₅ : s₅.heap.PlainList D vs := (hpl₃.at (x₄.heap _)).at (x₅.heap _)
      have hvs₅ : VRs Γ.tokA (gX s₅.heap ((wr ++ X) ++ [D, Ca])) acc vs.toList := (hvs₃.mono (gX_sub x₄.heap)).mono (gX_sub x₅.heap)
      have hvl : vs.size = acc.length := by rw [← hvs.length]; simp
      refine wpAny_list_append_plain (hsz := by rw [hvl]; simp at hlen; (first | lia | omega)) hpl₅ fun h₆ hl₆ hs₆ => ?_
      have ev₆ : Ev [D] s₅ [D] { s₅ with heap := h₆ } := .of_same (List.mem_singleton.mpr rfl) hs₆
      have f₅ := ((f₃.keeps x₄).keeps x₅)
      have f₆ := f₅.hid ev₆ (fun b hb => List.mem_append_right _ hb) (fun a ha => by simp at ha; subst ha; exact ⟨_, hl₆.choose_spec⟩) (fun b hb q => by simp at hb q; exact hDC (hb ▸ q ▸ rfl)) (fun b hb => by simp at hb; subst hb; exact hD)
      have sub₆ : Sub (gX s₅.heap ((wr ++ X) ++ [D, Ca])) (gX h₆ ((wr ++ X) ++ [D, Ca])) := fun a o h => by
        obtain ⟨e1, e2⟩ := gX_get h
        exact gX_of (hs₆.extBut a o (fun q => e2 (by simp [q])) e1) e2
      refine ⟨rest.length, by simp, rest, m₃, oa₃, zs', acc ++ [y], vs.push v₅, rfl, ?_, src.frame _ _ _ _ _ ((src.frame _ _ _ _ _ ((src.frame _ _ _ _ _ st₃ x₄.ev)) x₅.ev)) (.of_same (List.mem_cons_self ..) hs₆), f₆.fewer back, hl₆, ?_, hfold, ?_, ?_⟩
      · exact ⟨fun b o e => (gX_get (f₆.root.2 b o e)).1, x₅.os.trans (x₄.os.trans x₃.os), (x₃.gens.trans x₄.gens).trans x₅.gens⟩
      · rw [Array.toList_push]
        exact (hvs₅.mono sub₆).append ⟨(hid ▸ r₅).mono sub₆, trivial⟩
      · rw [← happ]; simp
      · simp at hlen ⊢; (first | lia | omega)
end
end Mine

namespace Mine

section
variable {prog : Program} {w : World} {Γ : Gp} {n : Nat} {C : Nat → List AV → Option AV} {A : Around} {env : Env} {sc : Sc} {ρ : Loc} {X : List Addr} {E : Value → Shared → Prop} {s : Shared}

/-- a comprehension, its value used at once or not -/
noncomputable def SndC (prog : Program) (w : World) (Γ : Gp) (n : Nat) (C : Nat → List AV → Option AV) (sc : Sc) (elt : Expr) (gens : List Comprehension) (scope : Scope) (pos : Pos) (p : PE) : Prop :=
  ∀ (env : Env) (ρ : Loc) (v : AV) (A : Around) (X : List Addr) (s : Shared) (use : Option (Value → Sem Unit)) (ipos : Pos) (Q : Value → Shared → Prop) (E : Value → Shared → Prop), evE C p ρ = some v → Cx prog w Γ n A env sc ρ X s →
    (use = none → ∀ s' v', Ext s s' → VR Γ.tokA (gX s'.heap X) v v' → Q v' s') →
    (∀ u, use = some u → ∀ s' v' Ca, Ext s s' → s.heap.get? Ca = none → (∃ m, s'.heap.Ns Ca m) → VR Γ.tokA (gX s'.heap (Ca :: X)) v v' →
      wpAny (model prog w) A (u v') (fun _ s'' => ∃ m, s''.heap.Ns Ca m ∧ ∀ h', Heap.SameBut Ca s''.heap h' → Q .none { s'' with heap := h' }) E s') →
    wpAny (model prog w) A (comprehension (.ListComp elt gens scope pos) scope env ipos (newList []) (firstAsync gens) (firstIter gens env) use) Q E s

theorem comp_run {elt t iter : Expr} {ifs : List Expr} {scope : Scope} {pos ipos : Pos} {p c : PE} {pi : PI} {ts : List Nat} {v : AV} {use : Option (Value → Sem Unit)} {Q : Value → Shared → Prop}
    (hI : SndI prog w Γ n C sc t iter pi) (hE : SndE prog w Γ n C (scIn sc scope) elt p) (hF : SndF prog w Γ n C (scIn sc scope) ifs c) (ht : targets (scIn sc scope) t = some ts) (hok : compOK sc scope = true)
    (hfold : ∀ x, foldedSetIterable iter env x = pure x) (hv : evE C (.comp p ts pi c) ρ = some v) (cx : Cx prog w Γ n A env sc ρ X s)
    (hn : use = none → ∀ s' v', Ext s s' → VR Γ.tokA (gX s'.heap X) v v' → Q v' s')
    (hu : ∀ u, use = some u → ∀ s' v' Ca, Ext s s' → s.heap.get? Ca = none → (∃ m, s'.heap.Ns Ca m) → VR Γ.tokA (gX s'.heap (Ca :: X)) v v' →
      wpAny (model prog w) A (u v') (fun _ s'' => ∃ m, s''.heap.Ns Ca m ∧ ∀ h', Heap.SameBut Ca s''.heap h' → Q .none { s'' with heap := h' }) E s') :
    wpAny (model prog w) A (comprehension (.ListComp elt [⟨t, iter, ifs, 0⟩] scope pos) scope env ipos (newList []) false (eval iter env) use) Q E s := by
  simp only [qE1,qE2,qE3,qE4,qE5,qE6,qE7,qE8,qE9,qE10,qE11,qE0,qE12,qE13,qE14,qE15,qE16,qE17,qE18,qE19,qE20, Option.bind_eq_some_iff] at hv
  obtain ⟨xs, hxs, ys, hys, hv⟩ := hv
  split at hv
  · rename_i hsz
    cases hv
    have hys' : foldC (compStep C ts p c ρ) xs = some ys := hys
    obtain ⟨hk, hnm⟩ := compOK_spec hok
    have hfree : ∀ q ∈ scope.names, q.2 = .free → ∃ d, env.cells.lookup q.1 = some d := fun q hq hqf => by
      obtain ⟨_, h⟩ := hnm q hq
      rcases h with h | h | ⟨_, h, _⟩
      · rw [h] at hqf; cases hqf
      · rw [h] at hqf; cases hqf
      · obtain ⟨d, _, h, _⟩ := cx.e.cells _ h; exact ⟨d, h⟩
    obtain ⟨cl, hclos, hcl⟩ := closure_ hfree
    have hcell : ∀ q ∈ scope.names, q.2 ≠ .cell := fun q hq e => by
      obtain ⟨_, h⟩ := hnm q hq
      rcases h with h | h | ⟨h, _⟩ <;> rw [e] at h <;> cases h
    have hnames : ∀ x ∈ scope.names, x.2 = .local → scope.names.lookup x.1 = some .local := fun x hx hl => by rw [(hnm x hx).1, hl]
    refine wpAny_comprehension_free (use := use) rfl hfold hclos hk hnames ?_
    refine hI env ρ xs A X [] s _ _ hxs (by simpa using cx) fun s₂ I wr St x₂ hwr src st => ?_
    refine wpAny_newObj_type (wpAny_newFunctionEnv hcell (by intro y hy; cases hy) (fun h₁ hns₁ hsb₁ => ?_) hk)
    dsimp only at hns₁ hsb₁ ⊢
    generalize hH2 : s₂.heap.push { cls := .type "list", dict := none, data := .seq ([] : List Value).toArray } = H2 at hns₁ hsb₁ ⊢
    have hC : H2.objs.size = s₂.heap.objs.size + 1 := by rw [← hH2, Heap.size_push]
    have hsz2 : s₂.heap.objs.size < H2.objs.size := by rw [hC]; exact Nat.lt_succ_self _
    have hkp : ∀ b o, s₂.heap.get? b = some o → h₁.get? b = some o := fun b o e =>
      hsb₁.extBut b o (Nat.ne_of_lt (Nat.lt_trans (Heap.lt_size e) hsz2)) (Heap.get?_push_of_some _ (hH2 ▸ Heap.get?_push_of_some _ e))
    generalize hs4 : ({ s₂ with heap := h₁, toks := s₂.toks + ([] : List (Str × Value)).length } : Shared) = s₄
    have he4 : s₄.heap = h₁ := by subst hs4; rfl
    have x₄' : Ext s₂ s₄ := by subst hs4; exact ⟨hkp, rfl, .refl _⟩
    have x₄ := x₂.trans x₄'
    have hfr : ∀ a, s₂.heap.objs.size ≤ a → s.heap.get? a = none := fun a ha => by
      cases e : s.heap.get? a with
      | none => rfl
      | some o => exact absurd (Heap.lt_size (x₂.heap a o e)) (Nat.not_lt.mpr ha)
    have hD : s.heap.get? s₂.heap.objs.size = none := hfr _ (Nat.le_refl _)
    have hC0 : s.heap.get? H2.objs.size = none := hfr _ (Nat.le_of_lt hsz2)
    have hD2 : s₂.heap.get? s₂.heap.objs.size = none := fresh_none _ (Nat.le_refl _)
    have hC2 : s₂.heap.get? H2.objs.size = none := fresh_none _ (Nat.le_of_lt hsz2)
    have hDC : s₂.heap.objs.size ≠ H2.objs.size := Nat.ne_of_lt hsz2
    have hlive2 := src.live _ _ _ st
    have hw : ∀ a, s₂.heap.objs.size ≤ a → a ∉ wr := fun a ha q => absurd (hlive2.lt a q) (Nat.not_lt.mpr ha)
    have hX : ∀ a, s₂.heap.objs.size ≤ a → a ∉ X := fun a ha q => absurd ((cx.l.keeps x₂.heap).lt a q) (Nat.not_lt.mpr ha)
    have hDo : h₁.get? s₂.heap.objs.size = some { cls := .type "list", dict := none, data := .seq ([] : List Value).toArray } :=
      hsb₁.extBut _ _ hDC (Heap.get?_push_of_some _ (hH2 ▸ Heap.get?_push_size _ rfl))
    have hacc : s₄.heap.PlainList s₂.heap.objs.size #[] := by rw [he4]; exact ⟨_, hDo⟩
    have hnsC : s₄.heap.Ns H2.objs.size fun _ => none := by rw [he4]; exact hns₁
    generalize s₂.heap.objs.size = D at *
    generalize H2.objs.size = Ca at *
    have hCw := hw Ca (Nat.le_of_lt hsz2)
    have hCX := hX Ca (Nat.le_of_lt hsz2)
    have hlive : Live (((wr ++ X) ++ [D]) ++ [Ca]) s₄.heap := fun a ha => by
      rcases List.mem_append.mp ha with ha | ha
      · rcases List.mem_append.mp ha with ha | ha
        · rcases List.mem_append.mp ha with ha | ha
          · obtain ⟨o, e⟩ := hlive2 a ha; exact ⟨o, x₄'.heap a o e⟩
          · obtain ⟨o, e⟩ := cx.l a ha; exact ⟨o, x₄.heap a o e⟩
        · simp at ha; subst ha; exact ⟨_, by rw [he4]; exact hDo⟩
      · simp at ha; subst ha; obtain ⟨o, _, _, e, _⟩ := hnsC; exact ⟨o, e⟩
    have f := fm_comp (cenv := compEnvC scope cl Ca env) (cl := cl) (Y := (wr ++ X) ++ [D]) (Ca := Ca) cx hok rfl rfl hcl x₄ (fun a ha => by
      rcases List.mem_append.mp ha with ha | ha
      · rcases List.mem_append.mp ha with ha | ha
        · rcases List.mem_append.mp ha with ha | ha
          · exact .inr (hwr a ha)
          · exact .inl ha
        · simp at ha; subst ha; exact .inr hD
      · simp at ha; subst ha; exact .inr hC0) hC0 hlive hnsC
    have fx := fx_comp (cenv := compEnvC scope cl Ca env) cx hok rfl rfl rfl
    have ev₄ : Ev [] s₂ [D, Ca] s₄ := by
      refine ⟨fun a o e => ?_, x₄'.os, x₄'.gens⟩
      obtain ⟨e1, _⟩ := gX_get e
      refine gX_of (x₄'.heap a o e1) fun q => ?_
      simp only [List.mem_cons, List.not_mem_nil, or_false] at q
      rcases q with rfl | rfl
      · rw [hD2] at e1; cases e1
      · rw [hC2] at e1; cases e1
    have st₄ : St xs [D, Ca] s₄ := src.frame _ _ _ _ _ st ev₄
    have loop := comp_loop (iter := iter) (pos := pos) (R := compPost (model prog w) A E use Q (.ref D) Ca) hE hF ht fx rfl cx.ao src hys' hsz cx.e.hi x₄ hD hwr hDC (hw D (Nat.le_refl _)) hCw (hX D (Nat.le_refl _)) hCX hC0 f st₄ hacc
      fun s' m x' hns hr => by
        cases use with
        | none =>
          refine ⟨m, hns, fun h' hs' => hn rfl _ _ ⟨fun b o e => hs'.extBut b o (fun q => by rw [q, hC0] at e; cases e) (x'.heap b o e), x'.os, x'.gens⟩ (hr.mono fun a o e => ?_)⟩
          obtain ⟨e1, e2⟩ := gX_get e
          rw [List.mem_cons, not_or] at e2
          exact gX_of (hs'.extBut a o e2.1 e1) e2.2
        | some u => exact hu u rfl s' _ Ca x' hC0 ⟨m, hns⟩ hr
    exact codeAny_compStart_list loop (src.self _ _ _ _ _ st₄ loop)
  · cases hv
theorem sndC_comp {elt t iter : Expr} {ifs : List Expr} {scope : Scope} {pos : Pos} {p c : PE} {pi : PI} {ts : List Nat}
    (hI : SndI prog w Γ n C sc t iter pi) (hE : SndE prog w Γ n C (scIn sc scope) elt p) (hF : SndF prog w Γ n C (scIn sc scope) ifs c) (ht : targets (scIn sc scope) t = some ts) (hok : compOK sc scope = true)
    (hfold : ∀ env x, foldedSetIterable iter env x = pure x) : SndC prog w Γ n C sc elt [⟨t, iter, ifs, 0⟩] scope pos (.comp p ts pi c) := fun env ρ v A X s use ipos Q E hv cx hn hu =>
  comp_run hI hE hF ht hok (hfold env) hv cx hn hu
theorem sndE_of_C {elt : Expr} {gens : List Comprehension} {scope : Scope} {pos : Pos} {p : PE} (h : SndC prog w Γ n C sc elt gens scope pos p) : SndE prog w Γ n C sc (.ListComp elt gens scope pos) p := fun env ρ v A X s Q E hv cx hq => by
  rw [eval_ListComp]
  exact h env ρ v A X s none _ Q E hv cx (fun _ => hq) fun u e => by cases e
end
end Mine

namespace Mine

section
variable {prog : Program} {w : World} {Γ : Gp} {n : Nat} {C : Nat → List AV → Option AV} {A : Around} {env : Env} {sc : Sc} {ρ : Loc} {X : List Addr} {E : Value → Shared → Prop} {s : Shared}

theorem sndI_expr {t e : Expr} {p : PE} (h : SndE prog w Γ n C sc e p) : SndI prog w Γ n C sc t e (.expr p) := fun env ρ xs A X Z s Q E hv cx hh => by
  simp only [qI1,qI2,qI3,qI4, Option.bind_eq_some_iff] at hv
  obtain ⟨v, hv, hx⟩ := hv
  refine h env ρ v A (X ++ Z) s _ _ hv cx fun s₁ v' x₁ r₁ => ?_
  cases v with
  | list ys => cases hx; exact src_list cx.ao.hh t r₁ (cx.l.keeps x₁.heap) (hh.ext x₁)
  | tup ys => cases hx; exact src_tup cx.ao.hh t r₁ (cx.l.keeps x₁.heap) (hh.ext x₁)
  | _ => cases hx

theorem sndI_range {t a : Expr} {x : Str} {p : PE} {px pos : Pos} (hx : isGlob sc x = true) (hr : x = "range") (h : SndE prog w Γ n C sc a p) (hst : ∀ v q, a ≠ .Starred v q) : SndI prog w Γ n C sc t (.Call (.Name x px) [a] [] pos) (.range p) := fun env ρ xs A X Z s Q E hv cx hh => by
  simp only [qI1,qI2,qI3,qI4, Option.bind_eq_some_iff] at hv
  obtain ⟨v, hv, hxs⟩ := hv
  subst hr
  refine Call_Name rfl (glob_builtin (fv := .type "range") cx hx (by simp [bnames]) ?_)
  have hs1 := star_not (env := env) (r := []) hst
  refine callWith_type1 ?_ hs1 rfl
  rw [hs1]
  show wpAny _ A (spliced [(false, eval a env)]) _ E s
  refine spliced_cons (h env ρ v A _ s _ _ hv cx fun s₁ v' x₁ r₁ => spliced_nil ?_)
  cases v with
  | int k =>
    obtain ⟨u, rfl⟩ := r₁
    simp only [rangeV] at hxs
    split at hxs
    · rename_i hk
      cases hxs
      exact src_range cx.ao.hh t hk (cx.l.keeps x₁.heap) (hh.ext x₁)
    · cases hxs
  | _ => cases hxs

theorem sndI_enum {a t : Expr} {x : Str} {p : PE} {px pos : Pos} (htu : isTup t = true) (hx : isGlob sc x = true) (hr : x = "enumerate") (h : SndE prog w Γ n C sc a p) (hst : ∀ v q, a ≠ .Starred v q) :
    SndI prog w Γ n C sc t (.Call (.Name x px) [a] [] pos) (.enum p) := fun env ρ xs A X Z s Q E hv cx hh => by
  simp only [qI1,qI2,qI3,qI4, Option.bind_eq_some_iff] at hv
  obtain ⟨v, hv, hxs⟩ := hv
  subst hr
  cases t with
  | Tuple es k tp =>
    refine Call_Name rfl (glob_builtin (fv := .type "enumerate") cx hx (by simp [bnames]) ?_)
    have hs1 := star_not (env := env) (r := []) hst
    refine callWith_type1 ?_ hs1 rfl
    rw [hs1]
    show wpAny _ A (spliced [(false, eval a env)]) _ E s
    refine spliced_cons (h env ρ v A _ s _ _ hv cx fun s₁ v' x₁ r₁ => spliced_nil ?_)
    cases v with
    | list ys =>
      cases hxs
      exact src_enum cx.ao.hh r₁ (cx.l.keeps x₁.heap) (hh.ext x₁)
    | _ => cases hxs
  | _ => cases htu

/-! ## two clauses -/
theorem compTurn_outer (elt t1 it1 t2 it2 : Expr) (scope : Scope) (pos : Pos) (it acc : Value) (env : Env) :
    compTurn (.ListComp elt [⟨t1, it1, [], 0⟩, ⟨t2, it2, [], 0⟩] scope pos) 0 it acc env = (do
      standAt it1.pos
      match ← pyNext it with
      | none => pure (.done .next)
      | some v =>
        letOwnedTupleGo t1 it v
        assign t1 env v
        let x ← eval it2 env
        standAt it2.pos
        let x ← foldedSetIterable it2 env x
        let _ ← runOwn (.compStart (.ListComp elt [⟨t1, it1, [], 0⟩, ⟨t2, it2, [], 0⟩] scope pos) 1 (← holding [x] (pyIter x)) acc env) env
        again (.compLoop (.ListComp elt [⟨t1, it1, [], 0⟩, ⟨t2, it2, [], 0⟩] scope pos) 0 it acc env)) := by rfl
theorem compTurn_inner (elt t1 it1 t2 it2 : Expr) (scope : Scope) (pos : Pos) (it acc : Value) (env : Env) :
    compTurn (.ListComp elt [⟨t1, it1, [], 0⟩, ⟨t2, it2, [], 0⟩] scope pos) 1 it acc env = (do
      standAt it2.pos
      match ← pyNext it with
      | none => pure (.done .next)
      | some v =>
        letOwnedTupleGo t2 it v
        assign t2 env v
        (do let _ ← call (.builtin "list.append") [acc, ← eval elt env])
        again (.compLoop (.ListComp elt [⟨t1, it1, [], 0⟩, ⟨t2, it2, [], 0⟩] scope pos) 1 it acc env)) := by rfl

theorem inner_rule {R : Result → Shared → Prop} {elt t1 it1 t2 it2 : Expr} {scope : Scope} {pos : Pos} {it acc : Value} (I : Nat → Shared → Prop)
    (turn : ∀ n s, I n s → wpAny (model prog w) A (pyNext it) (fun r s₁ => match r with
      | none => R (.ok .next) s₁
      | some v => wpAny (model prog w) A (letOwnedTupleGo t2 it v) (fun _ s₁' => wpAny (model prog w) A (assign t2 env v) (fun _ s₂ =>
          wpAny (model prog w) A (eval elt env) (fun x s₄ =>
              wpAny (model prog w) A (call (.builtin "list.append") [acc, x]) (fun _ s₅ => ∃ m, m < n ∧ I m s₅) (notedBy (model prog w) A env fun e s' => R (.error e) s') s₄) (notedBy (model prog w) A env fun e s' => R (.error e) s') s₂) (notedBy (model prog w) A env fun e s' => R (.error e) s') s₁') (notedBy (model prog w) A env fun e s' => R (.error e) s') s₁)
          (notedBy (model prog w) A env fun e s' => R (.error e) s') s)
    (n : Nat) (h : I n s) : codeAny (model prog w) A (.compLoop (.ListComp elt [⟨t1, it1, [], 0⟩, ⟨t2, it2, [], 0⟩] scope pos) 1 it acc env) R s := by
  refine codeAny_loop rfl I (fun n s hI => ?_) n h
  show wpAny _ A ((compTurn (.ListComp elt [⟨t1, it1, [], 0⟩, ⟨t2, it2, [], 0⟩] scope pos) 1 it acc env).onRaise (fun x => do noteFrame x env; theTreesLotGoes x)) _ _ s
  refine wpAny_noted ?_
  rw [compTurn_inner]
  refine wpAny_bind (wpAny_standAt (wpAny_bind (wpAny_mono (turn n s hI) (fun r s₁ h₁ => ?_) fun _ _ h' => h')))
  cases r with
  | none => exact wpAny_pure h₁
  | some v =>
    refine wpAny_bind (wpAny_mono h₁ (fun _ s₁' h₁' => ?_) fun _ _ h' => h')
    refine wpAny_bind (wpAny_mono h₁' (fun _ s₂ h₂ => ?_) fun _ _ h' => h')
    exact wpAny_bind (wpAny_bind (wpAny_mono h₂ (fun x s₄ h₄ => wpAny_bind (wpAny_mono h₄ (fun _ s₅ h₅ => wpAny_pure (wpAny_pure ⟨rfl, h₅⟩)) fun _ _ h' => h')) fun _ _ h' => h'))

theorem outer_rule {R : Result → Shared → Prop} {elt t1 it1 t2 it2 : Expr} {scope : Scope} {pos : Pos} {it acc : Value} (hf : ∀ x, foldedSetIterable it2 env x = pure x) (I : Nat → Shared → Prop)
    (turn : ∀ n s, I n s → wpAny (model prog w) A (pyNext it) (fun r s₁ => match r with
      | none => R (.ok .next) s₁
      | some v => wpAny (model prog w) A (letOwnedTupleGo t1 it v) (fun _ s₁' => wpAny (model prog w) A (assign t1 env v) (fun _ s₂ =>
          wpAny (model prog w) A (eval it2 env) (fun x s₃ => wpAny (model prog w) A (pyIter x) (fun i2 s₄ =>
              codeAny (model prog w) A (.compStart (.ListComp elt [⟨t1, it1, [], 0⟩, ⟨t2, it2, [], 0⟩] scope pos) 1 i2 acc env) (fun r s' => match r with | .ok _ => ∃ m, m < n ∧ I m s' | .error e => cameBackBy (model prog w) A env (notedBy (model prog w) A env fun e s' => R (.error e) s') e s') s₄)
              (notedBy (model prog w) A env fun e s' => R (.error e) s') s₃) (notedBy (model prog w) A env fun e s' => R (.error e) s') s₂) (notedBy (model prog w) A env fun e s' => R (.error e) s') s₁') (notedBy (model prog w) A env fun e s' => R (.error e) s') s₁)
          (notedBy (model prog w) A env fun e s' => R (.error e) s') s)
    (n : Nat) (h : I n s) : codeAny (model prog w) A (.compLoop (.ListComp elt [⟨t1, it1, [], 0⟩, ⟨t2, it2, [], 0⟩] scope pos) 0 it acc env) R s := by
  refine codeAny_loop rfl I (fun n s hI => ?_) n h
  show wpAny _ A ((compTurn (.ListComp elt [⟨t1, it1, [], 0⟩, ⟨t2, it2, [], 0⟩] scope pos) 0 it acc env).onRaise (fun x => do noteFrame x env; theTreesLotGoes x)) _ _ s
  refine wpAny_noted ?_
  rw [compTurn_outer]
  refine wpAny_bind (wpAny_standAt (wpAny_bind (wpAny_mono (turn n s hI) (fun r s₁ h₁ => ?_) fun _ _ h' => h')))
  cases r with
  | none => exact wpAny_pure h₁
  | some v =>
    refine wpAny_bind (wpAny_mono h₁ (fun _ s₁' h₁' => ?_) fun _ _ h' => h')
    refine wpAny_bind (wpAny_mono h₁' (fun _ s₂ h₂ => ?_) fun _ _ h' => h')
    refine wpAny_bind (wpAny_mono h₂ (fun x s₃ h₃ => ?_) fun _ _ h' => h')
    refine wpAny_bind (wpAny_standAt (wpAny_bind (wpAny_of_eq (hf x) ?_)))
    refine wpAny_bind (wpAny_holding (wpAny_mono h₃ (fun i2 s₄ h₄ => ?_) fun _ _ h' => h'))
    refine wpAny_bind (wpAny_runOwn (codeAny_mono h₄ fun r s' hr => ?_))
    cases r with
    | ok f => exact wpAny_pure ⟨rfl, hr⟩
    | error e => exact hr

theorem compStart_inner {R : Result → Shared → Prop} {elt t1 it1 t2 it2 : Expr} {scope : Scope} {pos : Pos} {it acc : Value}
    (h0 : codeAny (model prog w) A (.compLoop (.ListComp elt [⟨t1, it1, [], 0⟩, ⟨t2, it2, [], 0⟩] scope pos) 1 it acc env) R s)
    (h : wpAny (model prog w) A (pyIter it) (fun it' s' => codeAny (model prog w) A (.compLoop (.ListComp elt [⟨t1, it1, [], 0⟩, ⟨t2, it2, [], 0⟩] scope pos) 1 it' acc env) R s') (notedBy (model prog w) A env fun x s' => R (.error x) s') s) :
    codeAny (model prog w) A (.compStart (.ListComp elt [⟨t1, it1, [], 0⟩, ⟨t2, it2, [], 0⟩] scope pos) 1 it acc env) R s := by
  refine codeAny_of_tree ?_
  show wpAny _ _ ((compStart (.ListComp elt [⟨t1, it1, [], 0⟩, ⟨t2, it2, [], 0⟩] scope pos) 1 it acc env).onRaise (fun x => do noteFrame x env; standAt theWindowsPlace)) _ _ s
  refine wpAny_notedAt ?_
  unfold compStart
  show wpAny _ _ (ask >>= _) _ _ s
  refine wpAny_bind (wpAny_askSetting (wpAny_ite ?_))
  split
  · first
      | exact wpAny_bind (wpAny_pure (wpAny_pure (And.intro rfl h0)))
      | exact wpAny_pure (And.intro rfl h0)
  · first
      | exact wpAny_bind (wpAny_rule (wpAny_bind (wpAny_standAt (wpAny_bind (wpAny_mono h (fun it' s' h' => wpAny_pure (And.intro rfl h')) fun _ _ x => x)))))
      | (refine wpAny_bind (wpAny_rule ?_); show wpAny _ _ (standAt it2.pos >>= _) _ _ s; exact wpAny_bind (wpAny_standAt (wpAny_bind (wpAny_mono h (fun it' s' h' => wpAny_pure (And.intro rfl h')) fun _ _ x => x))))
end
end Mine

namespace Mine

section
variable {prog : Program} {w : World} {Γ : Gp} {n : Nat} {C : Nat → List AV → Option AV} {A : Around} {env : Env} {sc : Sc} {ρ : Loc} {X : List Addr} {E : Value → Shared → Prop} {s : Shared}

theorem inner_loop {t1 it1 it2 : Expr} {scope : Scope} {pos py py' : Pos} {y : Str} {iy : Nat} {cenv : Env} {sc : Sc} {h₀ : Heap} {Y wr : List Addr} {I D Ca : Addr} {St : List AV → List Addr → Shared → Prop} {m : NM} {oa : OA} {R : Result → Shared → Prop}
    (hk : sc.kind y = some .local) (hi : sc.idx y = some iy) (hno : ∀ sl, ρ[iy]? = some sl → sl = .no) (hdb : (y == ("__debug__" : Str)) = false) (fx : Fx cenv sc) (hloc : cenv.locals = Ca)
    (src : Src prog w A Γ.tokA Y wr I (.Name y py') St) {xs acc : List AV} {vs : Array Value} (hsz : acc.length + xs.length ≤ sizeLine)
    (hD0 : h₀.get? D = none) (hw0 : ∀ a ∈ wr, h₀.get? a = none) (hDC : D ≠ Ca) (hDw : D ∉ wr) (hCw : Ca ∉ wr) (hYw : ∀ b ∈ wr, b ∉ Y)
    (f : Fm prog w Γ cenv sc h₀ (wr ++ (Y ++ [D])) [Ca] ρ m oa s) (st : St xs [D, Ca] s) (hpl : s.heap.PlainList D vs) (hvs : VRs Γ.tokA (gX s.heap ((wr ++ Y) ++ [D, Ca])) acc vs.toList)
    (hR : ∀ s' m' oa' us, Ev (wr ++ [D, Ca]) s (wr ++ [D, Ca]) s' → Fm prog w Γ cenv sc h₀ (Y ++ [D]) [Ca] ρ m' oa' s' → s'.heap.PlainList D us → VRs Γ.tokA (gX s'.heap (Y ++ [D, Ca])) (acc ++ xs) us.toList → R (.ok .next) s') :
    codeAny (model prog w) A (.compLoop (.ListComp (.Name y py) [⟨t1, it1, [], 0⟩, ⟨.Name y py', it2, [], 0⟩] scope pos) 1 (.ref I) (.ref D) cenv) R s := by
  have hid : (wr ++ (Y ++ [D])) ++ [Ca] = (wr ++ Y) ++ [D, Ca] := by simp
  refine inner_rule (fun k s' => ∃ rest m oa don us, k = rest.length ∧ Ev (wr ++ [D, Ca]) s (wr ++ [D, Ca]) s' ∧ St rest [D, Ca] s' ∧ Fm prog w Γ cenv sc h₀ (wr ++ (Y ++ [D])) [Ca] ρ m oa s' ∧
    s'.heap.PlainList D us ∧ VRs Γ.tokA (gX s'.heap ((wr ++ Y) ++ [D, Ca])) (acc ++ don) us.toList ∧ don ++ rest = xs) ?_ xs.length
    ⟨xs, m, oa, [], vs, rfl, .refl _ _, st, f, hpl, by simpa using hvs, rfl⟩
  rintro k s' ⟨rest, m, oa, don, us, rfl, ev', st', f', hpl', hvs', happ⟩
  have big : ∀ {Z : List Addr} {sa sb : Shared}, Ev Z sa Z sb → (∀ b ∈ Z, b ∈ wr ++ [D, Ca]) → Ev (wr ++ [D, Ca]) sa (wr ++ [D, Ca]) sb := fun e hz => ⟨fun a o h => by
    obtain ⟨e1, e2⟩ := gX_get h
    exact gX_of (gX_get (e.sub a o (gX_of e1 fun q => e2 (hz a q)))).1 e2, e.os, e.gens⟩
  have hwb : ∀ b ∈ wr, b ∈ wr ++ [D, Ca] := fun b hb => List.mem_append_left _ hb
  cases rest with
  | nil =>
    refine src.done _ _ _ _ st' fun s'' ev => ?_
    rw [List.append_nil] at happ
    subst happ
    have kp : ∀ b o, b ∉ wr → s'.heap.get? b = some o → s''.heap.get? b = some o := fun b o hb e => (gX_get (ev.sub b o (gX_of e hb))).1
    refine hR s'' m oa us (ev'.trans (big ev hwb)) (f'.drop ev (fun b hb q => by simp at q; subst q; exact hCw hb) (fun b hb q => ?_) hw0) (hpl'.at fun o e => kp D o hDw e) (hvs'.mono fun a o e => ?_)
    · rcases List.mem_append.mp q with q | q
      · exact hYw b hb q
      · simp at q; subst q; exact hDw hb
    · obtain ⟨e1, e2⟩ := gX_get e
      rw [List.append_assoc, List.mem_append, not_or] at e2
      exact gX_of (kp a o e2.1 e1) e2.2
  | cons x rest =>
    refine src.item x rest _ _ _ _ st' (by rw [← hid]; exact f'.live) fun s₁ v ev lv rv hgo => ?_
    refine hgo _ _ fun s₂ ev₂ st₂ => ?_
    have evi := ev.trans ev₂
    have hsub₂ : ∀ {Z : List Addr} {sa sb : Shared}, Ev wr sa wr sb → Sub (gX sa.heap ((wr ++ Y) ++ Z)) (gX sb.heap ((wr ++ Y) ++ Z)) := fun e a o h => by
      obtain ⟨e1, e2⟩ := gX_get h
      refine gX_of (gX_get (e.sub a o (gX_of e1 fun q => e2 (List.mem_append_left _ (List.mem_append_left _ q))))).1 e2
    have f₂ := f'.hid evi (fun b hb => List.mem_append_left _ hb) (src.live _ _ _ st₂) (fun b hb q => by simp at q; subst q; exact hCw hb) hw0
    have kp : ∀ b o, b ∉ wr → s'.heap.get? b = some o → s₂.heap.get? b = some o := fun b o hb e => (gX_get (evi.sub b o (gX_of e hb))).1
    have rv₂ : VR Γ.tokA (gX s₂.heap ((wr ++ (Y ++ [D])) ++ [Ca])) x v := by rw [hid]; exact rv.mono (hsub₂ ev₂)
    refine PyProof.Rows.assign_Name (wpAny_storeName_local (fx.kl y hk) f₂.ns (fun h₃ hn₃ hs₃ => ?_) (by simp [fx.kind]))
    have f₃ := f₂.putLocal fx (sl := .val x) (v' := v) (as := []) (tk := s₂.toks + 1) hk hi hn₃ hs₃ (fun u e => by cases e; exact rv₂) (by simp [Slot.owned]) (by simp) (by simp) (by simp)
    rw [hloc] at hs₃ hn₃
    refine wpAny_Name (wpAny_loadName_local fx.kind (fx.kl y hk) (v := v) (by rw [hloc]; exact hn₃) (if_pos rfl) ?_) hdb
    have ev₃ : Ev [Ca] s₂ [Ca] { s₂ with heap := h₃, toks := s₂.toks + 1 } := .of_same (List.mem_singleton.mpr rfl) hs₃
    have evW : Ev [D, Ca] s₂ [D, Ca] { s₂ with heap := h₃, toks := s₂.toks + 1 } := .of_same (by simp) hs₃
    have st₃ := src.frame _ _ _ _ _ st₂ evW
    have hpl₃ : h₃.PlainList D us := (hpl'.at fun o e => kp D o hDw e).extBut hs₃.extBut hDC
    have hvs₃ : VRs Γ.tokA (gX h₃ ((wr ++ Y) ++ [D, Ca])) (acc ++ don) us.toList := (hvs'.mono (hsub₂ evi)).mono (evW.subX _)
    have rv₃ : VR Γ.tokA (gX h₃ ((wr ++ Y) ++ [D, Ca])) x v := (hid ▸ rv₂).mono (evW.subX _)
    have hul : us.size = (acc ++ don).length := by rw [← hvs'.length]; simp
    have hlen : (acc ++ don).length + (x :: rest).length ≤ sizeLine := by
      rw [← happ] at hsz; simp at hsz ⊢; (first | lia | omega)
    refine wpAny_list_append_plain (hsz := by rw [hul]; simp at hlen ⊢; (first | lia | omega)) hpl₃ fun h₆ hl₆ hs₆ => ?_
    have ev₆ : Ev [D] { s₂ with heap := h₃, toks := s₂.toks + 1 } [D] { s₂ with heap := h₆, toks := s₂.toks + 1 } := .of_same (s := { s₂ with heap := h₃, toks := s₂.toks + 1 }) (tk := s₂.toks + 1) (List.mem_singleton.mpr rfl) hs₆
    have f₆ := f₃.hid ev₆ (fun b hb => List.mem_append_right _ (List.mem_append_right _ hb)) (fun a ha => by simp at ha; subst ha; exact ⟨_, hl₆.choose_spec⟩) (fun b hb q => by simp at hb q; exact hDC (hb ▸ q ▸ rfl)) (fun b hb => by simp at hb; subst hb; exact hD0)
    have sub₆ : Sub (gX h₃ ((wr ++ Y) ++ [D, Ca])) (gX h₆ ((wr ++ Y) ++ [D, Ca])) := fun a o h => by
      obtain ⟨e1, e2⟩ := gX_get h
      exact gX_of (hs₆.extBut a o (fun q => e2 (by simp [q])) e1) e2
    have ev₆' : Ev [D, Ca] { s₂ with heap := h₃, toks := s₂.toks + 1 } [D, Ca] { s₂ with heap := h₆, toks := s₂.toks + 1 } := .of_same (s := { s₂ with heap := h₃, toks := s₂.toks + 1 }) (tk := s₂.toks + 1) (List.mem_cons_self ..) hs₆
    refine ⟨rest.length, by simp, rest, _, _, don ++ [x], us.push v, rfl, ?_, src.frame _ _ _ _ _ st₃ ev₆', f₆.fewer fun i sl e => ?_, hl₆, ?_, by simpa using happ⟩
    · exact ((ev'.trans (big evi hwb)).trans (big evW fun b hb => List.mem_append_right _ hb)).trans (big ev₆' fun b hb => List.mem_append_right _ hb)
    · by_cases q : i = iy
      · subst q; exact .inl (hno sl e)
      · exact .inr (by rw [List.getElem?_set_ne (Ne.symm q)]; exact e)
    · rw [Array.toList_push, ← List.append_assoc]
      exact (hvs₃.mono sub₆).append ⟨rv₃.mono sub₆, trivial⟩

noncomputable def flatStep (C : Nat → List AV → Option AV) (i : Nat) (p : PE) (ρ : Loc) (x : AV) : Option (List AV) :=
  (evE C p (ρ.set i (.val x))).bind fun v => match v with | .list ys => some ys | _ => none

theorem foldA_len {f : AV → Option (List AV)} : ∀ {xs ys : List AV}, foldA f xs = some ys → ∀ x ∈ xs, ∀ zs, f x = some zs → zs.length ≤ ys.length
  | [], _, _, x, hx, _, _ => by cases hx
  | a :: r, ys, h, x, hx, zs, hz => by
    rewrite [qFA] at h
    simp only [Option.bind_eq_some_iff, Option.map_eq_some_iff] at h
    obtain ⟨o, ho, ws, hw, rfl⟩ := h
    rcases List.mem_cons.mp hx with rfl | hx
    · rw [hz] at ho; cases ho; simp
    · have := foldA_len hw x hx zs hz
      simp; (first | lia | omega)

theorem flat_loop {x y : Str} {px py py' : Pos} {it it2 : Expr} {scope : Scope} {pos : Pos} {cenv : Env} {p : PE} {i iy : Nat} {I D Ca : Addr} {wr : List Addr} {St : List AV → List Addr → Shared → Prop} {R : Result → Shared → Prop}
    (hxy : x ≠ y) (hdb : (y == ("__debug__" : Str)) = false) (hE : SndE prog w Γ n C (scIn sc scope) it2 p) (hkx : (scIn sc scope).kind x = some .local) (hix : (scIn sc scope).idx x = some i)
    (hky : (scIn sc scope).kind y = some .local) (hiy : (scIn sc scope).idx y = some iy) (hge : ∀ z j, (scIn sc scope).kind z = some .local → (scIn sc scope).idx z = some j → sc.n ≤ j) (hfold2 : ∀ z, foldedSetIterable it2 cenv z = pure z)
    (fx : Fx cenv (scIn sc scope)) (hloc : cenv.locals = Ca) (ao : Ao n A)
    (src : Src prog w A Γ.tokA X wr I (.Name x px) St) {xs ys : List AV} (hzs : foldA (flatStep C i p ρ) xs = some ys) (hsz : ys.length ≤ sizeLine) (hhi : ∀ (i : Nat) (sl : Slot), sc.n ≤ i → ρ[i]? = some sl → sl = .no)
    {s₀ : Shared} (x₀ : Ext s₀ s) (hD : s₀.heap.get? D = none) (hwr : ∀ a ∈ wr, s₀.heap.get? a = none) (hDC : D ≠ Ca) (hDw : D ∉ wr) (hCw : Ca ∉ wr) (hDX : D ∉ X) (hCX : Ca ∉ X) (hC0 : s₀.heap.get? Ca = none)
    (f : Fm prog w Γ cenv (scIn sc scope) s₀.heap ((wr ++ X) ++ [D]) [Ca] ρ (fun _ => none) (fun _ => []) s) (st : St xs [D, Ca] s) (hacc : s.heap.PlainList D #[])
    (hR : ∀ s' m, Ext s₀ s' → s'.heap.Ns Ca m → VR Γ.tokA (gX s'.heap (Ca :: X)) (.list ys) (.ref D) → R (.ok .next) s') :
    codeAny (model prog w) A (.compLoop (.ListComp (.Name y py) [⟨.Name x px, it, [], 0⟩, ⟨.Name y py', it2, [], 0⟩] scope pos) 0 (.ref I) (.ref D) cenv) R s := by
  have hid : ((wr ++ X) ++ [D]) ++ [Ca] = (wr ++ X) ++ [D, Ca] := List.append_assoc _ _ _
  have hne : iy ≠ i := fun q => hxy (fx.ok.inj x y i hix (q ▸ hiy))
  refine outer_rule hfold2 (fun k s' => ∃ rest m oa zs acc vs, k = rest.length ∧ Ext s₀ s' ∧ St rest [D, Ca] s' ∧ Fm prog w Γ cenv (scIn sc scope) s₀.heap ((wr ++ X) ++ [D]) [Ca] ρ m oa s' ∧
    s'.heap.PlainList D vs ∧ VRs Γ.tokA (gX s'.heap ((wr ++ X) ++ [D, Ca])) acc vs.toList ∧ foldA (flatStep C i p ρ) rest = some zs ∧ acc ++ zs = ys) ?_ xs.length
    ⟨xs, _, _, ys, [], #[], rfl, x₀, st, f, hacc, trivial, hzs, rfl⟩
  rintro k s' ⟨rest, m, oa, zs, acc, vs, rfl, x', st', f', hpl, hvs, hfold, happ⟩
  cases rest with
  | nil =>
    refine src.done _ _ _ _ st' fun s'' ev => ?_
    cases hfold
    rw [List.append_nil] at happ
    subst happ
    have kp : ∀ b o, b ∉ wr → s'.heap.get? b = some o → s''.heap.get? b = some o := fun b o hb e => (gX_get (ev.sub b o (gX_of e hb))).1
    obtain ⟨kk, hpl'⟩ := hpl
    refine hR s'' m ⟨fun b o e => kp b o (fun q => by rw [hwr b q] at e; cases e) (x'.heap b o e), ev.os.trans x'.os, x'.gens.trans ev.gens⟩ ((hloc ▸ f'.ns).at' fun o e => kp _ o hCw e) ⟨D, _, vs, kk, rfl, gX_of (kp D _ hDw hpl') (by simp [hDC, hDX]), rfl, rfl, hvs.mono fun a o e => ?_, hsz⟩
    obtain ⟨e1, e2⟩ := gX_get e
    simp only [List.mem_append, List.mem_cons, List.not_mem_nil, or_false, not_or] at e2
    exact gX_of (kp a o e2.1.1 e1) (by simp [e2.1.2, e2.2.2])
  | cons a rest =>
    rewrite [qFA] at hfold
    simp only [Option.bind_eq_some_iff, Option.map_eq_some_iff] at hfold
    obtain ⟨o, ho, zs', hfold, rfl⟩ := hfold
    unfold flatStep at ho
    simp only [Option.bind_eq_some_iff] at ho
    obtain ⟨u, hu, ho⟩ := ho
    refine src.item a rest _ _ _ _ st' (by rw [← hid]; exact f'.live) fun s₁ v ev lv rv hgo => ?_
    refine hgo _ _ fun s₂ ev₂ st₂ => ?_
    have ev' := ev.trans ev₂
    have hWw : ∀ b ∈ wr, b ∉ [Ca] := fun b hb q => by simp at q; subst q; exact hCw hb
    have f₂ := f'.hid ev' (fun b hb => List.mem_append_left _ (List.mem_append_left _ hb)) (src.live _ _ _ st₂) hWw hwr
    have kp : ∀ b o, b ∉ wr → s'.heap.get? b = some o → s₂.heap.get? b = some o := fun b o hb e => (gX_get (ev'.sub b o (gX_of e hb))).1
    have hsub₂ : ∀ {Z : List Addr} {sa sb : Shared}, Ev wr sa wr sb → Sub (gX sa.heap ((wr ++ X) ++ Z)) (gX sb.heap ((wr ++ X) ++ Z)) := fun e a o h => by
      obtain ⟨e1, e2⟩ := gX_get h
      refine gX_of (gX_get (e.sub a o (gX_of e1 fun q => e2 (List.mem_append_left _ (List.mem_append_left _ q))))).1 e2
    have rv₂ : VR Γ.tokA (gX s₂.heap (((wr ++ X) ++ [D]) ++ [Ca])) a v := by rw [hid]; exact rv.mono (hsub₂ ev₂)
    refine PyProof.Rows.assign_Name (store_ f₂ fx (.inl hkx) hix rv₂ fun s₃ m₃ oa₃ f₃ ev₃ => ?_)
    have kp₃ : ∀ b o, b ∉ [Ca] → s₂.heap.get? b = some o → s₃.heap.get? b = some o := fun b o hb e => (gX_get (ev₃.sub b o (gX_of e hb))).1
    have evW : Ev [D, Ca] s₂ [D, Ca] s₃ := ⟨fun a o h => by
      obtain ⟨e1, e2⟩ := gX_get h
      refine gX_of (gX_get (ev₃.sub a o (gX_of e1 fun q => e2 (List.mem_cons_of_mem _ q)))).1 e2, ev₃.os, ev₃.gens⟩
    have st₃ := src.frame _ _ _ _ _ st₂ evW
    have hvs₃ : VRs Γ.tokA (gX s₃.heap ((wr ++ X) ++ [D, Ca])) acc vs.toList := (hvs.mono (hsub₂ ev')).mono (evW.subX _)
    have hpl₃ : s₃.heap.PlainList D vs := (hpl.at fun o e => kp D o hDw e).at fun o e => kp₃ D o (by simp [hDC]) e
    have x₃ : Ext s₀ s₃ := ⟨fun b o e => (gX_get (f₃.root.2 b o e)).1, ev₃.os.trans (ev'.os.trans x'.os), (x'.gens.trans ev'.gens).trans ev₃.gens⟩
    have back : ∀ (j : Nat) (sl : Slot), ρ[j]? = some sl → sl = .no ∨ (ρ.set i (.val a))[j]? = some sl := fun j sl e => by
      by_cases q : j = i
      · subst q; exact .inl (hhi j sl (hge x j hkx hix) e)
      · exact .inr (by rw [List.getElem?_set_ne (Ne.symm q)]; exact e)
    refine hE _ _ u _ _ s₃ _ _ hu (f₃.cx fx ao) fun s₄ v₄ x₄ r₄ => ?_
    cases u with
    | list us =>
      cases ho
      have f₄ := f₃.keeps x₄
      have st₄ := src.frame _ _ _ _ _ st₃ x₄.ev
      have hpl₄ : s₄.heap.PlainList D vs := hpl₃.at (x₄.heap _)
      have hl₄ := f₄.live
      have r₄' : VR Γ.tokA (gX s₄.heap ((wr ++ X) ++ [D, Ca])) (.list o) v₄ := hid ▸ r₄
      refine src_list ao.hh (.Name y py') r₄' (by rw [← hid]; exact hl₄) fun s₅ I2 wr2 St2 x₅ hwr2 src2 st2 => ?_
      have lv2 := src2.live _ _ _ st2
      have hnot : ∀ b ∈ wr2, ∀ o, s₄.heap.get? b ≠ some o := fun b hb o e => by rw [hwr2 b hb] at e; cases e
      have hY2 : ∀ b ∈ wr2, b ∉ wr ++ X := fun b hb q => by
        obtain ⟨o, e⟩ := hl₄ b (List.mem_append_left _ (List.mem_append_left _ q)); exact hnot b hb o e
      have hD2 : D ∉ wr2 := fun q => by obtain ⟨kk, e⟩ := hpl₄; exact hnot D q _ e
      have hC2 : Ca ∉ wr2 := fun q => by obtain ⟨o, _, _, e, _⟩ := (hloc ▸ f₄.ns); exact hnot Ca q o e
      have hw0 : ∀ b ∈ wr2, s₀.heap.get? b = none := fun b hb => by
        cases e : s₀.heap.get? b with
        | none => rfl
        | some o => exact absurd ((x₃.trans x₄).heap b o e) (hnot b hb o)
      have f₅ := f₄.grow x₅ hwr2 lv2
      have hlen : acc.length + o.length ≤ sizeLine := by
        rw [← happ] at hsz; simp at hsz; (first | lia | omega)
      have hvs₅ : VRs Γ.tokA (gX s₅.heap ((wr2 ++ (wr ++ X)) ++ [D, Ca])) acc vs.toList := (hvs₃.mono (gX_sub x₄.heap)).mono (grow_sub (X := wr ++ X) (Z := [D, Ca]) x₅ hwr2)
      have loop := inner_loop (t1 := .Name x px) (it1 := it) (it2 := it2) (scope := scope) (pos := pos) (py := py) (R := fun r s' => match r with | .ok _ => ∃ m', m' < (a :: rest).length ∧ (fun k s' => ∃ rest m oa zs acc vs, k = rest.length ∧ Ext s₀ s' ∧ St rest [D, Ca] s' ∧ Fm prog w Γ cenv (scIn sc scope) s₀.heap ((wr ++ X) ++ [D]) [Ca] ρ m oa s' ∧
          s'.heap.PlainList D vs ∧ VRs Γ.tokA (gX s'.heap ((wr ++ X) ++ [D, Ca])) acc vs.toList ∧ foldA (flatStep C i p ρ) rest = some zs ∧ acc ++ zs = ys) m' s' | .error e => cameBackBy (model prog w) A cenv (notedBy (model prog w) A cenv fun e s' => R (.error e) s') e s')
        hky hiy (fun sl e => hhi iy sl (hge y iy hky hiy) (by rwa [List.getElem?_set_ne (Ne.symm hne)] at e)) hdb fx hloc src2 hlen hD hw0 hDC hD2 hC2 hY2 f₅ st2 (hpl₄.at (x₅.heap _)) hvs₅
        fun s₆ m₆ oa₆ us₆ ev₆ f₆ hpl₆ hvs₆ => by
          have ev46 : Ev [D, Ca] s₄ [D, Ca] s₆ := ⟨fun b o e => by
            obtain ⟨e1, e2⟩ := gX_get e
            refine gX_of (gX_get (ev₆.sub b o (gX_of (x₅.heap b o e1) fun q => ?_))).1 e2
            rcases List.mem_append.mp q with q | q
            · exact hnot b q o e1
            · exact e2 q, ev₆.os.trans x₅.os, x₅.gens.trans ev₆.gens⟩
          exact ⟨rest.length, Nat.lt_succ_self _, rest, m₆, oa₆, zs', acc ++ o, us₆, rfl, ⟨fun b o e => (gX_get (f₆.root.2 b o e)).1, ev46.os.trans (x₄.os.trans x₃.os), (x₃.gens.trans x₄.gens).trans ev46.gens⟩,
            src.frame _ _ _ _ _ st₄ ev46, f₆.fewer back, hpl₆, hvs₆, hfold, by rw [← happ]; simp⟩
      exact compStart_inner loop (src2.self _ _ _ _ _ st2 loop)
    | _ => cases ho

theorem codeAny_compStart2 {R : Result → Shared → Prop} {elt t1 it1 t2 it2 : Expr} {scope : Scope} {pos : Pos} {it acc : Value}
    (h0 : codeAny (model prog w) A (.compLoop (.ListComp elt [⟨t1, it1, [], 0⟩, ⟨t2, it2, [], 0⟩] scope pos) 0 it acc env) R s)
    (h : wpAny (model prog w) A (pyIter it) (fun it' s' => codeAny (model prog w) A (.compLoop (.ListComp elt [⟨t1, it1, [], 0⟩, ⟨t2, it2, [], 0⟩] scope pos) 0 it' acc env) R s') (notedBy (model prog w) A env fun x s' => R (.error x) s') s) :
    codeAny (model prog w) A (.compStart (.ListComp elt [⟨t1, it1, [], 0⟩, ⟨t2, it2, [], 0⟩] scope pos) 0 it acc env) R s := codeAny_compStart_list h0 h

theorem sndC_flat {x y : Str} {px py py' : Pos} {it it2 : Expr} {scope : Scope} {pos : Pos} {pi : PI} {p : PE} {i iy : Nat} (hxy : x ≠ y) (hdb : (y == ("__debug__" : Str)) = false)
    (hI : SndI prog w Γ n C sc (.Name x px) it pi) (hE : SndE prog w Γ n C (scIn sc scope) it2 p) (hkx : (scIn sc scope).kind x = some .local) (hix : (scIn sc scope).idx x = some i)
    (hky : (scIn sc scope).kind y = some .local) (hiy : (scIn sc scope).idx y = some iy) (hok : compOK sc scope = true)
    (hfold : ∀ env x, foldedSetIterable it env x = pure x) (hfold2 : ∀ env x, foldedSetIterable it2 env x = pure x) :
    SndC prog w Γ n C sc (.Name y py) [⟨.Name x px, it, [], 0⟩, ⟨.Name y py', it2, [], 0⟩] scope pos (.flat i pi p) := fun env ρ v A X s use ipos Q E hv cx hn hu => by
  simp only [qE1,qE2,qE3,qE4,qE5,qE6,qE7,qE8,qE9,qE10,qE11,qE0,qE12,qE13,qE14,qE15,qE16,qE17,qE18,qE19,qE20, Option.bind_eq_some_iff] at hv
  obtain ⟨xs, hxs, ys, hys, hv⟩ := hv
  split at hv
  · rename_i hsz
    cases hv
    have hys' : foldA (flatStep C i p ρ) xs = some ys := hys
    obtain ⟨hk, hnm⟩ := compOK_spec hok
    have hfree : ∀ q ∈ scope.names, q.2 = .free → ∃ d, env.cells.lookup q.1 = some d := fun q hq hqf => by
      obtain ⟨_, h⟩ := hnm q hq
      rcases h with h | h | ⟨_, h, _⟩
      · rw [h] at hqf; cases hqf
      · rw [h] at hqf; cases hqf
      · obtain ⟨d, _, h, _⟩ := cx.e.cells _ h; exact ⟨d, h⟩
    obtain ⟨cl, hclos, hcl⟩ := closure_ hfree
    have hcell : ∀ q ∈ scope.names, q.2 ≠ .cell := fun q hq e => by
      obtain ⟨_, h⟩ := hnm q hq
      rcases h with h | h | ⟨h, _⟩ <;> rw [e] at h <;> cases h
    have hnames : ∀ x ∈ scope.names, x.2 = .local → scope.names.lookup x.1 = some .local := fun x hx hl => by rw [(hnm x hx).1, hl]
    refine wpAny_comprehension_free (use := use) rfl (hfold env) hclos hk hnames ?_
    refine hI env ρ xs A X [] s _ _ hxs (by simpa using cx) fun s₂ I wr St x₂ hwr src st => ?_
    refine wpAny_newObj_type (wpAny_newFunctionEnv hcell (by intro y hy; cases hy) (fun h₁ hns₁ hsb₁ => ?_) hk)
    dsimp only at hns₁ hsb₁ ⊢
    generalize hH2 : s₂.heap.push { cls := .type "list", dict := none, data := .seq ([] : List Value).toArray } = H2 at hns₁ hsb₁ ⊢
    have hC : H2.objs.size = s₂.heap.objs.size + 1 := by rw [← hH2, Heap.size_push]
    have hsz2 : s₂.heap.objs.size < H2.objs.size := by rw [hC]; exact Nat.lt_succ_self _
    have hkp : ∀ b o, s₂.heap.get? b = some o → h₁.get? b = some o := fun b o e =>
      hsb₁.extBut b o (Nat.ne_of_lt (Nat.lt_trans (Heap.lt_size e) hsz2)) (Heap.get?_push_of_some _ (hH2 ▸ Heap.get?_push_of_some _ e))
    generalize hs4 : ({ s₂ with heap := h₁, toks := s₂.toks + ([] : List (Str × Value)).length } : Shared) = s₄
    have he4 : s₄.heap = h₁ := by subst hs4; rfl
    have x₄' : Ext s₂ s₄ := by subst hs4; exact ⟨hkp, rfl, .refl _⟩
    have x₄ := x₂.trans x₄'
    have hfr : ∀ a, s₂.heap.objs.size ≤ a → s.heap.get? a = none := fun a ha => by
      cases e : s.heap.get? a with
      | none => rfl
      | some o => exact absurd (Heap.lt_size (x₂.heap a o e)) (Nat.not_lt.mpr ha)
    have hD : s.heap.get? s₂.heap.objs.size = none := hfr _ (Nat.le_refl _)
    have hC0 : s.heap.get? H2.objs.size = none := hfr _ (Nat.le_of_lt hsz2)
    have hD2 : s₂.heap.get? s₂.heap.objs.size = none := fresh_none _ (Nat.le_refl _)
    have hC2 : s₂.heap.get? H2.objs.size = none := fresh_none _ (Nat.le_of_lt hsz2)
    have hDC : s₂.heap.objs.size ≠ H2.objs.size := Nat.ne_of_lt hsz2
    have hlive2 := src.live _ _ _ st
    have hw : ∀ a, s₂.heap.objs.size ≤ a → a ∉ wr := fun a ha q => absurd (hlive2.lt a q) (Nat.not_lt.mpr ha)
    have hX : ∀ a, s₂.heap.objs.size ≤ a → a ∉ X := fun a ha q => absurd ((cx.l.keeps x₂.heap).lt a q) (Nat.not_lt.mpr ha)
    have hDo : h₁.get? s₂.heap.objs.size = some { cls := .type "list", dict := none, data := .seq ([] : List Value).toArray } :=
      hsb₁.extBut _ _ hDC (Heap.get?_push_of_some _ (hH2 ▸ Heap.get?_push_size _ rfl))
    have hacc : s₄.heap.PlainList s₂.heap.objs.size #[] := by rw [he4]; exact ⟨_, hDo⟩
    have hnsC : s₄.heap.Ns H2.objs.size fun _ => none := by rw [he4]; exact hns₁
    generalize s₂.heap.objs.size = D at *
    generalize H2.objs.size = Ca at *
    have hCw := hw Ca (Nat.le_of_lt hsz2)
    have hCX := hX Ca (Nat.le_of_lt hsz2)
    have hlive : Live (((wr ++ X) ++ [D]) ++ [Ca]) s₄.heap := fun a ha => by
      rcases List.mem_append.mp ha with ha | ha
      · rcases List.mem_append.mp ha with ha | ha
        · rcases List.mem_append.mp ha with ha | ha
          · obtain ⟨o, e⟩ := hlive2 a ha; exact ⟨o, x₄'.heap a o e⟩
          · obtain ⟨o, e⟩ := cx.l a ha; exact ⟨o, x₄.heap a o e⟩
        · simp at ha; subst ha; exact ⟨_, by rw [he4]; exact hDo⟩
      · simp at ha; subst ha; obtain ⟨o, _, _, e, _⟩ := hnsC; exact ⟨o, e⟩
    have f := fm_comp (cenv := compEnvC scope cl Ca env) (cl := cl) (Y := (wr ++ X) ++ [D]) (Ca := Ca) cx hok rfl rfl hcl x₄ (fun a ha => by
      rcases List.mem_append.mp ha with ha | ha
      · rcases List.mem_append.mp ha with ha | ha
        · rcases List.mem_append.mp ha with ha | ha
          · exact .inr (hwr a ha)
          · exact .inl ha
        · simp at ha; subst ha; exact .inr hD
      · simp at ha; subst ha; exact .inr hC0) hC0 hlive hnsC
    have fx := fx_comp (cenv := compEnvC scope cl Ca env) cx hok rfl rfl rfl
    have ev₄ : Ev [] s₂ [D, Ca] s₄ := by
      refine ⟨fun a o e => ?_, x₄'.os, x₄'.gens⟩
      obtain ⟨e1, _⟩ := gX_get e
      refine gX_of (x₄'.heap a o e1) fun q => ?_
      simp only [List.mem_cons, List.not_mem_nil, or_false] at q
      rcases q with rfl | rfl
      · rw [hD2] at e1; cases e1
      · rw [hC2] at e1; cases e1
    have st₄ : St xs [D, Ca] s₄ := src.frame _ _ _ _ _ st ev₄
    have hge : ∀ z j, (scIn sc scope).kind z = some .local → (scIn sc scope).idx z = some j → sc.n ≤ j := fun z j hz hj => by
      have hz' : scope.names.lookup z = some .local := hz
      rcases scIn_idx hj with ⟨_, k, _, rfl⟩ | ⟨h', _⟩
      · exact Nat.le_add_right _ _
      · rw [hz'] at h'; cases h'
    have loop := flat_loop (it := it) (pos := pos) (py := py) (py' := py') (R := compPost (model prog w) A E use Q (.ref D) Ca) hxy hdb hE hkx hix hky hiy hge (hfold2 _) fx rfl cx.ao src hys' hsz cx.e.hi x₄ hD hwr hDC (hw D (Nat.le_refl _)) hCw (hX D (Nat.le_refl _)) hCX hC0 f st₄ hacc
      fun s' m x' hns hr => by
        cases use with
        | none =>
          refine ⟨m, hns, fun h' hs' => hn rfl _ _ ⟨fun b o e => hs'.extBut b o (fun q => by rw [q, hC0] at e; cases e) (x'.heap b o e), x'.os, x'.gens⟩ (hr.mono fun a o e => ?_)⟩
          obtain ⟨e1, e2⟩ := gX_get e
          rw [List.mem_cons, not_or] at e2
          exact gX_of (hs'.extBut a o e2.1 e1) e2.2
        | some u => exact hu u rfl s' _ Ca x' hC0 ⟨m, hns⟩ hr
    refine codeAny_compStart2 loop (src.self _ _ _ _ _ st₄ loop)
  · cases hv
end
end Mine

namespace Mine

noncomputable def FlR (tokA : Addr) (g : Look) : Fl → Flow → Prop
  | .next, f => f = .next
  | .cont, f => f = .cont
  | .ret v, f => ∃ v', f = .ret v' ∧ VR tokA g v v'

section
variable (prog : Program) (w : World) (Γ : Gp) (n : Nat) (C : Nat → List AV → Option AV)
/-- what a statement (or a block of them) leaves -/
noncomputable def After (env : Env) (sc : Sc) (h₀ : Heap) (X W : List Addr) (s : Shared) (fl : Fl) (ρ' : Loc) (Q : Flow → Shared → Prop) : Prop :=
  ∀ s' W' m' oa' fl', Ev W s W' s' → Fm prog w Γ env sc h₀ X W' ρ' m' oa' s' → FlR Γ.tokA (gX s'.heap (X ++ W')) fl fl' → Q fl' s'
noncomputable def SndX (sc : Sc) (run : Env → Sem Flow) (ev : Loc → Option (Fl × Loc)) : Prop := ∀ (env : Env) (h₀ : Heap) (X W : List Addr) (ρ : Loc) (m : NM) (oa : OA) (fl : Fl) (ρ' : Loc) (A : Around) (s : Shared) (Q : Flow → Shared → Prop) (E : Value → Shared → Prop),
  ev ρ = some (fl, ρ') → Fx env sc → Ao n A → Fm prog w Γ env sc h₀ X W ρ m oa s → After prog w Γ env sc h₀ X W s fl ρ' Q → wpAny (model prog w) A (run env) Q E s
noncomputable def SndS (sc : Sc) (st : Stmt) (p : PS) : Prop := SndX prog w Γ n sc (exec st) (evS C p)
noncomputable def SndB' (sc : Sc) (b : List Stmt) (p : PB) : Prop := SndX prog w Γ n sc (execs b) (evB C p)
end

section
variable {prog : Program} {w : World} {Γ : Gp} {n : Nat} {C : Nat → List AV → Option AV} {sc : Sc}

theorem After.trans {env : Env} {h₀ : Heap} {X W W₁ : List Addr} {s s₁ : Shared} {fl : Fl} {ρ' : Loc} {Q : Flow → Shared → Prop} (h : After prog w Γ env sc h₀ X W s fl ρ' Q) (ev : Ev W s W₁ s₁) : After prog w Γ env sc h₀ X W₁ s₁ fl ρ' Q :=
  fun s' W' m' oa' fl' ev' f r => h s' W' m' oa' fl' (ev.trans ev') f r

theorem sndB_nil : SndB' prog w Γ n C sc [] .nil := fun env h₀ X W ρ m oa fl ρ' A s Q E hv fx ao f h => by
  simp only [qB1,qB2, Option.some.injEq, Prod.mk.injEq] at hv
  obtain ⟨rfl, rfl⟩ := hv
  exact wpAny_execs_nil (h _ _ _ _ _ (.refl _ _) f rfl)
theorem sndB_cons {st : Stmt} {r : List Stmt} {p : PS} {q : PB} (hs : SndS prog w Γ n C sc st p) (hr : SndB' prog w Γ n C sc r q) : SndB' prog w Γ n C sc (st :: r) (.cons p q) := fun env h₀ X W ρ m oa fl ρ' A s Q E hv fx ao f h => by
  simp only [qB1,qB2, Option.bind_eq_some_iff] at hv
  obtain ⟨⟨fl₁, ρ₁⟩, h1, h2⟩ := hv
  refine wpAny_execs_cons (hs env h₀ X W ρ m oa fl₁ ρ₁ A s _ E h1 fx ao f fun s' W' m' oa' fl' ev f' r => ?_)
  cases fl₁ with
  | next =>
    cases r
    exact hr env h₀ X W' ρ₁ m' oa' fl ρ' A s' Q E h2 fx ao f' (h.trans ev)
  | cont =>
    cases r
    simp only [Option.some.injEq, Prod.mk.injEq] at h2
    obtain ⟨rfl, rfl⟩ := h2
    exact h _ _ _ _ _ ev f' rfl
  | ret v =>
    obtain ⟨v', rfl, r⟩ := r
    simp only [Option.some.injEq, Prod.mk.injEq] at h2
    obtain ⟨rfl, rfl⟩ := h2
    exact h _ _ _ _ _ ev f' ⟨v', rfl, r⟩

theorem snd_ret {e : Expr} {p : PE} {pos : Pos} (he : SndE prog w Γ n C sc e p) : SndS prog w Γ n C sc (.Return (some e) pos) (.ret p) := fun env h₀ X W ρ m oa fl ρ' A s Q E hv fx ao f h => by
  simp only [qS1,qS2,qS3,qS4,qS5,qS6,qS7,qS8,qS9,qS10,qS11,qS12,qS13,qS14,qS15,qS16,qS17,qS18, Option.map_eq_some_iff] at hv
  obtain ⟨v, hv, e⟩ := hv
  cases e
  obtain ⟨W', oa', f', hW⟩ := f.freeze fx (reads p)
  refine wpAny_Return_some (he env _ v A (X ++ W') s _ _ hv (f'.cx fx ao) fun s' v' x r => ?_)
  exact h s' W' m oa' _ ((Ev.less hW).trans x.ev) (f'.keeps x) ⟨v', rfl, r⟩
theorem snd_cont {pos : Pos} : SndS prog w Γ n C sc (.Continue pos) .cont := fun env h₀ X W ρ m oa fl ρ' A s Q E hv fx ao f h => by
  simp only [qS1,qS2,qS3,qS4,qS5,qS6,qS7,qS8,qS9,qS10,qS11,qS12,qS13,qS14,qS15,qS16,qS17,qS18, Option.some.injEq, Prod.mk.injEq] at hv
  obtain ⟨rfl, rfl⟩ := hv
  exact wpAny_Continue (h _ _ _ _ _ (.refl _ _) f rfl)

theorem snd_if {c : Expr} {a b : List Stmt} {p : PE} {q r : PB} {pos : Pos} (hc : SndT prog w Γ n C sc c p) (ha : SndB' prog w Γ n C sc a q) (hb : SndB' prog w Γ n C sc b r) : SndS prog w Γ n C sc (.If c a b pos) (.ifs p q r) := fun env h₀ X W ρ m oa fl ρ' A s Q E hv fx ao f h => by
  simp only [qS1,qS2,qS3,qS4,qS5,qS6,qS7,qS8,qS9,qS10,qS11,qS12,qS13,qS14,qS15,qS16,qS17,qS18, Option.bind_eq_some_iff] at hv
  obtain ⟨t, ht, hv⟩ := hv
  refine wpAny_If (hc env ρ t A (X ++ W) s _ _ ht (f.cx fx ao) fun s₁ x₁ => ?_)
  cases t with
  | true => simp only [if_true] at hv ⊢; exact ha env h₀ X W ρ m oa fl ρ' A s₁ Q E hv fx ao (f.keeps x₁) (h.trans x₁.ev)
  | false => simp only [Bool.false_eq_true, if_false] at hv ⊢; exact hb env h₀ X W ρ m oa fl ρ' A s₁ Q E hv fx ao (f.keeps x₁) (h.trans x₁.ev)

theorem snd_while {c : Expr} {a : List Stmt} {p : PE} {q : PB} {pos : Pos} (hc : SndT prog w Γ n C sc c p) (ha : SndB' prog w Γ n C sc a q) : SndS prog w Γ n C sc (.While c a [] pos) (.whiles p q) := fun env h₀ X W ρ m oa fl ρ' A s Q E hv fx ao f h => by
  simp only [qS1,qS2,qS3,qS4,qS5,qS6,qS7,qS8,qS9,qS10,qS11,qS12,qS13,qS14,qS15,qS16,qS17,qS18] at hv
  refine wpAny_While ?_
  refine codeAny_whileLoop (fun k s' => ∃ ρ₁ W₁ m₁ oa₁, evWh (evT C p) (fun ρ => evB C q ρ) k ρ₁ = some (fl, ρ') ∧ Ev W s W₁ s' ∧ Fm prog w Γ env sc h₀ X W₁ ρ₁ m₁ oa₁ s') ?_ 1000 ⟨ρ, W, m, oa, hv, .refl _ _, f⟩
  rintro k s' ⟨ρ₁, W₁, m₁, oa₁, hv, ev, f⟩
  cases k with
  | zero => cases hv
  | succ k =>
    rewrite [qW2] at hv
    simp only [Option.bind_eq_some_iff] at hv
    obtain ⟨t, ht, hv⟩ := hv
    refine hc env ρ₁ t A (X ++ W₁) s' _ _ ht (f.cx fx ao) fun s₁ x₁ => ?_
    cases t with
    | false =>
      simp only [Bool.false_eq_true, if_false, Option.some.injEq, Prod.mk.injEq] at hv ⊢
      obtain ⟨rfl, rfl⟩ := hv
      exact wpAny_execs_nil (h _ _ _ _ _ (ev.trans x₁.ev) (f.keeps x₁) rfl)
    | true =>
      simp only [if_true, Option.bind_eq_some_iff] at hv ⊢
      obtain ⟨⟨fl₁, ρ₂⟩, h1, h2⟩ := hv
      refine ha env h₀ X W₁ ρ₁ m₁ oa₁ fl₁ ρ₂ A s₁ _ _ h1 fx ao (f.keeps x₁) fun s₂ W₂ m₂ oa₂ fl₂ ev₂ f₂ r => ?_
      have ev' := ev.trans (x₁.ev.trans ev₂)
      cases fl₁ with
      | next => cases r; exact ⟨k, Nat.lt_succ_self _, ρ₂, W₂, m₂, oa₂, h2, ev', f₂⟩
      | cont => cases r; exact ⟨k, Nat.lt_succ_self _, ρ₂, W₂, m₂, oa₂, h2, ev', f₂⟩
      | ret v =>
        obtain ⟨v', rfl, r⟩ := r
        simp only [Option.some.injEq, Prod.mk.injEq] at h2
        obtain ⟨rfl, rfl⟩ := h2
        exact h _ _ _ _ _ ev' f₂ ⟨v', rfl, r⟩

theorem snd_for {t it : Expr} {a els : List Stmt} {pi : PI} {ts : List Nat} {q : PB} {b : Bool} {pos : Pos} (hI : SndI prog w Γ n C sc t it pi) (ht : targets sc t = some ts) (ha : SndB' prog w Γ n C sc a q) (hels : b = false → els = [])
    (hfold : ∀ env x, foldedSetIterable it env x = pure x) : SndS prog w Γ n C sc (.For t it a els pos) (.fors ts pi q b) := fun env h₀ X W ρ m oa fl ρ' A s Q E hv fx ao f h => by
  simp only [qS1,qS2,qS3,qS4,qS5,qS6,qS7,qS8,qS9,qS10,qS11,qS12,qS13,qS14,qS15,qS16,qS17,qS18, Option.bind_eq_some_iff] at hv
  obtain ⟨xs, hxs, hv⟩ := hv
  refine wpAny_For ?_ (hfold env)
  refine hI env ρ xs A X W s _ _ hxs (f.cx fx ao) fun s₂ I wr St x₂ hwr src st => ?_
  have hwW : ∀ b ∈ wr, b ∉ W := src.out _ _ _ st
  have lv := src.live _ _ _ st
  have hnot : ∀ b ∈ wr, ∀ o, s.heap.get? b ≠ some o := fun b hb o e => by rw [hwr b hb] at e; cases e
  have hX : ∀ b ∈ wr, b ∉ X := fun b hb q => by obtain ⟨o, e⟩ := f.live b (List.mem_append_left _ q); exact hnot b hb o e
  have h0 : ∀ b ∈ wr, h₀.get? b = none := fun b hb => by
    cases e : h₀.get? b with
    | none => rfl
    | some o => exact absurd (gX_get (f.root.2 b o e)).1 (hnot b hb o)
  refine codeAny_forLoop_any (fun k s' => ∃ rest ρ₁ W₁ m₁ oa₁, k = rest.length ∧ evFor (fun x ρ => (bindV ρ ts x).bind fun ρ' => evB C q ρ') b rest ρ₁ = some (fl, ρ') ∧ Ev W s W₁ s' ∧ St rest W₁ s' ∧ Fm prog w Γ env sc h₀ (wr ++ X) W₁ ρ₁ m₁ oa₁ s') ?_ xs.length
    ⟨xs, ρ, W, m, oa, rfl, hv, x₂.ev, st, f.grow x₂ hwr lv⟩
  rintro k s' ⟨rest, ρ₁, W₁, m₁, oa₁, rfl, hv, ev, st, f⟩
  have hW1 : ∀ b ∈ wr, b ∉ W₁ := src.out _ _ _ st
  have wide : ∀ {sa sb : Shared}, Ev wr sa wr sb → Ev W s W₁ sa → Ev W s W₁ sb := fun e1 e2 => ⟨fun a o e => by
    obtain ⟨e3, e4⟩ := gX_get (e2.sub a o e)
    refine gX_of (gX_get (e1.sub a o (gX_of e3 fun q => hnot a q o (gX_get e).1))).1 e4, e1.os.trans e2.os, e2.gens.trans e1.gens⟩
  cases rest with
  | nil =>
    rewrite [qF1] at hv
    cases b with
    | true => cases hv
    | false =>
      simp only [Bool.false_eq_true, if_false, Option.some.injEq, Prod.mk.injEq] at hv
      obtain ⟨rfl, rfl⟩ := hv
      refine src.done _ _ _ _ st fun s'' ev' => ?_
      rw [hels rfl]
      exact wpAny_execs_nil (h _ _ _ _ _ (wide ev' ev) (f.drop ev' hW1 hX h0) rfl)
  | cons x rest =>
    rewrite [qF2] at hv
    simp only [Option.bind_eq_some_iff] at hv
    obtain ⟨⟨fl₁, ρ₃⟩, ⟨ρ₂, hb, hbody⟩, h2⟩ := hv
    refine src.item x rest _ _ _ _ st f.live fun s₃ v ev₃ lv₃ rv hgo => ?_
    refine hgo _ _ fun s₄ ev₄ st₄ => ?_
    have evi := ev₃.trans ev₄
    have f₄ := f.hid evi (fun b hb => List.mem_append_left _ hb) (src.live _ _ _ st₄) hW1 h0
    have rv₄ : VR Γ.tokA (gX s₄.heap ((wr ++ X) ++ W₁)) x v := rv.mono fun a o e => by
      obtain ⟨e1, e2⟩ := gX_get e
      exact gX_of (gX_get (ev₄.sub a o (gX_of e1 fun q => e2 (List.mem_append_left _ (List.mem_append_left _ q))))).1 e2
    refine bind_target fx ao.hh ht hb rv₄ f₄ fun s₅ m₅ oa₅ f₅ ev₅ => ?_
    refine ha env h₀ (wr ++ X) W₁ ρ₂ m₅ oa₅ fl₁ ρ₃ A s₅ _ _ hbody fx ao f₅ fun s₆ W₆ m₆ oa₆ fl₆ ev₆ f₆ r => ?_
    have ev' : Ev W s W₆ s₆ := ((wide evi ev).trans ev₅).trans ev₆
    have st₆ : St rest W₆ s₆ := src.frame _ _ _ _ _ st₄ (ev₅.trans ev₆)
    cases fl₁ with
    | next => cases r; exact ⟨rest.length, Nat.lt_succ_self _, rest, ρ₃, W₆, m₆, oa₆, rfl, h2, ev', st₆, f₆⟩
    | cont => cases r; exact ⟨rest.length, Nat.lt_succ_self _, rest, ρ₃, W₆, m₆, oa₆, rfl, h2, ev', st₆, f₆⟩
    | ret v =>
      obtain ⟨v', rfl, r⟩ := r
      simp only [Option.some.injEq, Prod.mk.injEq] at h2
      obtain ⟨rfl, rfl⟩ := h2
      refine h _ _ _ _ _ ev' (f₆.drop (.refl _ _) (src.out _ _ _ st₆) hX h0) ⟨v', rfl, r.mono (gX_less fun a ha => ?_)⟩
      rw [List.append_assoc]; exact List.mem_append_right _ ha

/-! ## stores -/
theorem not_swaps {e : Expr} {t : Option Expr} {line : Nat} {env : Env} (h1 : ∀ a b c d, e ≠ .ListComp a b c d) (h2 : ∀ a b c d, e ≠ .SetComp a b c d) (h3 : ∀ a b c d f, e ≠ .DictComp a b c d f) : swapsWith e t line env = pure false := by
  cases e <;> first | rfl | exact absurd rfl (h1 _ _ _ _) | exact absurd rfl (h2 _ _ _ _) | exact absurd rfl (h3 _ _ _ _ _)

theorem snd_asg {x : Str} {px pos : Pos} {e : Expr} {p : PE} {i : Nat} (he : SndE prog w Γ n C sc e p) (hk : sc.kind x = some .local ∨ sc.kind x = some .cell) (hi : sc.idx x = some i) (hs : ∀ env line, swapsWith e (some (.Name x px)) line env = pure false) :
    SndS prog w Γ n C sc (.Assign [.Name x px] e pos) (.asg i p) := fun env h₀ X W ρ m oa fl ρ' A s Q E hv fx ao f h => by
  simp only [qS1,qS2,qS3,qS4,qS5,qS6,qS7,qS8,qS9,qS10,qS11,qS12,qS13,qS14,qS15,qS16,qS17,qS18, Option.map_eq_some_iff] at hv
  obtain ⟨v, hv, e⟩ := hv
  cases e
  obtain ⟨W', oa', f', hW⟩ := f.freeze fx (reads p)
  refine wpAny_Assign_Name (he env _ v A (X ++ W') s _ _ hv (f'.cx fx ao) fun s₁ v' x₁ r₁ => ?_) (hs _ _)
  exact store_ (f'.keeps x₁) fx hk hi r₁ fun s₂ m₂ oa₂ f₂ ev₂ => h _ _ _ _ _ (((Ev.less hW).trans x₁.ev).trans ev₂) f₂ rfl

theorem snd_asgT {es : List Expr} {k : Nat} {tp pos : Pos} {xs : List Str} {is : List Nat} {e : Expr} {p : PE} (he : SndE prog w Γ n C sc e p) (h1 : namesOf? es = some xs) (h2 : idxs sc xs = some is)
    (hs : ∀ env line, swapsWithSole [.Tuple es k tp] e line env = pure false) (hw : ∀ env, swappedStores [.Tuple es k tp] e env = pure none) : SndS prog w Γ n C sc (.Assign [.Tuple es k tp] e pos) (.asgT is p) := fun env h₀ X W ρ m oa fl ρ' A s Q E hv fx ao f h => by
  simp only [qS1,qS2,qS3,qS4,qS5,qS6,qS7,qS8,qS9,qS10,qS11,qS12,qS13,qS14,qS15,qS16,qS17,qS18, Option.bind_eq_some_iff, Option.map_eq_some_iff] at hv
  obtain ⟨v, hv, ys, hy, ρ₁, hb, e⟩ := hv
  cases e
  refine PyProof.Rows.Assign_Tuple (he env _ v A (X ++ W) s _ _ hv (f.cx fx ao) fun s₁ v' x₁ r₁ => ?_) (hs _ _) (hw _)
  exact unpack_names fx ao.hh h1 h2 hy hb r₁ (f.keeps x₁) fun s₂ m₂ oa₂ f₂ ev₂ => h _ _ _ _ _ (x₁.ev.trans ev₂) f₂ rfl

theorem snd_asg2 {x y : Str} {px py pos : Pos} {e : Expr} {p : PE} {i j : Nat} (he : SndE prog w Γ n C sc e p) (hx : sc.kind x = some .local) (hi : sc.idx x = some i) (hy : sc.kind y = some .local) (hj : sc.idx y = some j) :
    SndS prog w Γ n C sc (.Assign [.Name x px, .Name y py] e pos) (.asg2 i j p) := fun env h₀ X W ρ m oa fl ρ' A s Q E hv fx ao f h => by
  simp only [qS1,qS2,qS3,qS4,qS5,qS6,qS7,qS8,qS9,qS10,qS11,qS12,qS13,qS14,qS15,qS16,qS17,qS18, Option.map_eq_some_iff] at hv
  obtain ⟨v, hv, e⟩ := hv
  cases e
  refine wpAny_Assign_two (he env _ v A (X ++ W) s _ _ hv (f.cx fx ao) fun s₁ v' x₁ r₁ => ?_)
  refine PyProof.Rows.assign_Name (store_ (f.keeps x₁) fx (.inl hx) hi r₁ fun s₂ m₂ oa₂ f₂ ev₂ => ?_)
  exact PyProof.Rows.assign_Name (store_ f₂ fx (.inl hy) hj (r₁.mono (ev₂.subX X)) fun s₃ m₃ oa₃ f₃ ev₃ => h _ _ _ _ _ ((x₁.ev.trans ev₂).trans ev₃) f₃ rfl)

theorem snd_aug {x : Str} {px pos : Pos} {op : Operator} {o : Bop} {e : Expr} {p : PE} {i : Nat} (ho : (op = .Add ∧ o = .add) ∨ (op = .Sub ∧ o = .sub)) (he : SndE prog w Γ n C sc e p) (hx : sc.kind x = some .local) (hi : sc.idx x = some i) :
    SndS prog w Γ n C sc (.AugAssign (.Name x px) op e pos) (.aug i o p) := fun env h₀ X W ρ m oa fl ρ' A s Q E hv fx ao f h => by
  simp only [qS1,qS2,qS3,qS4,qS5,qS6,qS7,qS8,qS9,qS10,qS11,qS12,qS13,qS14,qS15,qS16,qS17,qS18, Option.bind_eq_some_iff] at hv
  obtain ⟨u, hu, v, hv, hr⟩ := hv
  obtain ⟨u', hm, ru⟩ := f.loc x i u hx hi (valAt_spec hu)
  refine wpAny_AugAssign_Name (wpAny_loadName_local fx.kind (fx.kl x hx) f.ns hm (he env _ v A (X ++ W) s _ _ hv (f.cx fx ao) fun s₁ v' x₁ r₁ => ?_))
  cases u with
  | int a =>
    cases v with
    | int b =>
      simp only [Option.map_eq_some_iff] at hr
      obtain ⟨z, hz, e⟩ := hr
      cases e
      obtain ⟨t, rfl⟩ := ru
      obtain ⟨t', rfl⟩ := r₁
      rcases ho with ⟨rfl, rfl⟩ | ⟨rfl, rfl⟩
      · cases hz
        refine PyProof.Rows.iadd_int (store_ ((f.keeps x₁).keeps .tk) fx (.inl hx) hi (v := .int (a + b)) ⟨_, rfl⟩ fun s₂ m₂ oa₂ f₂ ev₂ => ?_)
        exact h _ _ _ _ _ ((x₁.ev.trans Ext.tk.ev).trans ev₂) f₂ rfl
      · cases hz
        refine PyProof.Rows.isub_int (store_ ((f.keeps x₁).keeps .tk) fx (.inl hx) hi (v := .int (a - b)) ⟨_, rfl⟩ fun s₂ m₂ oa₂ f₂ ev₂ => ?_)
        exact h _ _ _ _ _ ((x₁.ev.trans Ext.tk.ev).trans ev₂) f₂ rfl
    | _ => cases hr
  | _ => cases hr
end
end Mine

namespace Mine

section
variable {prog : Program} {w : World} {Γ : Gp} {n : Nat} {C : Nat → List AV → Option AV} {sc : Sc}

theorem swaps_bool (elt : Expr) (gens : List Comprehension) (scope : Scope) (cpos px : Pos) (x : Str) (line : Nat) (env : Env) : ∃ b : Bool, swapsWith (.ListComp elt gens scope cpos) (some (.Name x px)) line env = pure b := ⟨_, rfl⟩

theorem snd_asgComp {x : Str} {px pos cpos : Pos} {elt : Expr} {gens : List Comprehension} {scope : Scope} {p : PE} {i : Nat} (hc : SndC prog w Γ n C sc elt gens scope cpos p) (hr : reads p = [])
    (hk : sc.kind x = some .local ∨ sc.kind x = some .cell) (hi : sc.idx x = some i) :
    SndS prog w Γ n C sc (.Assign [.Name x px] (.ListComp elt gens scope cpos) pos) (.asg i p) := fun env h₀ X W ρ m oa fl ρ' A s Q E hv fx ao f h => by
  obtain ⟨b, hb⟩ := swaps_bool elt gens scope cpos px x pos.line env
  simp only [qS1,qS2,qS3,qS4,qS5,qS6,qS7,qS8,qS9,qS10,qS11,qS12,qS13,qS14,qS15,qS16,qS17,qS18, Option.map_eq_some_iff] at hv
  obtain ⟨v, hv, e⟩ := hv
  cases e
  have hfr : Mine.freeze ρ (reads p) = ρ := by rw [hr]; rfl
  rw [hfr] at hv h
  cases b with
  | false =>
    refine wpAny_Assign_Name (sndE_of_C hc env _ v A (X ++ W) s _ _ hv (f.cx fx ao) fun s₁ v' x₁ r₁ => ?_) hb
    exact store_ (f.keeps x₁) fx hk hi r₁ fun s₂ m₂ oa₂ f₂ ev₂ => h _ _ _ _ _ (x₁.ev.trans ev₂) f₂ rfl
  | true =>
    rw [exec_Assign_Name_used _ _ _ _ hb]
    refine wpAny_bind (wpAny_standAt ?_)
    show wpAny _ A ((do
      let _ ← comprehension (.ListComp elt gens scope cpos) scope env (firstIterPos gens cpos) (newList []) (firstAsync gens) (firstIter gens env) (some (assign (.Name x px) env)) : Sem Unit) >>= fun _ => pure .next) Q E s
    refine wpAny_bind (wpAny_bind ?_)
    refine hc env ρ v A (X ++ W) s (some (assign (.Name x px) env)) _ (fun _ s' => wpAny (model prog w) A (pure ()) (fun _ s' => wpAny (model prog w) A (pure .next) Q E s') E s') E hv (f.cx fx ao) (fun e => by cases e) fun u hu s₁ v' Ca x₁ hC0 hns r₁ => ?_
    cases hu
    obtain ⟨mc, hns⟩ := hns
    have hnot : ∀ o, s.heap.get? Ca ≠ some o := fun o e => by rw [hC0] at e; cases e
    have hCX : Ca ∉ X := fun q => by obtain ⟨o, e⟩ := f.live Ca (List.mem_append_left _ q); exact hnot o e
    have hCW : Ca ∉ W := fun q => by obtain ⟨o, e⟩ := f.live Ca (List.mem_append_right _ q); exact hnot o e
    have h0 : h₀.get? Ca = none := by
      cases e : h₀.get? Ca with
      | none => rfl
      | some o => exact absurd (gX_get (f.root.2 Ca o e)).1 (hnot o)
    have f₁ := f.grow (wr := [Ca]) x₁ (fun a ha => by simp at ha; subst ha; exact hC0) (fun a ha => by simp at ha; subst ha; obtain ⟨o, _, _, e, _⟩ := hns; exact ⟨o, e⟩)
    refine PyProof.Rows.assign_Name (store_ f₁ fx hk hi r₁ fun s₂ m₂ oa₂ f₂ ev₂ => ⟨mc, hns.at' fun o e => (gX_get (ev₂.sub _ o (gX_of e hCW))).1, fun h' hs' => wpAny_pure (wpAny_pure ?_)⟩)
    have ev₃ : Ev [Ca] s₂ [Ca] { s₂ with heap := h' } := .of_same (List.mem_singleton.mpr rfl) hs'
    refine h _ _ _ _ _ ?_ (f₂.drop ev₃ (fun b hb q => by simp at hb; subst hb; exact hCW q) (fun b hb q => by simp at hb; subst hb; exact hCX q) (fun b hb => by simp at hb; subst hb; exact h0)) rfl
    refine ⟨fun a o e => ?_, ev₂.os.trans x₁.os, x₁.gens.trans ev₂.gens⟩
    obtain ⟨e1, e2⟩ := gX_get e
    obtain ⟨e3, e4⟩ := gX_get (ev₂.sub a o (gX_of (x₁.heap a o e1) e2))
    exact gX_of (hs'.extBut a o (fun q => by subst q; exact hnot o e1) e3) e4

theorem swapped_ {x y : Str} {px py q1 q2 p1 p2 : Pos} {k1 k2 : Nat} {env : Env} (fx : Fx env sc) (hx : sc.kind x = some .local) (hy : sc.kind y = some .local) (hl : px.line = py.line) (hxy : x ≠ y) (hdx : x ≠ "__debug__") (hdy : y ≠ "__debug__") :
    swappedStores [.Tuple [.Name x px, .Name y py] k1 p1] (.Tuple [.Name y q1, .Name x q2] k2 p2) env = pure (some [x, y]) := by
  have hb : env.blockKind = .function := by
    unfold Env.blockKind
    rw [fx.kind]; rfl
  have hc : (x == y) = false := by simpa using hxy
  have hc' : (y == x) = false := by simpa using Ne.symm hxy
  have hd1 : (x == ("__debug__" : Str)) = false := by simpa using hdx
  have hd2 : (y == ("__debug__" : Str)) = false := by simpa using hdy
  have n1 : (if (env.kindOf x == some .local && px.line == px.line) = true then some x else none) = some x := if_pos (by rw [fx.kl x hx, beq_self_eq_true px.line]; rfl)
  have n2 : (if (env.kindOf y == some .local && py.line == px.line) = true then some y else none) = some y := if_pos (by rw [fx.kl y hy, hl, beq_self_eq_true py.line]; rfl)
  have he : ([x, y] : List Str).eraseDups = [x, y] := by
    rw [List.eraseDups_cons, List.filter_cons_of_pos (by rw [hc']; rfl), List.filter_nil, List.eraseDups_cons, List.filter_nil, List.eraseDups_nil]
  obtain ⟨u, h0⟩ : ∃ u, swappedStores [.Tuple [.Name x px, .Name y py] k1 p1] (.Tuple [.Name y q1, .Name x q2] k2 p2) env =
      (if (env.blockKind != .function) = true then pure none else
        (fun names : List Str => if (names.length != 2 || names.eraseDups.length != names.length) = true then pure none else
          if (false && (false && true)) = true then pure none else if ((y == ("__debug__" : Str)) && ((x == ("__debug__" : Str)) && true)) = true then u else pure (some names))
        (List.filterMap id [(if (env.kindOf x == some .local && px.line == px.line) = true then some x else none), (if (env.kindOf y == some .local && py.line == px.line) = true then some y else none)])) := ⟨_, rfl⟩
  rw [h0, hb, n1, n2]
  show (if ((2 : Nat) != 2 || ([x, y] : List Str).eraseDups.length != 2) = true then pure none else if ((y == ("__debug__" : Str)) && ((x == ("__debug__" : Str)) && true)) = true then u else pure (some [x, y])) = pure (some [x, y])
  rw [he, hd2]; rfl

theorem swap_tail {x y : Str} {i j : Nat} (hx : sc.kind x = some .local) (hi : sc.idx x = some i) (hy : sc.kind y = some .local) (hj : sc.idx y = some j) (hxy : x ≠ y) {env : Env} {h₀ : Heap} {X W : List Addr} {ρ : Loc} {m : NM} {oa : OA} {A : Around} {s : Shared} {Q : Flow → Shared → Prop}
    {E : Value → Shared → Prop} {u v : AV} {u' v' : Value} {T : Addr} (fx : Fx env sc) (hh : A.handled = none) (f : Fm prog w Γ env sc h₀ X W ρ m oa s) (ht : IsTup s.heap T #[u', v']) (ru : VR Γ.tokA (gX s.heap (X ++ W)) u u') (rv : VR Γ.tokA (gX s.heap (X ++ W)) v v')
    (h : After prog w Γ env sc h₀ X W s .next ((ρ.set i (.val u)).set j (.val v)) Q) :
    wpAny (model prog w) A (unpackItems (.ref T) 2 none) (fun items s₂ => wpAny (model prog w) A (assignInOrder ([x, y].reverse.map fun n => bindName env n) items.reverse) (fun _ => Q .next) E s₂) E s := by
  have hne : i ≠ j := fun q => hxy (fx.ok.inj x y i hi (q ▸ hj))
  refine PyProof.Rows.unpackItems_tuple (items := #[u', v']) hh ht fun h' he => ?_
  have x₄ := ext_but he
  have e1 : ([x, y].reverse.map fun n => bindName env n) = [bindName env y, bindName env x] := rfl
  have e2 : (#[u', v'] : Array Value).toList.reverse = [v', u'] := rfl
  rw [e1, e2]
  have f4 := f.keeps x₄
  have rv4 := rv.ext x₄
  have ru4 := ru.ext x₄
  have h4 := h.trans x₄.ev
  generalize ({ s with heap := h' } : Shared) = s4 at *
  refine wpAny_assignInOrder_more (PyProof.Rows.bindName_ (store_ f4 fx (.inl hy) hj rv4 fun s₆ m₆ oa₆ f₆ ev₆ => ?_))
  refine wpAny_assignInOrder_more (PyProof.Rows.bindName_ (store_ f₆ fx (.inl hx) hi (ru4.mono (ev₆.subX X)) fun s₇ m₇ oa₇ f₇ ev₇ => wpAny_assignInOrder_none ?_))
  rw [List.set_comm _ _ hne.symm] at f₇
  exact h4 _ _ _ _ _ (ev₆.trans ev₇) f₇ rfl

theorem snd_swap {x y : Str} {px py q1 q2 p1 p2 pos : Pos} {k1 k2 : Nat} {i j : Nat} (hx : sc.kind x = some .local) (hi : sc.idx x = some i) (hy : sc.kind y = some .local) (hj : sc.idx y = some j) (hl : px.line = py.line) (hxy : x ≠ y)
    (hdx : x ≠ "__debug__") (hdy : y ≠ "__debug__") : SndS prog w Γ n C sc (.Assign [.Tuple [.Name x px, .Name y py] k1 p1] (.Tuple [.Name y q1, .Name x q2] k2 p2) pos) (.swap i j) := fun env h₀ X W ρ m oa fl ρ' A s Q E hv fx ao f h => by
  simp only [qS1,qS2,qS3,qS4,qS5,qS6,qS7,qS8,qS9,qS10,qS11,qS12,qS13,qS14,qS15,qS16,qS17,qS18, Option.bind_eq_some_iff, Option.map_eq_some_iff] at hv
  obtain ⟨v, hv, u, hu, e⟩ := hv
  cases e
  have c := f.cx fx ao
  refine PyProof.Rows.Assign_Tuple_swapped (names := [x, y]) ?_ rfl (swapped_ fx hx hy hl hxy hdx hdy)
  refine Tuple_ ?_
  show wpAny _ A (spliced [(false, eval (.Name y q1) env), (false, eval (.Name x q2) env)]) _ E s
  refine spliced_cons (snd_var (C := C) hj (.inl hy) hdy env ρ u A (X ++ W) s _ _ hu c fun s₁ u' x₁ r₁ => ?_)
  refine spliced_cons (snd_var (C := C) hi (.inl hx) hdx env ρ v A (X ++ W) s₁ _ _ hv (c.ext x₁) fun s₂ v' x₂ r₂ => spliced_nil ?_)
  refine wpAny_newTuple ?_ (by simp [sizeLine_eq])
  have hk : ∀ b o, s₂.heap.get? b = some o → (s₂.heap.push { cls := .type "tuple", data := .seq [u', v'].toArray }).get? b = some o := fun b o e => Heap.get?_push_of_some _ e
  have x₃ : Ext s₂ { s₂ with heap := s₂.heap.push { cls := .type "tuple", data := .seq [u', v'].toArray } } := .hp hk
  have ht : IsTup (s₂.heap.push { cls := .type "tuple", data := .seq [u', v'].toArray }) s₂.heap.objs.size [u', v'].toArray := ⟨_, Heap.get?_push_size _ rfl, rfl, 0, rfl⟩
  have x₅ := (x₁.trans x₂).trans x₃
  exact swap_tail hx hi hy hj hxy fx ao.hh (f.keeps x₅) ht (r₁.ext (x₂.trans x₃)) (r₂.ext x₃) (h.trans x₅.ev)
end
end Mine

namespace Mine

section
variable {prog : Program} {w : World} {Γ : Gp} {n : Nat} {C : Nat → List AV → Option AV} {A : Around} {env : Env} {sc : Sc} {h₀ : Heap} {X W : List Addr} {ρ : Loc} {m : NM} {oa : OA} {s s' : Shared}

/-- something made since becomes the frame's own -/
theorem Fm.growW {a : Addr} (f : Fm prog w Γ env sc h₀ X W ρ m oa s) (x : Ext s s') (hf : s.heap.get? a = none) (hl : ∃ o, s'.heap.get? a = some o) : Fm prog w Γ env sc h₀ X (a :: W) ρ m oa s' ∧ Ev W s (a :: W) s' ∧ Sub (gX s.heap (X ++ W)) (gX s'.heap (X ++ (a :: W))) := by
  have hsub : Sub (gX s.heap (X ++ W)) (gX s'.heap (X ++ (a :: W))) := fun b o e => by
    obtain ⟨e1, e2⟩ := gX_get e
    refine gX_of (x.heap b o e1) ?_
    simp only [List.mem_append, List.mem_cons, not_or] at e2 ⊢
    exact ⟨e2.1, fun q => by (rw [q, hf] at e1; cases e1), e2.2⟩
  have ev : Ev W s (a :: W) s' := ⟨fun b o e => by
    obtain ⟨e1, e2⟩ := gX_get e
    refine gX_of (x.heap b o e1) ?_
    simp only [List.mem_cons, not_or]
    exact ⟨fun q => by (rw [q, hf] at e1; cases e1), e2⟩, x.os, x.gens⟩
  refine ⟨?_, ev, hsub⟩
  have f' := f.keeps x
  refine ⟨root_ev f.root ev, ?_, List.mem_cons_of_mem _ f.lin, f'.ns, ?_, ?_, ?_, f.cef, f.cei, ?_, ?_, f.oad, f.hi⟩
  · intro b hb
    rcases List.mem_append.mp hb with hb | hb
    · exact f'.live b (List.mem_append_left _ hb)
    · rcases List.mem_cons.mp hb with rfl | hb
      · exact hl
      · exact f'.live b (List.mem_append_right _ hb)
  · exact fun y i v h1 h2 h3 => let ⟨v', h4, h5⟩ := f.loc y i v h1 h2 h3; ⟨v', h4, h5.mono hsub⟩
  · exact fun y h => let ⟨c, h1, h2⟩ := f.cel y h; ⟨c, h1, fun i v h3 h4 => let ⟨v', h5, h6⟩ := h2 i v h3 h4; ⟨v', h5.keeps x.heap, h6.mono hsub⟩⟩
  · exact fun y c h1 h2 => let ⟨h3, h4, h5, v, h6⟩ := f'.cew y c h1 h2; ⟨List.mem_cons_of_mem _ h3, h4, h5, v, h6⟩
  · exact fun y i sl h1 h2 h3 => let ⟨h4, a, r, h5, h6, h7⟩ := f.own y i sl h1 h2 h3; ⟨h4, a, r, h5, h6, h7.keeps hsub fun b _ o => x.heap b o⟩
  · exact fun i b hb => let ⟨h1, h2, h3⟩ := f.oax i b hb; ⟨List.mem_cons_of_mem _ h1, h2, h3⟩

/-- the lists that a slot owns change -/
theorem Fm.setOwn (f : Fm prog w Γ env sc h₀ X W ρ m oa s) (fx : Fx env sc) {x : Str} {i : Nat} {sl sl' : Slot} {h' : Heap} {tk : Nat} (hi : sc.idx x = some i) (hsl : ρ[i]? = some sl) (ho : sl.owned = true)
    (hk : ∀ b o, b ∉ oa i → s.heap.get? b = some o → h'.get? b = some o) (hl : ∀ b ∈ oa i, ∃ o, h'.get? b = some o) (hr : Sub (gX s.heap (X ++ W)) (gX h' (X ++ W)) → OwnR Γ.tokA h' (gX h' (X ++ W)) sl' (oa i)) (hne : ∀ v, sl' ≠ .val v) :
    Fm prog w Γ env sc h₀ X W (ρ.set i sl') m oa { s with heap := h', toks := tk } ∧ Ev W s W { s with heap := h', toks := tk } := by
  obtain ⟨hkx, a, r, hoa, hma, _⟩ := f.own x i sl hi hsl ho
  have hin : ∀ b ∈ oa i, b ∈ W := fun b hb => (f.oax i b hb).1
  have hsub : Sub (gX s.heap (X ++ W)) (gX h' (X ++ W)) := fun b o e => by
    obtain ⟨e1, e2⟩ := gX_get e
    exact gX_of (hk b o (fun q => e2 (List.mem_append_right _ (hin b q))) e1) e2
  have ev : Ev W s W { s with heap := h', toks := tk } := ⟨fun b o e => by
    obtain ⟨e1, e2⟩ := gX_get e
    exact gX_of (hk b o (fun q => e2 (hin b q)) e1) e2, rfl, .refl _⟩
  refine ⟨?_, ev⟩
  have hnev : ∀ y j, sc.idx y = some j → j ≠ i → y ≠ x := fun y j hj hji e => by subst e; rw [hi] at hj; cases hj; exact hji rfl
  refine ⟨root_ev f.root ev, ?_, f.lin, f.ns.at' fun o e => hk _ o (fun q => (f.oax i _ q).2.2 rfl) e, ?_, ?_, ?_, f.cef, f.cei, ?_, f.oax, f.oad, hi_set f.hi (fx.ok.lt x i hi)⟩
  · intro b hb
    by_cases q : b ∈ oa i
    · exact hl b q
    · obtain ⟨o, e⟩ := f.live b hb; exact ⟨o, hk b o q e⟩
  · intro y j v h1 h2 h3
    rcases set_get h3 with ⟨_, e⟩ | ⟨_, h3⟩
    · exact absurd e.symm (hne v)
    · obtain ⟨v', h4, h5⟩ := f.loc y j v h1 h2 h3; exact ⟨v', h4, h5.mono hsub⟩
  · intro y h
    obtain ⟨c, h1, h2⟩ := f.cel y h
    refine ⟨c, h1, fun j v h3 h4 => ?_⟩
    rcases set_get h4 with ⟨_, e⟩ | ⟨_, h4⟩
    · exact absurd e.symm (hne v)
    · obtain ⟨v', ⟨o, h5, h6⟩, h7⟩ := h2 j v h3 h4
      refine ⟨v', ⟨o, hk c o (fun q => ?_) h5, h6⟩, h7.mono hsub⟩
      rcases h with h | h
      · exact (f.cew y c h h1).2.2.1 i q
      · exact f.cef' h h1 (hin c q)
  · intro y c h1 h2
    obtain ⟨h3, h4, h5, v, o, h6, h7⟩ := f.cew y c h1 h2
    exact ⟨h3, h4, h5, v, o, hk c o (h5 i) h6, h7⟩
  · intro y j sl'' h1 h2 h3
    rcases set_get h2 with ⟨rfl, rfl⟩ | ⟨hji, h2⟩
    · have := fx.ok.inj y x _ h1 hi; subst this
      exact ⟨hkx, a, r, hoa, hma, hr hsub⟩
    · obtain ⟨h4, a', r', h5, h6, h7⟩ := f.own y j sl'' h1 h2 h3
      exact ⟨h4, a', r', h5, h6, h7.keeps hsub fun b hb o => hk b o fun q => hji (f.oad j i b hb q)⟩

/-- a fresh list is stored as a slot's own -/
theorem store_own {E : Value → Shared → Prop} {x : Str} {i : Nat} {sl : Slot} {a : Addr} {s₁ : Shared} {Q : Unit → Shared → Prop} (f : Fm prog w Γ env sc h₀ X W ρ m oa s) (fx : Fx env sc) (hk : sc.kind x = some .local) (hi : sc.idx x = some i)
    (x₁ : Ext s s₁) (hf : s.heap.get? a = none) (hl : ∃ o, s₁.heap.get? a = some o) (ho : sl.owned = true) (hr : Sub (gX s.heap (X ++ W)) (gX s₁.heap (X ++ (a :: W))) → OwnR Γ.tokA s₁.heap (gX s₁.heap (X ++ (a :: W))) sl [a])
    (h : ∀ s' W' m' oa', Ev W s W' s' → Fm prog w Γ env sc h₀ X W' (ρ.set i sl) m' oa' s' → Q () s') : wpAny (model prog w) A (storeName env x (.ref a)) Q E s₁ := by
  obtain ⟨f₁, ev, hsub⟩ := f.growW x₁ hf hl
  have hnot : ∀ o, s.heap.get? a ≠ some o := fun o e => by rw [hf] at e; cases e
  have haW : a ∉ W := fun q => by obtain ⟨o, e⟩ := f.live a (List.mem_append_right _ q); exact hnot o e
  have haX : a ∉ X := fun q => by obtain ⟨o, e⟩ := f.live a (List.mem_append_left _ q); exact hnot o e
  refine wpAny_storeName_local (fx.kl x hk) f₁.ns (fun h' hn hs => ?_) (by simp [fx.kind])
  refine h _ _ _ _ (ev.trans (.of_same (tk := s₁.toks + 1) f₁.lin hs)) (f₁.putLocal fx (as := [a]) hk hi hn hs (fun v e => by subst e; cases ho) (fun _ => ⟨a, [], rfl, rfl, hr hsub⟩) (fun b hb => ?_) (fun y c h1 h2 q => ?_) fun j b _ hb q => ?_)
  · simp at hb; subst hb
    exact ⟨List.mem_cons_self .., haX, fun q => haW (q ▸ f.lin)⟩
  · simp at q; subst q
    exact haW (f.cew y c h1 h2).1
  · simp at hb; subst hb
    exact haW (f.oax j b q).1

theorem snd_asgOwn {x : Str} {px pos lp : Pos} {es : List Expr} {ps : PEs} {i : Nat} {b : Bool} {f : Expr → Option PE} (hs : ∀ e p, f e = some p → SndE prog w Γ n C sc e p) (hst : ∀ e p, f e = some p → ∀ v q, e ≠ .Starred v q) (hm : mapEs f es = some ps)
    (hk : sc.kind x = some .local) (hi : sc.idx x = some i) : SndS prog w Γ n C sc (.Assign [.Name x px] (.List es lp) pos) (.asgOwn i b (.list ps)) := fun env h₀ X W ρ m oa fl ρ' A s Q E hv fx ao fm h => by
  simp only [qS1,qS2,qS3,qS4,qS5,qS6,qS7,qS8,qS9,qS10,qS11,qS12,qS13,qS14,qS15,qS16,qS17,qS18, qE1, qE2, qE3, qE4, qE5, qE6, qE7, qE8, qE9, qE10, qE11, qE0, qE12, qE13, qE14, qE15, qE16, qE17, qE18, qE19, qE20, Option.bind_eq_some_iff] at hv
  obtain ⟨v, ⟨vs, hvs, hz⟩, hv⟩ := hv
  split at hz
  · rename_i hlen
    cases hz
    simp only [Option.some.injEq, Prod.mk.injEq] at hv
    obtain ⟨rfl, rfl⟩ := hv
    refine wpAny_Assign_Name (List_ (args_ hs hst hm hvs (fm.cx fx ao) fun s₁ us x₁ r₁ => wpAny_newList ?_ (by rw [r₁.length]; exact hlen)))
    have hkk : ∀ b o, s₁.heap.get? b = some o → (s₁.heap.push { cls := .type "list", data := .seq us.toArray }).get? b = some o := fun b o e => Heap.get?_push_of_some _ e
    have hpl : (s₁.heap.push { cls := .type "list", data := .seq us.toArray }).PlainList s₁.heap.objs.size us.toArray := ⟨_, Heap.get?_push_size _ rfl⟩
    refine store_own (fm.keeps x₁) fx hk hi (.hp hkk) (fresh_none _ (Nat.le_refl _)) ⟨_, Heap.get?_push_size _ rfl⟩ (sl := if b then .ownS vs else .own vs) (by cases b <;> rfl) (fun hsub => ?_) fun s' W' m' oa' ev f' => h _ _ _ _ _ (x₁.ev.trans ev) f' rfl
    cases b with
    | true => exact ⟨_, us.toArray, rfl, hpl.isList, by simpa using r₁.mono hsub, hlen⟩
    | false => exact ⟨_, us.toArray, rfl, hpl, by simpa using r₁.mono hsub, hlen⟩
  · cases hz

theorem biV_range {vs : List AV} {z : AV} (h : biV .rangeL vs = some z) : ∃ a b c, vs = [.int a, .int b, .int c] ∧ (Builtin.Range.small a b c = true ∧ c ≠ 0 ∧ Builtin.divisionGoesByPylong (b - a) c = false ∧ Builtin.Range.rangeSize a b c ≤ 2 ^ 24) ∧ z = .list (rangeL a (Builtin.Range.rangeSize a b c) c) := by
  obtain ⟨x, y, w, rfl, h⟩ := l3_inv h
  obtain ⟨a, b, c, rfl, rfl, rfl, h⟩ := i3_inv h
  obtain ⟨hc, rfl⟩ := if_some h
  exact ⟨_, _, _, rfl, hc, rfl⟩

theorem snd_asgRange {x f g : Str} {px pos fp gp cp rp : Pos} {a b c : Expr} {ps : PEs} {i : Nat} {k : Expr → Option PE} (hs : ∀ e p, k e = some p → SndE prog w Γ n C sc e p) (hst : ∀ e p, k e = some p → ∀ v q, e ≠ .Starred v q) (hm : mapEs k [a, b, c] = some ps)
    (hf : isGlob sc f = true) (hg : isGlob sc g = true) (ef : f = "list") (eg : g = "range") (hk : sc.kind x = some .local) (hi : sc.idx x = some i) :
    SndS prog w Γ n C sc (.Assign [.Name x px] (.Call (.Name f fp) [.Call (.Name g gp) [a, b, c] [] rp] [] cp) pos) (.asgOwn i true (.bi .rangeL ps)) := fun env h₀ X W ρ m oa fl ρ' A s Q E hv fx ao fm h => by
  simp only [qS1,qS2,qS3,qS4,qS5,qS6,qS7,qS8,qS9,qS10,qS11,qS12,qS13,qS14,qS15,qS16,qS17,qS18, qE1, qE2, qE3, qE4, qE5, qE6, qE7, qE8, qE9, qE10, qE11, qE0, qE12, qE13, qE14, qE15, qE16, qE17, qE18, qE19, qE20, Option.bind_eq_some_iff] at hv
  obtain ⟨v, ⟨vs, hvs, hz⟩, hv⟩ := hv
  subst ef eg
  have cx := fm.cx fx ao
  refine wpAny_Assign_Name (Call_Name rfl (glob_builtin (fv := .type "list") cx hf (by simp [bnames]) ?_))
  refine callWith_type1 ?_ rfl rfl
  show wpAny _ A (spliced [(false, eval (.Call (.Name (Str.ofString "range") gp) [a, b, c] [] rp) env)]) _ E s
  refine spliced_cons (Call_Name rfl (glob_builtin (fv := .type "range") cx hg (by simp [bnames]) ?_))
  have hany : (backTo rp (starEach [b, c] env)).any (·.1) = false := by
    have hm' := hm
    simp only [qMap, qMap0, Option.bind_eq_some_iff, Option.map_eq_some_iff] at hm'
    obtain ⟨_, _, q, ⟨p1, h1, q1, ⟨p2, h2, q2, _, _⟩, _⟩, _⟩ := hm'
    exact any_star (f := k) hst (ps := .cons p1 (.cons p2 .nil)) (by simp [qMap, qMap0, h1, h2])
  obtain ⟨pa, hpa⟩ : ∃ p, k a = some p := by
    simp only [qMap, qMap0, Option.bind_eq_some_iff] at hm
    obtain ⟨p, hp, _⟩ := hm; exact ⟨p, hp⟩
  refine callWith_type1 ?_ (star_not (hst _ _ hpa)) hany
  refine args_ hs hst hm hvs cx fun s₁ us x₁ r₁ => ?_
  obtain ⟨ka, kb, kc, rfl, ⟨h1, h2, h3, h4⟩, rfl⟩ := biV_range hz
  obtain ⟨_, _, _, rfl, ⟨ta, rfl⟩, ⟨tb, rfl⟩, ⟨tc, rfl⟩⟩ := r₁.three
  simp only [Option.some.injEq, Prod.mk.injEq, if_true] at hv
  obtain ⟨rfl, rfl⟩ := hv
  refine call_range_3 h2 (spliced_nil ?_) (.inl h3)
  obtain ⟨s₂, es⟩ : ∃ s₂ : Shared, s₂ = { s₁ with heap := s₁.heap.push { cls := .type "range", data := .fields #[.int ka ta, .int kb tb, .int kc tc] }, toks := s₁.toks } := ⟨_, rfl⟩
  rw [← es]
  have x₂ : Ext s₁ s₂ := by rw [es]; exact .push _
  have hr : IsRange s₂.heap s₁.heap.objs.size ka kb kc ta tb tc := by rw [es]; exact Heap.get?_push_size _ rfl
  obtain ⟨k, hkn⟩ : ∃ k : Nat, Builtin.Range.rangeSize ka kb kc = k := by
    refine ⟨(Builtin.Range.rangeSize ka kb kc).toNat, ?_⟩
    have : 0 ≤ Builtin.Range.rangeSize ka kb kc := by
      unfold Builtin.Range.rangeSize
      split
      · split
        · have := Int.ediv_nonneg (a := kb - ka - 1) (b := kc) (by (first | lia | omega)) (by (first | lia | omega)); (first | lia | omega)
        · (first | lia | omega)
      · split
        · have := Int.ediv_nonneg (a := ka - kb - 1) (b := -kc) (by (first | lia | omega)) (by (first | lia | omega)); (first | lia | omega)
        · (first | lia | omega)
    (first | lia | omega)
  have f₂ := (fm.keeps x₁).keeps x₂
  refine call_list_range ao.hh hr h1 hkn (by rw [hkn] at h4; exact_mod_cast h4) fun h' tk acc' c' hkp ho hit => ?_
  have hlen : (rangeL ka (Builtin.Range.rangeSize ka kb kc) kc).length ≤ sizeLine := by
    simp only [rangeL, List.length_map, List.length_range, sizeLine_eq]
    (first | lia | omega)
  rw [hkn] at hlen
  exact store_own f₂ fx hk hi (.mk' hkp) (fresh_none _ (Nat.le_refl _)) ⟨_, ho⟩ (sl := .ownS (rangeL ka (k : Int) kc)) rfl (fun _ => ⟨_, acc', rfl, ⟨_, ho, rfl, _, rfl⟩, itemsOf_range hit, hlen⟩)
    fun s' W' m' oa' ev f' => h _ _ _ _ _ ((x₁.trans x₂).ev.trans ev) (by rw [hkn]; exact f') rfl
end
end Mine

namespace Mine

section
variable {prog : Program} {w : World} {Γ : Gp} {n : Nat} {C : Nat → List AV → Option AV} {A : Around} {env : Env} {sc : Sc} {h₀ : Heap} {X W : List Addr} {ρ : Loc} {m : NM} {oa : OA} {s s' : Shared}

theorem not_interactive (fx : Fx env sc) : interactive env = false := by
  unfold interactive
  rw [fx.kind]; rfl

theorem VRs.size {tokA : Addr} {g : Look} {xs : List AV} {vs : Array Value} (h : VRs tokA g xs vs.toList) : vs.size = xs.length := by
  rw [← h.length]; simp

set_option tactic.hygienic true in
theorem snd_append {x mn : Str} {xp ap cp pos : Pos} {e : Expr} {p : PE} {i : Nat} (he : SndE prog w Γ n C sc e p) (hns : ∀ v q, e ≠ .Starred v q) (hm : mn = "append") (hl : ap.endLine = cp.line) (hi : sc.idx x = some i) (hdb : (x == ("__debug__" : Str)) = false) :
    SndS prog w Γ n C sc (.Expr (.Call (.Attribute (.Name x xp) mn ap) [e] [] cp) pos) (.append i p) := fun env h₀ X W ρ m oa fl ρ' A s Q E hv fx ao fm h => by
  subst hm
  simp only [qS1,qS2,qS3,qS4,qS5,qS6,qS7,qS8,qS9,qS10,qS11,qS12,qS13,qS14,qS15,qS16,qS17,qS18] at hv
  obtain ⟨W₁, oa₁, f₁, hW⟩ := fm.freeze fx (reads p)
  generalize Mine.freeze ρ (reads p) = ρ₁ at *
  split at hv
  · rename_i xs hsl
    simp only [Option.bind_eq_some_iff] at hv
    obtain ⟨v, hv, hv2⟩ := hv
    split at hv2
    · rename_i hlt
      cases hv2
      obtain ⟨hk, a, r, hoa, hma, hr⟩ := f₁.own x i _ hi hsl rfl
      obtain ⟨a', vs, e1, hpl, hvs, hz⟩ := hr
      rw [hoa] at e1; cases e1
      refine wpAny_Expr ?_ (not_interactive fx) rfl
      refine Call_method1 rfl (star_not hns) (by simpa using hl) (loads_ fx.kind (.inl ⟨fx.kl x hk, m, f₁.ns, hma⟩) ?_ hdb)
      refine ⟨"list", _, PySem.F.plainAttrs_list, slot_list_append, type_list_append, hpl.isList.typeIs, fun b hb => ?_, callWith_builtin rfl (evalArgs_plain (spliced_cons (he env ρ₁ v A (X ++ W₁) s _ _ hv (f₁.cx fx ao) fun s₁ v' x₁ r₁ => spliced_nil ?_)))⟩
      · cases hb; obtain ⟨k, e⟩ := hpl; exact ⟨_, e, rfl⟩
      · have hvs' := hvs.mono (gX_sub x₁.heap)
        refine wpAny_list_append_plain (hsz := by rw [hvs.size]; exact Nat.le_of_lt hlt) (hpl.at (x₁.heap _)) fun h' hpl' hs' => ?_
        have f₂ := f₁.keeps x₁
        obtain ⟨f₃, ev₃⟩ := f₂.setOwn (sl' := .own (xs ++ [v])) (tk := s₁.toks) fx hi hsl rfl (fun b o hb e => hs'.extBut b o (fun q => hb (by rw [hoa, q]; simp)) e) (fun b hb => by rw [hoa] at hb; simp at hb; subst hb; obtain ⟨k, e⟩ := hpl'; exact ⟨_, e⟩)
          (fun hsub => ⟨a, vs.push v', hoa, hpl', by rw [Array.toList_push]; exact (hvs'.mono hsub).append ⟨r₁.mono hsub, trivial⟩, by simp; (first | lia | omega)⟩) nofun
        exact h _ _ _ _ _ ((Ev.less hW).trans (x₁.ev.trans ev₃)) f₃ rfl
    · cases hv2
  · cases hv

theorem snd_asgOwn2 {x : Str} {px lp lp2 pos : Pos} {i : Nat} (hk : sc.kind x = some .local) (hi : sc.idx x = some i) : SndS prog w Γ n C sc (.Assign [.Name x px] (.List [.List [] lp2] lp) pos) (.asgOwn2 i) := fun env h₀ X W ρ m oa fl ρ' A s Q E hv fx ao fm h => by
  simp only [qS1,qS2,qS3,qS4,qS5,qS6,qS7,qS8,qS9,qS10,qS11,qS12,qS13,qS14,qS15,qS16,qS17,qS18, Option.some.injEq, Prod.mk.injEq] at hv
  obtain ⟨rfl, rfl⟩ := hv
  refine wpAny_Assign_Name (List_ ?_)
  show wpAny _ A (spliced [(false, eval (.List [] lp2) env)]) _ E s
  refine spliced_cons (List_ (spliced_nil (wpAny_newList ?_ (by simp))))
  obtain ⟨s₁, es⟩ : ∃ s₁ : Shared, s₁ = { s with heap := s.heap.push { cls := .type "list", data := .seq ([] : List Value).toArray } } := ⟨_, rfl⟩
  rw [← es]
  have x₁ : Ext s s₁ := by rw [es]; exact .hp fun b o e => Heap.get?_push_of_some _ e
  have hpb : s₁.heap.PlainList s.heap.objs.size #[] := by rw [es]; exact ⟨_, Heap.get?_push_size _ rfl⟩
  have hb : s.heap.get? s.heap.objs.size = none := fresh_none _ (Nat.le_refl _)
  generalize s.heap.objs.size = b at *
  refine spliced_nil (wpAny_newList ?_ (by simp [sizeLine_eq]))
  obtain ⟨s₂, es2⟩ : ∃ s₂ : Shared, s₂ = { s₁ with heap := s₁.heap.push { cls := .type "list", data := .seq [Value.ref b].toArray } } := ⟨_, rfl⟩
  rw [← es2]
  have x₂ : Ext s₁ s₂ := by rw [es2]; exact .hp fun b o e => Heap.get?_push_of_some _ e
  have hpa : s₂.heap.PlainList s₁.heap.objs.size #[.ref b] := by rw [es2]; exact ⟨_, Heap.get?_push_size _ rfl⟩
  have ha : s₁.heap.get? s₁.heap.objs.size = none := fresh_none _ (Nat.le_refl _)
  generalize s₁.heap.objs.size = a at *
  have hpb2 := hpb.at (x₂.heap b)
  obtain ⟨f₁, ev₁, _⟩ := fm.growW (a := b) x₁ hb (by obtain ⟨k, e⟩ := hpb; exact ⟨_, e⟩)
  obtain ⟨f₂, ev₂, hsub₂⟩ := f₁.growW (a := a) x₂ ha (by obtain ⟨k, e⟩ := hpa; exact ⟨_, e⟩)
  have hnot : ∀ o, s.heap.get? b ≠ some o := fun o e => by rw [hb] at e; cases e
  have hnot1 : ∀ o, s₁.heap.get? a ≠ some o := fun o e => by rw [ha] at e; cases e
  have hbW : b ∉ W := fun q => by obtain ⟨o, e⟩ := fm.live b (List.mem_append_right _ q); exact hnot o e
  have hbX : b ∉ X := fun q => by obtain ⟨o, e⟩ := fm.live b (List.mem_append_left _ q); exact hnot o e
  have haW : a ∉ b :: W := fun q => by obtain ⟨o, e⟩ := f₁.live a (List.mem_append_right _ q); exact hnot1 o e
  have haX : a ∉ X := fun q => by obtain ⟨o, e⟩ := f₁.live a (List.mem_append_left _ q); exact hnot1 o e
  rw [List.mem_cons, not_or] at haW
  refine wpAny_storeName_local (fx.kl x hk) f₂.ns (fun h' hn hs => ?_) (by simp [fx.kind])
  have haL : a ≠ env.locals := fun q => haW.2 (q ▸ fm.lin)
  have hbL : b ≠ env.locals := fun q => hbW (q ▸ fm.lin)
  have key := f₂.putLocal (tk := s₂.toks + 1) fx (sl := .own2 [] []) (v' := .ref a) (as := [a, b]) hk hi hn hs (fun v e => by cases e) (fun _ => ⟨a, [b], rfl, rfl, a, b, #[], #[], rfl, haW.1, hpa, hpb2, trivial, trivial, by simp [sizeLine_eq], by simp⟩)
    (fun c hc => by
      simp only [List.mem_cons, List.not_mem_nil, or_false] at hc
      rcases hc with rfl | rfl
      · exact ⟨List.mem_cons_self .., haX, haL⟩
      · exact ⟨List.mem_cons_of_mem _ (List.mem_cons_self ..), hbX, hbL⟩)
    (fun y c h1 h2 q => by
      have := (fm.cew y c h1 h2).1
      simp only [List.mem_cons, List.not_mem_nil, or_false] at q
      rcases q with rfl | rfl
      · exact haW.2 this
      · exact hbW this)
    (fun j c _ hc q => by
      have := (fm.oax j c q).1
      simp only [List.mem_cons, List.not_mem_nil, or_false] at hc
      rcases hc with rfl | rfl
      · exact haW.2 this
      · exact hbW this)
  exact h _ _ _ _ _ ((ev₁.trans ev₂).trans (.of_same (tk := s₂.toks + 1) f₂.lin hs)) key rfl

set_option tactic.hygienic true in
theorem snd_appendLast {x mn : Str} {xp ap cp pos up kp np : Pos} {kk : _} {e : Expr} {p : PE} {i : Nat} (he : SndE prog w Γ n C sc e p) (hns : ∀ v q, e ≠ .Starred v q) (hm : mn = "append") (hl : ap.endLine = cp.line) (hi : sc.idx x = some i) (hdb : (x == ("__debug__" : Str)) = false) :
    SndS prog w Γ n C sc (.Expr (.Call (.Attribute (.Subscript (.Name x xp) (.UnaryOp .USub (.Constant (.int 1) kk kp) up) np) mn ap) [e] [] cp) pos) (.appendLast i p) := fun env h₀ X W ρ m oa fl ρ' A s Q E hv fx ao fm h => by
  subst hm
  simp only [qS1,qS2,qS3,qS4,qS5,qS6,qS7,qS8,qS9,qS10,qS11,qS12,qS13,qS14,qS15,qS16,qS17,qS18] at hv
  split at hv
  · rename_i xs ys hsl
    simp only [Option.bind_eq_some_iff] at hv
    obtain ⟨v, hv, hv2⟩ := hv
    split at hv2
    · rename_i hlt
      cases hv2
      obtain ⟨hk, a, r, hoa, hma, hr⟩ := fm.own x i _ hi hsl rfl
      obtain ⟨a', b, us, vs, e1, hab, hpa, hpb, hus, hvs, hz, hz2⟩ := hr
      have e0 := e1
      rw [hoa] at e1; cases e1
      refine wpAny_Expr ?_ (not_interactive fx) rfl
      refine Call_method1 rfl (star_not hns) (by simpa using hl) ?_
      refine Subscript_ (loads_ fx.kind (.inl ⟨fx.kl x hk, m, fm.ns, hma⟩) ?_ hdb)
      refine UnaryOp_ (wpAny_Constant_int (PySem.P.neg_int ?_))
      obtain ⟨ops, hss⟩ := subscripted_any (.UnaryOp .USub (.Constant (.int 1) kk kp) up) (.ref a) (.int (-1) (s.toks + 1))
      have x₁ : Ext s { s with toks := s.toks + 1 + 1 } := .tk
      have hul : us.size = xs.length := hus.size
      have hidx : (us.push (.ref b))[((-1 : Int) + (us.push (Value.ref b)).size).toNat]? = some (.ref b) := by
        rw [Array.size_push, show ((-1 : Int) + ((us.size + 1 : Nat) : Int)).toNat = us.size by (first | lia | omega)]
        simp
      refine tail_any (T := "list") ?_ slot_list_getitem.lookup (wpAny_getItem_list_neg (hpa.isList) (by (first | lia | omega)) (by simp; (first | lia | omega)) (by (first | lia | omega)) hidx ?_) hss
      · exact hpa.isList.typeIs
      refine ⟨"list", _, PySem.F.plainAttrs_list, slot_list_append, type_list_append, hpb.isList.typeIs, fun c hc => ?_, callWith_builtin rfl (evalArgs_plain (spliced_cons (he env ρ v A (X ++ W) _ _ _ hv ((fm.keeps x₁).cx fx ao) fun s₁ v' x₂ r₁ => spliced_nil ?_)))⟩
      · cases hc; obtain ⟨k, e⟩ := hpb; exact ⟨_, e, rfl⟩
      · have hvs' := hvs.mono (gX_sub x₂.heap)
        have hus' := hus.mono (gX_sub x₂.heap)
        refine wpAny_list_append_plain (hsz := by rw [hvs.size]; exact Nat.le_of_lt hlt) (hpb.at (x₂.heap _)) fun h' hpl' hs' => ?_
        have f₂ := (fm.keeps x₁).keeps x₂
        have hpa' : h'.PlainList a (us.push (.ref b)) := (hpa.at (x₂.heap _)).extBut hs'.extBut hab
        obtain ⟨f₃, ev₃⟩ := f₂.setOwn (sl' := .own2 xs (ys ++ [v])) (tk := s₁.toks) fx hi hsl rfl (fun c o hc e => hs'.extBut c o (fun q => hc (by rw [e0, q]; simp)) e)
          (fun c hc => by
            rw [e0] at hc
            simp only [List.mem_cons, List.not_mem_nil, or_false] at hc
            rcases hc with rfl | rfl
            · obtain ⟨k, e⟩ := hpa'; exact ⟨_, e⟩
            · obtain ⟨k, e⟩ := hpl'; exact ⟨_, e⟩)
          (fun hsub => ⟨a, b, us, vs.push v', e0, hab, hpa', hpl', hus'.mono hsub, by rw [Array.toList_push]; exact (hvs'.mono hsub).append ⟨r₁.mono hsub, trivial⟩, hz, by simp; (first | lia | omega)⟩) nofun
        exact h _ _ _ _ _ ((x₁.trans x₂).ev.trans ev₃) f₃ rfl
    · cases hv2
  · cases hv
end
end Mine

namespace Mine

section
variable {prog : Program} {w : World} {Γ : Gp} {n : Nat} {C : Nat → List AV → Option AV} {A : Around} {env : Env} {sc : Sc} {h₀ : Heap} {X W : List Addr} {ρ : Loc} {m : NM} {oa : OA} {s s' : Shared}

/-- a new last list: the old one is seen from now on -/
theorem Fm.newLast (f : Fm prog w Γ env sc h₀ X W ρ m oa s) (fx : Fx env sc) {x : Str} {i : Nat} {xs ys : List AV} {a b b2 : Addr} {us vs : Array Value} {h' : Heap} {tk : Nat} (hi : sc.idx x = some i) (hsl : ρ[i]? = some (.own2 xs ys)) (hoa : oa i = [a, b]) (hma : m x = some (.ref a)) (hkx : sc.kind x = some .local)
    (hab : a ≠ b) (hpb : s.heap.PlainList b vs) (hus : VRs Γ.tokA (gX s.heap (X ++ W)) xs us.toList) (hvs : VRs Γ.tokA (gX s.heap (X ++ W)) ys vs.toList) (hlen : xs.length + 1 < sizeLine) (hylen : ys.length ≤ sizeLine) (hb2 : s.heap.get? b2 = none)
    (hk : ∀ c o, c ≠ a → s.heap.get? c = some o → h'.get? c = some o) (hpa' : h'.PlainList a ((us.push (.ref b)).push (.ref b2))) (hpb2 : h'.PlainList b2 #[]) :
    Fm prog w Γ env sc h₀ X ((b2 :: W).filter (fun c => c != b)) (ρ.set i (.own2 (xs ++ [.list ys]) [])) m (oa.set i [a, b2]) { s with heap := h', toks := tk } ∧ Ev W s ((b2 :: W).filter (fun c => c != b)) { s with heap := h', toks := tk } := by
  have hin : ∀ c ∈ oa i, c ∈ W := fun c hc => (f.oax i c hc).1
  have haW : a ∈ W := hin a (by rw [hoa]; simp)
  have hbW : b ∈ W := hin b (by rw [hoa]; simp)
  have hbX : b ∉ X := (f.oax i b (by rw [hoa]; simp)).2.1
  have haX : a ∉ X := (f.oax i a (by rw [hoa]; simp)).2.1
  have hbL : b ≠ env.locals := (f.oax i b (by rw [hoa]; simp)).2.2
  have haL : a ≠ env.locals := (f.oax i a (by rw [hoa]; simp)).2.2
  have hnot : ∀ o, s.heap.get? b2 ≠ some o := fun o e => by rw [hb2] at e; cases e
  have hb2W : b2 ∉ W := fun q => by obtain ⟨o, e⟩ := f.live b2 (List.mem_append_right _ q); exact hnot o e
  have hb2X : b2 ∉ X := fun q => by obtain ⟨o, e⟩ := f.live b2 (List.mem_append_left _ q); exact hnot o e
  have hb2b : b2 ≠ b := fun q => hb2W (q ▸ hbW)
  have hW' : ∀ c, c ∈ (b2 :: W).filter (fun c => c != b) ↔ (c = b2 ∨ c ∈ W) ∧ c ≠ b := fun c => by simp
  have hsub0 : Sub (gX s.heap W) (gX h' ((b2 :: W).filter fun c => c != b)) := fun c o e => by
    obtain ⟨e1, e2⟩ := gX_get e
    refine gX_of (hk c o (fun q => e2 (q ▸ haW)) e1) fun q => ?_
    rcases (hW' c).mp q with ⟨rfl | q, _⟩
    · exact hnot o e1
    · exact e2 q
  have ev : Ev W s ((b2 :: W).filter (fun c => c != b)) { s with heap := h', toks := tk } := ⟨hsub0, rfl, .refl _⟩
  have hsub := ev.subX X
  have hvis : ∀ o, h'.get? b = some o → gX h' (X ++ (b2 :: W).filter fun c => c != b) b = some o := fun o e => gX_of e (by
    rw [List.mem_append, not_or]
    exact ⟨hbX, fun q => ((hW' b).mp q).2 rfl⟩)
  have hnev : ∀ y j, sc.idx y = some j → j ≠ i → y ≠ x := fun y j hj hji e => by subst e; rw [hi] at hj; cases hj; exact hji rfl
  have hpb' : h'.PlainList b vs := hpb.at fun o e => hk b o hab.symm e
  refine ⟨?_, ev⟩
  refine ⟨root_ev f.root ev, ?_, (hW' _).mpr ⟨.inr f.lin, Ne.symm hbL⟩, f.ns.at' fun o e => hk _ o (Ne.symm haL) e, ?_, ?_, ?_, f.cef, f.cei, ?_, ?_, ?_, hi_set f.hi (fx.ok.lt x i hi)⟩
  · intro c hc
    have main : c ∈ X ∨ c ∈ W → ∃ o, h'.get? c = some o := fun hc => by
      by_cases q : c = a
      · subst q; obtain ⟨k, e⟩ := hpa'; exact ⟨_, e⟩
      · obtain ⟨o, e⟩ := f.live c (List.mem_append.mpr hc); exact ⟨o, hk c o q e⟩
    rcases List.mem_append.mp hc with hc | hc
    · exact main (.inl hc)
    · rcases ((hW' c).mp hc).1 with rfl | hc
      · obtain ⟨k, e⟩ := hpb2; exact ⟨_, e⟩
      · exact main (.inr hc)
  · intro y j v h1 h2 h3
    rcases set_get h3 with ⟨_, e⟩ | ⟨_, h3⟩
    · cases e
    · obtain ⟨v', h4, h5⟩ := f.loc y j v h1 h2 h3; exact ⟨v', h4, h5.mono hsub⟩
  · intro y h
    obtain ⟨c, h1, h2⟩ := f.cel y h
    refine ⟨c, h1, fun j v h3 h4 => ?_⟩
    rcases set_get h4 with ⟨_, e⟩ | ⟨_, h4⟩
    · cases e
    · obtain ⟨v', ⟨o, h5, h6⟩, h7⟩ := h2 j v h3 h4
      refine ⟨v', ⟨o, hk c o (fun q => ?_) h5, h6⟩, h7.mono hsub⟩
      rcases h with h | h
      · exact (f.cew y c h h1).2.2.1 i (by rw [hoa, q]; simp)
      · exact f.cef' h h1 (q ▸ haW)
  · intro y c h1 h2
    obtain ⟨h3, h4, h5, v, o, h6, h7⟩ := f.cew y c h1 h2
    have hca : c ≠ a := fun q => h5 i (by rw [hoa, q]; simp)
    have hcb : c ≠ b := fun q => h5 i (by rw [hoa, q]; simp)
    refine ⟨(hW' c).mpr ⟨.inr h3, hcb⟩, h4, fun j hj => ?_, v, o, hk c o hca h6, h7⟩
    rcases OA.set_mem hj with ⟨_, hq⟩ | ⟨_, hq⟩
    · simp only [List.mem_cons, List.not_mem_nil, or_false] at hq
      rcases hq with q | q
      · exact hca q
      · exact hb2W (q ▸ h3)
    · exact h5 j hq
  · intro y j sl'' h1 h2 h3
    rcases set_get h2 with ⟨rfl, rfl⟩ | ⟨hji, h2⟩
    · have := fx.ok.inj y x _ h1 hi; subst this
      have e4 : oa.set j [a, b2] j = [a, b2] := by simp [OA.set]
      refine ⟨hkx, a, [b2], e4, hma, ?_⟩
      rw [e4]
      obtain ⟨kb, eb⟩ := hpb'
      refine ⟨a, b2, us.push (.ref b), #[], rfl, fun q => hb2W (q ▸ haW), hpa', hpb2, ?_, trivial, by simp; (first | lia | omega), by simp⟩
      rw [Array.toList_push]
      exact (hus.mono hsub).append ⟨⟨b, _, vs, kb, rfl, hvis _ eb, rfl, rfl, hvs.mono hsub, hylen⟩, trivial⟩
    · obtain ⟨h4, a', r', h5, h6, h7⟩ := f.own y j sl'' h1 h2 h3
      have e4 : oa.set i [a, b2] j = oa j := by simp [OA.set, hji]
      refine ⟨h4, a', r', by rw [e4, h5], h6, ?_⟩
      rw [e4]
      exact h7.keeps hsub fun c hc o => hk c o fun q => hji (f.oad j i c hc (by rw [hoa, q]; simp))
  · intro j c hj
    rcases OA.set_mem hj with ⟨_, hq⟩ | ⟨hji, hq⟩
    · simp only [List.mem_cons, List.not_mem_nil, or_false] at hq
      rcases hq with rfl | rfl
      · exact ⟨(hW' _).mpr ⟨.inr haW, hab⟩, haX, haL⟩
      · exact ⟨(hW' _).mpr ⟨.inl rfl, hb2b⟩, hb2X, fun q => hb2W (q ▸ f.lin)⟩
    · obtain ⟨h1, h2, h3⟩ := f.oax j c hq
      exact ⟨(hW' c).mpr ⟨.inr h1, fun q => hji (f.oad j i c hq (by rw [hoa, q]; simp))⟩, h2, h3⟩
  · intro j k c hj hk'
    rcases OA.set_mem hj with ⟨e1, hp⟩ | ⟨hji, hp⟩ <;> rcases OA.set_mem hk' with ⟨e2, hq⟩ | ⟨hki, hq⟩
    · rw [e1, e2]
    · exfalso
      simp only [List.mem_cons, List.not_mem_nil, or_false] at hp
      rcases hp with rfl | rfl
      · exact hki (f.oad k i _ hq (by rw [hoa]; simp))
      · exact hb2W (f.oax k _ hq).1
    · exfalso
      simp only [List.mem_cons, List.not_mem_nil, or_false] at hq
      rcases hq with rfl | rfl
      · exact hji (f.oad j i _ hp (by rw [hoa]; simp))
      · exact hb2W (f.oax j _ hp).1
    · exact f.oad j k c hp hq

set_option tactic.hygienic true in
theorem snd_appendNew {x mn : Str} {xp ap cp pos lp : Pos} {i : Nat} (hm : mn = "append") (hl : ap.endLine = cp.line) (hi : sc.idx x = some i) (hdb : (x == ("__debug__" : Str)) = false) :
    SndS prog w Γ n C sc (.Expr (.Call (.Attribute (.Name x xp) mn ap) [.List [] lp] [] cp) pos) (.appendNew i) := fun env h₀ X W ρ m oa fl ρ' A s Q E hv fx ao fm h => by
  subst hm
  simp only [qS1,qS2,qS3,qS4,qS5,qS6,qS7,qS8,qS9,qS10,qS11,qS12,qS13,qS14,qS15,qS16,qS17,qS18] at hv
  split at hv
  · rename_i xs ys hsl
    split at hv
    · rename_i hlt
      cases hv
      obtain ⟨hk, a, r, hoa, hma, hr⟩ := fm.own x i _ hi hsl rfl
      obtain ⟨a', b, us, vs, e1, hab, hpa, hpb, hus, hvs, hz, hz2⟩ := hr
      have e0 := e1
      rw [hoa] at e1; cases e1
      refine wpAny_Expr ?_ (not_interactive fx) rfl
      refine Call_method1 rfl rfl (by simpa using hl) (loads_ fx.kind (.inl ⟨fx.kl x hk, m, fm.ns, hma⟩) ?_ hdb)
      refine ⟨"list", _, PySem.F.plainAttrs_list, slot_list_append, type_list_append, hpa.isList.typeIs, fun c hc => ?_, callWith_builtin rfl (evalArgs_plain (spliced_cons (List_ (spliced_nil (wpAny_newList (spliced_nil ?_) (by simp))))))⟩
      · cases hc; obtain ⟨k, e⟩ := hpa; exact ⟨_, e, rfl⟩
      · have hkk : ∀ c o, s.heap.get? c = some o → (s.heap.push { cls := .type "list", data := .seq ([] : List Value).toArray }).get? c = some o := fun c o e => Heap.get?_push_of_some _ e
        have hpb2 : (s.heap.push { cls := .type "list", data := .seq ([] : List Value).toArray }).PlainList s.heap.objs.size #[] := ⟨_, Heap.get?_push_size _ rfl⟩
        have hb2 : s.heap.get? s.heap.objs.size = none := fresh_none _ (Nat.le_refl _)
        refine wpAny_list_append_plain (hsz := by simp [hus.size]; omega) (hpa.at (hkk _)) fun h' hpl' hs' => ?_
        have hab2 : s.heap.objs.size ≠ a := fun q => by obtain ⟨k, e⟩ := hpa; rw [← q, hb2] at e; cases e
        obtain ⟨f₃, ev₃⟩ := fm.newLast (tk := s.toks) fx hi hsl e0 hma hk hab hpb hus hvs hlt hz2 hb2 (fun c o hc e => hs'.extBut c o hc (hkk c o e)) hpl' (hpb2.extBut hs'.extBut hab2)
        exact h _ _ _ _ _ ev₃ f₃ rfl
    · cases hv
  · cases hv

theorem setIf_vrs {tokA : Addr} {g : Look} {xs : List AV} {vs : Array Value} {k : Nat} {v : AV} {v' : Value} (r : VRs tokA g xs vs.toList) (rv : VR tokA g v v') : VRs tokA g (xs.set k v) (vs.setIfInBounds k v').toList := by
  rw [Array.toList_setIfInBounds]
  exact r.set k rv

set_option tactic.hygienic true in
theorem snd_setItem {x : Str} {xp sp pos : Pos} {k e : Expr} {q p : PE} {i : Nat} (hk : SndE prog w Γ n C sc k q) (he : SndE prog w Γ n C sc e p) (hi : sc.idx x = some i) (hdb : (x == ("__debug__" : Str)) = false)
    (hs : ∀ env line, swapsWith e (some (.Subscript (.Name x xp) k sp)) line env = pure false) :
    SndS prog w Γ n C sc (.Assign [.Subscript (.Name x xp) k sp] e pos) (.setItem i q p) := fun env h₀ X W ρ m oa fl ρ' A s Q E hv fx ao fm h => by
  simp only [qS1,qS2,qS3,qS4,qS5,qS6,qS7,qS8,qS9,qS10,qS11,qS12,qS13,qS14,qS15,qS16,qS17,qS18] at hv
  split at hv
  · rename_i xs hsl
    simp only [Option.bind_eq_some_iff] at hv
    obtain ⟨v, hv, u, hu, hv2⟩ := hv
    cases u with
    | int j =>
      simp only at hv2
      split at hv2
      · rename_i hj
        cases hv2
        obtain ⟨hkx, a, r, hoa, hma, hr⟩ := fm.own x i _ hi hsl rfl
        obtain ⟨a', vs, e1, hpl, hvs, hz⟩ := hr
        have e0 := e1
        rw [hoa] at e1; cases e1
        refine wpAny_Assign_Subscript (he env ρ v A (X ++ W) s _ _ hv (fm.cx fx ao) fun s₁ v' x₁ r₁ => ?_) (hs _ _)
        have f₁ := fm.keeps x₁
        refine loads_ fx.kind (.inl ⟨fx.kl x hkx, m, f₁.ns, hma⟩) ?_ hdb
        refine hk env ρ (.int j) A (X ++ W) s₁ _ _ hu (f₁.cx fx ao) fun s₂ u' x₂ r₂ => ?_
        obtain ⟨t, rfl⟩ := r₂
        have f₂ := f₁.keeps x₂
        have hpl₂ := (hpl.at (x₁.heap _)).at (x₂.heap _)
        have hb := lt63 hz
        have hvs₂ := (hvs.mono (gX_sub x₁.heap)).mono (gX_sub x₂.heap)
        refine wpAny_setItem_list hpl₂ hj.1 (by (first | lia | omega)) (by rw [hvs.size]; exact hj.2) fun h' hl' hs' => ?_
        obtain ⟨f₃, ev₃⟩ := f₂.setOwn (sl' := .ownS (xs.set j.toNat v)) (tk := s₂.toks) fx hi hsl rfl (fun b o hb e => hs'.extBut b o (fun q => hb (by rw [e0, q]; simp)) e) (fun b hb => by rw [e0] at hb; simp at hb; subst hb; obtain ⟨o, e, _⟩ := hl'; exact ⟨o, e⟩)
          (fun hsub => ⟨a, _, e0, hl', setIf_vrs (hvs₂.mono hsub) ((r₁.ext x₂).mono hsub), by simpa using hz⟩) nofun
        exact h _ _ _ _ _ ((x₁.trans x₂).ev.trans ev₃) f₃ rfl
      · cases hv2
    | _ => cases hv2
  · cases hv
end
end Mine

namespace Mine

theorem list_iaddW (l b : Addr) (items items2 : Array Value) (n n2 : Nat) (dd2 : Option Addr) (sl2 : Array (Option Value)) (hs0 : ¬(!items.isEmpty && Builtin.List.listTooLong (items.size + items2.size)) = true) (hs1 : items.size ≤ sizeLine) (hs2 : items.size + items2.size ≤ sizeLine + 1) :
    Meets (Builtin.«list.__iadd__» ⟨[.ref l, .ref b], []⟩) (fun _ R s => s.heap.get? l = some { cls := .type "list", dict := none, data := .seq items n, slots := #[] } ∧ s.heap.get? b = some { cls := .type "list", dict := dd2, data := .seq items2 n2, slots := sl2 } ∧ R (.ok (.ret (Value.ref l))) { s with heap := s.heap.update l (Obj.mapSeq fun x => x ++ items2), toks := s.toks }) :=
  .of_wp fun prog w A R s h => by
    obtain ⟨hp, g, d, tk, os⟩ := s; obtain ⟨hl, hb, h⟩ := h; have f1 := AutoSeq1.idx_int; have f2 := AutoSeq1.sub_tuple_tuple; have f3 := AutoSeq1.sub_list_list; have f4 := AutoSeq1.sub_tuple_list; have f5 := AutoSeq1.sub_list_tuple
    have hz' : (items ++ items2).size ≤ sizeLine + 1 := by rw [Array.size_append]; exact hs2
    wp_walk using (wpAny_updateSeq hl rfl (hz := hs1) (_hz' := hz')), AutoSeq1.wpAny_loadPart' hl, AutoSeq1.wpAny_loadPart' hb; exact ⟨_, rfl, h⟩

section
variable {prog : Program} {w : World} {Γ : Gp} {n : Nat} {C : Nat → List AV → Option AV} {A : Around} {env : Env} {sc : Sc} {h₀ : Heap} {X W : List Addr} {ρ : Loc} {m : NM} {oa : OA} {s s' : Shared} {E : Value → Shared → Prop}

theorem iadd_lists {l b : Addr} {items items2 : Array Value} {Q : Value → Shared → Prop} (hl : s.heap.PlainList l items) (hb : s.heap.IsList b items2) (hsz : items.size + items2.size ≤ sizeLine)
    (h : ∀ h', h'.PlainList l (items ++ items2) → Heap.SameBut l s.heap h' → Q (.ref l) { s with heap := h' }) : wpAny (model prog w) A (inplaceOp .Add (.ref l) (.ref b)) Q E s := by
  obtain ⟨k, hlo⟩ := hl
  obtain ⟨o2, hbo, hc2, k2, hd2⟩ := hb
  obtain ⟨c2, dd2, dt2, sl2⟩ := o2
  simp only at hc2 hd2
  subst hc2 hd2
  have ha : s.TypeIs (.ref l) "list" := ⟨_, hlo, rfl⟩
  have hbT : s.TypeIs (.ref b) "list" := ⟨_, hbo, rfl⟩
  have hfi : fillsInplaceSlot (.type "list") "add" (Operator.Add == .Add) = pure false := by
    unfold fillsInplaceSlot
    show (typeLookup (.type "list") (dunderI "add") >>= fun fi => pure (fi.isSome && !isSeqSlot fi)) = pure false
    rw [PySem.F.slot_list_iadd.lookup]
    have : isSeqSlot (some (.builtin "list.__iadd__")) = true := by decide +kernel
    simp [this]
  have hsi : seqSlot? (.type "list") (dunderI "add") = pure (some (.builtin "list.__iadd__")) := PySem.seqSlot_of PySem.F.slot_list_iadd.lookup (by decide +kernel)
  have hnb : ¬(!items.isEmpty && Builtin.List.listTooLong (items.size + items2.size)) = true := extend_door hsz
  unfold inplaceOp
  refine wpAny_holding ?_
  refine wpAny_bind (wpAny_typeOf ha (wpAny_bind (wpAny_of_eq hfi ?_)))
  show wpAny _ A (if false = true then _ else _) Q E s
  rw [if_neg Bool.false_ne_true]
  refine wpAny_bind (PySem.wpAny_binaryOp1_none (nm := "add") ha hbT noFill_list_add ?_)
  refine wpAny_bind (wpAny_of_eq hsi ?_)
  refine wpAny_bind (wpAny_rule ?_)
  refine (call_meets PySem.F.slot_list_iadd ha PySem.F.entry_list_iadd (PySem.F.args_list_iadd_2 _ _) (list_iaddW l b items items2 k k2 dd2 sl2 hnb (by (first | lia | omega)) (by (first | lia | omega))) ⟨hlo, hbo, ?_⟩)
  have ho' : (s.heap.update l (Obj.mapSeq fun x => x ++ items2)).get? l = some { cls := .type "list", data := .seq (items ++ items2) (if (items ++ items2).size == items.size then k else k + 1) } := by
    rw [Heap.get?_update_self _ hlo (by rw [PyProof.Rows.mapSeq_app]; rfl), PyProof.Rows.mapSeq_app]
  exact h _ ⟨_, ho'⟩ (Heap.SameBut.update ..)

set_option tactic.hygienic true in
theorem snd_augL {x : Str} {px pos : Pos} {e : Expr} {p : PE} {i : Nat} (he : SndE prog w Γ n C sc e p) (hi : sc.idx x = some i) :
    SndS prog w Γ n C sc (.AugAssign (.Name x px) .Add e pos) (.augL i p) := fun env h₀ X W ρ m oa fl ρ' A s Q E hv fx ao fm h => by
  simp only [qS1,qS2,qS3,qS4,qS5,qS6,qS7,qS8,qS9,qS10,qS11,qS12,qS13,qS14,qS15,qS16,qS17,qS18] at hv
  split at hv
  · rename_i xs hsl
    simp only [Option.bind_eq_some_iff] at hv
    obtain ⟨v, hv, hv2⟩ := hv
    cases v with
    | list ys =>
      simp only at hv2
      split at hv2
      · rename_i hlen
        cases hv2
        obtain ⟨hkx, a, r, hoa, hma, hr⟩ := fm.own x i _ hi hsl rfl
        obtain ⟨a', vs, e1, hpl, hvs, hz⟩ := hr
        have e0 := e1
        rw [hoa] at e1; cases e1
        refine wpAny_AugAssign_Name (wpAny_loadName_local fx.kind (fx.kl x hkx) fm.ns hma (he env ρ _ A (X ++ W) s _ _ hv (fm.cx fx ao) fun s₁ v' x₁ r₁ => ?_))
        obtain ⟨b, us, rfl, il, rus, hz2, hus, hbX⟩ := r₁.isList
        have f₁ := fm.keeps x₁
        have hvs₁ := hvs.mono (gX_sub x₁.heap)
        refine iadd_lists (hpl.at (x₁.heap _)) il (by rw [hvs.size, hus]; exact hlen) fun h' hpl' hs' => ?_
        obtain ⟨f₃, ev₃⟩ := f₁.setOwn (sl' := .own (xs ++ ys)) (tk := s₁.toks) fx hi hsl rfl (fun c o hc e => hs'.extBut c o (fun q => hc (by rw [e0, q]; simp)) e) (fun c hc => by rw [e0] at hc; simp at hc; subst hc; obtain ⟨k, e⟩ := hpl'; exact ⟨_, e⟩)
          (fun hsub => ⟨a, _, e0, hpl', by rw [Array.toList_append]; exact (hvs₁.mono hsub).append (rus.mono hsub), by simpa using hlen⟩) nofun
        have hsl' : (ρ.set i (.own (xs ++ ys)))[i]? = some (.own (xs ++ ys)) := by
          rw [List.getElem?_set_self]; exact (List.getElem?_eq_some_iff.mp hsl).1
        obtain ⟨_, a2, r2, hoa2, hma2, hr2⟩ := f₃.own x i _ hi hsl' rfl
        refine wpAny_storeName_local (fx.kl x hkx) f₃.ns (fun h₄ hn₄ hs₄ => ?_) (by simp [fx.kind])
        have f₄ := f₃.putLocal (tk := s₁.toks + 1) fx (sl := .own (xs ++ ys)) (v' := .ref a) (as := oa i) hkx hi hn₄ hs₄ (fun v e => by cases e) (fun _ => ⟨a, r2, by rw [hoa2]; congr 1; rw [hma2] at hma; cases hma; rfl, rfl, hr2⟩) (fun c hc => f₃.oax i c hc) (fun y c h1 h2 => (f₃.cew y c h1 h2).2.2.1 i) (fun j c hj hc q => hj (f₃.oad j i c q hc))
        rw [List.set_set] at f₄
        exact h _ _ _ _ _ ((x₁.ev.trans ev₃).trans (.of_same (tk := s₁.toks + 1) f₃.lin hs₄)) f₄ rfl
      · cases hv2
    | _ => cases hv2
  · cases hv
end
end Mine

namespace Mine
theorem filterMap_cong {α β : Type} {f g : α → Option β} : ∀ {l : List α}, (∀ a ∈ l, f a = g a) → l.filterMap f = l.filterMap g
  | [], _ => rfl
  | a :: l, h => by rw [List.filterMap_cons, List.filterMap_cons, h a (List.mem_cons_self ..), filterMap_cong fun b hb => h b (List.mem_cons_of_mem _ hb)]
theorem zip_lookup : ∀ {ns : List Str} {vs : List Value}, ns.length = vs.length → ns.Nodup → (ns.filterMap fun n => ((ns.zip vs).lookup n).map (n, ·)) = ns.zip vs := by
  intro ns
  induction ns with
  | nil => intro vs h _; cases vs with
    | nil => rfl
    | cons _ _ => cases h
  | cons x r ih =>
    intro vs h hn
    cases vs with
    | nil => cases h
    | cons v vs =>
      simp only [List.length_cons, Nat.add_right_cancel_iff] at h
      rw [List.nodup_cons] at hn
      rw [List.zip_cons_cons, List.filterMap_cons]
      simp only [List.lookup_cons, beq_self_eq_true, Option.map_some]
      congr 1
      have hcg : ∀ n ∈ r, (((match n == x with | true => some v | false => List.lookup n (r.zip vs))).map fun y => (n, y)) = ((r.zip vs).lookup n).map fun y => (n, y) := fun n hnr => by
        have : (n == x) = false := by
          cases e : n == x with
          | false => rfl
          | true => exact absurd (eq_of_beq e ▸ hnr) hn.1
        rw [this]
      exact (filterMap_cong hcg).trans (ih h hn.2)

theorem zip_isSome : ∀ {ns : List Str} {vs : List Value}, ns.length = vs.length → ∀ n ∈ ns, ((ns.zip vs).lookup n).isNone = false := by
  intro ns
  induction ns with
  | nil => intro vs _ n hn; cases hn
  | cons x r ih =>
    intro vs h n hn
    cases vs with
    | nil => cases h
    | cons v vs =>
      simp only [List.length_cons, Nat.add_right_cancel_iff] at h
      rw [List.zip_cons_cons, List.lookup_cons]
      split
      · rfl
      · rename_i e
        rcases List.mem_cons.mp hn with rfl | hn
        · simp at e
        · exact ih h n hn

theorem bind_gen {name : Str} {as : List Arg} {kd : List (Option Expr)} {df : List Expr} {body : List Stmt} {scope : Scope} {pm cd doc : Value} {vs : List Value} (hl : as.length = vs.length) (hn : (as.map (·.arg)).Nodup) :
    bindArgs (docDef name ⟨[], as, none, [], kd, none, df⟩ body scope pm cd doc) ⟨vs, []⟩ = pure ((as.map (·.arg)).zip vs) := by
  have hl' : (as.map (·.arg)).length = vs.length := by simpa using hl
  have h1 : ((as.map (·.arg)).filter fun n => (((as.map (·.arg)).zip vs).lookup n).isNone) = [] := by
    rw [List.filter_eq_nil_iff]
    intro n hnn
    rw [zip_isSome hl' n hnn]; simp
  have h2 := zip_lookup hl' hn
  unfold bindArgs
  have h0 : seqItems? Value.none = pure none := rfl
  have h3 : (as.map (·.arg)).take vs.length = as.map (·.arg) := List.take_of_length_le (by (first | lia | omega))
  have h4 : (as.map (·.arg)).drop vs.length = [] := List.drop_of_length_le (by (first | lia | omega))
  simp only [docDef, h0, pure_bind, List.map_nil, List.nil_append, List.append_nil, List.forIn_nil, Option.getD_none, List.drop_nil, List.length_nil, List.zip_nil_right, Nat.sub_zero, hl', h3, h1]
  simp
  rw [← List.filterMap_map, h2]
end Mine

namespace Mine

/-! # from the program's tree to the small language; what is printed bears its proof -/
noncomputable def oddE (e : Expr) : Bool := Nat.beq (ekind e) 6
noncomputable def isLC (e : Expr) : Bool := Nat.beq (ekind e) 4
structure Snd3 (prog : Program) (w : World) (Γ : Gp) (n : Nat) (C : Nat → List AV → Option AV) (sc : Sc) (e : Expr) (p : PE) : Prop where
  ee : SndE prog w Γ n C sc e p
  tt : SndT prog w Γ n C sc e p
  bb : SndB prog w Γ n C sc e p
  cc : ∀ elt gens scope pos, e = .ListComp elt gens scope pos → SndC prog w Γ n C sc elt gens scope pos p ∧ reads p = []
  nt : oddE e = false
  bm : ∀ op, behindInMarks op e = false
  fs : ∀ env x, foldedSetIterable e env x = pure x
theorem Snd3.st {prog : Program} {w : World} {Γ : Gp} {n : Nat} {C : Nat → List AV → Option AV} {sc : Sc} {e : Expr} {p : PE} (g : Snd3 prog w Γ n C sc e p) : ∀ v q, e ≠ .Starred v q := fun v q h => by
  have := g.nt; rw [h] at this; cases this

/-- what is still owed: indexOf's call, the walk over _grouping_intervals -/
structure Owed (prog : Program) (w : World) (Γ : Gp) (n : Nat) (C : Nat → List AV → Option AV) : Prop where
  idx : ∀ (sc : Sc) (f k x : Str) (fp kp zp xp sp pos : Pos) (k1 k2 : Nat) (i : Nat), isGlob sc f = true → f = "indexOf" → k = "abcd" → sc.kind x = some .local → x ≠ "__debug__" → sc.idx x = some i →
    SndE prog w Γ n C sc (.Call (.Name f fp) [.Constant (.str k) k1 kp, .Subscript (.Name x xp) (.Constant (.int 0) k2 zp) sp] [] pos) (.idxOf i)

structure GE (prog : Program) (w : World) (Γ : Gp) (n : Nat) (C : Nat → List AV → Option AV) (sc : Sc) (e : Expr) where
  p : PE
  h : Snd3 prog w Γ n C sc e p
structure GI (prog : Program) (w : World) (Γ : Gp) (n : Nat) (C : Nat → List AV → Option AV) (sc : Sc) (t e : Expr) where
  p : PI
  h : SndI prog w Γ n C sc t e p
  fs : ∀ env x, foldedSetIterable e env x = pure x

section
variable {prog : Program} {w : World} {Γ : Gp} {n : Nat} {C : Nat → List AV → Option AV}

theorem Snd3.full {sc : Sc} {e : Expr} {p : PE} (h : SndE prog w Γ n C sc e p) (ht : SndT prog w Γ n C sc e p) (hb : SndB prog w Γ n C sc e p) (hl : isLC e = false) (h1 : oddE e = false) (h2 : ∀ op, behindInMarks op e = false) (h3 : ∀ env x, foldedSetIterable e env x = pure x) :
    Snd3 prog w Γ n C sc e p := ⟨h, ht, hb, fun a b c q e => by (rw [e] at hl; cases hl), h1, h2, h3⟩
theorem Snd3.plain {sc : Sc} {e : Expr} {p : PE} (h : SndE prog w Γ n C sc e p) (hp : ∀ env whole, isTrue e env whole = (do let v ← whole; standAt e.pos; holding [v] (truthy v)) ) (hb : ∀ ρ, baseE C p ρ = evE C p ρ) (hl : isLC e = false) (h1 : oddE e = false) (h2 : ∀ op, behindInMarks op e = false) (h3 : ∀ env x, foldedSetIterable e env x = pure x) :
    Snd3 prog w Γ n C sc e p := .full h (sndT_plain h hp) (sndB_of h hb) hl h1 h2 h3
theorem Snd3.ofC {sc : Sc} {elt : Expr} {gens : List Comprehension} {scope : Scope} {pos : Pos} {p : PE} (key : SndC prog w Γ n C sc elt gens scope pos p) (hr : reads p = []) (hb : ∀ ρ, baseE C p ρ = evE C p ρ) : Snd3 prog w Γ n C sc (.ListComp elt gens scope pos) p :=
  ⟨sndE_of_C key, sndT_plain (sndE_of_C key) (fun _ _ => rfl), sndB_of (sndE_of_C key) hb, fun _ _ _ _ e => by cases e; exact ⟨key, hr⟩, rfl, fun _ => rfl, fun _ _ => rfl⟩
theorem Snd3.sw {sc : Sc} {e : Expr} {p : PE} (g : Snd3 prog w Γ n C sc e p) (hl : isLC e = false) (t : Option Expr) (env : Env) (line : Nat) : swapsWith e t line env = pure false :=
  not_swaps (fun a b c d h => by rw [h] at hl; cases hl) (fun a b c d h => by have := g.nt; rw [h] at this; cases this) (fun a b c d f h => by have := g.nt; rw [h] at this; cases this)

noncomputable def er {sc : Sc} (f : (e : Expr) → Option (GE prog w Γ n C sc e)) : Expr → Option PE := fun e => (f e).map (·.p)
theorem er_h {sc : Sc} {f : (e : Expr) → Option (GE prog w Γ n C sc e)} {e : Expr} {p : PE} (h : er f e = some p) : Snd3 prog w Γ n C sc e p := by
  obtain ⟨g, _, rfl⟩ := Option.map_eq_some_iff.mp h
  exact g.h
theorem er_s {sc : Sc} (f : (e : Expr) → Option (GE prog w Γ n C sc e)) : ∀ e p, er f e = some p → SndE prog w Γ n C sc e p := fun _ _ h => (er_h h).ee
theorem er_st {sc : Sc} (f : (e : Expr) → Option (GE prog w Γ n C sc e)) : ∀ e p, er f e = some p → ∀ v q, e ≠ .Starred v q := fun _ _ h => (er_h h).st
theorem er_P {sc : Sc} {f : (e : Expr) → Option (GE prog w Γ n C sc e)} {e : Option Expr} {p : PE} (h : partC (er f) e = some p) : SndP prog w Γ n C sc e p := by
  cases e with
  | none => cases h; exact sndP_none
  | some e => exact sndP_some (er_h h).ee

noncomputable def varX {sc : Sc} {x : Str} {pos : Pos} (hdb : x ≠ "__debug__") (hk : sc.kind x = some .local ∨ sc.kind x = some .cell ∨ sc.kind x = some .free) : Option (GE prog w Γ n C sc (.Name x pos)) :=
  if x = "__classdict__" then none else match hi : sc.idx x with
    | some i => some ⟨.var i, .full (snd_var hi hk hdb) (sndT_plain (snd_var hi hk hdb) fun _ _ => rfl) (sndB_var hi hk hdb) rfl rfl (fun _ => rfl) fun _ _ => rfl⟩
    | none => none
noncomputable def nameX (sc : Sc) (x : Str) (pos : Pos) : Option (GE prog w Γ n C sc (.Name x pos)) :=
  if hdb : x = "__debug__" then none else match hk : sc.kind x with
    | some .local => varX hdb (.inl hk)
    | some .cell => varX hdb (.inr (.inl hk))
    | some .free => varX hdb (.inr (.inr hk))
    | some .globalImplicit => (match hg : gconst x with
      | some v => some ⟨.lit v, .plain (snd_glob hk hg hdb) (fun _ _ => rfl) (fun _ => rfl) rfl rfl (fun _ => rfl) fun _ _ => rfl⟩
      | none => none)
    | _ => none
noncomputable def iterX {sc : Sc} (f : (e : Expr) → Option (GE prog w Γ n C sc e)) (t : Expr) : (e : Expr) → Option (GI prog w Γ n C sc t e)
  | .Call (.Name g gp) [a] [] pos => if hg : isGlob sc g = true then (if hr : g = "range" then (f a).map fun q => ⟨.range q.p, sndI_range hg hr q.h.ee q.h.st, fun _ _ => rfl⟩
      else if he : g = "enumerate" then (if ht : isTup t = true then (f a).map fun q => ⟨.enum q.p, sndI_enum ht hg he q.h.ee q.h.st, fun _ _ => rfl⟩ else none)
      else (f (.Call (.Name g gp) [a] [] pos)).map fun q => ⟨.expr q.p, sndI_expr q.h.ee, q.h.fs⟩) else none
  | .Call _ _ _ _ => none
  | e => (f e).map fun q => ⟨.expr q.p, sndI_expr q.h.ee, q.h.fs⟩
noncomputable def methX {sc : Sc} (f : (e : Expr) → Option (GE prog w Γ n C sc e)) (m : Str) (ap cp : Pos) : (o : Expr) → (as : List Expr) → Option (GE prog w Γ n C sc (.Call (.Attribute o m ap) as [] cp))
  | .Constant (.str sep) k p0, [a] => if hc : ap.endLine = cp.line ∧ m = "join" ∧ sep.length ≤ 1000 then (f a).map fun q => ⟨.join (.lit (.str sep)) q.p, .plain (snd_join hc.2.1 hc.1 hc.2.2 q.h.ee q.h.st) (fun _ _ => rfl) (fun _ => rfl) rfl rfl (fun _ => rfl) fun _ _ => rfl⟩ else none
  | .Name x p0, [] => if hc : ap.endLine = cp.line ∧ m = "lower" then (f (.Name x p0)).map fun q => ⟨.lower q.p, .plain (snd_lower hc.2 hc.1 q.h.ee) (fun _ _ => rfl) (fun _ => rfl) rfl rfl (fun _ => rfl) fun _ _ => rfl⟩ else none
  | _, _ => none
noncomputable def callX {sc : Sc} (f : (e : Expr) → Option (GE prog w Γ n C sc e)) (hC : CallsOK prog w Γ n C) (g : Str) (gp pos : Pos) : (as : List Expr) → Option (GE prog w Γ n C sc (.Call (.Name g gp) as [] pos))
  | a :: as => if hc : isGlob sc g = true ∧ g ≠ "indexOf" then (match hm : mapEs (er f) (a :: as) with
    | some ps => (match hg : gfun g with
      | some k => some ⟨.call k ps, .plain (snd_call hC (er_s f) (er_st f) hc.1 hg hm) (fun _ _ => rfl) (fun _ => rfl) rfl rfl (fun _ => rfl) fun _ _ => rfl⟩
      | none => (match hb : biOf sc g (a :: as).length with
        | some b => some ⟨.bi b ps, .plain (snd_bi (er_s f) (er_st f) hb hm) (fun _ _ => rfl) (fun _ => rfl) rfl rfl (fun _ => rfl) fun _ _ => rfl⟩
        | none => none))
    | none => none) else none
  | [] => none
noncomputable def compG {sc : Sc} (f : (sc : Sc) → (e : Expr) → Option (GE prog w Γ n C sc e)) (elt t it : Expr) (s : Scope) (pos : Pos) : (ifs : List Expr) → Option (GE prog w Γ n C sc (.ListComp elt [⟨t, it, ifs, 0⟩] s pos))
  | [] => if hok : compOK sc s = true then (iterX (f sc) t it).bind fun pi => (match ht : targets (scIn sc s) t with
    | some ts => (f (scIn sc s) elt).map fun q => ⟨.comp q.p ts pi.p (.lit (.bool true)), .ofC (sndC_comp pi.h q.h.ee sndF_nil ht hok pi.fs) rfl fun _ => rfl⟩
    | none => none) else none
  | [c] => if hok : compOK sc s = true then (iterX (f sc) t it).bind fun pi => (match ht : targets (scIn sc s) t with
    | some ts => (f (scIn sc s) elt).bind fun q => (f (scIn sc s) c).map fun r => ⟨.comp q.p ts pi.p r.p, .ofC (sndC_comp pi.h q.h.ee (sndF_one r.h.tt) ht hok pi.fs) rfl fun _ => rfl⟩
    | none => none) else none
  | _ => none
noncomputable def flatG {sc : Sc} (f : (sc : Sc) → (e : Expr) → Option (GE prog w Γ n C sc e)) (x y y' : Str) (px py py' : Pos) (it it2 : Expr) (s : Scope) (pos : Pos) : Option (GE prog w Γ n C sc (.ListComp (.Name y py) [⟨.Name x px, it, [], 0⟩, ⟨.Name y' py', it2, [], 0⟩] s pos)) :=
  if hc : y' = y ∧ x ≠ y ∧ compOK sc s = true ∧ (y == ("__debug__" : Str)) = false ∧ (scIn sc s).kind x = some .local ∧ (scIn sc s).kind y = some .local then
    (iterX (f sc) (.Name x px) it).bind fun pi => (f (scIn sc s) it2).bind fun q => (match hi : (scIn sc s).idx x, hj : (scIn sc s).idx y with
      | some i, some _ => some ⟨.flat i pi.p q.p, by
          obtain ⟨rfl, hxy, hok, hdb, hkx, hky⟩ := hc
          exact .ofC (sndC_flat hxy hdb pi.h q.h.ee hkx hi hky hj hok pi.fs q.h.fs) rfl fun _ => rfl⟩
      | _, _ => none) else none

noncomputable def compX (hC : CallsOK prog w Γ n C) (ow : Owed prog w Γ n C) : Nat → (sc : Sc) → (e : Expr) → Option (GE prog w Γ n C sc e)
  | 0, _, _ => none
  | d + 1, sc, e => match e with
    | .Constant .none _ _ => some ⟨.lit .none, .plain snd_none (fun _ _ => rfl) (fun _ => rfl) rfl rfl (fun _ => rfl) fun _ _ => rfl⟩
    | .Constant (.int i) _ _ => some ⟨.lit (.int i), .plain snd_int (fun _ _ => rfl) (fun _ => rfl) rfl rfl (fun _ => rfl) fun _ _ => rfl⟩
    | .Constant (.str x) _ _ => if hz : x.length ≤ 1000 then some ⟨.lit (.str x), .plain (snd_str hz) (fun _ _ => rfl) (fun _ => rfl) rfl rfl (fun _ => rfl) fun _ _ => rfl⟩ else none
    | .Name x pos => nameX sc x pos
    | .BoolOp .And [a, b] _ => (compX hC ow d sc a).bind fun p => (compX hC ow d sc b).map fun q => ⟨.and p.p q.p, .full (snd_and p.h.ee q.h.ee) (sndT_and p.h.tt q.h.tt) (sndB_of (snd_and p.h.ee q.h.ee) fun _ => rfl) rfl rfl (fun _ => rfl) fun _ _ => rfl⟩
    | .BoolOp .Or [a, b] _ => (compX hC ow d sc a).bind fun p => (compX hC ow d sc b).map fun q => ⟨.or p.p q.p, .full (snd_or p.h.ee q.h.ee) (sndT_or p.h.tt q.h.tt) (sndB_of (snd_or p.h.ee q.h.ee) fun _ => rfl) rfl rfl (fun _ => rfl) fun _ _ => rfl⟩
    | .BoolOp .And [a, b, c] _ => (compX hC ow d sc a).bind fun p => (compX hC ow d sc b).bind fun q => (compX hC ow d sc c).map fun r => ⟨.and p.p (.and q.p r.p), .full (snd_and3 p.h.ee q.h.ee r.h.ee) (sndT_and3 p.h.tt q.h.tt r.h.tt) (sndB_of (snd_and3 p.h.ee q.h.ee r.h.ee) fun _ => rfl) rfl rfl (fun _ => rfl) fun _ _ => rfl⟩
    | .UnaryOp .Not a _ => (compX hC ow d sc a).map fun p => ⟨.not p.p, .full (snd_not p.h.ee) (sndT_not p.h.tt) (sndB_of (snd_not p.h.ee) fun _ => rfl) rfl rfl (fun _ => rfl) fun _ _ => rfl⟩
    | .UnaryOp .USub a _ => (compX hC ow d sc a).map fun p => ⟨.neg p.p, .plain (snd_neg p.h.ee) (fun _ _ => rfl) (fun _ => rfl) rfl rfl (fun _ => rfl) fun _ _ => rfl⟩
    | .Compare l [op] [r] _ => (match ho : copOf op r with
      | some o => (compX hC ow d sc l).bind fun p => (compX hC ow d sc r).map fun q => ⟨.cmp o p.p q.p, .full (snd_cmp ho (q.h.bm op) p.h.ee q.h.ee) (sndT_cmp ho (q.h.bm op) p.h.ee q.h.ee) (sndB_of (snd_cmp ho (q.h.bm op) p.h.ee q.h.ee) fun _ => rfl) rfl rfl (fun _ => rfl) fun _ _ => rfl⟩
      | none => none)
    | .BinOp (.Constant (.int a) _ _) .Pow (.Constant (.int m) _ _) _ => if hc : 0 ≤ m ∧ m ≤ 100 ∧ a.natAbs < 1000 then some ⟨.lit (.int (a ^ m.toNat)), .plain (snd_pow hc) (fun _ _ => rfl) (fun _ => rfl) rfl rfl (fun _ => rfl) fun _ _ => rfl⟩ else none
    | .BinOp l op r _ => (match ho : bopOf op with
      | some o => (compX hC ow d sc l).bind fun p => (compX hC ow d sc r).map fun q => ⟨.bin o p.p q.p, .plain (snd_bin ho p.h.ee q.h.ee) (fun _ _ => rfl) (fun _ => rfl) rfl rfl (fun _ => rfl) fun _ _ => rfl⟩
      | none => none)
    | .IfExp c a b _ => (compX hC ow d sc c).bind fun r => (compX hC ow d sc a).bind fun p => (compX hC ow d sc b).map fun q => ⟨.ite r.p p.p q.p, .full (snd_ite r.h.tt p.h.ee q.h.ee) (sndT_ite r.h.tt p.h.tt q.h.tt) (sndB_of (snd_ite r.h.tt p.h.ee q.h.ee) fun _ => rfl) rfl rfl (fun _ => rfl) fun _ _ => rfl⟩
    | .Call (.Name f fp) [.Constant (.str k) k1 kp, .Subscript (.Name x xp) (.Constant (.int 0) k2 zp) sp] [] pos =>
      if hc : isGlob sc f = true ∧ f = "indexOf" ∧ k = "abcd" ∧ sc.kind x = some .local ∧ x ≠ "__debug__" then (match hi : sc.idx x with
        | some i => some ⟨.idxOf i, .plain (ow.idx _ _ _ _ _ _ _ _ _ _ _ _ _ hc.1 hc.2.1 hc.2.2.1 hc.2.2.2.1 hc.2.2.2.2 hi) (fun _ _ => rfl) (fun _ => rfl) rfl rfl (fun _ => rfl) fun _ _ => rfl⟩
        | none => none) else none
    | .Call (.Name f fp) as [] pos => callX (compX hC ow d sc) hC f fp pos as
    | .Call (.Attribute o m ap) as [] cp => methX (compX hC ow d sc) m ap cp o as
    | .Subscript v (.Slice lo hi st _) _ => (compX hC ow d sc v).bind fun p => (match hl : partC (er (compX hC ow d sc)) lo, hh : partC (er (compX hC ow d sc)) hi, hs : partC (er (compX hC ow d sc)) st with
      | some l, some h, some s => some ⟨.slice p.p l h s, .plain (snd_slice p.h.ee (er_P hl) (er_P hh) (er_P hs)) (fun _ _ => rfl) (fun _ => rfl) rfl rfl (fun _ => rfl) fun _ _ => rfl⟩
      | _, _, _ => none)
    | .Subscript v i _ => (compX hC ow d sc v).bind fun p => (compX hC ow d sc i).map fun q => ⟨.sub p.p q.p, .plain (snd_sub p.h.bb q.h.ee) (fun _ _ => rfl) (fun _ => rfl) rfl rfl (fun _ => rfl) fun _ _ => rfl⟩
    | .List es _ => (match hm : mapEs (er (compX hC ow d sc)) es with
      | some ps => some ⟨.list ps, .plain (snd_list (er_s _) (er_st _) hm) (fun _ _ => rfl) (fun _ => rfl) rfl rfl (fun _ => rfl) fun _ _ => rfl⟩
      | none => none)
    | .Tuple es _ _ => (match hm : mapEs (er (compX hC ow d sc)) es with
      | some ps => some ⟨.tup ps, .plain (snd_tup (er_s _) (er_st _) hm) (fun _ _ => rfl) (fun _ => rfl) rfl rfl (fun _ => rfl) fun _ _ => rfl⟩
      | none => none)
    | .ListComp elt [⟨t, it, ifs, 0⟩] s pos => compG (compX hC ow d) elt t it s pos ifs
    | .ListComp (.Name y py) [⟨.Name x px, it, [], 0⟩, ⟨.Name y' py', it2, [], 0⟩] s pos => flatG (compX hC ow d) x y y' px py py' it it2 s pos
    | _ => none
end
end Mine

namespace Mine

noncomputable def OwedS (prog : Program) (w : World) (Γ : Gp) (n : Nat) (C : Nat → List AV → Option AV) : Prop :=
  ∀ (sc : Sc) (f x : Str) (fp xp cp pos : Pos) (k e : Expr) (q p : PE) (i : Nat), isGlob sc f = true → f = "setitem" → sc.idx x = some i → (x == ("__debug__" : Str)) = false → SndE prog w Γ n C sc k q → SndE prog w Γ n C sc e p → (∀ v r, k ≠ .Starred v r) → (∀ v r, e ≠ .Starred v r) →
    SndS prog w Γ n C sc (.Expr (.Call (.Name f fp) [.Name x xp, k, e] [] cp) pos) (.callSet i q p)

noncomputable def OwedZ (prog : Program) (w : World) (Γ : Gp) (n : Nat) (C : Nat → List AV → Option AV) : Prop :=
  ∀ (sc : Sc) (g g2 g3 : Str) (p1 p2 p3 p4 p5 p6 p7 pos : Pos) (kk : Nat) (a t : Expr) (p : PE) (ts : List Nat) (b : List Stmt) (q : PB), isGlob sc g = true → isGlob sc g2 = true → isGlob sc g3 = true → g = "zip" → g2 = "range" → g3 = "_grouping_intervals" → isTup t = true →
    SndE prog w Γ n C sc a p → (∀ v r, a ≠ .Starred v r) → targets sc t = some ts → SndB' prog w Γ n C sc b q →
    SndS prog w Γ n C sc (.For t (.Call (.Name g p1) [.Call (.Name g2 p2) [.Constant (.int 3) kk p3] [] p4, .Call (.Name g3 p5) [a] [] p6] [] p7) b [] pos) (.fors ts (.zipg 3 p) q false)
theorem swaps_sub (e a b : Expr) (p : Pos) (line : Nat) (env : Env) : swapsWith e (some (.Subscript a b p)) line env = pure false := by cases e <;> rfl
theorem own1_spec {sc : Sc} {x : Str} {i : Nat} (h : own1 sc x = some i) : (x == ("__debug__" : Str)) = false ∧ sc.kind x = some .local ∧ sc.idx x = some i := by
  unfold own1 at h
  split at h
  · rename_i hc; exact ⟨by simpa using hc.1, hc.2, h⟩
  · cases h

structure GS (prog : Program) (w : World) (Γ : Gp) (n : Nat) (C : Nat → List AV → Option AV) (sc : Sc) (st : Stmt) where
  p : PS
  h : SndS prog w Γ n C sc st p
structure GB (prog : Program) (w : World) (Γ : Gp) (n : Nat) (C : Nat → List AV → Option AV) (sc : Sc) (b : List Stmt) where
  p : PB
  h : SndB' prog w Γ n C sc b p

section
variable {prog : Program} {w : World} {Γ : Gp} {n : Nat} {C : Nat → List AV → Option AV}

theorem sw_tup {ts : List Expr} {tk : Nat} {tp : Pos} {e : Expr} {env : Env} {line : Nat} : swapsWithSole [.Tuple ts tk tp] e line env = pure false := by
  show swapsWith _ (some (.Tuple ts tk tp)) line env = pure false
  cases e <;> rfl
theorem st_tup {ts : List Expr} {tk : Nat} {tp : Pos} {e : Expr} {env : Env} (h : isTup e = false) : swappedStores [.Tuple ts tk tp] e env = pure none := by
  cases e <;> first | rfl | cases h

noncomputable def asg1X {sc : Sc} (f : (e : Expr) → Option (GE prog w Γ n C sc e)) (x : Str) (px pos : Pos) : (e : Expr) → Option (GS prog w Γ n C sc (.Assign [.Name x px] e pos))
  | .List [.List [] _] _ => (match hi : own1 sc x with
    | some i => some ⟨.asgOwn2 i, snd_asgOwn2 (own1_spec hi).2.1 (own1_spec hi).2.2⟩
    | none => none)
  | .Call (.Name g gp) [.Call (.Name k kp) [a, b, c] [] _] [] _ => if hc : isGlob sc g = true ∧ isGlob sc k = true ∧ g = "list" ∧ k = "range" then (match hi : own1 sc x, hm : mapEs (er f) [a, b, c] with
    | some i, some ps => some ⟨.asgOwn i true (.bi .rangeL ps), snd_asgRange (er_s f) (er_st f) hm hc.1 hc.2.1 hc.2.2.1 hc.2.2.2 (own1_spec hi).2.1 (own1_spec hi).2.2⟩
    | _, _ => none) else none
  | .List es lp => if hk : sc.kind x = some .local then (match hi : sc.idx x, hm : mapEs (er f) es with
    | some i, some ps => some ⟨.asgOwn i (decide (x = "later")) (.list ps), snd_asgOwn (er_s f) (er_st f) hm hk hi⟩
    | _, _ => none) else none
  | .ListComp elt gens scope cpos => if hk : sc.kind x = some .local ∨ sc.kind x = some .cell then (match hi : sc.idx x with
    | some i => (f (.ListComp elt gens scope cpos)).map fun q => ⟨.asg i q.p, snd_asgComp (q.h.cc _ _ _ _ rfl).1 (q.h.cc _ _ _ _ rfl).2 hk hi⟩
    | none => none) else none
  | e => if hl : isLC e = false then (if hk : sc.kind x = some .local ∨ sc.kind x = some .cell then (match hi : sc.idx x with
    | some i => (f e).map fun q => ⟨.asg i q.p, snd_asg q.h.ee hk hi fun env line => q.h.sw hl _ env line⟩
    | none => none) else none) else none
noncomputable def swapX {sc : Sc} (x y x' y' : Str) (px py q1 q2 p1 p2 pos : Pos) (k1 k2 : Nat) : Option (GS prog w Γ n C sc (.Assign [.Tuple [.Name x px, .Name y py] k1 p1] (.Tuple [.Name y' q1, .Name x' q2] k2 p2) pos)) :=
  if hc : x' = x ∧ y' = y ∧ x ≠ y ∧ px.line = py.line ∧ x ≠ "__debug__" ∧ y ≠ "__debug__" ∧ sc.kind x = some .local ∧ sc.kind y = some .local then (match hi : sc.idx x, hj : sc.idx y with
    | some i, some j => some ⟨.swap i j, by
        obtain ⟨rfl, rfl, hxy, hl, hdx, hdy, hkx, hky⟩ := hc
        exact snd_swap hkx hi hky hj hl hxy hdx hdy⟩
    | _, _ => none) else none
noncomputable def asgTX {sc : Sc} (f : (e : Expr) → Option (GE prog w Γ n C sc e)) (ts : List Expr) (tk : Nat) (tp pos : Pos) (e : Expr) : Option (GS prog w Γ n C sc (.Assign [.Tuple ts tk tp] e pos)) :=
  if ht : isTup e = false then (match h1 : namesOf? ts with
    | some xs => (match h2 : idxs sc xs with
      | some is => (f e).map fun q => ⟨.asgT is q.p, snd_asgT q.h.ee h1 h2 (fun _ _ => sw_tup) fun _ => st_tup ht⟩
      | none => none)
    | none => none) else none
noncomputable def asg2X {sc : Sc} (f : (e : Expr) → Option (GE prog w Γ n C sc e)) (x y : Str) (px py pos : Pos) (e : Expr) : Option (GS prog w Γ n C sc (.Assign [.Name x px, .Name y py] e pos)) :=
  if hk : sc.kind x = some .local ∧ sc.kind y = some .local then (match hi : sc.idx x, hj : sc.idx y with
    | some i, some j => (f e).map fun q => ⟨.asg2 i j q.p, snd_asg2 q.h.ee hk.1 hi hk.2 hj⟩
    | _, _ => none) else none
noncomputable def itemX {sc : Sc} (f : (e : Expr) → Option (GE prog w Γ n C sc e)) (x : Str) (xp sp pos : Pos) (k e : Expr) : Option (GS prog w Γ n C sc (.Assign [.Subscript (.Name x xp) k sp] e pos)) := match hi : own1 sc x with
  | some i => (f k).bind fun q => (f e).map fun r => ⟨.setItem i q.p r.p, snd_setItem q.h.ee r.h.ee (own1_spec hi).2.2 (own1_spec hi).1 fun env line => swaps_sub _ _ _ _ _ _⟩
  | none => none
noncomputable def asgX {sc : Sc} (f : (e : Expr) → Option (GE prog w Γ n C sc e)) (pos : Pos) : (ts : List Expr) → (e : Expr) → Option (GS prog w Γ n C sc (.Assign ts e pos))
  | [.Name x px], e => asg1X f x px pos e
  | [.Tuple [.Name x px, .Name y py] k1 p1], .Tuple [.Name y' q1, .Name x' q2] k2 p2 => swapX x y x' y' px py q1 q2 p1 p2 pos k1 k2
  | [.Tuple ts tk tp], e => asgTX f ts tk tp pos e
  | [.Name x px, .Name y py], e => asg2X f x y px py pos e
  | [.Subscript (.Name x xp) k sp], e => itemX f x xp sp pos k e
  | _, _ => none
noncomputable def augX {sc : Sc} (f : (e : Expr) → Option (GE prog w Γ n C sc e)) (x : Str) (px pos : Pos) (op : Operator) (e : Expr) : Option (GS prog w Γ n C sc (.AugAssign (.Name x px) op e pos)) := match hi : own1 sc x with
  | some i => if isCall e then (if ho : op = .Add then (f e).map fun q => ⟨.augL i q.p, by subst ho; exact snd_augL q.h.ee (own1_spec hi).2.2⟩ else none)
    else if ha : op = .Add then (f e).map fun q => ⟨.aug i .add q.p, snd_aug (.inl ⟨ha, rfl⟩) q.h.ee (own1_spec hi).2.1 (own1_spec hi).2.2⟩
    else if hs : op = .Sub then (f e).map fun q => ⟨.aug i .sub q.p, snd_aug (.inr ⟨hs, rfl⟩) q.h.ee (own1_spec hi).2.1 (own1_spec hi).2.2⟩ else none
  | none => none
noncomputable def appX {sc : Sc} (f : (e : Expr) → Option (GE prog w Γ n C sc e)) (m : Str) (ap cp pos : Pos) : (o e : Expr) → Option (GS prog w Γ n C sc (.Expr (.Call (.Attribute o m ap) [e] [] cp) pos))
  | .Name x _, .List [] _ => if hm : m = "append" ∧ ap.endLine = cp.line then (match hi : own1 sc x with
    | some i => some ⟨.appendNew i, snd_appendNew hm.1 hm.2 (own1_spec hi).2.2 (own1_spec hi).1⟩
    | none => none) else none
  | .Name x _, e => if hm : m = "append" ∧ ap.endLine = cp.line then (match hi : own1 sc x with
    | some i => (f e).map fun q => ⟨.append i q.p, snd_append q.h.ee q.h.st hm.1 hm.2 (own1_spec hi).2.2 (own1_spec hi).1⟩
    | none => none) else none
  | .Subscript (.Name x _) (.UnaryOp .USub (.Constant (.int 1) _ _) _) _, e => if hm : m = "append" ∧ ap.endLine = cp.line then (match hi : own1 sc x with
    | some i => (f e).map fun q => ⟨.appendLast i q.p, snd_appendLast q.h.ee q.h.st hm.1 hm.2 (own1_spec hi).2.2 (own1_spec hi).1⟩
    | none => none) else none
  | _, _ => none
noncomputable def setX {sc : Sc} (f : (e : Expr) → Option (GE prog w Γ n C sc e)) (os : OwedS prog w Γ n C) (g x : Str) (gp xp cp pos : Pos) (k e : Expr) : Option (GS prog w Γ n C sc (.Expr (.Call (.Name g gp) [.Name x xp, k, e] [] cp) pos)) :=
  if hc : isGlob sc g = true ∧ g = "setitem" then (match hi : own1 sc x with
    | some i => (f k).bind fun q => (f e).map fun r => ⟨.callSet i q.p r.p, os _ _ _ _ _ _ _ _ _ _ _ _ hc.1 hc.2 (own1_spec hi).2.2 (own1_spec hi).1 q.h.ee r.h.ee q.h.st r.h.st⟩
    | none => none) else none
noncomputable def forX {sc : Sc} (f : (e : Expr) → Option (GE prog w Γ n C sc e)) {a : List Stmt} (g : Option (GB prog w Γ n C sc a)) (t it : Expr) (els : List Stmt) (pos : Pos) : Option (GS prog w Γ n C sc (.For t it a els pos)) :=
  (iterX f t it).bind fun pi => (match ht : targets sc t with
    | some ts => g.bind fun q => if he : els.isEmpty = true then some ⟨.fors ts pi.p q.p false, snd_for pi.h ht q.h (fun _ => List.isEmpty_iff.mp he) pi.fs⟩
      else if isRaise els then some ⟨.fors ts pi.p q.p true, snd_for pi.h ht q.h (fun e => by cases e) pi.fs⟩ else none
    | none => none)
noncomputable def zipX {sc : Sc} (f : (e : Expr) → Option (GE prog w Γ n C sc e)) (oz : OwedZ prog w Γ n C) {b : List Stmt} (gb : Option (GB prog w Γ n C sc b)) (t : Expr) (g g2 g3 : Str) (p1 p2 p3 p4 p5 p6 p7 pos : Pos) (kk : Nat) (a : Expr) : Option (GS prog w Γ n C sc (.For t (.Call (.Name g p1) [.Call (.Name g2 p2) [.Constant (.int 3) kk p3] [] p4, .Call (.Name g3 p5) [a] [] p6] [] p7) b [] pos)) :=
  if hc : isGlob sc g = true ∧ isGlob sc g2 = true ∧ isGlob sc g3 = true ∧ g = "zip" ∧ g2 = "range" ∧ g3 = "_grouping_intervals" ∧ isTup t = true then (f a).bind fun p => (match ht : targets sc t with
    | some ts => gb.map fun q => ⟨.fors ts (.zipg 3 p.p) q.p false, oz _ _ _ _ _ _ _ _ _ _ _ _ _ _ _ _ _ _ _ hc.1 hc.2.1 hc.2.2.1 hc.2.2.2.1 hc.2.2.2.2.1 hc.2.2.2.2.2.1 hc.2.2.2.2.2.2 p.h.ee p.h.st ht q.h⟩
    | none => none) else none

mutual
noncomputable def compXS (hC : CallsOK prog w Γ n C) (ow : Owed prog w Γ n C) (os : OwedS prog w Γ n C) (oz : OwedZ prog w Γ n C) : Nat → (sc : Sc) → (st : Stmt) → Option (GS prog w Γ n C sc st)
  | 0, _, _ => none
  | d + 1, sc, st => match st with
    | .Assign ts e pos => asgX (compX hC ow d sc) pos ts e
    | .AugAssign (.Name x px) op e pos => augX (compX hC ow d sc) x px pos op e
    | .Expr (.Call (.Attribute o m ap) [e] [] cp) pos => appX (compX hC ow d sc) m ap cp pos o e
    | .Expr (.Call (.Name g gp) [.Name x xp, k, e] [] cp) pos => setX (compX hC ow d sc) os g x gp xp cp pos k e
    | .If c a b _ => (compX hC ow d sc c).bind fun p => (compXB hC ow os oz d sc a).bind fun q => (compXB hC ow os oz d sc b).map fun r => ⟨.ifs p.p q.p r.p, snd_if p.h.tt q.h r.h⟩
    | .While c a [] _ => (compX hC ow d sc c).bind fun p => (compXB hC ow os oz d sc a).map fun q => ⟨.whiles p.p q.p, snd_while p.h.tt q.h⟩
    | .For t (.Call (.Name g p1) [.Call (.Name g2 p2) [.Constant (.int 3) kk p3] [] p4, .Call (.Name g3 p5) [a] [] p6] [] p7) b [] pos => zipX (compX hC ow d sc) oz (compXB hC ow os oz d sc b) t g g2 g3 p1 p2 p3 p4 p5 p6 p7 pos kk a
    | .For t it a els pos => forX (compX hC ow d sc) (compXB hC ow os oz d sc a) t it els pos
    | .Return (some e) _ => (compX hC ow d sc e).map fun p => ⟨.ret p.p, snd_ret p.h.ee⟩
    | .Continue _ => some ⟨.cont, snd_cont⟩
    | _ => none
noncomputable def compXB (hC : CallsOK prog w Γ n C) (ow : Owed prog w Γ n C) (os : OwedS prog w Γ n C) (oz : OwedZ prog w Γ n C) : Nat → (sc : Sc) → (b : List Stmt) → Option (GB prog w Γ n C sc b)
  | 0, _, _ => none
  | d + 1, sc, b => match b with
    | [] => some ⟨.nil, sndB_nil⟩
    | st :: r => (compXS hC ow os oz d sc st).bind fun p => (compXB hC ow os oz d sc r).map fun q => ⟨.cons p.p q.p, sndB_cons p.h q.h⟩
end
end
end Mine

namespace Mine
/-! the program's functions in the small language (printed by gen_fns.py) -/
noncomputable def fn_lt : PFun := ⟨8, (.cons (.ret (.cmp .lt (.var 0) (.var 1))) .nil)⟩
noncomputable def fn_add : PFun := ⟨8, (.cons (.ret (.bin .add (.var 0) (.var 1))) .nil)⟩
noncomputable def fn_mul : PFun := ⟨8, (.cons (.ret (.bin .mul (.var 0) (.var 1))) .nil)⟩
noncomputable def fn_sub : PFun := ⟨8, (.cons (.ret (.bin .sub (.var 0) (.var 1))) .nil)⟩
noncomputable def fn_contains : PFun := ⟨8, (.cons (.ret (.cmp .mem (.var 1) (.var 0))) .nil)⟩
noncomputable def fn_getitem : PFun := ⟨8, (.cons (.ret (.sub (.var 0) (.var 1))) .nil)⟩
noncomputable def fn_setitem : PFun := ⟨9, (.cons (.setItem 0 (.var 1) (.var 2)) .nil)⟩
noncomputable def fn_iadd : PFun := ⟨8, (.cons (.aug 0 .add (.var 1)) (.cons (.ret (.var 0)) .nil))⟩
noncomputable def fn_isub : PFun := ⟨8, (.cons (.aug 0 .sub (.var 1)) (.cons (.ret (.var 0)) .nil))⟩
noncomputable def fn_ISNONTERMINAL : PFun := ⟨8, (.cons (.ret (.cmp .ge (.var 0) (.lit (.int (256))))) .nil)⟩
noncomputable def fn_sub_cost : PFun := ⟨10, (.cons (.ifs (.cmp .eq (.var 0) (.var 1)) (.cons (.ret (.lit (.int (0)))) .nil) .nil) (.cons (.ifs (.cmp .eq (.lower (.var 0)) (.lower (.var 1))) (.cons (.ret (.lit (.int (1)))) .nil) .nil) (.cons (.ret (.lit (.int (2)))) .nil)))⟩
noncomputable def p_lev_w1c : PE := (.and (.slice (.var 0) (.var 3) (.lit .none) (.lit .none)) (.and (.slice (.var 1) (.var 3) (.lit .none) (.lit .none)) (.cmp .eq (.sub (.var 0) (.var 3)) (.sub (.var 1) (.var 3)))))
noncomputable def p_lev_w1b : PB := (.cons (.aug 3 .add (.lit (.int (1)))) .nil)
noncomputable def p_lev_w2c : PE := (.and (.slice (.var 0) (.lit .none) (.or (.var 4) (.lit .none)) (.lit .none)) (.and (.slice (.var 1) (.lit .none) (.or (.var 4) (.lit .none)) (.lit .none)) (.cmp .eq (.sub (.var 0) (.bin .sub (.var 4) (.lit (.int (1))))) (.sub (.var 1) (.bin .sub (.var 4) (.lit (.int (1))))))))
noncomputable def p_lev_w2b : PB := (.cons (.aug 4 .sub (.lit (.int (1)))) .nil)
noncomputable def p_lev_w3b : PB := (.cons (.asg 12 (.bin .add (.var 9) (.call 11 (.cons (.var 8) (.cons (.sub (.var 0) (.var 11)) .nil))))) (.cons (.asg 9 (.sub (.var 5) (.var 11))) (.cons (.asg 13 (.bin .add (.bi .min2 (.cons (.var 6) (.cons (.var 9) .nil))) (.lit (.int (2))))) (.cons (.asg 6 (.bi .min2 (.cons (.var 13) (.cons (.var 12) .nil)))) (.cons (.setItem 5 (.var 11) (.var 6)) (.cons (.ifs (.cmp .lt (.var 6) (.var 10)) (.cons (.asg 10 (.var 6)) .nil) .nil) .nil))))))
noncomputable def p_lev_w4b : PB := (.cons (.asg 8 (.sub (.var 1) (.var 7))) (.cons (.asg2 9 6 (.bin .mul (.var 7) (.lit (.int (2))))) (.cons (.asg 10 (.lit (.int (9223372036854775807)))) (.cons (.fors [11] (.range (.bi .len (.cons (.var 0) .nil))) p_lev_w3b false) (.cons (.ifs (.cmp .gt (.var 10) (.var 2)) (.cons (.ret (.bin .add (.var 2) (.lit (.int (1))))) .nil) .nil) .nil)))))
noncomputable def fn_lev : PFun := ⟨27, (.cons (.ifs (.cmp .eq (.var 0) (.var 1)) (.cons (.ret (.lit (.int (0)))) .nil) .nil) (.cons (.asg 3 (.lit (.int (0)))) (.cons (.whiles p_lev_w1c p_lev_w1b) (.cons (.asg 0 (.slice (.var 0) (.var 3) (.lit .none) (.lit .none))) (.cons (.asg 1 (.slice (.var 1) (.var 3) (.lit .none) (.lit .none))) (.cons (.asg 4 (.lit (.int (0)))) (.cons (.whiles p_lev_w2c p_lev_w2b) (.cons (.asg 0 (.slice (.var 0) (.lit .none) (.or (.var 4) (.lit .none)) (.lit .none))) (.cons (.asg 1 (.slice (.var 1) (.lit .none) (.or (.var 4) (.lit .none)) (.lit .none))) (.cons (.ifs (.or (.not (.var 0)) (.not (.var 1))) (.cons (.ret (.bin .mul (.lit (.int (2))) (.bin .add (.bi .len (.cons (.var 0) .nil)) (.bi .len (.cons (.var 1) .nil))))) .nil) .nil) (.cons (.ifs (.or (.cmp .gt (.bi .len (.cons (.var 0) .nil)) (.lit (.int (40)))) (.cmp .gt (.bi .len (.cons (.var 1) .nil)) (.lit (.int (40))))) (.cons (.ret (.bin .add (.var 2) (.lit (.int (1))))) .nil) .nil) (.cons (.ifs (.cmp .lt (.bi .len (.cons (.var 1) .nil)) (.bi .len (.cons (.var 0) .nil))) (.cons (.swap 0 1) .nil) .nil) (.cons (.ifs (.cmp .gt (.bin .mul (.bin .sub (.bi .len (.cons (.var 1) .nil)) (.bi .len (.cons (.var 0) .nil))) (.lit (.int (2)))) (.var 2)) (.cons (.ret (.bin .add (.var 2) (.lit (.int (1))))) .nil) .nil) (.cons (.asgOwn 5 true (.bi .rangeL (.cons (.lit (.int (2))) (.cons (.bin .mul (.lit (.int (2))) (.bin .add (.bi .len (.cons (.var 0) .nil)) (.lit (.int (1))))) (.cons (.lit (.int (2))) .nil))))) (.cons (.asg 6 (.lit (.int (0)))) (.cons (.fors [7] (.range (.bi .len (.cons (.var 1) .nil))) p_lev_w4b false) (.cons (.ret (.var 6)) .nil)))))))))))))))))⟩
noncomputable def fn_law_rulers : PFun := ⟨11, (.cons (.asgT [2, 3, 4] (.var 0)) (.cons (.ifs (.cmp .eq (.var 1) (.lit (.int (0)))) (.cons (.ret (.tup (.cons (.var 0) (.cons (.var 0) .nil)))) .nil) .nil) (.cons (.ifs (.cmp .eq (.var 1) (.lit (.int (1)))) (.cons (.ret (.tup (.cons (.list (.cons (.var 2) (.cons (.var 3) (.cons (.lit (.int (0))) (.cons (.var 4) .nil))))) (.cons (.list (.cons (.var 2) (.cons (.var 3) (.cons (.var 3) .nil)))) .nil)))) .nil) .nil) (.cons (.ifs (.cmp .eq (.var 1) (.lit (.int (2)))) (.cons (.ret (.tup (.cons (.list (.cons (.var 2) (.cons (.var 3) (.cons (.lit (.int (127))) (.cons (.var 4) .nil))))) (.cons (.list (.cons (.var 2) (.cons (.var 3) .nil))) .nil)))) .nil) .nil) (.cons (.ret (.tup (.cons (.list (.cons (.var 2) (.cons (.lit (.int (0))) (.cons (.var 4) .nil)))) (.cons (.list (.cons (.var 2) (.cons (.var 2) (.cons (.var 2) .nil)))) .nil)))) .nil)))))⟩
noncomputable def p_l_cut_w1b : PB := (.cons (.append 2 (.slice (.var 0) (.lit .none) (.var 4) (.lit .none))) (.cons (.asg 0 (.slice (.var 0) (.var 4) (.lit .none) (.lit .none))) .nil))
noncomputable def fn_law_cut : PFun := ⟨14, (.cons (.asgOwn 2 false (.list .nil)) (.cons (.fors [3, 4] (.zipg 3 (.var 1)) p_l_cut_w1b false) (.cons (.ret (.slice (.bin .add (.bin .add (.list (.cons (.lit (.str (Str.ofString ""))) (.cons (.lit (.str (Str.ofString ""))) (.cons (.lit (.str (Str.ofString ""))) .nil)))) (.var 2)) (.list (.cons (.var 0) .nil))) (.neg (.lit (.int (4)))) (.lit .none) (.lit .none))) .nil)))⟩
noncomputable def p_l_read_w1c : PE := (.var 0)
noncomputable def p_l_read_w1b : PB := (.cons (.asg 2 (.ite (.call 4 (.cons (.lit .tok) (.cons (.slice (.var 0) (.lit .none) (.lit (.int (2))) (.lit .none)) .nil))) (.lit (.int (2))) (.lit (.int (1))))) (.cons (.ifs (.call 4 (.cons (.lit .tok) (.cons (.slice (.var 0) (.lit .none) (.var 2) (.lit .none)) .nil))) (.cons (.asg 3 (.call 5 (.cons (.lit .tok) (.cons (.slice (.var 0) (.lit .none) (.var 2) (.lit .none)) .nil)))) .nil) (.cons (.asg 3 (.call 1 (.cons (.lit (.int (256))) (.cons (.idxOf 0) .nil)))) .nil)) (.cons (.ifs (.cmp .eq (.var 3) (.lit (.int (12)))) (.cons (.appendNew 1) .nil) (.cons (.appendLast 1 (.var 3)) .nil)) (.cons (.asg 0 (.slice (.var 0) (.var 2) (.lit .none) (.lit .none))) .nil))))
noncomputable def fn_law_read : PFun := ⟨15, (.cons (.asgOwn2 1) (.cons (.whiles p_l_read_w1c p_l_read_w1b) (.cons (.ret (.var 1)) .nil)))⟩
noncomputable def p_l_steps_w1e : PE := (.call 3 (.cons (.var 8) (.cons (.lit (.int (256))) .nil)))
noncomputable def p_l_steps_w2b : PB := (.cons (.asgT [4, 5] (.comp p_l_steps_w1e [8] (.expr (.var 3)) (.call 10 (.cons (.var 8) .nil)))) (.cons (.append 2 (.tup (.cons (.var 4) (.cons (.var 5) (.cons (.sub (.var 3) (.lit (.int (1)))) (.cons (.call 12 (.cons (.sub (.var 1) (.var 4)) (.cons (.sub (.var 1) (.var 5)) (.cons (.lit (.int (18))) .nil)))) .nil)))))) .nil))
noncomputable def fn_law_steps : PFun := ⟨13, (.cons (.asgOwn 2 false (.list .nil)) (.cons (.fors [3] (.expr (.var 0)) p_l_steps_w2b false) (.cons (.ret (.var 2)) .nil)))⟩
noncomputable def p_l_walks_w1b : PB := (.cons (.asg 8 (.call 5 (.cons (.sub (.var 1) (.neg (.lit (.int (1))))) (.cons (.var 4) .nil)))) (.cons (.ifs (.cmp .isNone (.var 8) (.lit .none)) (.cons .cont .nil) .nil) (.cons (.asg 8 (.ite (.cmp .eq (.var 6) (.lit (.int (36)))) (.call 8 (.cons (.var 8) (.cons (.var 7) .nil))) (.call 9 (.cons (.var 8) (.cons (.var 7) .nil))))) (.cons (.ifs (.or (.cmp .isNone (.sub (.var 3) (.var 5)) (.lit .none)) (.call 0 (.cons (.var 8) (.cons (.sub (.var 3) (.var 5)) .nil)))) (.cons (.callSet 3 (.var 5) (.var 8)) .nil) .nil) .nil))))
noncomputable def p_l_walks_w2b : PB := (.cons (.asgOwn 3 true (.list (.cons (.lit .none) (.cons (.lit .none) (.cons (.lit .none) (.cons (.lit .none) .nil)))))) (.cons (.fors [4, 5, 6, 7] (.expr (.var 0)) p_l_walks_w1b false) (.cons (.append 1 (.var 3)) .nil)))
noncomputable def fn_law_walks : PFun := ⟨21, (.cons (.asgOwn 1 false (.list (.cons (.list (.cons (.lit (.int (0))) (.cons (.lit (.int (0))) (.cons (.lit (.int (0))) (.cons (.lit (.int (0))) .nil))))) .nil))) (.cons (.fors [2] (.range (.lit (.int (4)))) p_l_walks_w2b false) (.cons (.ret (.var 1)) .nil)))⟩
noncomputable def p_l_mean_w1b : PB := (.cons (.ifs (.cmp .notNone (.sub (.sub (.var 0) (.var 5)) (.var 2)) (.lit .none)) (.cons (.asg 6 (.tup (.cons (.call 3 (.cons (.var 3) (.cons (.sub (.sub (.var 0) (.var 5)) (.var 2)) .nil))) (.cons (.bin .sub (.lit (.int (4))) (.var 5)) .nil)))) (.cons (.ifs (.call 0 (.cons (.call 2 (.cons (.sub (.var 4) (.lit (.int (0)))) (.cons (.sub (.var 6) (.lit (.int (1)))) .nil))) (.cons (.call 2 (.cons (.sub (.var 6) (.lit (.int (0)))) (.cons (.sub (.var 4) (.lit (.int (1)))) .nil))) .nil))) (.cons (.asg 4 (.var 6)) .nil) .nil) .nil)) .nil) .nil)
noncomputable def p_l_mean_w2b : PB := (.cons (.ifs (.cmp .isNone (.var 3) (.lit .none)) (.cons .cont .nil) .nil) (.cons (.asg 4 (.tup (.cons (.var 3) (.cons (.lit (.int (4))) .nil)))) (.cons (.fors [5] (.expr (.tup (.cons (.lit (.int (1))) (.cons (.lit (.int (2))) (.cons (.lit (.int (3))) .nil))))) p_l_mean_w1b false) (.cons (.ifs (.or (.cmp .isNone (.var 1) (.lit .none)) (.call 0 (.cons (.call 2 (.cons (.sub (.var 4) (.lit (.int (0)))) (.cons (.sub (.var 1) (.lit (.int (1)))) .nil))) (.cons (.call 2 (.cons (.sub (.var 1) (.lit (.int (0)))) (.cons (.sub (.var 4) (.lit (.int (1)))) .nil))) .nil)))) (.cons (.asg 1 (.var 4)) .nil) .nil) .nil))))
noncomputable def fn_law_mean : PFun := ⟨17, (.cons (.asg 1 (.lit .none)) (.cons (.fors [2, 3] (.enum (.sub (.var 0) (.lit (.int (4))))) p_l_mean_w2b false) (.cons (.ret (.var 1)) .nil)))⟩
noncomputable def p_l_price_w1e : PE := (.bin .mul (.lit (.int (2))) (.var 13))
noncomputable def p_l_price_w2b : PB := (.cons (.asg 7 (.ite (.cmp .ne (.bin .fdiv (.var 3) (.lit (.int (2)))) (.bin .fdiv (.var 6) (.lit (.int (2))))) (.lit (.int (2))) (.ite (.cmp .ne (.var 3) (.var 6)) (.lit (.int (1))) (.lit (.int (0)))))) (.cons (.append 4 (.bi .min3 (.cons (.bin .add (.sub (.var 2) (.var 5)) (.var 7)) (.cons (.bin .add (.sub (.var 2) (.bin .add (.var 5) (.lit (.int (1))))) (.lit (.int (2)))) (.cons (.bin .add (.sub (.var 4) (.neg (.lit (.int (1))))) (.lit (.int (2)))) .nil))))) .nil))
noncomputable def p_l_price_w3b : PB := (.cons (.asgOwn 4 false (.list (.cons (.bin .add (.sub (.var 2) (.lit (.int (0)))) (.lit (.int (2)))) .nil))) (.cons (.fors [5, 6] (.enum (.var 1)) p_l_price_w2b false) (.cons (.asg 2 (.var 4)) .nil)))
noncomputable def fn_law_price : PFun := ⟨18, (.cons (.asg 2 (.comp p_l_price_w1e [13] (.range (.bin .add (.bi .len (.cons (.var 1) .nil)) (.lit (.int (1))))) (.lit (.bool true)))) (.cons (.fors [3] (.expr (.var 0)) p_l_price_w3b false) (.cons (.ret (.sub (.var 2) (.neg (.lit (.int (1)))))) .nil)))⟩
noncomputable def p_l_shared_w1b : PB := (.cons (.append 2 (.slice (.var 0) (.lit .none) (.var 3) (.lit .none))) (.cons (.asg 0 (.slice (.var 0) (.var 3) (.lit .none) (.lit .none))) .nil))
noncomputable def fn_law_shared : PFun := ⟨10, (.cons (.asgOwn 2 false (.list .nil)) (.cons (.fors [3] (.expr (.var 1)) p_l_shared_w1b false) (.cons (.ret (.slice (.bin .add (.bin .add (.list (.cons (.list .nil) .nil)) (.var 2)) (.list (.cons (.var 0) .nil))) (.neg (.lit (.int (4)))) (.lit .none) (.lit .none))) .nil)))⟩
noncomputable def p_l_rounds_w1b : PB := (.cons (.ifs (.and (.cmp .eq (.var 4) (.sub (.var 1) (.neg (.lit (.int (1)))))) (.cmp .eq (.var 5) (.sub (.var 1) (.lit (.int (0)))))) (.cons (.append 3 (.bin .fdiv (.bin .mul (.lit (.int (12))) (.bin .add (.var 2) (.var 6))) (.bi .len (.cons (.var 1) .nil)))) .nil) (.cons (.ifs (.and (.cmp .eq (.var 4) (.sub (.var 1) (.neg (.lit (.int (1)))))) (.cmp .notMem (.var 5) (.var 1))) (.cons (.augL 3 (.call 21 (.cons (.var 0) (.cons (.bin .add (.var 1) (.list (.cons (.var 5) .nil))) (.cons (.bin .add (.var 2) (.var 6)) .nil))))) .nil) .nil) .nil)) .nil)
noncomputable def fn_law_rounds : PFun := ⟨15, (.cons (.asgOwn 3 false (.list .nil)) (.cons (.fors [4, 5, 6] (.expr (.var 0)) p_l_rounds_w1b false) (.cons (.ret (.var 3)) .nil)))⟩
noncomputable def p_law_w1e : PE := (.bin .mod (.bi .toInt (.cons (.var 26) .nil)) (.lit (.int (1000000))))
noncomputable def p_law_w2e : PE := (.bin .mod (.bin .add (.var 27) (.bi .sumL (.cons (.slice (.var 1) (.var 26) (.lit .none) (.lit (.int (9)))) .nil))) (.lit (.int (4))))
noncomputable def p_law_w3e : PE := (.bin .add (.bin .mod (.bin .add (.var 27) (.bi .sumL (.cons (.slice (.var 1) (.var 26) (.lit .none) (.lit (.int (3)))) .nil))) (.lit (.int (3)))) (.lit (.int (1))))
noncomputable def p_law_w4e : PE := (.bin .add (.var 27) (.bi .sumL (.cons (.slice (.var 1) (.var 26) (.lit .none) (.lit (.int (6)))) .nil)))
noncomputable def p_law_w5e : PE := (.tup (.cons (.bin .mod (.var 26) (.lit (.int (4)))) (.cons (.bin .mod (.bin .add (.bin .add (.bin .mod (.var 26) (.lit (.int (4)))) (.lit (.int (1)))) (.bin .mod (.bin .fdiv (.var 26) (.lit (.int (4)))) (.lit (.int (3))))) (.lit (.int (4)))) (.cons (.bin .mod (.bin .fdiv (.var 26) (.lit (.int (12)))) (.lit (.int (2)))) .nil))))
noncomputable def p_law_w6e : PE := (.sub (.lit (.str (Str.ofString "aAbB"))) (.var 26))
noncomputable def p_law_w7e : PE := (.bin .add (.bin .add (.sub (.lit (.str (Str.ofString "abcd"))) (.var 26)) (.sub (.list (.cons (.lit (.str (Str.ofString "+="))) (.cons (.lit (.str (Str.ofString "-="))) .nil))) (.var 28))) (.sub (.lit (.str (Str.ofString "abcd"))) (.var 27)))
noncomputable def p_law_w8e : PE := (.tup (.cons (.var 26) (.cons (.var 27) (.cons (.bin .mul (.bin .sub (.lit (.int (1))) (.bin .mul (.lit (.int (2))) (.var 28))) (.call 19 (.cons (.sub (.var 11) (.var 26)) (.cons (.sub (.var 11) (.var 27)) .nil)))) .nil))))
noncomputable def fn_law : PFun := ⟨31, (.cons (.asg 1 (.comp p_law_w1e [26] (.expr (.slice (.var 0) (.lit .none) (.lit (.int (60))) (.lit .none))) (.lit (.bool true)))) (.cons (.asg 2 (.comp p_law_w2e [26, 27] (.enum (.list (.cons (.lit (.int (0))) (.cons (.lit (.int (3))) (.cons (.lit (.int (1))) (.cons (.lit (.int (2))) (.cons (.lit (.int (0))) (.cons (.lit (.int (2))) (.cons (.lit (.int (0))) (.cons (.lit (.int (1))) (.cons (.lit (.int (2))) .nil))))))))))) (.lit (.bool true)))) (.cons (.asg 3 (.comp p_law_w3e [26, 27] (.enum (.list (.cons (.lit (.int (1))) (.cons (.lit (.int (2))) (.cons (.lit (.int (0))) .nil))))) (.lit (.bool true)))) (.cons (.asg 4 (.comp p_law_w4e [26, 27] (.enum (.list (.cons (.lit (.int (0))) (.cons (.lit (.int (13))) (.cons (.lit (.int (6))) (.cons (.lit (.int (14))) (.cons (.lit (.int (7))) (.cons (.lit (.int (9))) .nil)))))))) (.lit (.bool true)))) (.cons (.asg 5 (.comp p_law_w5e [26] (.expr (.var 4)) (.lit (.bool true)))) (.cons (.asgT [6, 7] (.call 13 (.cons (.var 3) (.cons (.bin .mod (.bi .sumL (.cons (.var 1) .nil)) (.lit (.int (4)))) .nil)))) (.cons (.asg 8 (.call 14 (.cons (.join (.lit (.str (Str.ofString ""))) (.comp p_law_w6e [26] (.expr (.var 2)) (.lit (.bool true)))) (.cons (.var 6) .nil)))) (.cons (.asg 9 (.join (.lit (.str (Str.ofString ","))) (.comp p_law_w7e [26, 27, 28] (.expr (.var 5)) (.lit (.bool true))))) (.cons (.asg 10 (.call 18 (.cons (.call 17 (.cons (.call 16 (.cons (.call 15 (.cons (.var 9) .nil)) (.cons (.var 8) .nil))) .nil)) .nil))) (.cons (.asg 11 (.call 20 (.cons (.var 2) (.cons (.var 7) .nil)))) (.cons (.asg 12 (.comp p_law_w8e [26, 27, 28] (.expr (.var 5)) (.lit (.bool true)))) (.cons (.asg 13 (.flat 26 (.range (.lit (.int (4)))) (.call 21 (.cons (.var 12) (.cons (.list (.cons (.var 26) .nil)) (.cons (.lit (.int (0))) .nil)))))) (.cons (.ifs (.not (.var 13)) (.cons (.ret (.cmp .isNone (.var 10) (.lit .none))) .nil) .nil) (.cons (.ret (.and (.cmp .notNone (.var 10) (.lit .none)) (.cmp .eq (.bin .mul (.lit (.int (12))) (.sub (.var 10) (.lit (.int (0))))) (.bin .mul (.bi .minL (.cons (.var 13) .nil)) (.sub (.var 10) (.lit (.int (1)))))))) .nil))))))))))))))⟩
noncomputable def tabL : List (Option (Nat × PFun)) := [some (2, fn_lt), some (2, fn_add), some (2, fn_mul), some (2, fn_sub), some (2, fn_contains), some (2, fn_getitem), none, some (3, fn_setitem), some (2, fn_iadd), some (2, fn_isub), some (1, fn_ISNONTERMINAL), some (2, fn_sub_cost), some (3, fn_lev), some (2, fn_law_rulers), some (2, fn_law_cut), some (1, fn_law_read), some (2, fn_law_steps), some (1, fn_law_walks), some (1, fn_law_mean), some (2, fn_law_price), some (2, fn_law_shared), some (3, fn_law_rounds)]
noncomputable def tab' : Nat → Option (Nat × PFun) := fun f => (tabL[f]?).bind id
theorem tab_lt : tab' 0 = some (2, fn_lt) := rfl
theorem tab_add : tab' 1 = some (2, fn_add) := rfl
theorem tab_mul : tab' 2 = some (2, fn_mul) := rfl
theorem tab_sub : tab' 3 = some (2, fn_sub) := rfl
theorem tab_contains : tab' 4 = some (2, fn_contains) := rfl
theorem tab_getitem : tab' 5 = some (2, fn_getitem) := rfl
theorem tab_setitem : tab' 7 = some (3, fn_setitem) := rfl
theorem tab_iadd : tab' 8 = some (2, fn_iadd) := rfl
theorem tab_isub : tab' 9 = some (2, fn_isub) := rfl
theorem tab_ISNONTERMINAL : tab' 10 = some (1, fn_ISNONTERMINAL) := rfl
theorem tab_sub_cost : tab' 11 = some (2, fn_sub_cost) := rfl
theorem tab_lev : tab' 12 = some (3, fn_lev) := rfl
theorem tab_law_rulers : tab' 13 = some (2, fn_law_rulers) := rfl
theorem tab_law_cut : tab' 14 = some (2, fn_law_cut) := rfl
theorem tab_law_read : tab' 15 = some (1, fn_law_read) := rfl
theorem tab_law_steps : tab' 16 = some (2, fn_law_steps) := rfl
theorem tab_law_walks : tab' 17 = some (1, fn_law_walks) := rfl
theorem tab_law_mean : tab' 18 = some (1, fn_law_mean) := rfl
theorem tab_law_price : tab' 19 = some (2, fn_law_price) := rfl
theorem tab_law_shared : tab' 20 = some (2, fn_law_shared) := rfl
theorem tab_law_rounds : tab' 21 = some (3, fn_law_rounds) := rfl
end Mine

namespace Mine

noncomputable def funOK (ps : Arguments) (s : Scope) : Bool :=
  ps.posonlyargs.isEmpty && ps.vararg.isNone && ps.kwonlyargs.isEmpty && ps.kwarg.isNone && decide ((ps.args.map (·.arg)).Nodup) &&
  (s.names.take ps.args.length == ps.args.map fun a => (a.arg, NameKind.local)) && s.kind == .function && !s.isCoroutine && !s.isGenerator && s.names.all fun p => (p.2 == .local || p.2 == .globalImplicit) && s.names.lookup p.1 == some p.2

theorem posOf_get {x : Str} : ∀ {l : List (Str × NameKind)} {n : Nat} {k : NameKind}, l.lookup x = some k → ∃ i, posOf x l n = some (n + i) ∧ (l[i]?) = some (x, k)
  | [], _, _, h => by cases h
  | (y, j) :: r, n, k, h => by
    rw [List.lookup_cons] at h
    rewrite [qPos]
    split at h
    · rename_i e
      have := eq_of_beq e; subst this
      cases h
      exact ⟨0, by simp, rfl⟩
    · rename_i e
      have hxy : x ≠ y := by simpa using e
      obtain ⟨i, h1, h2⟩ := posOf_get (n := n + 1) h
      exact ⟨i + 1, by rw [if_neg hxy, h1]; congr 1; (first | lia | omega), by simpa using h2⟩

theorem zip_rev_lookup : ∀ {ns : List Str} {vs : List Value} {i : Nat} {x : Str} {v : Value}, ns.Nodup → ns[i]? = some x → vs[i]? = some v → (ns.zip vs).reverse.lookup x = some v := by
  intro ns
  induction ns with
  | nil => intro vs i x v _ h; simp at h
  | cons y r ih =>
    intro vs i x v hn hx hv
    cases vs with
    | nil => simp at hv
    | cons u us =>
      rw [List.nodup_cons] at hn
      rw [List.zip_cons_cons, List.reverse_cons, List.lookup_append]
      cases i with
      | zero =>
        simp at hx hv
        subst hx hv
        have : (r.zip us).reverse.lookup y = none := by
          rw [List.lookup_eq_none_iff]
          intro p hp
          simp only [List.mem_reverse] at hp
          have := (List.of_mem_zip hp).1
          simp only [bne_iff_ne, ne_eq]
          rintro rfl; exact hn.1 this
        rw [this]; simp
      | succ i =>
        simp at hx hv
        rw [ih hn.2 hx hv]; rfl

section
variable {prog : Program} {w : World} {Γ : Gp} {n : Nat} {A : Around} {X : List Addr} {s : Shared}

theorem funOK_spec {ps : Arguments} {sc : Scope} (h : funOK ps sc = true) : ps = ⟨[], ps.args, none, [], ps.kw_defaults, none, ps.defaults⟩ ∧ (ps.args.map (·.arg)).Nodup ∧ sc.names.take ps.args.length = (ps.args.map fun a => (a.arg, NameKind.local)) ∧
    sc.kind = .function ∧ sc.isCoroutine = false ∧ sc.isGenerator = false ∧ ∀ p ∈ sc.names, (p.2 = .local ∨ p.2 = .globalImplicit) ∧ sc.names.lookup p.1 = some p.2 := by
  unfold funOK at h
  simp only [Bool.and_eq_true, List.all_eq_true, Bool.or_eq_true, beq_iff_eq, decide_eq_true_eq, Bool.not_eq_true', List.isEmpty_iff, Option.isNone_iff_eq_none] at h
  obtain ⟨⟨⟨⟨⟨⟨⟨⟨⟨h1, h2⟩, h3⟩, h4⟩, h5⟩, h6⟩, h7⟩, h8⟩, h9⟩, h10⟩ := h
  refine ⟨?_, h5, h6, h7, h8, h9, h10⟩
  obtain ⟨a, b, c, d, e, f, g⟩ := ps
  simp only at h1 h2 h3 h4
  subst h1 h2 h3 h4
  rfl

theorem fx_call {name : Str} {ps : Arguments} {sc : Scope} {L a : Addr} {cd : Value} (h : funOK ps sc = true) : Fx (envOf name sc L a cd) (scOf sc) := by
  obtain ⟨_, _, _, hk, _, _, hn⟩ := funOK_spec h
  refine ⟨hk, rfl, rfl, fun x hx => hx, fun x hx => hx, fun x hx => hx, fun x hx => ?_, scOf_ok sc⟩
  have hx' : sc.names.lookup x = some .free := hx
  obtain ⟨h1, _⟩ := hn _ (mem_of_lookup hx')
  rcases h1 with h1 | h1 <;> cases h1

theorem args_get {args : List AV} {k i : Nat} {sl : Slot} (h : (args.map Slot.val ++ List.replicate k Slot.no)[i]? = some sl) : (∃ v, args[i]? = some v ∧ sl = .val v) ∨ (args.length ≤ i ∧ sl = .no) := by
  by_cases hi : i < args.length
  · rw [List.getElem?_append_left (by simpa using hi), List.getElem?_map, Option.map_eq_some_iff] at h
    obtain ⟨v, h1, h2⟩ := h
    exact .inl ⟨v, h1, h2.symm⟩
  · rw [List.getElem?_append_right (by simpa using hi)] at h
    have := List.getElem?_eq_some_iff.mp h
    obtain ⟨h1, h2⟩ := this
    simp at h2
    exact .inr ⟨by (first | lia | omega), h2.symm⟩

theorem fm_call {name : Str} {ps : Arguments} {sc : Scope} {a : Addr} {cd : Value} {args : List AV} {vs : List Value} {h₁ : Heap} {tk k : Nat} (h : funOK ps sc = true) (hg : GOK prog w Γ s.heap) (hl : Live X s.heap) (hv : VRs Γ.tokA (gX s.heap X) args vs) (hlen : args.length = ps.args.length)
    (F : Fr s.heap s.heap.objs.size h₁ (fun x => ((ps.args.map (·.arg)).zip vs).reverse.lookup x)) :
    Fm prog w Γ (envOf name sc s.heap.objs.size a cd) (scOf sc) s.heap X [s.heap.objs.size] (args.map .val ++ List.replicate k .no) (fun x => ((ps.args.map (·.arg)).zip vs).reverse.lookup x) (fun _ => []) { s with heap := h₁, toks := tk } := by
  obtain ⟨_, hnd, htake, hk, _, _, hn⟩ := funOK_spec h
  have hle : ps.args.length ≤ sc.names.length := by
    have := congrArg List.length htake
    simp at this; (first | lia | omega)
  have hsub : Sub (gX s.heap X) (gX h₁ (X ++ [s.heap.objs.size])) := fun b o e => by
    obtain ⟨e1, e2⟩ := gX_get e
    refine gX_of (F.keep b o e1) ?_
    rw [List.mem_append, not_or]
    exact ⟨e2, fun q => by simp at q; exact Nat.lt_irrefl _ (q ▸ Heap.lt_size e1)⟩
  have hnf : ∀ x, (scOf sc).kind x ≠ some .free := fun x hx => by
    have hx' : sc.names.lookup x = some .free := hx
    obtain ⟨h1, _⟩ := hn _ (mem_of_lookup hx')
    rcases h1 with h1 | h1 <;> cases h1
  have hnc : ∀ x, (scOf sc).kind x ≠ some .cell := fun x hx => by
    have hx' : sc.names.lookup x = some .cell := hx
    obtain ⟨h1, _⟩ := hn _ (mem_of_lookup hx')
    rcases h1 with h1 | h1 <;> cases h1
  constructor
  · exact ⟨hg, fun b o e => gX_of (F.keep b o e) fun q => by simp at q; exact Nat.lt_irrefl _ (q ▸ Heap.lt_size e)⟩
  · intro b hb
    rcases List.mem_append.mp hb with hb | hb
    · obtain ⟨o, e⟩ := hl b hb; exact ⟨o, F.keep b o e⟩
    · simp at hb; subst hb; obtain ⟨o, _, _, e, _⟩ := F.ns; exact ⟨o, e⟩
  · simp [envOf]
  · exact F.ns
  · intro x i v hx hi hv'
    have hx' : sc.names.lookup x = some .local := hx
    obtain ⟨j, h1, h2⟩ := posOf_get (n := 0) hx'
    have hi' : posOf x sc.names 0 = some i := hi
    rw [hi'] at h1
    have hij : i = j := by simpa using h1
    subst hij
    rcases args_get hv' with ⟨u, hu, e⟩ | ⟨_, e⟩
    · cases e
      have hil : i < ps.args.length := by
        have := (List.getElem?_eq_some_iff.mp hu).1; (first | lia | omega)
      have h3 : (sc.names.take ps.args.length)[i]? = some (x, .local) := by rw [List.getElem?_take_of_lt hil]; exact h2
      rw [htake, List.getElem?_map, Option.map_eq_some_iff] at h3
      obtain ⟨ar, h3, h4⟩ := h3
      have h5 : (ps.args.map (·.arg))[i]? = some x := by rw [List.getElem?_map, h3]; cases h4; rfl
      obtain ⟨v', hv1, hv2⟩ := hv.get hu
      exact ⟨v', zip_rev_lookup hnd h5 hv1, hv2.mono hsub⟩
    · cases e
  · intro x hx
    rcases hx with hx | hx
    · exact absurd hx (hnc x)
    · exact absurd hx (hnf x)
  · intro x c hx; exact absurd hx (hnc x)
  · intro x c hx; exact absurd hx (hnf x)
  · intro x y c hx; exact absurd hx (hnc x)
  · intro x i sl _ hs ho
    rcases args_get hs with ⟨u, _, rfl⟩ | ⟨_, rfl⟩ <;> cases ho
  · intro i b hb; cases hb
  · intro i j b hb; cases hb
  · intro i sl hi hs
    have hi' : sc.names.length ≤ i := hi
    rcases args_get hs with ⟨u, hu, _⟩ | ⟨_, e⟩
    · have := (List.getElem?_eq_some_iff.mp hu).1; (first | lia | omega)
    · exact e

/-- what a row of the table must be -/
structure TabOK (x : String) (k : Nat) (pf : PFun) : Prop where
  ok : ∃ ps b sc, theFun (Str.ofString x) body0 = some (ps, b, sc) ∧ funOK ps sc = true ∧ k = ps.args.length ∧
    ∀ (prog : Program) (w : World) (Γ : Gp) (n : Nat) (C : Nat → List AV → Option AV), CallsOK prog w Γ n C → Owed prog w Γ n C → OwedS prog w Γ n C → OwedZ prog w Γ n C → SndB' prog w Γ n C (scOf sc) b pf.body
noncomputable def dfltT : Arguments × List Stmt × Scope := (⟨[], [], none, [], [], none, []⟩, [], { kind := .function, names := [], isGenerator := false, isCoroutine := false })
noncomputable def tf (x : String) : Arguments × List Stmt × Scope := (theFun (Str.ofString x) body0).getD dfltT
theorem tab_row {x : String} {k : Nat} {pf : PFun} (h1 : theFun (Str.ofString x) body0 = some (tf x)) (h2 : funOK (tf x).1 (tf x).2.2 = true) (h3 : k = (tf x).1.args.length)
    (h5 : ∀ (prog : Program) (w : World) (Γ : Gp) (n : Nat) (C : Nat → List AV → Option AV) (hC : CallsOK prog w Γ n C) (ow : Owed prog w Γ n C) (os : OwedS prog w Γ n C) (oz : OwedZ prog w Γ n C), (compXB hC ow os oz 60 (scOf (tf x).2.2) (tf x).2.1).map (·.p) = some pf.body) : TabOK x k pf :=
  ⟨_, _, _, h1, h2, h3, fun prog w Γ n C hC ow os oz => by
    obtain ⟨g, _, e⟩ := Option.map_eq_some_iff.mp (h5 prog w Γ n C hC ow os oz)
    rw [← e]; exact g.h⟩
noncomputable def AllOK : List String → List (Option (Nat × PFun)) → Prop
  | x :: xs, t :: ts => (∀ k pf, t = some (k, pf) → TabOK x k pf) ∧ AllOK xs ts
  | _, [] => True
  | [], _ :: _ => False
theorem AllOK.get : ∀ {xs : List String} {ts : List (Option (Nat × PFun))}, AllOK xs ts → ∀ {i k : Nat} {pf : PFun}, ts[i]? = some (some (k, pf)) → ∃ x, xs[i]? = some x ∧ TabOK x k pf
  | _ :: _, t :: _, ⟨h, _⟩, 0, k, pf, e => ⟨_, rfl, h k pf (Option.some.inj e)⟩
  | _ :: _, _ :: _, ⟨_, h⟩, i + 1, k, pf, e => by
    rw [List.getElem?_cons_succ] at e ⊢
    exact AllOK.get h e
  | [], [], _, i, k, pf, e => by simp at e
  | _ :: _, [], _, i, k, pf, e => by simp at e
  | [], _ :: _, h, _, _, _, _ => h.elim
theorem one_row {x : String} {k : Nat} {pf : PFun} (h : TabOK x k pf) : ∀ k' pf', (some (k, pf) : Option (Nat × PFun)) = some (k', pf') → TabOK x k' pf' := fun k' pf' e => by cases e; exact h
theorem no_row {x : String} : ∀ k' pf', (none : Option (Nat × PFun)) = some (k', pf') → TabOK x k' pf' := fun _ _ e => by cases e
theorem row_lt : TabOK "lt" 2 fn_lt := tab_row (by kernel_rfl) (by kernel_rfl) (by kernel_rfl) fun _ _ _ _ _ _ _ _ _ => by kernel_rfl
theorem row_add : TabOK "add" 2 fn_add := tab_row (by kernel_rfl) (by kernel_rfl) (by kernel_rfl) fun _ _ _ _ _ _ _ _ _ => by kernel_rfl
theorem row_mul : TabOK "mul" 2 fn_mul := tab_row (by kernel_rfl) (by kernel_rfl) (by kernel_rfl) fun _ _ _ _ _ _ _ _ _ => by kernel_rfl
theorem row_sub : TabOK "sub" 2 fn_sub := tab_row (by kernel_rfl) (by kernel_rfl) (by kernel_rfl) fun _ _ _ _ _ _ _ _ _ => by kernel_rfl
theorem row_contains : TabOK "contains" 2 fn_contains := tab_row (by kernel_rfl) (by kernel_rfl) (by kernel_rfl) fun _ _ _ _ _ _ _ _ _ => by kernel_rfl
theorem row_getitem : TabOK "getitem" 2 fn_getitem := tab_row (by kernel_rfl) (by kernel_rfl) (by kernel_rfl) fun _ _ _ _ _ _ _ _ _ => by kernel_rfl
theorem row_setitem : TabOK "setitem" 3 fn_setitem := tab_row (by kernel_rfl) (by kernel_rfl) (by kernel_rfl) fun _ _ _ _ _ _ _ _ _ => by kernel_rfl
theorem row_iadd : TabOK "iadd" 2 fn_iadd := tab_row (by kernel_rfl) (by kernel_rfl) (by kernel_rfl) fun _ _ _ _ _ _ _ _ _ => by kernel_rfl
theorem row_isub : TabOK "isub" 2 fn_isub := tab_row (by kernel_rfl) (by kernel_rfl) (by kernel_rfl) fun _ _ _ _ _ _ _ _ _ => by kernel_rfl
theorem row_ISNONTERMINAL : TabOK "ISNONTERMINAL" 1 fn_ISNONTERMINAL := tab_row (by kernel_rfl) (by kernel_rfl) (by kernel_rfl) fun _ _ _ _ _ _ _ _ _ => by kernel_rfl
theorem row_sub_cost : TabOK "_substitution_cost" 2 fn_sub_cost := tab_row (by kernel_rfl) (by kernel_rfl) (by kernel_rfl) fun _ _ _ _ _ _ _ _ _ => by kernel_rfl
theorem row_lev : TabOK "_levenshtein_distance" 3 fn_lev := tab_row (by kernel_rfl) (by kernel_rfl) (by kernel_rfl) fun _ _ _ _ _ _ _ _ _ => by kernel_rfl
theorem row_law_rulers : TabOK "_law_rulers" 2 fn_law_rulers := tab_row (by kernel_rfl) (by kernel_rfl) (by kernel_rfl) fun _ _ _ _ _ _ _ _ _ => by kernel_rfl
theorem row_law_cut : TabOK "_law_cut" 2 fn_law_cut := tab_row (by kernel_rfl) (by kernel_rfl) (by kernel_rfl) fun _ _ _ _ _ _ _ _ _ => by kernel_rfl
theorem row_law_read : TabOK "_law_read" 1 fn_law_read := tab_row (by kernel_rfl) (by kernel_rfl) (by kernel_rfl) fun _ _ _ _ _ _ _ _ _ => by kernel_rfl
theorem row_law_steps : TabOK "_law_steps" 2 fn_law_steps := tab_row (by kernel_rfl) (by kernel_rfl) (by kernel_rfl) fun _ _ _ _ _ _ _ _ _ => by kernel_rfl
theorem row_law_walks : TabOK "_law_walks" 1 fn_law_walks := tab_row (by kernel_rfl) (by kernel_rfl) (by kernel_rfl) fun _ _ _ _ _ _ _ _ _ => by kernel_rfl
theorem row_law_mean : TabOK "_law_mean" 1 fn_law_mean := tab_row (by kernel_rfl) (by kernel_rfl) (by kernel_rfl) fun _ _ _ _ _ _ _ _ _ => by kernel_rfl
theorem row_law_price : TabOK "_law_price" 2 fn_law_price := tab_row (by kernel_rfl) (by kernel_rfl) (by kernel_rfl) fun _ _ _ _ _ _ _ _ _ => by kernel_rfl
theorem row_law_shared : TabOK "_law_shared" 2 fn_law_shared := tab_row (by kernel_rfl) (by kernel_rfl) (by kernel_rfl) fun _ _ _ _ _ _ _ _ _ => by kernel_rfl
theorem row_law_rounds : TabOK "_law_rounds" 3 fn_law_rounds := tab_row (by kernel_rfl) (by kernel_rfl) (by kernel_rfl) fun _ _ _ _ _ _ _ _ _ => by kernel_rfl

theorem tab_all : AllOK gnames tabL := ⟨one_row row_lt, one_row row_add, one_row row_mul, one_row row_sub, one_row row_contains, one_row row_getitem, no_row, one_row row_setitem, one_row row_iadd, one_row row_isub, one_row row_ISNONTERMINAL, one_row row_sub_cost, one_row row_lev, one_row row_law_rulers, one_row row_law_cut, one_row row_law_read, one_row row_law_steps, one_row row_law_walks, one_row row_law_mean, one_row row_law_price, one_row row_law_shared, one_row row_law_rounds, trivial⟩
theorem tab_spec {f : Nat} {k : Nat} {pf : PFun} (h : tab' f = some (k, pf)) : ∃ x, gnames[f]? = some x ∧ TabOK x k pf := by
  unfold tab' at h
  cases e : tabL[f]? with
  | none => rw [e] at h; cases h
  | some o =>
    rw [e] at h
    have : o = some (k, pf) := h
    subst this
    exact AllOK.get tab_all e

/-- a call of one of the program's own functions -/
theorem sem_call {C : Nat → List AV → Option AV} (hC : CallsOK prog w Γ n C) (ow : Owed prog w Γ n C) (os : OwedS prog w Γ n C) (oz : OwedZ prog w Γ n C) {f k : Nat} {pf : PFun} {args : List AV} {r : AV} (ht : tab' f = some (k, pf)) (hlen : args.length = k) (hr : evFn C pf args = some r) : SemCall prog w Γ (n + 1) f args r := by
  obtain ⟨x, hx, ⟨ps, b, sc, hf, hok, rfl, hsb⟩⟩ := tab_spec ht
  intro y hy a hma A X s vs Q E ao g hl hvs hQ
  rw [hx] at hy; cases hy
  obtain ⟨a', o, pm, cd, doc, h1, h2, h3, h4⟩ := g.fns _ _ _ _ hf
  rw [hma] at h1; cases h1
  obtain ⟨hps, hnd, htake, hk, hco, hgen, hnm⟩ := funOK_spec hok
  have hbind : bindArgs (docDef (Str.ofString x) ps b sc pm cd doc) ⟨vs, []⟩ = pure ((ps.args.map (·.arg)).zip vs) := by
    rw [hps]; exact bind_gen (by rw [hvs.length]; exact hlen.symm) hnd
  have hloc : ∀ p ∈ (ps.args.map (·.arg)).zip vs, sc.names.lookup p.1 = some .local := fun p hp => by
    have h5 := (List.of_mem_zip hp).1
    rw [List.mem_map] at h5
    obtain ⟨ar, h5, h6⟩ := h5
    have h7 : (ar.arg, NameKind.local) ∈ sc.names := List.mem_of_mem_take (htake ▸ List.mem_map.mpr ⟨ar, h5, rfl⟩)
    have := (hnm _ h7).2
    rw [← h6]; exact this
  unfold evFn at hr
  rw [Option.map_eq_some_iff] at hr
  obtain ⟨⟨fl, ρ'⟩, hev, hres⟩ := hr
  refine wpAny_call (call_plain (by have := ao.dep; (first | lia | omega)) h2 h3 g.lim h4 hbind hloc (fun h₁ F => ?_) hco hgen hk fun p hp e => ?_)
  · have fm := fm_call (name := Str.ofString x) (a := a) (cd := cd) (tk := s.toks + ((ps.args.map (·.arg)).zip vs).length) (k := pf.n - args.length) hok g hl hvs hlen F
    refine hsb _ _ _ _ _ hC ow os oz _ _ _ _ _ _ _ _ _ _ _ _ _ hev (fx_call hok) ao.deeper fm fun s' W' m' oa' fl' ev f' rr => ?_
    have hsub : ∀ b o, s.heap.get? b = some o → s'.heap.get? b = some o := fun b o e => (gX_get (f'.root.2 b o e)).1
    have ext : Ext s s' := ⟨hsub, ev.os, ev.gens⟩
    cases fl with
    | next => cases rr; cases hres; exact hQ s' _ ext rfl
    | cont => cases rr; cases hres; exact hQ s' _ ext rfl
    | ret v =>
      obtain ⟨v', rfl, rr⟩ := rr
      cases hres
      exact hQ s' v' ext (rr.mono (gX_less fun b hb => List.mem_append_left _ hb))
  · have := (hnm p hp).1
    rcases this with h | h <;> rw [e] at h <;> cases h

theorem calls_ok (ow : ∀ n, Owed prog w Γ n (evCall tab' n)) (os : ∀ n, OwedS prog w Γ n (evCall tab' n)) (oz : ∀ n, OwedZ prog w Γ n (evCall tab' n)) : ∀ n, CallsOK prog w Γ n (evCall tab' n)
  | 0 => fun f args r h => by cases h
  | n + 1 => fun f args r h => by
    rewrite [qEC] at h
    simp only [Option.bind_eq_some_iff] at h
    obtain ⟨⟨k, pf⟩, ht, h⟩ := h
    split at h
    · rename_i hlen
      exact sem_call (calls_ok ow os oz n) (ow n) (os n) (oz n) ht hlen h
    · cases h
end
end Mine

namespace Mine

theorem theFun_setitem : ∃ ps sc, ∃ p1 p2 p3 p4 p5 : Pos, theFun (Str.ofString "setitem") body0 = some (ps, [.Assign [.Subscript (.Name "a" p1) (.Name "b" p2) p3] (.Name "c" p4) p5], sc) ∧ funOK ps sc = true ∧ ps.args.map (·.arg) = [Str.ofString "a", Str.ofString "b", Str.ofString "c"] ∧
    sc.names.lookup (Str.ofString "a") = some NameKind.local ∧ sc.names.lookup (Str.ofString "b") = some NameKind.local ∧ sc.names.lookup (Str.ofString "c") = some NameKind.local := by
  refine ⟨_, _, _, _, _, _, _, rfl, ?_, ?_, ?_, ?_, ?_⟩ <;> decide +kernel

section
variable {prog : Program} {w : World} {Γ : Gp} {n : Nat} {C : Nat → List AV → Option AV}

set_option tactic.hygienic true in
theorem owedS : OwedS prog w Γ n C := fun sc f x fp xp cp pos k e q p i hf ef hi hdb hk he hnk hne env h₀ X W ρ m oa fl ρ' A s Q E hv fx ao fm h => by
  subst ef
  simp only [qS1,qS2,qS3,qS4,qS5,qS6,qS7,qS8,qS9,qS10,qS11,qS12,qS13,qS14,qS15,qS16,qS17,qS18] at hv
  split at hv
  · rename_i xs hsl
    simp only [Option.bind_eq_some_iff] at hv
    obtain ⟨u, hu, v, hv, hv2⟩ := hv
    cases u with
    | int j =>
      simp only at hv2
      split at hv2
      · rename_i hj
        cases hv2
        obtain ⟨hkx, a, r, hoa, hma, hr⟩ := fm.own x i _ hi hsl rfl
        obtain ⟨a', vs, e1, hpl, hvs, hz⟩ := hr
        have e0 := e1
        rw [hoa] at e1; cases e1
        have c := fm.cx fx ao
        obtain ⟨ps, fs, p1, p2, p3, p4, p5, hth, hok, hpar, ha, hb, hc⟩ := theFun_setitem
        obtain ⟨fa, o, pm, cd, doc, h1, h2, h3, h4⟩ := c.g.fns _ _ _ _ hth
        obtain ⟨fd, hfd⟩ : ∃ fd, o.data = .func fd := ⟨_, h3⟩
        refine wpAny_Expr ?_ (not_interactive fx) rfl
        refine Call_Name rfl (Name_function_global c.e.kind (c.e.kinds _ (by simpa [isGlob] using hf)) (loadGlobal_global (by rw [c.e.gl]; exact c.g.g) h1 ?_) (by decide +kernel))
        have trees : backTo cp (starEach [.Name x xp, k, e] env) = [(false, eval (.Name x xp) env), (false, eval k env), (false, eval e env)] := by
          show (false, eval (.Name x xp) env) :: backTo cp (starEach [k, e] env) = _
          rw [star_not hnk]
          show _ :: (false, eval k env) :: backTo cp (starEach [e] env) = _
          rw [star_not hne]; rfl
        rw [trees]
        refine callWith_function (o := o) (fd := fd) (evalArgs_plain (spliced_cons (loads_ fx.kind (.inl ⟨fx.kl x hkx, m, fm.ns, hma⟩) ?_ hdb)))
        refine spliced_cons (hk env ρ (.int j) A (X ++ W) s _ _ hu c fun s₁ u' x₁ r₁ => ?_)
        refine spliced_cons (he env ρ v A (X ++ W) s₁ _ _ hv (c.ext x₁) fun s₂ v' x₂ r₂ => spliced_nil ?_)
        obtain ⟨t, rfl⟩ := r₁
        have x₁₂ := x₁.trans x₂
        have f₂ := fm.keeps x₁₂
        have hpl₂ := hpl.at (x₁₂.heap _)
        have hvs₂ := hvs.mono (gX_sub x₁₂.heap)
        have hb63 := lt63 hz
        refine ⟨⟨x₁₂.heap _ _ h2, hfd⟩, ?_⟩
        obtain ⟨hps, hnd, htake, hkk, hco, hgen, hnm⟩ := funOK_spec hok
        have hbind : bindArgs (docDef (Str.ofString "setitem") ps [.Assign [.Subscript (.Name "a" p1) (.Name "b" p2) p3] (.Name "c" p4) p5] fs pm cd doc) ⟨[.ref a, .int j t, v'], []⟩ = pure [(Str.ofString "a", .ref a), (Str.ofString "b", .int j t), (Str.ofString "c", v')] := by
          have hl3 : ps.args.length = 3 := by have := congrArg List.length hpar; simpa using this
          rw [hps, bind_gen (by rw [hl3]; rfl) hnd, hpar]; rfl
        refine wpAny_call (call_plain (by have := ao.dep; (first | lia | omega)) (x₁₂.heap _ _ h2) h3 f₂.gok.lim (h4.keeps x₁₂.heap) hbind (fun y hy => ?_) (fun h₁ F => ?_) hco hgen hkk fun y hy e => ?_)
        · simp only [List.mem_cons, List.not_mem_nil, or_false] at hy
          rcases hy with rfl | rfl | rfl
          · exact ha
          · exact hb
          · exact hc
        · have la : ([(Str.ofString "a", .ref a), (Str.ofString "b", .int j t), (Str.ofString "c", v')] : List (Str × Value)).reverse.lookup (Str.ofString "a") = some (.ref a) := rfl
          have lb : ([(Str.ofString "a", .ref a), (Str.ofString "b", .int j t), (Str.ofString "c", v')] : List (Str × Value)).reverse.lookup (Str.ofString "b") = some (.int j t) := rfl
          have lc : ([(Str.ofString "a", .ref a), (Str.ofString "b", .int j t), (Str.ofString "c", v')] : List (Str × Value)).reverse.lookup (Str.ofString "c") = some v' := rfl
          have hpl₃ : h₁.IsList a vs := hpl₂.at fun o e => F.keep _ o e
          refine wpAny_execs_cons (wpAny_Assign_Subscript (ld F lc (ld F la (ld F lb (wpAny_setItem_list (w := w) hpl₃ hj.1 (by (first | lia | omega)) (by rw [hvs.size]; exact hj.2) fun h' hl' hs' => ?_) hkk hb) hkk ha) hkk hc))
          refine wpAny_execs_nil ?_
          have haL : a ≠ s₂.heap.objs.size := fun q => by obtain ⟨o, e, _⟩ := hpl₂; exact Nat.lt_irrefl _ (q ▸ Heap.lt_size e)
          obtain ⟨f₃, ev₃⟩ := f₂.setOwn (sl' := .ownS (xs.set j.toNat v)) (h' := h') (tk := s₂.toks + 3) fx hi hsl rfl (fun b o hb e => hs'.extBut b o (fun q => hb (by rw [e0, q]; simp)) (F.keep b o e)) (fun b hb => by rw [e0] at hb; simp at hb; subst hb; obtain ⟨o, e, _⟩ := hl'; exact ⟨o, e⟩)
            (fun hsub => ⟨a, _, e0, hl', setIf_vrs (hvs₂.mono hsub) (r₂.mono hsub), by simpa using hz⟩) nofun
          exact h _ _ _ _ _ (x₁₂.ev.trans ev₃) f₃ rfl
        · have := (hnm y hy).1
          rcases this with h | h <;> rw [e] at h <;> cases h
      · cases hv2
    | _ => cases hv2
  · cases hv
end
end Mine

namespace Mine

section
variable {prog : Program} {w : World} {Γ : Gp} {A : Around} {E : Value → Shared → Prop} {s : Shared}

theorem isSame_other {y z : Str} {u v : Tok} {Q : Bool → Shared → Prop} (hu : u ≠ 0) (hv : v ≠ 0) (huv : u ≠ v) (hyz : y ≠ z) (hq : Q false s) : wpAny (model prog w) A (isSame (.str y u) (.str z v)) Q E s := by
  show wpAny _ A (isSame.created (y == z) u v) Q E s
  unfold isSame.created
  have h1 : (u == 0 || v == 0) = false := by simp [hu, hv]
  have h2 : (u == v) = false := by simpa using huv
  have h3 : (y == z) = false := by simpa using hyz
  rw [h1, h2, h3]
  exact wpAny_pure hq

/-- one step of enumerate over an ascii text: the text's token is the count as it stood -/
theorem enum_str_next {e it : Addr} {x : Str} {t : Tok} {i c : Nat} {old : Value} {Q : Option Value → Shared → Prop} (he : IsEnum s.heap e it (i : Int) old) (hit : s.heap.IsStrIter it "str_ascii_iterator" x t i) (hc : x.cps[i]? = some c) (hne : e ≠ it)
    (hQ : ∀ h', IsEnumOut h' e it ((i : Int) + 1) (.str ⟨#[c]⟩ s.toks) s.heap.objs.size → h'.IsStrIter it "str_ascii_iterator" x t (i + 1) →
      h'.get? s.heap.objs.size = some { cls := .type "tuple", data := .seq #[.int i (s.toks + 1), .str ⟨#[c]⟩ s.toks] } →
      (∀ b o, b ≠ e → b ≠ it → s.heap.get? b = some o → h'.get? b = some o) → Q (some (.ref s.heap.objs.size)) { s with heap := h', toks := s.toks + 1 + 1 }) :
    wpAny (model prog w) A (pyNext (.ref e)) Q E s := by
  have hT : s.TypeIs (.ref e) "enumerate" := ⟨_, he, rfl⟩
  have hel : e < s.heap.objs.size := Heap.lt_size he
  have hil : it < s.heap.objs.size := by obtain ⟨o, ho, _⟩ := hit; exact Heap.lt_size ho
  unfold pyNext
  refine wpAny_bind (wpAny_attempt (wpAny_callSpecial?_slot (name := Str.ofString "__next__") hT PySem.F.slot_enumerate_next
    (wpAny_call_entry PySem.F.slot_enumerate_next hT PySem.F.entry_enumerate_next ?_ (PySem.F.args_enumerate_next_1 _))))
  obtain ⟨hp, g, d, tk, os⟩ := s
  dsimp only at he hit hQ hel hil ⊢
  show wpAny _ _ (field (.ref e) 2 >>= _) _ _ _
  refine wpAny_bind (wpAny_field he rfl (x := .ref it) rfl ?_)
  refine wpAny_bind (wpAny_nextOf_ascii_item hit hc fun h₁ hit₁ hs₁ => ?_)
  dsimp only at hs₁ ⊢
  have he₁ : IsEnum h₁ e it (i : Int) old := (hs₁.2 e hne).trans he
  refine wpAny_bind (wpAny_field he₁ rfl (x := rawInt i) rfl ?_)
  refine wpAny_bind (wpAny_field he₁ rfl (x := .none) rfl ?_)
  show wpAny _ _ (mkInt i >>= _) _ _ _
  refine wpAny_bind (wpAny_mkInt ?_)
  refine wpAny_bind (wpAny_setField_rec he₁ (by simp) fun h₂ he₂ hs₂ => ?_)
  replace he₂ : IsEnum h₂ e it ((i : Int) + 1) old := he₂
  refine wpAny_bind (wpAny_setField_rec he₂ (by simp) fun h₃ he₃ hs₃ => ?_)
  replace he₃ : IsEnum h₃ e it ((i : Int) + 1) old := he₃
  dsimp only at hs₂ hs₃ ⊢
  have hz : h₃.objs.size = hp.objs.size := by rw [hs₃.1, hs₂.1, hs₁.1]
  refine wpAny_bind (wpAny_newTuple ?_)
  obtain ⟨h₄, e4⟩ : ∃ h₄, h₄ = h₃.push { cls := .type "tuple", data := .seq [Value.int i (tk + 1), .str ⟨#[c]⟩ tk].toArray } := ⟨_, rfl⟩
  rw [← e4]
  dsimp only
  rw [hz]
  have he₄ : IsEnum h₄ e it ((i : Int) + 1) old := by rw [e4]; exact Heap.get?_push_of_some _ he₃
  have ht₄ : h₄.get? hp.objs.size = some { cls := .type "tuple", data := .seq #[.int i (tk + 1), .str ⟨#[c]⟩ tk] } := by rw [e4, ← hz]; exact Heap.get?_push_size _ rfl
  have hk₄ : ∀ b o, b ≠ e → h₁.get? b = some o → h₄.get? b = some o := fun b o hb eo => by
    rw [e4]; exact Heap.get?_push_of_some _ (hs₃.extBut b o hb (hs₂.extBut b o hb eo))
  clear e4 he₃ hs₃ he₂ hs₂ he₁ hz h₃ h₂
  refine wpAny_bind ?_
  unfold Builtin.SmallTypes.ownedTupleIsFree
  refine wpAny_bind (wpAny_field he₄ rfl (x := .none) rfl (wpAny_pure ?_))
  simp only [if_true]
  refine wpAny_bind (wpAny_rule ?_)
  refine wpAny_bind (wpAny_field he₄ rfl (x := old) rfl ?_)
  refine wpAny_bind (wpAny_setField_rec he₄ (by simp) fun h₅ he₅ hs₅ => ?_)
  replace he₅ : IsEnum h₅ e it ((i : Int) + 1) (.str ⟨#[c]⟩ tk) := he₅
  refine wpAny_bind ?_
  unfold Builtin.SmallTypes.ownedTupleHandOut
  refine wpAny_bind (wpAny_setField_rec he₅ (by simp) fun h₆ he₆ hs₆ => ?_)
  replace he₆ : IsEnumOut h₆ e it ((i : Int) + 1) (.str ⟨#[c]⟩ tk) hp.objs.size := he₆
  refine wpAny_setField_rec he₆ (by simp) fun h₇ he₇ hs₇ => ?_
  replace he₇ : IsEnumOut h₇ e it ((i : Int) + 1) (.str ⟨#[c]⟩ tk) hp.objs.size := he₇
  dsimp only at hs₅ hs₆ hs₇
  have up : ∀ b o, b ≠ e → h₄.get? b = some o → h₇.get? b = some o := fun b o hb eo => hs₇.extBut b o hb (hs₆.extBut b o hb (hs₅.extBut b o hb eo))
  refine wpAny_bind (wpAny_letGo (wpAny_pure ⟨_, rfl, wpAny_pure (hQ h₇ he₇ ?_ (up _ _ (Nat.ne_of_gt hel) ht₄) fun b o h1 h2 eo => up b o h1 (hk₄ b o h1 (hs₁.extBut b o h2 eo)))⟩))
  obtain ⟨o, ho, hr⟩ := hit₁
  exact ⟨o, up _ _ (Ne.symm hne) (hk₄ _ _ (Ne.symm hne) ho), hr⟩
end
end Mine

namespace Mine

noncomputable abbrev sA : Str := Str.ofString "a"
noncomputable abbrev sB : Str := Str.ofString "b"
noncomputable abbrev sI : Str := Str.ofString "i"
noncomputable abbrev sJ : Str := Str.ofString "j"
noncomputable abbrev sEn : Str := Str.ofString "enumerate"
noncomputable abbrev abcd : Str := Str.ofString "abcd"

/-- indexOf, as it stands in the program -/
structure IndexOf (ps : Arguments) (b : List Stmt) (sc : Scope) : Prop where
  body : ∃ els k, ∃ p1 p2 p3 p4 p5 p6 p7 p8 p9 p10 p11 p12 p13 p14 p15 p16 p17 : Pos, b = [.For (.Tuple [.Name sI p1, .Name sJ p2] k p3) (.Call (.Name sEn p4) [.Name sA p5] [] p6)
      [.If (.BoolOp .Or [.Compare (.Name sJ p7) [.Is] [.Name sB p8] p9, .Compare (.Name sJ p10) [.Eq] [.Name sB p11] p12] p13) [.Return (some (.Name sI p14)) p15] [] p16] els p17]
  ok : funOK ps sc = true
  par : ps.args.map (·.arg) = [sA, sB]
  la : sc.names.lookup sA = some .local
  lb : sc.names.lookup sB = some .local
  li : sc.names.lookup sI = some .local
  lj : sc.names.lookup sJ = some .local
  le : sc.names.lookup sEn = some .globalImplicit
theorem theFun_indexOf : ∃ ps b sc, theFun (Str.ofString "indexOf") body0 = some (ps, b, sc) ∧ IndexOf ps b sc := by
  refine ⟨_, _, _, rfl, ⟨⟨_, _, _, _, _, _, _, _, _, _, _, _, _, _, _, _, _, _, _, rfl⟩, ?_, ?_, ?_, ?_, ?_, ?_, ?_⟩⟩ <;> decide +kernel

theorem abcd_get (j : Nat) (hj : j < 4) : abcd.cps[j]? = some (97 + j) := by
  have : abcd.cps = #[97, 98, 99, 100] := by decide +kernel
  rw [this]
  rcases j with _ | _ | _ | _ | j
  · rfl
  · rfl
  · rfl
  · rfl
  · (first | lia | omega)

section
variable {prog : Program} {w : World} {Γ : Gp} {n : Nat} {C : Nat → List AV → Option AV} {A : Around}

theorem cmp_is {a b : Value} {s : Shared} {Q : Value → Shared → Prop} {E : Value → Shared → Prop} (h : wpAny (model prog w) A (isSame a b) (fun r s' => Q (.bool r) s') E s) : wpAny (model prog w) A (compareOp .Is a b) Q E s := by
  show wpAny _ A (isSame a b >>= fun r => pure (Value.bool r)) Q E s
  exact wpAny_bind (wpAny_mono h (fun _ _ q => wpAny_pure q) fun _ _ e => e)
theorem index_body {fs : Scope} {ps : Arguments} {b : List Stmt} (ix : IndexOf ps b fs) {fa L : Addr} {cd : Value} {h0 : Heap} {m : NM} {s : Shared} {c : Nat} {t u : Tok} {Q : Flow → Shared → Prop} {E : Value → Shared → Prop} (hh : A.handled = none) (hcr : 97 ≤ c ∧ c ≤ 100) (g0 : GOK prog w Γ h0)
    (F : Fr h0 L s.heap m) (ma : m sA = some (.str abcd t)) (mb : m sB = some (.str ⟨#[c]⟩ u)) (hu : u ≠ 0) (hut : u < s.toks)
    (hQ : ∀ h' tk t', (∀ b o, h0.get? b = some o → h'.get? b = some o) → Q (.ret (.int ((c : Int) - 97) t')) { s with heap := h', toks := tk }) :
    wpAny (model prog w) A (execs b (envOf (Str.ofString "indexOf") fs L fa cd)) Q E s := by
  obtain ⟨els, k, p1, p2, p3, p4, p5, p6, p7, p8, p9, p10, p11, p12, p13, p14, p15, p16, p17, rfl⟩ := ix.body
  obtain ⟨_, _, _, hk, _, _, hnm⟩ := funOK_spec ix.ok
  have fx : Fx (envOf (Str.ofString "indexOf") fs L fa cd) (scOf fs) := fx_call ix.ok
  have hbi := g0.bi (("enumerate", .type "enumerate") : String × Value) (by simp [bnames])
  generalize henv : envOf (Str.ofString "indexOf") fs L fa cd = env at fx
  have eL : env.locals = L := by rw [← henv]; rfl
  have eg : env.globals = mainGlobals := by rw [← henv]; rfl
  have eb : env.builtins = builtinsNs := by rw [← henv]; rfl
  have gk : ∀ (h' : Heap) (hk' : ∀ b o, h0.get? b = some o → h'.get? b = some o), GOK prog w Γ h' := fun h' hk' => g0.keeps hk'
  refine wpAny_execs_cons (wpAny_For (Call_Name rfl (Name_function_global fx.kind (fx.kinds _ ix.le) (loadGlobal_builtin (by rw [eg]; exact (gk _ F.keep).g) hbi.1 (by rw [eb]; exact (gk _ F.keep).b) hbi.2 ?_) (by decide +kernel))) fun _ => rfl)
  refine PyProof.Rows.callWith_type1 ?_ rfl rfl
  show wpAny _ A (spliced [(false, eval (.Name sA p5) env)]) _ E s
  refine spliced_cons (wpAny_Name (wpAny_loadName_local fx.kind (fx.kl _ ix.la) (by rw [eL]; exact F.ns) ma (spliced_nil ?_)) (by decide +kernel))
  refine call_enumerate_str fun h₂ he hit hsz hkp => ?_
  refine wpAny_pyIter_enum he ?_
  have hty : strIterType abcd = "str_ascii_iterator" := by decide +kernel
  rw [hty] at hit
  have hLlt : L < s.heap.objs.size := F.ns.lt
  have n1 : s.heap.objs.size + 1 ≠ s.heap.objs.size := Nat.succ_ne_self _
  have hLe : L ≠ s.heap.objs.size + 1 := Nat.ne_of_lt (Nat.lt_succ_of_lt hLlt)
  have hLi : L ≠ s.heap.objs.size := Nat.ne_of_lt hLlt
  have f0 : ∀ a, s.heap.objs.size ≤ a → h0.get? a = none := fun a ha => by
    cases e : h0.get? a with
    | none => rfl
    | some o => exact absurd (Heap.lt_size (F.keep a o e)) (Nat.not_lt.mpr ha)
  have f1 : h0.get? (s.heap.objs.size + 1) = none := f0 _ (Nat.le_succ _)
  have f2 : h0.get? s.heap.objs.size = none := f0 _ (Nat.le_refl _)
  have hL0 : h0.get? L = none := by
    cases e : h0.get? L with
    | none => rfl
    | some o => exact absurd (Heap.lt_size e) (Nat.not_lt.mpr F.above)
  generalize s.heap.objs.size + 1 = e at *
  generalize s.heap.objs.size = it at *
  refine codeAny_forLoop_any (fun k s' => ∃ (j : Nat) (h' : Heap) (tk : Nat) (m' : NM) (old : Value), k = 4 - j ∧ j + 97 ≤ c ∧ s' = { s with heap := h', toks := tk } ∧ IsEnum h' e it (j : Int) old ∧ h'.IsStrIter it "str_ascii_iterator" abcd t j ∧ h'.Ns L m' ∧ m' sB = some (.str ⟨#[c]⟩ u) ∧
    (∀ b o, h0.get? b = some o → h'.get? b = some o) ∧ u < tk) ?_ 4 ⟨0, h₂, s.toks, m, .none, rfl, by (first | lia | omega), rfl, he, hit, F.ns.keeps hkp, mb, fun b o eb => hkp b o (F.keep b o eb), hut⟩
  rintro k' s' ⟨j, h', tk, m', old, rfl, hj, rfl, he', hit', hn', mb', hk', htk⟩
  have hj4 : j < 4 := by (first | lia | omega)
  refine enum_str_next he' hit' (abcd_get j hj4) n1 fun h₃ he₃ hit₃ ht₃ hk₃ => ?_
  dsimp only at he₃ hit₃ ht₃ hk₃ ⊢
  refine wpAny_letOwnedTupleGo_enum he₃ fun h₄ he₄ hs₄ => ?_
  dsimp only at he₄ hs₄ ⊢
  have hTe : h'.objs.size ≠ e := fun q => by have := Heap.lt_size he'; rw [q] at this; exact Nat.lt_irrefl _ this
  have ht₄ : IsTup h₄ h'.objs.size #[.int (j : Int) (tk + 1), .str ⟨#[97 + j]⟩ tk] := ⟨_, hs₄.extBut _ _ hTe ht₃, rfl, 0, rfl⟩
  refine assign_Tuple_tuple hh ht₄ rfl rfl fun h₅ he₅ => ?_
  dsimp only at he₅ ⊢
  have up : ∀ b o, b ≠ e → h₃.get? b = some o → h₅.get? b = some o := fun b o hb eo => by
    have := hs₄.extBut b o hb eo
    exact he₅ b o (fun q => Nat.lt_irrefl _ (q ▸ Heap.lt_size this)) this
  have he5' : IsEnum h₅ e it ((j : Int) + 1) (.str ⟨#[97 + j]⟩ tk) := he₅ e _ (fun q => Nat.lt_irrefl _ (q ▸ Heap.lt_size he₄)) he₄
  have hit5 : h₅.IsStrIter it "str_ascii_iterator" abcd t (j + 1) := by obtain ⟨o, ho, r⟩ := hit₃; exact ⟨o, up _ _ (Ne.symm n1) ho, r⟩
  have hn5 : h₅.Ns L m' := hn'.at' fun o eo => up _ o hLe (hk₃ _ o hLe hLi eo)
  have hk5 : ∀ b o, h0.get? b = some o → h₅.get? b = some o := fun b o eb => by
    have h1 : b ≠ e := fun q => by rw [q, f1] at eb; cases eb
    have h2 : b ≠ it := fun q => by rw [q, f2] at eb; cases eb
    exact up b o h1 (hk₃ b o h1 h2 (hk' b o eb))
  show wpAny _ A (assignInOrder [assign (.Name sI p1) env, assign (.Name sJ p2) env] [.int (j : Int) (tk + 1), .str ⟨#[97 + j]⟩ tk]) _ _ _
  refine wpAny_assignInOrder_more (PyProof.Rows.assign_Name (wpAny_storeName_local (fx.kl _ ix.li) (by rw [eL]; exact hn5) (fun h₆ hn6 hs6 => ?_) (by simp [fx.kind])))
  rw [eL] at hn6 hs6
  refine wpAny_assignInOrder_more (PyProof.Rows.assign_Name (wpAny_storeName_local (fx.kl _ ix.lj) (by rw [eL]; exact hn6) (fun h₇ hn7 hs7 => wpAny_assignInOrder_none ?_) (by simp [fx.kind])))
  rw [eL] at hn7 hs7
  dsimp only at hn7 hs7 ⊢
  have upL : ∀ b o, b ≠ L → h₅.get? b = some o → h₇.get? b = some o := fun b o hb eo => hs7.extBut b o hb (hs6.extBut b o hb eo)
  have he7 : IsEnum h₇ e it ((j : Int) + 1) (.str ⟨#[97 + j]⟩ tk) := upL _ _ (Ne.symm hLe) he5'
  have hit7 : h₇.IsStrIter it "str_ascii_iterator" abcd t (j + 1) := by obtain ⟨o, ho, r⟩ := hit5; exact ⟨o, upL _ _ (Ne.symm hLi) ho, r⟩
  have hk7 : ∀ b o, h0.get? b = some o → h₇.get? b = some o := fun b o eb => upL b o (fun q => by rw [q, hL0] at eb; cases eb) (hk5 b o eb)
  have hij : (sI = sJ) = False := by simp; decide +kernel
  have hbI : (sB = sI) = False := by simp; decide +kernel
  have hbJ : (sB = sJ) = False := by simp; decide +kernel
  generalize hm7 : (fun x => if x = sJ then some (Value.str ⟨#[97 + j]⟩ tk) else if x = sI then some (Value.int (j : Int) (tk + 1)) else m' x : NM) = m7 at hn7
  have mI : m7 sI = some (.int (j : Int) (tk + 1)) := by rw [← hm7]; simp only [hij, if_false, if_true]
  have mJ : m7 sJ = some (.str ⟨#[97 + j]⟩ tk) := by rw [← hm7]; simp only [if_true]
  have mB : m7 sB = some (.str ⟨#[c]⟩ u) := by rw [← hm7]; simp only [hbI, hbJ, if_false]; exact mb'
  have ldn : ∀ {x : Str} {p : Pos} {v : Value} {tk' : Nat} {Q : Value → Shared → Prop} {E : Value → Shared → Prop}, fs.names.lookup x = some .local → m7 x = some v → (x == ("__debug__" : Str)) = false → Q v { s with heap := h₇, toks := tk' } →
      wpAny (model prog w) A (eval (.Name x p) env) Q E { s with heap := h₇, toks := tk' } := fun hl hm hd hq =>
    wpAny_Name (wpAny_loadName_local fx.kind (fx.kl _ hl) (by rw [eL]; exact hn7) hm hq) hd
  have dJ : (sJ == ("__debug__" : Str)) = false := by decide +kernel
  have dB : (sB == ("__debug__" : Str)) = false := by decide +kernel
  have dI : (sI == ("__debug__" : Str)) = false := by decide +kernel
  have hbk := (gk h₇ hk7).booked
  have hu0 : (tk == 0 || u == 0) = false := by
    have : tk ≠ 0 := fun q => by rw [q] at htk; exact Nat.not_lt_zero _ htk
    simp [this, hu]
  refine wpAny_execs_cons (wpAny_If ?_)
  have eqv : (⟨#[97 + j]⟩ : Str) = ⟨#[c]⟩ ↔ 97 + j = c := by simp
  have isj : ∀ {Q : Bool → Shared → Prop} {E : Value → Shared → Prop} {tk' : Nat}, (∀ b, (b = true → 97 + j = c) → Q b { s with heap := h₇, toks := tk' }) → wpAny (model prog w) A (isSame (.str ⟨#[97 + j]⟩ tk) (.str ⟨#[c]⟩ u)) Q E { s with heap := h₇, toks := tk' } := fun hq => by
    by_cases q : 97 + j = c
    · exact wpAny_isSame_str hu0 hbk fun b => hq b fun _ => q
    · exact isSame_other (fun q => by rw [q] at htk; exact Nat.not_lt_zero _ htk) hu (Nat.ne_of_gt htk) (fun q' => q (eqv.mp q')) (hq false nofun)
  have ret : ∀ {Q : Flow → Shared → Prop} {E : Value → Shared → Prop} {tk' : Nat}, Q (.ret (.int (j : Int) (tk + 1))) { s with heap := h₇, toks := tk' } → wpAny (model prog w) A (execs [.Return (some (.Name sI p14)) p15] env) Q E { s with heap := h₇, toks := tk' } := fun hq =>
    wpAny_execs_cons (wpAny_Return_some (ldn ix.li mI dI hq))
  have fin : 97 + j = c → ((c : Int) - 97) = (j : Int) := fun q => by (first | lia | omega)
  refine isTrue_or (wpAny_isTrue_Compare1 (ldn ix.lj mJ dJ (ldn ix.lb mB dB ?_)) rfl)
  refine cmp_is (isj fun b hb => wpAny_truthy_bool ?_)
  cases b with
  | true =>
    simp only [if_true]
    refine ret ?_
    dsimp only
    rw [← fin (hb rfl)]
    exact hQ _ _ _ hk7
  | false =>
    simp only [Bool.false_eq_true, if_false]
    refine isTrue_or (wpAny_isTrue_Compare1 (ldn ix.lj mJ dJ (ldn ix.lb mB dB ?_)) rfl)
    refine PySem.P.eq_str (wpAny_truthy_bool ?_)
    rw [str_beq]
    by_cases q : 97 + j = c
    · have : ((⟨#[97 + j]⟩ : Str) == ⟨#[c]⟩) = true := by simp [q]
      rw [this]
      simp only [if_true]
      refine ret ?_
      dsimp only
      rw [← fin q]
      exact hQ _ _ _ hk7
    · have : ((⟨#[97 + j]⟩ : Str) == ⟨#[c]⟩) = false := by simpa using fun q' => q (eqv.mp q')
      rw [this]
      simp only [Bool.false_eq_true, if_false]
      refine isTrue_or_nil ?_
      simp only [Bool.false_eq_true, if_false]
      refine wpAny_execs_nil (wpAny_execs_nil ?_)
      exact ⟨4 - (j + 1), by (first | lia | omega), j + 1, h₇, _, m7, _, rfl, by (first | lia | omega), rfl, by simpa using he7, hit7, hn7, mB, hk7, Nat.lt_of_lt_of_le htk (Nat.le_add_right tk 4)⟩

theorem owed_idx (sc : Sc) (f k x : Str) (fp kp zp xp sp pos : Pos) (k1 k2 : Nat) (i : Nat) (hf : isGlob sc f = true) (ef : f = "indexOf") (ek : k = "abcd") (hx : sc.kind x = some .local) (hxd : x ≠ "__debug__") (hi : sc.idx x = some i) :
    SndE prog w Γ n C sc (.Call (.Name f fp) [.Constant (.str k) k1 kp, .Subscript (.Name x xp) (.Constant (.int 0) k2 zp) sp] [] pos) (.idxOf i) := fun env ρ v A X s Q E hv cx h => by
  subst ef ek
  simp only [qE1,qE2,qE3,qE4,qE5,qE6,qE7,qE8,qE9,qE10,qE11,qE0,qE12,qE13,qE14,qE15,qE16,qE17,qE18,qE19,qE20, Option.bind_eq_some_iff] at hv
  obtain ⟨z, hz, hv⟩ := hv
  cases z with
  | str y =>
    simp only [Option.bind_eq_some_iff] at hv
    obtain ⟨c, hc, hv⟩ := hv
    split at hv
    · rename_i hcr
      cases hv
      obtain ⟨ps, b, fs, hth, ix⟩ := theFun_indexOf
      obtain ⟨fa, o, pm, cd, doc, h1, h2, h3, h4⟩ := cx.g.fns _ _ _ _ hth
      obtain ⟨fd, hfd⟩ : ∃ fd, o.data = .func fd := ⟨_, h3⟩
      refine Call_Name rfl (Name_function_global cx.e.kind (cx.e.kinds _ (by simpa [isGlob] using hf)) (loadGlobal_global (by rw [cx.e.gl]; exact cx.g.g) h1 ?_) (by decide +kernel))
      show wpAny _ A (callWith pos (.ref fa) [] [(false, eval (.Constant (.str abcd) k1 kp) env), (false, eval (.Subscript (.Name x xp) (.Constant (.int 0) k2 zp) sp) env)] []) Q E s
      refine callWith_function (o := o) (fd := fd) (evalArgs_plain (spliced_cons (Constant_str (spliced_cons (Subscript_ ?_)))))
      have x₁ : Ext s { s with toks := s.toks + 1 } := .tk
      refine wpAny_with_toks (n := s.toks + 1) (Nat.le_refl _) (snd_var (C := C) hi (.inl hx) hxd env ρ (.str y) A X _ _ _ hz (cx.ext x₁) fun s₁ y' x₂ r₁ htk => ?_)
      obtain ⟨t, rfl, hyz⟩ := r₁
      refine wpAny_Constant_int ?_
      obtain ⟨ops, hss⟩ := subscripted_any (.Constant (.int 0) k2 zp) (.str y t) (.int 0 s₁.toks)
      have hl : 0 < y.length := (Array.getElem?_eq_some_iff.mp hc).1
      refine tail_any (typeIs_str _ _ _) PySem.F.slot_str_getitem.lookup (PySem.P.getItem_str (c := c) (by simp) ?_ ?_) hss
      · rw [str_len_idx, if_pos (by (first | lia | omega)), if_pos (by (first | lia | omega))]; exact hc
      refine spliced_nil ?_
      have x₃ : Ext s₁ { s₁ with toks := s₁.toks + 1 + 1 } := .tk
      have xx := (x₁.trans x₂).trans x₃
      have cx' := cx.ext xx
      refine ⟨⟨xx.heap _ _ h2, hfd⟩, ?_⟩
      obtain ⟨hps, hnd, htake, hkk, hco, hgen, hnm⟩ := funOK_spec ix.ok
      have hbind : bindArgs (docDef (Str.ofString "indexOf") ps b fs pm cd doc) ⟨[.str abcd s.toks, .str ⟨#[c]⟩ (s₁.toks + 1)], []⟩ = pure [(sA, .str abcd s.toks), (sB, .str ⟨#[c]⟩ (s₁.toks + 1))] := by
        have hl2 : ps.args.length = 2 := by have := congrArg List.length ix.par; simpa using this
        rw [hps, bind_gen (by rw [hl2]; rfl) hnd, ix.par]; rfl
      refine wpAny_call (call_plain (by have := cx.ao.dep; (first | lia | omega)) (xx.heap _ _ h2) h3 cx'.g.lim (h4.keeps xx.heap) hbind (fun z hz' => ?_) (fun h₁ F => ?_) hco hgen hkk fun z hz' e => ?_)
      · simp only [List.mem_cons, List.not_mem_nil, or_false] at hz'
        rcases hz' with rfl | rfl
        · exact ix.la
        · exact ix.lb
      · refine index_body ix cx.ao.hh hcr cx'.g F (t := s.toks) (u := s₁.toks + 1) rfl rfl (Nat.succ_ne_zero _) ?_ fun h' tk t' hkp => ?_
        · exact Nat.lt_add_of_pos_right (n := s₁.toks + 1) (k := 1 + 2) (by decide)
        · exact h { s₁ with heap := h', toks := tk } _ ((x₁.trans x₂).trans ⟨hkp, rfl, .refl _⟩) ⟨_, rfl⟩
      · have := (hnm z hz').1
        rcases this with h | h <;> rw [e] at h <;> cases h
    · cases hv
  | _ => cases hv
end
end Mine

namespace Mine

section
variable {prog : Program} {w : World} {A : Around} {R : GenEnd} {Y : Protocol} {n : Nat} {s₀ : Shared} {c : Code} {fs : List Frame} {s : Shared} {env : Env}
  {K : Flow → Sem Fin} {H : Value → Sem Fin} {gd : Bool → Bool} {lv : List Value → List Value}

/-- a statement that does not yield -/
theorem seg_stmt {st : Stmt} (h : wpAny (model prog w) (A.over c fs) (exec st env) (fun f s' => Seg (model prog w) A R Y n s₀ c (K f) fs s') (fun x s' => Seg (model prog w) A R Y n s₀ c (H x) fs s') s) :
    Seg (model prog w) A R Y n s₀ c ((exec st env).wrap K H gd lv) fs s := seg_wrap h

theorem seg_If' {test : Expr} {body orelse : List Stmt} {pos : Pos}
    (h : wpAny (model prog w) (A.over c fs) (isTrue test env (eval test env)) (fun b s' => if b = true then Seg (model prog w) A R Y n s₀ c ((execs body env).wrap K H gd lv) fs s'
      else Seg (model prog w) A R Y n s₀ c ((execs orelse env).wrap K H gd lv) fs s') (fun x s' => Seg (model prog w) A R Y n s₀ c (H x) fs s') s) :
    Seg (model prog w) A R Y n s₀ c ((exec (.If test body orelse pos) env).wrap K H gd lv) fs s := by
  rw [exec_If]
  first
    | refine seg_bind_wrap (wpAny_standAt (seg_bind_wrap (wpAny_mono h (fun b s' hb => ?_) fun _ _ x => x)))
    | refine seg_bind_wrap (wpAny_mono h (fun b s' hb => ?_) fun _ _ x => x)
  cases b with
  | true => rw [if_pos rfl] at hb; exact hb
  | false => rw [if_neg Bool.false_ne_true] at hb; exact hb

theorem seg_For' {target iter : Expr} {body orelse : List Stmt} {pos : Pos} (hs : ∀ x, foldedSetIterable iter env x = pure x)
    (h : wpAny (model prog w) (A.over c fs) (eval iter env) (fun x s₁ => wpAny (model prog w) (A.over c fs) (pyIter x) (fun it s₂ => ∀ p,
      Seg (model prog w) A R Y n s₀ (.forLoop target it body orelse env) ((model prog w).den (.forLoop target it body orelse env))
      (.ret (fun r => ((match r with | .ok f => (.pure f : Sem Flow) | .error e => .raise e).onRaise fun (x : Value) => do
        if (← field x 1) == Value.none then unsupported "frame.own-activation:exception-without-traceback"
        setFlight x env.frame).wrap K H gd lv) none (gd false) (lv []) c p [] :: fs) s₂) (fun x s' => Seg (model prog w) A R Y n s₀ c (H x) fs s') s₁) (fun x s' => Seg (model prog w) A R Y n s₀ c (H x) fs s') s) :
    Seg (model prog w) A R Y n s₀ c ((exec (.For target iter body orelse pos) env).wrap K H gd lv) fs s := by
  rw [exec_For]
  refine seg_bind_wrap (wpAny_standAt (seg_bind_wrap (wpAny_mono h (fun x s₁ h₁ => ?_) fun _ _ x => x)))
  refine seg_bind_wrap (wpAny_of_eq (hs x) ?_)
  refine seg_bind_wrap (wpAny_standAt (seg_bind_wrap (wpAny_holding (wpAny_mono h₁ (fun it s₂ h₂ => ?_) fun _ _ x => x))))
  exact seg_call h₂

theorem seg_forLoop' {target : Expr} {it : Value} {body orelse : List Stmt}
    (h : wpAny (model prog w) (A.over (.forLoop target it body orelse env) fs) (pyNext it) (fun r s₁ => match r with
      | none => False
      | some v => wpAny (model prog w) (A.over (.forLoop target it body orelse env) fs) (letOwnedTupleGo target it v) (fun _ s₁' => wpAny (model prog w) (A.over (.forLoop target it body orelse env) fs) (assign target env v) (fun _ s₂ =>
          Seg (model prog w) A R Y n s₀ (.forLoop target it body orelse env) ((execs body env).wrap (fun f => match f with
            | .next | .cont => .pure (.again (.forLoop target it body orelse env))
            | .brk => .pure (.done .next)
            | .ret v => .pure (.done (.ret v))) (fun e => (do noteFrame e env; theTreesLotGoes e : Sem Unit).wrap (fun _ => .raise e) .raise id id) id id) fs s₂) (fun _ _ => False) s₁') (fun _ _ => False) s₁) (fun _ _ => False) s) :
    Seg (model prog w) A R Y n s₀ (.forLoop target it body orelse env) ((model prog w).den (.forLoop target it body orelse env)) fs s := by
  show Seg _ A R Y n s₀ _ ((forTurn target it body orelse env).onRaise (fun x => do noteFrame x env; theTreesLotGoes x)) fs s
  unfold forTurn
  rw [Sem.onRaise_eq_wrap]
  refine seg_bind_wrap (wpAny_standAt (seg_bind_wrap (wpAny_onRaise (wpAny_mono h (fun r s₁ h₁ => ?_) fun _ _ x => x.elim))))
  cases r with
  | none => exact h₁.elim
  | some v =>
    refine seg_bind_wrap (wpAny_mono h₁ (fun _ s₁' h₁' => ?_) fun _ _ x => x.elim)
    refine seg_bind_wrap (wpAny_mono h₁' (fun _ s₂ h₂ => ?_) fun _ _ x => x.elim)
    rw [Sem.bind_eq_wrap', Sem.wrap_wrap]
    rw [Sem.wrap_congr (execs body env) _ _ (K' := fun f => match f with
            | .next | .cont => .pure (.again (.forLoop target it body orelse env))
            | .brk => .pure (.done .next)
            | .ret v => .pure (.done (.ret v))) (H' := (fun e => (do noteFrame e env; theTreesLotGoes e : Sem Unit).wrap (fun _ => .raise e) .raise id id))
        (fun f => by cases f <;> rfl)
        (fun e => by first | exact Sem.bind_eq_wrap _ _ | (show (do noteFrame e env; theTreesLotGoes e : Sem Unit).bind (fun _ => .raise e) = _; rw [Sem.bind_eq_wrap]))]
    exact h₂
end
end Mine

namespace Mine

noncomputable abbrev sGr : Str := Str.ofString "grouping"
noncomputable abbrev sLa : Str := Str.ofString "last_interval"
noncomputable abbrev sIn : Str := Str.ofString "interval"
noncomputable abbrev sCM : Str := Str.ofString "CHAR_MAX"

noncomputable def genOK (ps : Arguments) (s : Scope) : Bool :=
  ps.posonlyargs.isEmpty && ps.vararg.isNone && ps.kwonlyargs.isEmpty && ps.kwarg.isNone && decide ((ps.args.map (·.arg)).Nodup) &&
  s.kind == .function && !s.isCoroutine && s.isGenerator && s.names.all fun p => (p.2 == .local || p.2 == .globalImplicit) && s.names.lookup p.1 == some p.2

/-- _grouping_intervals, as it stands in the program -/
structure GroupInt (ps : Arguments) (b : List Stmt) (sc : Scope) : Prop where
  body : ∃ (rs : List Stmt) (kk k0 k1 k2 k3 : Nat), ∃ p1 p2 p3 p4 p5 p6 p7 p8 p9 p10 p11 p12 p13 p14 p15 p16 p17 p18 p19 p20 p21 p22 p23 p24 p25 p26 p27 p28 p29 p30 : Pos,
    b = [.Assign [.Name sLa p1] (.Constant .none k0 p2) p3,
      .For (.Name sIn p4) (.Name sGr p5) [
        .If (.Compare (.Name sIn p6) [.Eq] [.Name sCM p7] p8) [.Return none p9] [] p10,
        .If (.Compare (.Name sIn p11) [.Eq] [.Constant (.int 0) k1 p12] p13) [
          .If (.Compare (.Name sLa p14) [.Is] [.Constant .none k2 p15] p16) rs [] p17,
          .While (.Constant (.bool true) k3 p18) [.Expr (.Yield (some (.Name sLa p19)) p20) p21] [] p22] [] p23,
        .Expr (.Yield (some (.Name sIn p24)) p25) p26,
        .Assign [.Name sLa p27] (.Name sIn p28) p29] [] p30] ∧ kk = 0
  ok : genOK ps sc = true
  par : ps.args.map (·.arg) = [sGr]
  lg : sc.names.lookup sGr = some .local
  ll : sc.names.lookup sLa = some .local
  li : sc.names.lookup sIn = some .local
  lc : sc.names.lookup sCM = some .globalImplicit
theorem theFun_group : ∃ ps b sc, theFun (Str.ofString "_grouping_intervals") body0 = some (ps, b, sc) ∧ GroupInt ps b sc := by
  refine ⟨_, _, _, rfl, ⟨⟨_, 0, _, _, _, _, _, _, _, _, _, _, _, _, _, _, _, _, _, _, _, _, _, _, _, _, _, _, _, _, _, _, _, _, _, _, rfl, rfl⟩, ?_, ?_, ?_, ?_, ?_, ?_⟩⟩ <;> decide +kernel

theorem genOK_spec {ps : Arguments} {sc : Scope} (h : genOK ps sc = true) : ps = ⟨[], ps.args, none, [], ps.kw_defaults, none, ps.defaults⟩ ∧ (ps.args.map (·.arg)).Nodup ∧
    sc.kind = .function ∧ sc.isCoroutine = false ∧ sc.isGenerator = true ∧ ∀ p ∈ sc.names, (p.2 = .local ∨ p.2 = .globalImplicit) ∧ sc.names.lookup p.1 = some p.2 := by
  unfold genOK at h
  simp only [Bool.and_eq_true, List.all_eq_true, Bool.or_eq_true, beq_iff_eq, decide_eq_true_eq, Bool.not_eq_true', List.isEmpty_iff, Option.isNone_iff_eq_none] at h
  obtain ⟨⟨⟨⟨⟨⟨⟨⟨h1, h2⟩, h3⟩, h4⟩, h5⟩, h7⟩, h8⟩, h9⟩, h10⟩ := h
  refine ⟨?_, h5, h7, h8, h9, h10⟩
  obtain ⟨a, b, c, d, e, f, g⟩ := ps
  simp only at h1 h2 h3 h4
  subst h1 h2 h3 h4
  rfl
theorem fx_gen {name : Str} {ps : Arguments} {sc : Scope} {L a : Addr} {cd : Value} (h : genOK ps sc = true) : Fx (envOf name sc L a cd) (scOf sc) := by
  obtain ⟨_, _, hk, _, _, hn⟩ := genOK_spec h
  refine ⟨hk, rfl, rfl, fun x hx => hx, fun x hx => hx, fun x hx => hx, fun x hx => ?_, scOf_ok sc⟩
  have hx' : sc.names.lookup x = some .free := hx
  obtain ⟨h1, _⟩ := hn _ (mem_of_lookup hx')
  rcases h1 with h1 | h1 <;> cases h1

section
variable (prog : Program) (w : World) (Γ : Gp)

/-- what one turn of the generator changes -/
structure GStep (L It : Addr) (s₀ s : Shared) : Prop where
  kept : ∀ b o, b ≠ L → b ≠ It → s₀.heap.get? b = some o → s.heap.get? b = some o
  liveL : ∃ o, s.heap.get? L = some o
  liveI : ∃ o, s.heap.get? It = some o
  os : s.os = s₀.os
  gens : s.gens = s₀.gens
noncomputable def giProto (h₀ : Heap) (L It ax : Addr) (exp : Nat → Option Int) : Protocol := fun m s₀ v s kap =>
  (∃ i t, exp m = some i ∧ v = .int i t) ∧ GStep L It s₀ s ∧
    (0 < m → ∀ s'' : Shared, (∀ b, b = L ∨ b = It ∨ b = ax → ∀ o, s.heap.get? b = some o → s''.heap.get? b = some o) → (∀ b o, h₀.get? b = some o → s''.heap.get? b = some o) → kap (.send .none) s'')
noncomputable def giEnd (L It : Addr) (exp : Nat → Option Int) : GenEnd := fun n s₀ r s₁ => r = .ok (.ret .none) ∧ (exp (n - 1) = none ∧ GStep L It s₀ s₁)

/-- where the generator stands: its names, its iterator -/
structure GAt (h₀ : Heap) (L It ax : Addr) (vs : Array Value) (last : Option Int) (p : Nat) (s : Shared) : Prop where
  g : GOK prog w Γ h₀ ∧ h₀.get? L = none ∧ h₀.get? It = none
  k : ∀ b o, h₀.get? b = some o → s.heap.get? b = some o
  ns : ∃ m, s.heap.Ns L m ∧ (match last with | none => m sLa = some .none | some l => ∃ t, m sLa = some (.int l t))
  it : s.heap.IsListIter It ax p
  il : s.heap.IsList ax vs
  ne : L ≠ It ∧ L ≠ ax ∧ It ≠ ax
end
end Mine

namespace Mine

section
variable {prog : Program} {w : World} {Γ : Gp} {A : Around} {env : Env} {sc : Sc} {h₀ : Heap} {L It ax : Addr} {vs : Array Value} {exp : Nat → Option Int} {fs : List Frame}

theorem GAt.keeps {last : Option Int} {p : Nat} {s s'' : Shared} (a : GAt prog w Γ h₀ L It ax vs last p s) (hk : ∀ b, b = L ∨ b = It ∨ b = ax → ∀ o, s.heap.get? b = some o → s''.heap.get? b = some o) (g : ∀ b o, h₀.get? b = some o → s''.heap.get? b = some o) : GAt prog w Γ h₀ L It ax vs last p s'' :=
  ⟨a.g, g, let ⟨m, h1, h2⟩ := a.ns; ⟨m, h1.at' fun o e => hk _ (.inl rfl) o e, h2⟩, a.it.at fun o e => hk _ (.inr (.inl rfl)) o e, a.il.at fun o e => hk _ (.inr (.inr rfl)) o e, a.ne⟩
theorem GAt.refl {last : Option Int} {p : Nat} {s : Shared} (a : GAt prog w Γ h₀ L It ax vs last p s) : GStep L It s s :=
  ⟨fun _ _ _ _ e => e, by obtain ⟨m, ⟨o, _, _, e, _⟩, _⟩ := a.ns; exact ⟨o, e⟩, by obtain ⟨o, e, _⟩ := a.it; exact ⟨o, e⟩, rfl, rfl⟩

theorem while_seg (fx : Fx env sc) (hL : env.locals = L) (hl : sc.kind sLa = some .local) (hco : env.scope.isCoroutine = false) (hfs : splitAtGen fs = none) (hfg : fs.any Frame.guarded = false) {k3 : Nat} {p1 p2 p3 p4 : Pos} {l : Int} {p : Nat} :
    ∀ (k : Nat) (s₀ s : Shared), 0 < k → (∀ j, j < k → exp j = some l) → GStep L It s₀ s → GAt prog w Γ h₀ L It ax vs (some l) p s →
      Seg (model prog w) A (giEnd L It exp) (giProto h₀ L It ax exp) k s₀ (.whileLoop (.Constant (.bool true) k3 p1) [.Expr (.Yield (some (.Name sLa p2)) p3) p4] [] env)
        ((model prog w).den (.whileLoop (.Constant (.bool true) k3 p1) [.Expr (.Yield (some (.Name sLa p2)) p3) p4] [] env)) fs s := by
  intro k
  induction k with
  | zero => intro s₀ s h; exact absurd h (Nat.lt_irrefl _)
  | succ k ih =>
    intro s₀ s _ hexp st at'
    refine seg_whileLoop ?_
    refine isTrue_plain (Constant_bool (wpAny_truthy_bool ?_)) rfl
    rw [if_pos rfl]
    refine seg_execs_cons (seg_Expr_Yield hfs rfl hfg ?_ hco (not_interactive fx))
    obtain ⟨m, hns, t, hm⟩ := at'.ns
    refine wpAny_Name (wpAny_loadName_local fx.kind (fx.kl _ hl) (by rw [hL]; exact hns) hm fun kap hkap => ?_) (by decide +kernel)
    refine ⟨⟨l, t, hexp k (Nat.lt_succ_self _), rfl⟩, st, fun hk s'' hkp g => hkap .none s'' ?_⟩
    have at'' := at'.keeps hkp g
    exact seg_again rfl (ih s'' s'' hk (fun j hj => hexp j (Nat.lt_succ_of_lt hj)) at''.refl at'')

theorem gconst_cm : gconst sCM = some (.int 127) := by
  unfold gconst
  rw [if_neg (by decide +kernel), if_neg (by decide +kernel), if_neg (by decide +kernel), if_neg (by decide +kernel), if_neg (by decide +kernel), if_pos (by decide +kernel)]
theorem IntsAre.cons_inv {vs : List Value} {i : Int} {r : List Int} (h : IntsAre vs (i :: r)) : ∃ t us, vs = .int i t :: us ∧ IntsAre us r := by
  cases h with
  | cons _ t h => exact ⟨t, _, rfl, h⟩

theorem loop_seg (fx : Fx env sc) (hL : env.locals = L) (hg : env.globals = mainGlobals) (hl : sc.kind sLa = some .local) (hi : sc.kind sIn = some .local) (hc : sc.kind sCM = some .globalImplicit) (hco : env.scope.isCoroutine = false)
    (hh : ∀ c, (A.over c fs).handled = none) (hfs : splitAtGen fs = none) (hfg : fs.any Frame.guarded = false)
    {rs els : List Stmt} {k1 k2 k3 : Nat} {p4 p6 p7 p8 p9 p10 p11 p12 p13 p14 p15 p16 p17 p18 p19 p20 p21 p22 p23 p24 p25 p26 p27 p28 p29 : Pos} {body : List Stmt} (hb : body = [
        .If (.Compare (.Name sIn p6) [.Eq] [.Name sCM p7] p8) [.Return none p9] [] p10,
        .If (.Compare (.Name sIn p11) [.Eq] [.Constant (.int 0) k1 p12] p13) [
          .If (.Compare (.Name sLa p14) [.Is] [.Constant .none k2 p15] p16) rs [] p17,
          .While (.Constant (.bool true) k3 p18) [.Expr (.Yield (some (.Name sLa p19)) p20) p21] [] p22] [] p23,
        .Expr (.Yield (some (.Name sIn p24)) p25) p26,
        .Assign [.Name sLa p27] (.Name sIn p28) p29])
    (hend : ∀ k s₀ s, giEnd L It exp k s₀ (.ok (.ret .none)) s → Seg (model prog w) A (giEnd L It exp) (giProto h₀ L It ax exp) k s₀ (.forLoop (.Name sIn p4) (.ref It) body els env) (.pure (.done (.ret .none))) fs s) :
    ∀ (r : List Int) (k : Nat) (last : Option Int) (p : Nat) (outs : List Int) (s₀ s : Shared), 0 < k → gi k last r = some outs → (∀ j, j < k → exp (k - 1 - j) = outs[j]?) → IntsAre (vs.toList.drop p) r → GStep L It s₀ s → GAt prog w Γ h₀ L It ax vs last p s →
      Seg (model prog w) A (giEnd L It exp) (giProto h₀ L It ax exp) k s₀ (.forLoop (.Name sIn p4) (.ref It) body els env) ((model prog w).den (.forLoop (.Name sIn p4) (.ref It) body els env)) fs s := by
  intro r
  induction r with
  | nil =>
    intro k last p outs s₀ s hk hgi
    cases k with
    | zero => exact absurd hk (Nat.lt_irrefl _)
    | succ k => cases hgi
  | cons i r ih =>
    intro k last p outs s₀ s hk hgi hexp hin st at'
    cases k with
    | zero => exact absurd hk (Nat.lt_irrefl _)
    | succ k =>
      obtain ⟨t, us, hdr, hus⟩ := IntsAre.cons_inv hin
      have hvp : vs[p]? = some (.int i t) := by
        have := congrArg (·[0]?) hdr
        simpa using this
      have hdr' : IntsAre (vs.toList.drop (p + 1)) r := by
        have : vs.toList.drop (p + 1) = us := by
          have := congrArg List.tail hdr
          simpa using this
        rw [this]; exact hus
      refine seg_forLoop' ?_
      refine wpAny_pyNext_list_item at'.it at'.il hvp fun h' hit' hs' => ?_
      refine letOwned_plain ⟨_, _, hit'.choose_spec.1, hit'.choose_spec.2.1, by decide⟩ ?_
      obtain ⟨m, hns, hm⟩ := at'.ns
      have hns' : h'.Ns L m := hns.at' fun o e => hs'.extBut _ o at'.ne.1 e
      refine PyProof.Rows.assign_Name (wpAny_storeName_local (fx.kl _ hi) (by rw [hL]; exact hns') (fun h₂ hn₂ hs₂ => ?_) (by simp [fx.kind]))
      rw [hL] at hn₂ hs₂
      dsimp only at hn₂ hs₂ ⊢
      have kp : ∀ b o, b ≠ L → b ≠ It → s.heap.get? b = some o → h₂.get? b = some o := fun b o h1 h2 e => hs₂.extBut b o h1 (hs'.extBut b o h2 e)
      have hit₂ : h₂.IsListIter It ax (p + 1) := hit'.at fun o e => hs₂.extBut It o (Ne.symm at'.ne.1) e
      have hil₂ : h₂.IsList ax vs := at'.il.at fun o e => kp ax o (Ne.symm at'.ne.2.1) (Ne.symm at'.ne.2.2) e
      have hns₂ : h₂.Ns L (nset m sIn (.int i t)) := hn₂
      have mI : nset m sIn (.int i t) sIn = some (.int i t) := if_pos rfl
      have neq : sLa ≠ sIn := by decide +kernel
      have mL : nset m sIn (.int i t) sLa = m sLa := if_neg neq
      have k2' : ∀ b o, h₀.get? b = some o → h₂.get? b = some o := fun b o e => kp b o (fun q => by rw [q, at'.g.2.1] at e; cases e) (fun q => by rw [q, at'.g.2.2] at e; cases e) (at'.k b o e)
      have G2 : GOK prog w Γ h₂ := at'.g.1.keeps k2'
      obtain ⟨cm, hcm, hcv⟩ := at'.g.1.cst sCM (.int 127) gconst_cm
      obtain ⟨tc, rfl⟩ := hcv fun _ => none
      have dI : (sIn == ("__debug__" : Str)) = false := by decide +kernel
      have dL : (sLa == ("__debug__" : Str)) = false := by decide +kernel
      have dC : (sCM == ("__debug__" : Str)) = false := by decide +kernel
      -- any state that only counts further
      have stp : ∀ tk, GStep L It s₀ { s with heap := h₂, toks := tk } := fun tk => ⟨fun b o h1 h2 e => kp b o h1 h2 (st.kept b o h1 h2 e), by obtain ⟨o, _, _, e, _⟩ := hns₂; exact ⟨o, e⟩, by obtain ⟨o, e, _⟩ := hit₂; exact ⟨o, e⟩, st.os, st.gens⟩
      have atn : ∀ tk, GAt prog w Γ h₀ L It ax vs last (p + 1) { s with heap := h₂, toks := tk } := fun tk => ⟨at'.g, k2', ⟨_, hns₂, by
        cases last with
        | none => rw [mL]; exact hm
        | some l => obtain ⟨t', hm⟩ := hm; exact ⟨t', by rw [mL]; exact hm⟩⟩, hit₂, hil₂, at'.ne⟩
      have ldI : ∀ {A' : Around} {pp : Pos} {tk : Nat} {Q : Value → Shared → Prop} {E : Value → Shared → Prop}, Q (.int i t) { s with heap := h₂, toks := tk } → wpAny (model prog w) A' (eval (.Name sIn pp) env) Q E { s with heap := h₂, toks := tk } := fun hq =>
        wpAny_Name (wpAny_loadName_local fx.kind (fx.kl _ hi) (by rw [hL]; exact hns₂) mI hq) dI
      subst hb
      refine seg_execs_cons (seg_stmt (wpAny_If (wpAny_isTrue_Compare1 (ldI (Name_function_global fx.kind (fx.kinds _ hc) (loadGlobal_global (by rw [hg]; exact G2.g) hcm ?_) dC)) rfl)))
      refine PySem.P.eq_int (wpAny_truthy_bool ?_)
      rewrite [qGi] at hgi
      by_cases h127 : i = 127
      · rw [if_pos h127] at hgi
        cases hgi
        have e1 : (i == 127) = true := by simpa using h127
        rw [e1]
        simp only [if_true]
        refine wpAny_execs_cons (wpAny_Return_none ?_)
        exact hend _ _ _ ⟨rfl, by have := hexp 0 hk; simpa using this, stp _⟩
      · rw [if_neg h127] at hgi
        have e1 : (i == 127) = false := by simpa using h127
        rw [e1]
        simp only [Bool.false_eq_true, if_false]
        refine wpAny_execs_nil ?_
        refine seg_execs_cons (seg_If' (wpAny_isTrue_Compare1 (ldI (wpAny_Constant_int ?_)) rfl))
        refine PySem.P.eq_int (wpAny_truthy_bool ?_)
        by_cases h0 : i = 0
        · rw [if_pos h0] at hgi
          have e2 : (i == 0) = true := by simpa using h0
          rw [e2]
          simp only [if_true]
          cases last with
          | none => cases hgi
          | some l =>
            cases hgi
            obtain ⟨t', hm⟩ := hm
            refine seg_execs_cons (seg_stmt (wpAny_If (wpAny_isTrue_Compare1 (wpAny_Name (wpAny_loadName_local fx.kind (fx.kl _ hl) (by rw [hL]; exact hns₂) (by rw [mL]; exact hm) (Constant_none ?_)) dL) rfl)))
            refine is_none (wpAny_truthy_bool ?_)
            have e3 : (Value.int l t' == Value.none) = false := rfl
            simp only [e3, Bool.false_eq_true, if_false]
            refine wpAny_execs_nil ?_
            refine seg_execs_cons (seg_While fun pp => ?_)
            refine while_seg (k3 := k3) fx hL hl hco (by unfold splitAtGen; rw [hfs]; rfl) (by rw [List.any_cons, hfg]; rfl) (k + 1) s₀ _ (Nat.succ_pos _) (fun j hj => ?_) (stp _) (atn _)
            have := hexp (k - j) (by (first | lia | omega))
            rw [show k + 1 - 1 - (k - j) = j by (first | lia | omega)] at this
            rw [this]
            simp only [giRep, List.getElem?_replicate]
            rw [if_pos (by (first | lia | omega))]
        · rw [if_neg h0] at hgi
          have e2 : (i == 0) = false := by simpa using h0
          rw [e2]
          simp only [Bool.false_eq_true, if_false]
          refine seg_execs_nil ?_
          rw [Option.map_eq_some_iff] at hgi
          obtain ⟨outs', hgi, rfl⟩ := hgi
          refine seg_execs_cons (seg_Expr_Yield hfs rfl hfg (ldI fun kap hkap => ?_) hco (not_interactive fx))
          refine ⟨⟨i, t, by simpa using hexp 0 hk, rfl⟩, stp _, fun hk' s'' hkp g => hkap .none s'' ?_⟩
          have at2 := (atn 0).keeps (s'' := s'') hkp g
          have hns'' : s''.heap.Ns L (nset m sIn (.int i t)) := hns₂.at' fun o e => hkp L (.inl rfl) o e
          refine seg_execs_cons (seg_stmt (wpAny_Assign_Name (wpAny_Name (wpAny_loadName_local fx.kind (fx.kl _ hi) (by rw [hL]; exact hns'') mI ?_) dI)))
          refine wpAny_storeName_local (fx.kl _ hl) (by rw [hL]; exact hns'') (fun h₃ hn₃ hs₃ => ?_) (by simp [fx.kind])
          rw [hL] at hn₃ hs₃
          refine seg_execs_nil (seg_again rfl (ih k (some i) (p + 1) outs' s'' _ hk' hgi (fun j hj => ?_) hdr' ?_ ?_))
          · have := hexp (j + 1) (by (first | lia | omega))
            rw [show k + 1 - 1 - (j + 1) = k - 1 - j by (first | lia | omega)] at this
            simpa using this
          · exact ⟨fun b o h1 _ e => hs₃.extBut b o h1 e, by obtain ⟨o, _, _, e, _⟩ := hn₃; exact ⟨o, e⟩, by obtain ⟨o, e, _⟩ := at2.it; exact ⟨o, hs₃.extBut It o (Ne.symm at'.ne.1) e⟩, rfl, rfl⟩
          · exact ⟨at'.g, fun b o e => hs₃.extBut b o (fun q => by rw [q, at'.g.2.1] at e; cases e) (g b o e), ⟨_, hn₃, t, if_pos rfl⟩, at2.it.at fun o e => hs₃.extBut It o (Ne.symm at'.ne.1) e, at2.il.at fun o e => hs₃.extBut ax o (Ne.symm at'.ne.2.1) e, at'.ne⟩

theorem first_seg {ps : Arguments} {b : List Stmt} {gs : Scope} (gi' : GroupInt ps b gs) {nm : Str} {fa : Addr} {cd : Value} {s : Shared} {m : NM} {ns outs : List Int} {k : Nat} (hA : A.handled = none) (hk : 0 < k) (hgi : gi k none ns = some outs) (hexp : ∀ j, j < k → exp (k - 1 - j) = outs[j]?)
    (g : GOK prog w Γ h₀) (hL0 : h₀.get? L = none) (hkp : ∀ b o, h₀.get? b = some o → s.heap.get? b = some o) (hns : s.heap.Ns L m) (hm : m sGr = some (.ref ax)) (hil : s.heap.IsList ax vs) (hin : IntsAre vs.toList ns) (hLax : L ≠ ax) :
    Seg (model prog w) A (giEnd L s.heap.objs.size exp) (giProto h₀ L s.heap.objs.size ax exp) k s (.func b (envOf nm gs L fa cd)) ((model prog w).den (.func b (envOf nm gs L fa cd))) [] s := by
  obtain ⟨rs, kk, k0, k1, k2, k3, p1, p2, p3, p4, p5, p6, p7, p8, p9, p10, p11, p12, p13, p14, p15, p16, p17, p18, p19, p20, p21, p22, p23, p24, p25, p26, p27, p28, p29, p30, hb, _⟩ := gi'.body
  have fx : Fx (envOf nm gs L fa cd) (scOf gs) := fx_gen gi'.ok
  obtain ⟨_, _, hkk, hco, _, _⟩ := genOK_spec gi'.ok
  have hco' : (envOf nm gs L fa cd).scope.isCoroutine = false := hco
  have eL : (envOf nm gs L fa cd).locals = L := rfl
  have eg : (envOf nm gs L fa cd).globals = mainGlobals := rfl
  generalize envOf nm gs L fa cd = env at *
  have hLlt : L < s.heap.objs.size := hns.lt
  have h0sz : h₀.get? s.heap.objs.size = none := by
    cases e : h₀.get? s.heap.objs.size with
    | none => rfl
    | some o => exact absurd (Heap.lt_size (hkp _ o e)) (Nat.lt_irrefl _)
  have haxlt : ax < s.heap.objs.size := by obtain ⟨o, e, _⟩ := hil; exact Heap.lt_size e
  refine seg_func ?_
  rw [hb]
  refine seg_execs_cons (seg_stmt (wpAny_Assign_Name (Constant_none (wpAny_storeName_local (fx.kl _ gi'.ll) (by rw [eL]; exact hns) (fun h₁ hn₁ hs₁ => ?_) (by simp [fx.kind])))))
  rw [eL] at hn₁ hs₁
  dsimp only at hn₁ hs₁ ⊢
  have hn₁' : h₁.Ns L (nset m sLa .none) := hn₁
  have neq : sGr ≠ sLa := by decide +kernel
  have hsz : h₁.objs.size = s.heap.objs.size := hs₁.1
  refine seg_execs_cons (seg_For' (fun _ => rfl) (wpAny_Name (wpAny_loadName_local fx.kind (fx.kl _ gi'.lg) (by rw [eL]; exact hn₁') (by rw [show nset m sLa .none sGr = m sGr from if_neg neq]; exact hm) ?_) (by decide +kernel)))
  have hil₁ : h₁.IsList ax vs := hil.at fun o e => hs₁.extBut ax o (Ne.symm hLax) e
  refine wpAny_pyIter_list hil₁ fun pp => ?_
  have hpk : ∀ b o, h₁.get? b = some o → (h₁.push { cls := .type "list_iterator", data := .fields #[.ref ax, .int 0 0] }).get? b = some o := fun b o e => Heap.get?_push_of_some _ e
  have hit : (h₁.push { cls := .type "list_iterator", data := .fields #[.ref ax, .int 0 0] }).IsListIter s.heap.objs.size ax 0 := by
    rw [← hsz]; exact ⟨_, Heap.get?_push_size _ rfl, rfl, rfl⟩
  dsimp only
  rw [hsz]
  refine loop_seg (Γ := Γ) fx eL eg gi'.ll gi'.li gi'.lc hco' ?_ rfl rfl rfl (fun k s₀ s' he => ?_) ns k none 0 outs s _ hk hgi hexp (by simpa using hin) ?_ ?_
  · exact fun c => hA
  · exact seg_leaf (.ok (.ret .none)) (seg_end (.ok (.ret .none)) he)
  · exact ⟨fun b o h1 _ e => hpk _ _ (hs₁.extBut b o h1 e), by obtain ⟨o, _, _, e, _⟩ := hn₁'; exact ⟨o, hpk _ _ e⟩, by obtain ⟨o, e, _⟩ := hit; exact ⟨o, e⟩, rfl, rfl⟩
  · exact ⟨⟨g, hL0, h0sz⟩, fun b o e => hpk _ _ (hs₁.extBut b o (fun q => by rw [q, hL0] at e; cases e) (hkp b o e)), ⟨_, hn₁'.keeps hpk, if_pos rfl⟩, hit, hil₁.at (hpk _), Nat.ne_of_lt hLlt, hLax, Nat.ne_of_gt haxlt⟩
end
end Mine

namespace Mine

section
variable {prog : Program} {w : World} {A : Around} {E : Value → Shared → Prop} {s : Shared}

theorem nextOf_range_item {it : Addr} {x left step : Int} {Q : Value → Shared → Prop} (hit : IsRangeIter s.heap it x left step) (hleft : 0 < left)
    (hQ : ∀ h', IsRangeIter h' it (x + step) (left - 1) step → Heap.SameBut it s.heap h' → Q (.int x s.toks) { s with heap := h', toks := s.toks + 1 }) :
    wpAny (model prog w) A (Builtin.SmallTypes.nextOf (.ref it)) Q E s := by
  have hT : s.TypeIs (.ref it) "range_iterator" := ⟨_, hit, rfl⟩
  unfold Builtin.SmallTypes.nextOf
  refine wpAny_bind (wpAny_callSpecial?_slot (name := Str.ofString "__next__") hT PySem.F.slot_range_iterator_next
    (call_meets PySem.F.slot_range_iterator_next hT PySem.F.entry_range_iterator_next (PySem.F.args_range_iterator_next_1 _) (AutoRange.range_iterator___next___range_iterator_1 it x left step (by (first | lia | omega))) ⟨hit, ?_⟩))
  exact wpAny_pure (hQ _ (Heap.get?_update_self _ (Heap.get?_update_self _ hit rfl) rfl) ((Heap.SameBut.update ..).trans (Heap.SameBut.update ..)))

/-- StopIteration is raised, freshly made -/
theorem stop_raised {A' : Around} {α : Type} {Q : α → Shared → Prop} (hh : A'.handled = none) (h : ∀ h' e, (∀ b o, s.heap.get? b = some o → h'.get? b = some o) → (∃ o, h'.get? e = some o ∧ o.cls = .type "StopIteration") → E (.ref e) { s with heap := h' }) :
    wpAny (model prog w) A' (newExc (.type "StopIteration") [] >>= fun e => (raiseNew e : Sem α)) Q E s := by
  refine wpAny_bind ?_
  simp only [newExc, newTuple]
  refine wpAny_bind (wpAny_newObj_type ?_ (by size_fits))
  refine wpAny_bind (m := firstArgMember _ _) (wpAny_of_eq (a := Value.none) (by first | rfl | (simp only [firstArgMember]; rfl)) ?_)
  refine wpAny_newObj_type ?_ (by size_fits)
  simp only [raiseNew]
  refine wpAny_bind (wpAny_handled ?_)
  rw [hh]
  refine wpAny_bind (wpAny_pure (wpAny_throw ?_))
  exact h _ _ (fun b o e => Heap.get?_push_of_some _ (Heap.get?_push_of_some _ e)) ⟨_, Heap.get?_push_size _ rfl, rfl⟩

theorem stop_raised_k {A' : Around} {α β : Type} {Q : β → Shared → Prop} {k : α → Sem β} (hh : A'.handled = none) (h : ∀ h' e, (∀ b o, s.heap.get? b = some o → h'.get? b = some o) → (∃ o, h'.get? e = some o ∧ o.cls = .type "StopIteration") → E (.ref e) { s with heap := h' }) :
    wpAny (model prog w) A' (newExc (.type "StopIteration") [] >>= fun e => ((raiseNew e : Sem α) >>= k)) Q E s := by
  refine wpAny_bind ?_
  simp only [newExc, newTuple]
  refine wpAny_bind (wpAny_newObj_type ?_ (by size_fits))
  refine wpAny_bind (m := firstArgMember _ _) (wpAny_of_eq (a := Value.none) (by first | rfl | (simp only [firstArgMember]; rfl)) ?_)
  refine wpAny_newObj_type ?_ (by size_fits)
  simp only [raiseNew]
  refine wpAny_bind (wpAny_bind (wpAny_handled ?_))
  rw [hh]
  refine wpAny_bind (wpAny_pure (wpAny_throw ?_))
  exact h _ _ (fun b o e => Heap.get?_push_of_some _ (Heap.get?_push_of_some _ e)) ⟨_, Heap.get?_push_size _ rfl, rfl⟩

theorem nextOf_range_end {it : Addr} {x left step : Int} {Q : Value → Shared → Prop} (hh : A.handled = none) (hit : IsRangeIter s.heap it x left step) (hleft : left ≤ 0)
    (h : ∀ h' e, (∀ b o, s.heap.get? b = some o → h'.get? b = some o) → (∃ o, h'.get? e = some o ∧ o.cls = .type "StopIteration") → E (.ref e) { s with heap := h' }) :
    wpAny (model prog w) A (Builtin.SmallTypes.nextOf (.ref it)) Q E s := by
  have hT : s.TypeIs (.ref it) "range_iterator" := ⟨_, hit, rfl⟩
  unfold Builtin.SmallTypes.nextOf
  refine wpAny_bind (wpAny_callSpecial?_slot (name := Str.ofString "__next__") hT PySem.F.slot_range_iterator_next
    (wpAny_call_entry PySem.F.slot_range_iterator_next hT PySem.F.entry_range_iterator_next ?_ (PySem.F.args_range_iterator_next_1 _)))
  show wpAny _ _ (field (.ref it) 0 >>= _) _ _ s
  refine wpAny_bind (wpAny_field hit rfl (x := rawInt x) rfl ?_)
  show wpAny _ _ (field (.ref it) 1 >>= _) _ _ s
  refine wpAny_bind (wpAny_field hit rfl (x := rawInt left) rfl ?_)
  show wpAny _ _ (field (.ref it) 2 >>= _) _ _ s
  refine wpAny_bind (wpAny_field hit rfl (x := rawInt step) rfl ?_)
  show wpAny _ _ (if left ≤ 0 then _ else _) _ _ s
  rw [if_pos hleft]
  refine wpAny_bind (wpAny_rule ?_)
  exact wpAny_bind (stop_raised (A' := A.in1) hh h)

theorem nextOf_gen {a : Addr} {g n : Nat} {gs : GenState} {P : Nat → Shared → Shared → Prop} {Y : Protocol} {Q : Value → Shared → Prop} (hh : A.handled = none) (hl : s.heap.NoLimit) (hroom : A.depth < recursionLimit)
    (hg : s.heap.IsGen a g) (hgs : s.gens[g]? = some gs)
    (hgo : gs.Goes (model prog w) A.in1 (fun n s₀ r s₁ => r = .ok (.ret .none) ∧ P n s₀ s₁) Y n (.send .none) (s.setGen g .running))
    (hY : ∀ v s₁ gs', gs'.bare = true → Y (n - 1) (s.setGen g .running) v s₁ (fun r' s'' => match n with
        | 0 => False
        | m + 1 => gs'.Goes (model prog w) A.in1 (fun n s₀ r s₁ => r = .ok (.ret .none) ∧ P n s₀ s₁) Y m r' s'') → Q v (s₁.setGen g gs'))
    (hP : ∀ s₁, P n (s.setGen g .running) s₁ → ∀ h' e, (∀ b o, s₁.heap.get? b = some o → h'.get? b = some o) → (∃ o, h'.get? e = some o ∧ o.cls = .type "StopIteration") → E (.ref e) { s₁.setGen g .finished with heap := h' }) :
    wpAny (model prog w) A (Builtin.SmallTypes.nextOf (.ref a)) Q E s := by
  unfold Builtin.SmallTypes.nextOf
  refine wpAny_bind (wpAny_callSpecial?_slot (name := Str.ofString "__next__") hg.typeIs slot_gen_next
    (wpAny_call_entry slot_gen_next hg.typeIs entry_gen_next ?_ (args_gen_next _)))
  show wpAny _ A.in1 (Builtin.Generator.genWake (.ref a) (.send .none)) _ _ s
  unfold Builtin.Generator.genWake
  refine wpAny_bind (wpAny_holding (wpAny_genNumber hg (wpAny_bind (wpAny_genState hgs ?_))))
  cases gs with
  | running => exact hgo.elim
  | finished => exact hgo.elim
  | _ =>
    refine wpAny_bind (wpAny_roomToWake hl hroom ?_)
    show wpAny _ A.in1 (.resume g (.send .none) [] _) _ _ s
    refine wpAny_resumeQ hgs hgo (fun x s₁ hx => ?_) (fun v s₁ gs' hb hv => ?_)
    · obtain ⟨rfl, hp⟩ := hx
      exact stop_raised_k (s := s₁.setGen g .finished) (A' := A.in1) hh (hP s₁ hp)
    · exact wpAny_pure ⟨v, rfl, wpAny_pure (hY v s₁ gs' hb hv)⟩
end
end Mine

namespace Mine

noncomputable abbrev zA1 (h : Heap) (k : Int) : Heap := h.push { cls := .type "range_iterator", data := .fields #[rawInt 0, rawInt (Builtin.Range.rangeSize 0 k 1), rawInt 1] }
noncomputable abbrev zA2 (h : Heap) (k : Int) (ga : Addr) : Heap := (zA1 h k).push { cls := .type "tuple", data := .seq #[.ref h.objs.size, .ref ga] }
noncomputable abbrev zA3 (h : Heap) (k : Int) (ga : Addr) : Heap := (zA2 h k ga).push { cls := .type "tuple", data := .seq #[.none, .none] }
noncomputable abbrev zA4 (h : Heap) (k : Int) (ga : Addr) : Heap := (zA3 h k ga).push { cls := .type "zip", data := .fields #[.none, .bool false, .bool false, .ref (zA1 h k).objs.size, .ref (zA2 h k ga).objs.size] }

theorem meets_zipRG (r ga : Addr) (k : Int) (t u v : Tok) (g : Nat) (hsm : Builtin.Range.small 0 k 1 = true) :
    Meets (Builtin.«zip.__new__» ⟨[.type "zip", .ref r, .ref ga], []⟩) (fun _ R s => IsRange s.heap r 0 k 1 t u v ∧ s.heap.IsGen ga g ∧
      R (.ok (.ret (.ref (zA3 s.heap k ga).objs.size))) { s with heap := zA4 s.heap k ga }) :=
  .of_wp fun prog w A R s h => by
    obtain ⟨hp, gn, d, tk, os⟩ := s; obtain ⟨hl1, hl2, h⟩ := h
    have hsub := sub_zip
    have hR : IsRange (Shared.heap ⟨hp, gn, d, tk, os⟩) r 0 k 1 t u v := hl1
    have hG : Heap.IsGen (Shared.heap ⟨zA1 hp k, gn, d, tk, os⟩) ga g := Heap.IsGen.push hl2 _
    wp_walk using wpAny_pyIter_range hR hsm, wpAny_pyIter_gen hG
    exact ⟨_, rfl, h⟩

section
variable {prog : Program} {w : World} {A : Around} {E : Value → Shared → Prop} {s : Shared}

theorem zip_make {r ga : Addr} {k : Int} {t u v : Tok} {g : Nat} {Q : Value → Shared → Prop} (hsm : Builtin.Range.small 0 k 1 = true) (hr : IsRange s.heap r 0 k 1 t u v) (hg : s.heap.IsGen ga g)
    (h : ∀ h' z TI TO ri, z = s.heap.objs.size + 3 → TO = s.heap.objs.size + 2 → TI = s.heap.objs.size + 1 → ri = s.heap.objs.size → IsZip h' z TI TO .none → IsPair h' TI (.ref ri) (.ref ga) → IsPair h' TO .none .none → IsRangeIter h' ri 0 (Builtin.Range.rangeSize 0 k 1) 1 →
      (∀ c o, s.heap.get? c = some o → h'.get? c = some o) → Q (.ref z) { s with heap := h' }) :
    wpAny (model prog w) A (call (.type "zip") [.ref r, .ref ga]) Q E s := by
  refine callType_new PySem.F.called_zip (by decide) (PySem.F.typeCall_zip_2 _ _) (PySem.F.newCall_zip_2 _ _) (fun obj => PySem.F.args_object_init_3 obj _ _) PySem.F.entry_zip_new (meets_zipRG r ga k t u v g hsm) ⟨hr, hg, ?_⟩
  have z1 : (zA1 s.heap k).objs.size = s.heap.objs.size + 1 := Heap.size_push ..
  have z2 : (zA2 s.heap k ga).objs.size = s.heap.objs.size + 2 := by rw [Heap.size_push, z1]
  have z3 : (zA3 s.heap k ga).objs.size = s.heap.objs.size + 3 := by rw [Heap.size_push, z2]
  have g4 : (zA4 s.heap k ga).get? (zA3 s.heap k ga).objs.size = some _ := Heap.get?_push_size _ rfl
  have g3 : (zA4 s.heap k ga).get? (zA2 s.heap k ga).objs.size = some _ := Heap.get?_push_of_some _ (Heap.get?_push_size _ rfl)
  have g2 : (zA4 s.heap k ga).get? (zA1 s.heap k).objs.size = some _ := Heap.get?_push_of_some _ (Heap.get?_push_of_some _ (Heap.get?_push_size _ rfl))
  have g1 : (zA4 s.heap k ga).get? s.heap.objs.size = some _ := Heap.get?_push_of_some _ (Heap.get?_push_of_some _ (Heap.get?_push_of_some _ (Heap.get?_push_size _ rfl)))
  show _ ∧ _
  rw [z1, z2, z3] at g4
  rw [z2] at g3
  rw [z1] at g2
  rw [z3]
  exact ⟨⟨_, g4, rfl⟩, h _ _ _ _ _ rfl rfl rfl rfl g4 g2 g3 g1 fun c o x => Heap.get?_push_of_some _ (Heap.get?_push_of_some _ (Heap.get?_push_of_some _ (Heap.get?_push_of_some _ x)))⟩

/-- one step of zip(range, other): other's step is told by hN -/
theorem zip_step {z TI TO ri ga : Addr} {x left : Int} {a b : Value} {Q : Option Value → Shared → Prop} (hzTI : TI ≠ z) (hzTO : TO ≠ z) (hzr : ri ≠ z) (hTr : TO ≠ ri)
    (hz : IsZip s.heap z TI TO .none) (hTI : IsPair s.heap TI (.ref ri) (.ref ga)) (hTO : IsPair s.heap TO a b) (hr : IsRangeIter s.heap ri x left 1) (hleft : 0 < left)
    (hN : ∀ h₃ Es, IsZip h₃ z TI TO .ellipsis → IsPair h₃ TO (.int x s.toks) b → IsRangeIter h₃ ri (x + 1) (left - 1) 1 → (∀ c o, c ≠ z → c ≠ ri → c ≠ TO → s.heap.get? c = some o → h₃.get? c = some o) →
      (∀ e s₄, IsZip s₄.heap z TI TO .ellipsis → (∃ o, s₄.heap.get? e = some o ∧ o.cls = .type "StopIteration") → (∀ h', (∀ c o, c ≠ z → s₄.heap.get? c = some o → h'.get? c = some o) → Q none { s₄ with heap := h' }) → Es (.ref e) s₄) →
      wpAny (model prog w) A.in1 (Builtin.SmallTypes.nextOf (.ref ga)) (fun y s₄ => IsZip s₄.heap z TI TO .ellipsis ∧ IsPair s₄.heap TO (.int x s.toks) b ∧
        (∀ h', IsZip h' z TI TO (rawInt s₄.heap.objs.size) → IsPair h' s₄.heap.objs.size (.int x s.toks) y → IsPair h' TO (.int x s.toks) y → (∀ c o, c ≠ z → c ≠ TO → s₄.heap.get? c = some o → h'.get? c = some o) → Q (some (.ref s₄.heap.objs.size)) { s₄ with heap := h' })) Es { s with heap := h₃, toks := s.toks + 1 }) :
    wpAny (model prog w) A (pyNext (.ref z)) Q E s := by
  have hT : s.TypeIs (.ref z) "zip" := ⟨_, hz, rfl⟩
  unfold pyNext
  refine wpAny_bind (wpAny_attempt (wpAny_callSpecial?_slot (name := Str.ofString "__next__") hT PySem.F.slot_zip_next
    (wpAny_call_entry PySem.F.slot_zip_next hT PySem.F.entry_zip_next ?_ (PySem.F.args_zip_next_1 _))))
  show wpAny _ _ (field (.ref z) 2 >>= _) _ _ _
  refine wpAny_bind (wpAny_field hz rfl (x := .bool false) rfl ?_)
  show wpAny _ _ (field (.ref z) 3 >>= _) _ _ _
  refine wpAny_bind (wpAny_field hz rfl (x := .ref TI) rfl ?_)
  refine wpAny_bind (wpAny_seqItems hTI rfl ?_)
  show wpAny _ _ (Builtin.SmallTypes.ownedTupleIsFree (.ref z) >>= _) _ _ _
  refine wpAny_bind ?_
  unfold Builtin.SmallTypes.ownedTupleIsFree
  refine wpAny_bind (wpAny_field hz rfl (x := .none) rfl (wpAny_pure ?_))
  simp only [if_true]
  refine wpAny_bind (wpAny_rule ?_)
  refine wpAny_bind (wpAny_field hz rfl (x := .ref TO) rfl ?_)
  refine wpAny_bind (wpAny_setField_rec hz (by simp) fun h₁ hz₁ hs₁ => ?_)
  replace hz₁ : IsZip h₁ z TI TO .ellipsis := hz₁
  refine wpAny_bind ?_
  simp only [List.zipIdx_cons, List.zipIdx_nil, List.forIn_cons, List.forIn_nil]
  refine wpAny_bind (wpAny_bind (wpAny_onRaise ?_))
  show wpAny _ _ (Builtin.SmallTypes.nextOf (.ref ri) >>= _) _ _ _
  refine wpAny_bind (nextOf_range_item (hs₁.extBut _ _ hzr hr) hleft fun h₂ hr₂ hs₂ => wpAny_pure ?_)
  dsimp only at hs₁ hs₂ ⊢
  have hTO₂ : IsPair h₂ TO a b := hs₂.extBut _ _ hTr (hs₁.extBut _ _ hzTO hTO)
  refine wpAny_bind (wpAny_seqItems hTO₂ rfl ?_)
  refine wpAny_bind (wpAny_updateSeq_pair hTO₂ fun h₃ hTO₃ hs₃ => ?_)
  replace hTO₃ : IsPair h₃ TO (.int x s.toks) b := hTO₃
  dsimp only at hs₃ ⊢
  refine wpAny_bind (wpAny_letGo (wpAny_pure ?_))
  refine wpAny_bind (wpAny_bind (wpAny_onRaise ?_))
  show wpAny _ _ (Builtin.SmallTypes.nextOf (.ref ga) >>= _) _ _ _
  have hz₃ : IsZip h₃ z TI TO .ellipsis := hs₃.extBut _ _ (Ne.symm hzTO) (hs₂.extBut _ _ (Ne.symm hzr) hz₁)
  have hk₃ : ∀ c o, c ≠ z → c ≠ ri → c ≠ TO → s.heap.get? c = some o → h₃.get? c = some o := fun c o h1 h2 h3 e => hs₃.extBut c o h3 (hs₂.extBut c o h2 (hs₁.extBut c o h1 e))
  have hr₃ : IsRangeIter h₃ ri (x + 1) (left - 1) 1 := hs₃.extBut _ _ (Ne.symm hTr) hr₂
  refine wpAny_bind (wpAny_mono (hN h₃ _ hz₃ hTO₃ hr₃ hk₃ fun e s₄ hz₄ hst hq => ?_) (fun y s₄ hy => wpAny_pure ?_) fun _ _ q => q)
  · obtain ⟨oe, hoe, hce⟩ := hst
    have hez : e ≠ z := fun q => by subst q; rw [hz₄] at hoe; cases hoe; simp at hce
    refine wpAny_setField_rec hz₄ (by simp) fun h₅ _ hs₅ => ?_
    refine wpAny_bind (wpAny_isInstance (T := "StopIteration") (b := true) ⟨oe, hs₅.extBut _ _ hez hoe, hce⟩ isSubtype_stop ?_)
    exact wpAny_pure (hq h₅ fun c o h1 e => hs₅.extBut c o h1 e)
  · obtain ⟨hz₄, hTO₄, hq⟩ := hy
    obtain ⟨h₄, g₄, d₄, t₄, os₄⟩ := s₄
    dsimp only at hz₄ hTO₄ hq ⊢
    refine wpAny_bind (wpAny_seqItems hTO₄ rfl ?_)
    refine wpAny_bind (wpAny_updateSeq_pair hTO₄ fun h₅ hTO₅ hs₅ => ?_)
    replace hTO₅ : IsPair h₅ TO (.int x s.toks) y := hTO₅
    dsimp only at hs₅ ⊢
    refine wpAny_bind (wpAny_letGo (wpAny_pure (wpAny_pure ?_)))
    refine wpAny_bind (wpAny_seqItems hTO₅ rfl ?_)
    refine wpAny_bind (wpAny_newTuple ?_)
    have hsz : h₅.objs.size = h₄.objs.size := hs₅.1
    have hz₅ : IsZip h₅ z TI TO .ellipsis := hs₅.extBut _ _ (Ne.symm hzTO) hz₄
    have hzlt : z < h₅.objs.size := Heap.lt_size hz₅
    have hTOlt : TO < h₅.objs.size := Heap.lt_size hTO₅
    dsimp only
    show wpAny _ _ (Builtin.SmallTypes.ownedTupleHandOut (.ref z) (.ref h₅.objs.size) >>= _) _ _ _
    refine wpAny_bind ?_
    unfold Builtin.SmallTypes.ownedTupleHandOut
    have hz₆ : IsZip (h₅.push { cls := .type "tuple", data := .seq #[.int x s.toks, y] }) z TI TO .ellipsis := Heap.get?_push_of_some _ hz₅
    refine wpAny_bind (wpAny_setField_rec hz₆ (by simp) fun h₇ hz₇ hs₇ => ?_)
    replace hz₇ : IsZip h₇ z TI TO (rawInt h₅.objs.size) := hz₇
    refine wpAny_setField_rec hz₇ (by simp) fun h₈ hz₈ hs₈ => ?_
    replace hz₈ : IsZip h₈ z TI TO (rawInt h₅.objs.size) := hz₈
    have up : ∀ c o, c ≠ z → h₅.get? c = some o → h₈.get? c = some o := fun c o c1 e => hs₈.extBut _ _ c1 (hs₇.extBut _ _ c1 (Heap.get?_push_of_some _ e))
    have hT₈ : IsPair h₈ h₅.objs.size (.int x s.toks) y := hs₈.extBut _ _ (Nat.ne_of_gt hzlt) (hs₇.extBut _ _ (Nat.ne_of_gt hzlt) (Heap.get?_push_size _ rfl))
    rw [hsz] at hz₈ hT₈
    rw [hsz]
    exact wpAny_pure ⟨_, rfl, wpAny_pure (hq h₈ hz₈ hT₈ (up _ _ hzTO hTO₅) fun c o c1 c2 e => up c o c1 (hs₅.extBut c o c2 e))⟩

theorem zip_stop {z TI TO ri ga : Addr} {x left : Int} {a b : Value} {Q : Option Value → Shared → Prop} (hh : A.handled = none) (hzTO : TO ≠ z) (hzr : ri ≠ z)
    (hz : IsZip s.heap z TI TO .none) (hTI : IsPair s.heap TI (.ref ri) (.ref ga)) (hTO : IsPair s.heap TO a b) (hr : IsRangeIter s.heap ri x left 1) (hleft : left ≤ 0)
    (hq : ∀ h', (∀ c o, c ≠ z → s.heap.get? c = some o → h'.get? c = some o) → Q none { s with heap := h' }) : wpAny (model prog w) A (pyNext (.ref z)) Q E s := by
  have hT : s.TypeIs (.ref z) "zip" := ⟨_, hz, rfl⟩
  unfold pyNext
  refine wpAny_bind (wpAny_attempt (wpAny_callSpecial?_slot (name := Str.ofString "__next__") hT PySem.F.slot_zip_next
    (wpAny_call_entry PySem.F.slot_zip_next hT PySem.F.entry_zip_next ?_ (PySem.F.args_zip_next_1 _))))
  show wpAny _ _ (field (.ref z) 2 >>= _) _ _ _
  refine wpAny_bind (wpAny_field hz rfl (x := .bool false) rfl ?_)
  show wpAny _ _ (field (.ref z) 3 >>= _) _ _ _
  refine wpAny_bind (wpAny_field hz rfl (x := .ref TI) rfl ?_)
  refine wpAny_bind (wpAny_seqItems hTI rfl ?_)
  show wpAny _ _ (Builtin.SmallTypes.ownedTupleIsFree (.ref z) >>= _) _ _ _
  refine wpAny_bind ?_
  unfold Builtin.SmallTypes.ownedTupleIsFree
  refine wpAny_bind (wpAny_field hz rfl (x := .none) rfl (wpAny_pure ?_))
  simp only [if_true]
  refine wpAny_bind (wpAny_rule ?_)
  refine wpAny_bind (wpAny_field hz rfl (x := .ref TO) rfl ?_)
  refine wpAny_bind (wpAny_setField_rec hz (by simp) fun h₁ hz₁ hs₁ => ?_)
  replace hz₁ : IsZip h₁ z TI TO .ellipsis := hz₁
  refine wpAny_bind ?_
  simp only [List.zipIdx_cons, List.zipIdx_nil, List.forIn_cons, List.forIn_nil]
  refine wpAny_bind (wpAny_bind (wpAny_onRaise ?_))
  show wpAny _ _ (Builtin.SmallTypes.nextOf (.ref ri) >>= _) _ _ _
  refine wpAny_bind (nextOf_range_end (A := A.in1) hh (hs₁.extBut _ _ hzr hr) hleft fun h₂ e hk₂ he => ?_)
  obtain ⟨oe, hoe, hce⟩ := he
  dsimp only at hs₁ hk₂ ⊢
  have hz₂ : IsZip h₂ z TI TO .ellipsis := hk₂ _ _ hz₁
  have hez : e ≠ z := fun q => by subst q; rw [hz₂] at hoe; cases hoe; simp at hce
  refine wpAny_setField_rec hz₂ (by simp) fun h₃ _ hs₃ => ?_
  refine wpAny_bind (wpAny_isInstance (T := "StopIteration") (b := true) ⟨oe, hs₃.extBut _ _ hez hoe, hce⟩ isSubtype_stop ?_)
  exact wpAny_pure (hq h₃ fun c o h1 e => hs₃.extBut c o h1 (hk₂ c o (hs₁.extBut c o h1 e)))
end
end Mine

namespace Mine

section
variable {prog : Program} {w : World} {Γ : Gp} {env : Env} {sc : Sc} {h₀ : Heap} {X W : List Addr} {ρ : Loc} {m : NM} {oa : OA} {s s' : Shared}

theorem Fm.hidGrow {wr wr' : List Addr} (f : Fm prog w Γ env sc h₀ (wr ++ X) W ρ m oa s) (kp : ∀ b o, b ∉ wr → s.heap.get? b = some o → s'.heap.get? b = some o) (hwr : ∀ b ∈ wr', b ∈ wr ∨ s.heap.get? b = none) (hl : Live wr' s'.heap) (hin : ∀ b ∈ wr, b ∈ wr')
    (hW : ∀ b ∈ wr, b ∉ W) (h0 : ∀ b ∈ wr, h₀.get? b = none) : Fm prog w Γ env sc h₀ (wr' ++ X) W ρ m oa s' := by
  have hsub : Sub (gX s.heap ((wr ++ X) ++ W)) (gX s'.heap ((wr' ++ X) ++ W)) := fun a o e => by
    obtain ⟨e1, e2⟩ := gX_get e
    rw [List.append_assoc, List.mem_append, not_or] at e2
    refine gX_of (kp a o e2.1 e1) ?_
    rw [List.append_assoc, List.mem_append, not_or]
    refine ⟨fun q => ?_, e2.2⟩
    rcases hwr a q with h | h
    · exact e2.1 h
    · rw [h] at e1; cases e1
  have hw : ∀ b, b ∈ W → b ∉ wr := fun b hb q => hW b q hb
  refine ⟨⟨f.root.1, fun a o e => ?_⟩, ?_, f.lin, f.ns.at' fun o e => kp _ o (hw _ f.lin) e, ?_, ?_, ?_, f.cef, f.cei, ?_, ?_, f.oad, f.hi⟩
  · obtain ⟨e1, e2⟩ := gX_get (f.root.2 a o e)
    exact gX_of (kp a o (fun q => by rw [h0 a q] at e; cases e) e1) e2
  · intro a ha
    rw [List.append_assoc] at ha
    rcases List.mem_append.mp ha with h | h
    · exact hl a h
    · by_cases q : a ∈ wr
      · exact hl a (hin a q)
      · obtain ⟨o, e⟩ := f.live a (by rw [List.append_assoc]; exact List.mem_append_right _ h)
        exact ⟨o, kp a o q e⟩
  · exact fun y i v h1 h2 h3 => let ⟨v', h4, h5⟩ := f.loc y i v h1 h2 h3; ⟨v', h4, h5.mono hsub⟩
  · intro y h
    obtain ⟨c, h1, h2⟩ := f.cel y h
    refine ⟨c, h1, fun i v h3 h4 => ?_⟩
    obtain ⟨v', ⟨o, h5, h6⟩, h7⟩ := h2 i v h3 h4
    refine ⟨v', ⟨o, kp c o ?_ h5, h6⟩, h7.mono hsub⟩
    rcases h with h | h
    · exact hw c (f.cew y c h h1).1
    · intro q; obtain ⟨o, e⟩ := f.cef y c h h1; rw [h0 c q] at e; cases e
  · exact fun y c h1 h2 => let ⟨h3, h4, h5, v, o, h6, h7⟩ := f.cew y c h1 h2; ⟨h3, h4, h5, v, o, kp c o (hw c h3) h6, h7⟩
  · exact fun y i sl h1 h2 h3 => let ⟨h4, a, r, h5, h6, h7⟩ := f.own y i sl h1 h2 h3; ⟨h4, a, r, h5, h6, h7.keeps hsub fun b hb o => kp b o (hw b (f.oax i b hb).1)⟩
  · intro i a ha
    obtain ⟨h1, h2, h3⟩ := f.oax i a ha
    refine ⟨h1, fun q => ?_, h3⟩
    rcases List.mem_append.mp q with q | q
    · rcases hwr a q with h | h
      · exact h2 (List.mem_append_left _ h)
      · obtain ⟨o, e⟩ := f.live a (List.mem_append_right _ h1)
        rw [h] at e; cases e
    · exact h2 (List.mem_append_right _ q)
end

noncomputable def ItR (oi : Option Addr) (It : Addr) (s : Shared) : Prop := match oi with | none => s.heap.get? It = none | some a => It = a
/-- where the generator stands before its next step; n steps are still allowed -/
noncomputable def GenSt (prog : Program) (w : World) (A₂ : Around) (h₀ : Heap) (L ax : Addr) (exp : Nat → Option Int) (g : Nat) (oi : Option Addr) (n : Nat) (s : Shared) : Prop := match oi with
  | none => ∃ ps b nm gs fa cd m, s.gens[g]? = some (.fresh (.func b (envOf nm gs L fa cd))) ∧ GroupInt ps b gs ∧ s.heap.Ns L m ∧ m sGr = some (.ref ax)
  | some It => ∃ gs', s.gens[g]? = some gs' ∧ (∃ o, s.heap.get? L = some o) ∧ (∃ o, s.heap.get? It = some o) ∧
      ∀ s'' : Shared, (∀ b, b = L ∨ b = It ∨ b = ax → ∀ o, s.heap.get? b = some o → s''.heap.get? b = some o) → (∀ b o, h₀.get? b = some o → s''.heap.get? b = some o) →
        gs'.Goes (model prog w) A₂ (giEnd L It exp) (giProto h₀ L It ax exp) n (.send .none) s''

section
variable {prog : Program} {w : World} {Γ : Gp} {A : Around} {h₀ : Heap} {s : Shared}

theorem gen_step {L ax ga : Addr} {vs : Array Value} {ns outs : List Int} {exp : Nat → Option Int} {g n : Nat} {oi : Option Addr} {Q : Value → Shared → Prop} {Es : Value → Shared → Prop} (hh : A.handled = none) (hroom : A.depth < recursionLimit) (hn : 0 < n)
    (hg0 : GOK prog w Γ h₀) (hL0 : h₀.get? L = none) (hkp : ∀ b o, h₀.get? b = some o → s.heap.get? b = some o) (hgen : s.heap.IsGen ga g) (hil : s.heap.IsList ax vs) (hin : IntsAre vs.toList ns) (hLax : L ≠ ax)
    (st : GenSt prog w A.in1 h₀ L ax exp g oi n s) (hfirst : oi = none → gi n none ns = some outs ∧ ∀ j, j < n → exp (n - 1 - j) = outs[j]?)
    (hy : ∀ i t s' It x, exp (n - 1) = some i → (∀ b o, b ≠ L → b ≠ It → s.heap.get? b = some o → s'.heap.get? b = some o) → ItR oi It s → (∃ o, s'.heap.get? L = some o) → (∃ o, s'.heap.get? It = some o) →
      s'.os = s.os → GenState.bare x = true → s'.gens = s.gens.setIfInBounds g x → (1 < n → GenSt prog w A.in1 h₀ L ax exp g (some It) (n - 1) s') → Q (.int i t) s')
    (he : ∀ e s' It x, exp (n - 1) = none → (∀ b o, b ≠ L → b ≠ It → s.heap.get? b = some o → s'.heap.get? b = some o) → ItR oi It s →
      s'.os = s.os → GenState.bare x = true → s'.gens = s.gens.setIfInBounds g x → (∃ o, s'.heap.get? e = some o ∧ o.cls = .type "StopIteration") → Es (.ref e) s') :
    wpAny (model prog w) A (Builtin.SmallTypes.nextOf (.ref ga)) Q Es s := by
  have key : ∀ (gs : GenState) (It : Addr), s.gens[g]? = some gs → ItR oi It s → gs.Goes (model prog w) A.in1 (giEnd L It exp) (giProto h₀ L It ax exp) n (.send .none) (s.setGen g .running) →
      wpAny (model prog w) A (Builtin.SmallTypes.nextOf (.ref ga)) Q Es s := fun gs It hgs hit hgo => by
    have hlt : g < s.gens.size := (Array.getElem?_eq_some_iff.mp hgs).1
    refine nextOf_gen (P := fun n s₀ s₁ => exp (n - 1) = none ∧ GStep L It s₀ s₁) (Y := giProto h₀ L It ax exp) hh (hg0.keeps hkp).lim hroom hgen hgs hgo (fun v s₁ gs' hb hy' => ?_) (fun s₁ hp h' e hk hst => ?_)
    · obtain ⟨⟨i, t, hi, rfl⟩, stp, hkap⟩ := hy'
      have hgens : (s₁.setGen g gs').gens = s.gens.setIfInBounds g gs' := by
        show s₁.gens.setIfInBounds g gs' = _
        rw [stp.gens]
        show (s.gens.setIfInBounds g .running).setIfInBounds g gs' = _
        simp
      refine hy i t _ It gs' hi stp.kept hit stp.liveL stp.liveI stp.os hb hgens fun h1 => ⟨gs', ?_, stp.liveL, stp.liveI, fun s'' h2 h3 => ?_⟩
      · rw [hgens]; simp [hlt]
      · have := hkap (by omega) s'' h2 h3
        cases n with
        | zero => exact absurd hn (Nat.lt_irrefl _)
        | succ n => exact this
    · obtain ⟨h1, stp⟩ := hp
      refine he e _ It .finished h1 (fun b o hb1 hb2 eb => hk b o (stp.kept b o hb1 hb2 eb)) hit stp.os rfl ?_ hst
      show s₁.gens.setIfInBounds g .finished = _
      rw [stp.gens]
      show (s.gens.setIfInBounds g .running).setIfInBounds g .finished = _
      simp
  cases oi with
  | none =>
    obtain ⟨ps, b, nm, gs, fa, cd, m, h1, h2, h3, h4⟩ := st
    obtain ⟨hgi, hexp⟩ := hfirst rfl
    refine key _ s.heap.objs.size h1 (fresh_none _ (Nat.le_refl _)) ⟨rfl, ?_⟩
    exact first_seg (Γ := Γ) (s := s.setGen g .running) h2 (A := A.in1) hh hn hgi hexp hg0 hL0 hkp h3 h4 hil hin hLax
  | some It =>
    obtain ⟨gs', h1, _, _, h2⟩ := st
    exact key gs' It h1 rfl (h2 _ (fun b _ o e => e) hkp)
end
end Mine

namespace Mine

/-- what stands when zip(range(3), _grouping_intervals(..)) has been made -/
structure ZipSet (s₂ s₅ : Shared) (ax : Addr) (B : Addr) (gn : Nat) : Prop where
  base : s₂.heap.objs.size = B
  kept : ∀ b o, s₂.heap.get? b = some o → s₅.heap.get? b = some o
  os : s₅.os = s₂.os
  gsz : s₂.gens.size = gn
  gens : ∃ (ps : Arguments) (b : List Stmt) (nm : Str) (gs : Scope) (fa : Addr) (cd : Value) (m : NM), s₅.gens = s₂.gens.push (.fresh (.func b (envOf nm gs B fa cd))) ∧ GroupInt ps b gs ∧ s₅.heap.Ns B m ∧ m sGr = some (.ref ax)
  gen : s₅.heap.IsGen (B + 1) gn
  zip : IsZip s₅.heap (B + 5) (B + 3) (B + 4) .none
  ti : IsPair s₅.heap (B + 3) (.ref (B + 2)) (.ref (B + 1))
  tto : IsPair s₅.heap (B + 4) .none .none
  ri : IsRangeIter s₅.heap (B + 2) 0 3 1

section
variable {prog : Program} {w : World} {Γ : Gp} {n : Nat} {C : Nat → List AV → Option AV} {A : Around} {env : Env} {sc : Sc} {ρ : Loc} {X : List Addr} {s : Shared}

theorem zip_setup {g g2 g3 : Str} {p1 p2 p3 p4 p5 p6 p7 : Pos} {kk : Nat} {a : Expr} {p : PE} {xs : List AV} {ns : List Int} {Q : Value → Shared → Prop} {E : Value → Shared → Prop} (h1 : isGlob sc g = true) (h2 : isGlob sc g2 = true) (h3 : isGlob sc g3 = true) (e1 : g = "zip") (e2 : g2 = "range") (e3 : g3 = "_grouping_intervals")
    (he : SndE prog w Γ n C sc a p) (hns : ∀ v r, a ≠ .Starred v r) (hv : evE C p ρ = some (.list xs)) (hi : ints? xs = some ns) (cx : Cx prog w Γ n A env sc ρ X s)
    (hQ : ∀ s₂ s₅ ax vs B gn, Ext s s₂ → s₂.heap.IsList ax vs → IntsAre vs.toList ns → ax ∉ X → ZipSet s₂ s₅ ax B gn → Q (.ref (B + 5)) s₅) :
    wpAny (model prog w) A (eval (.Call (.Name g p1) [.Call (.Name g2 p2) [.Constant (.int 3) kk p3] [] p4, .Call (.Name g3 p5) [a] [] p6] [] p7) env) (fun xv s₁ => wpAny (model prog w) A (pyIter xv) Q E s₁) E s := by
  subst e1 e2 e3
  refine Call_Name rfl (glob_builtin (fv := .type "zip") cx h1 (by simp [bnames]) ?_)
  refine PyProof.Rows.callWith_type1 ?_ rfl rfl
  show wpAny _ A (spliced [(false, eval (.Call (.Name (Str.ofString "range") p2) [.Constant (.int 3) kk p3] [] p4) env), (false, eval (.Call (.Name (Str.ofString "_grouping_intervals") p5) [a] [] p6) env)]) _ E s
  refine spliced_cons (Call_Name rfl (glob_builtin (fv := .type "range") cx h2 (by simp [bnames]) ?_))
  refine PyProof.Rows.callWith_type1 ?_ rfl rfl
  show wpAny _ A (spliced [(false, eval (.Constant (.int 3) kk p3) env)]) _ E s
  refine spliced_cons (wpAny_Constant_int (spliced_nil (call_range_1 ?_)))
  obtain ⟨s₁, es⟩ : ∃ s₁ : Shared, s₁ = { s with heap := s.heap.push { cls := .type "range", data := .fields #[.int 0 (s.toks + 1), .int 3 s.toks, .int 1 (s.toks + 1 + 1)] }, toks := s.toks + 1 + 1 + 1 } := ⟨_, rfl⟩
  dsimp only
  rw [← es]
  have x₁ : Ext s s₁ := by rw [es]; exact .push _
  have hr : IsRange s₁.heap s.heap.objs.size 0 3 1 (s.toks + 1) s.toks (s.toks + 1 + 1) := by rw [es]; exact Heap.get?_push_size _ rfl
  obtain ⟨ps, b, fs, hth, gi'⟩ := theFun_group
  have cx₁ := cx.ext x₁
  obtain ⟨fa, o, pm, cd, doc, m1, m2, m3, m4⟩ := cx₁.g.fns _ _ _ _ hth
  obtain ⟨fd, hfd⟩ : ∃ fd, o.data = .func fd := ⟨_, m3⟩
  refine spliced_cons (Call_Name rfl (Name_function_global cx₁.e.kind (cx₁.e.kinds _ (by simpa [isGlob] using h3)) (loadGlobal_global (by rw [cx₁.e.gl]; exact cx₁.g.g) m1 ?_) (by decide +kernel)))
  have trees : backTo p6 (starEach [a] env) = [(false, eval a env)] := by rw [star_not hns]; rfl
  rw [trees]
  refine callWith_function (o := o) (fd := fd) (evalArgs_plain (spliced_cons (he env ρ (.list xs) A X s₁ _ _ hv cx₁ fun s₂ v' x₂ r₂ => spliced_nil ?_)))
  obtain ⟨ax, vs, rfl, il, rr, hz, hsz, hax⟩ := r₂.isList
  have cx₂ := cx₁.ext x₂
  refine ⟨⟨x₂.heap _ _ m2, hfd⟩, ?_⟩
  obtain ⟨hps, hnd, hkk, hco, hgen, hnm⟩ := genOK_spec gi'.ok
  have hbind : bindArgs (docDef (Str.ofString "_grouping_intervals") ps b fs pm cd doc) ⟨[.ref ax], []⟩ = pure [(sGr, .ref ax)] := by
    have hl1 : ps.args.length = 1 := by have := congrArg List.length gi'.par; simpa using this
    rw [hps, bind_gen (by rw [hl1]; rfl) hnd, gi'.par]; rfl
  have hnc : ∀ y ∈ fs.names, y.2 ≠ .cell := fun y hy e => by
    rcases (hnm y hy).1 with h | h <;> rw [e] at h <;> cases h
  refine wpAny_call (codeAny_call_generator (by have := cx.ao.dep; (first | lia | omega)) (x₂.heap _ _ m2) m3 hco hgen rfl (m4.keeps x₂.heap) ?_)
  refine wpAny_of_eq hbind (wpAny_newFunctionEnv hnc (fun y hy => by simp at hy; subst hy; exact gi'.lg) (fun h₁ hns₁ hsb => ⟨cx₂.g.lim.fresh _ hsb, spliced_nil ?_⟩) hkk)
  have hk1 : ∀ b o, s₂.heap.get? b = some o → h₁.get? b = some o := fun b o e => hsb.extBut b o (Nat.ne_of_lt (Heap.lt_size e)) (Heap.get?_push_of_some _ e)
  have hsz1 : h₁.objs.size = s₂.heap.objs.size + 1 := by rw [hsb.1, Heap.size_push]
  have hsm : Builtin.Range.small 0 3 1 = true := small_one (by (first | lia | omega)) (by (first | lia | omega)) (by (first | lia | omega)) (by (first | lia | omega))
  have hrs : Builtin.Range.rangeSize 0 3 1 = 3 := by decide
  have hkg : ∀ ob b o, h₁.get? b = some o → (h₁.push ob).get? b = some o := fun ob b o e => Heap.get?_push_of_some _ e
  refine zip_make hsm (t := s.toks + 1) (u := s.toks) (v := s.toks + 1 + 1) (g := s₂.gens.size) (hkg _ _ _ (hk1 _ _ (x₂.heap _ _ hr))) ⟨_, _, _, Heap.get?_push_size _ rfl, rfl, rfl, rfl⟩ fun h' z TI TO ri hz1 hz2 hz3 hz4 hz5 hz6 hz7 hz8 hz9 => ?_
  refine wpAny_pyIter_zip hz5 ?_
  have hsz2 : ∀ ob, (h₁.push ob).objs.size = s₂.heap.objs.size + 2 := fun ob => by rw [Heap.size_push, hsz1]
  dsimp only at hz1 hz2 hz3 hz4 hz9
  rw [hsz2] at hz1 hz2 hz3 hz4
  subst hz1 hz2 hz3 hz4
  rw [hrs] at hz8
  refine hQ s₂ _ ax vs s₂.heap.objs.size s₂.gens.size (x₁.trans x₂) il (ints_of hi rr) hax ⟨rfl, fun b o e => hz9 _ _ (hkg _ _ _ (hk1 b o e)), rfl, rfl, ⟨ps, b, _, fs, fa, _, _, rfl, gi', hns₁.keeps fun b o e => hz9 _ _ (hkg _ _ _ e), rfl⟩, ?_, hz5, ?_, hz7, hz8⟩
  · rw [← hsz1]
    exact Heap.IsGen.keeps ⟨_, _, _, Heap.get?_push_size _ rfl, rfl, rfl, rfl⟩ hz9
  · rw [← hsz1]; exact hz6
end
end Mine

namespace Mine

theorem gi_len : ∀ (k : Nat) (last : Option Int) (r outs : List Int), gi k last r = some outs → outs.length ≤ k
  | 0, _, _, outs, h => by cases h; exact Nat.le_refl _
  | _ + 1, _, [], _, h => by cases h
  | k + 1, last, i :: r, outs, h => by
    rewrite [qGi] at h
    split at h
    · cases h; simp
    · split at h
      · cases last with
        | none => cases h
        | some l => cases h; simp [giRep]
      · rw [Option.map_eq_some_iff] at h
        obtain ⟨o, h, rfl⟩ := h
        have := gi_len k _ r o h
        simp; omega
theorem zipIdx_cons' {outs : List Int} {j : Nat} {i : Int} (h : outs[j]? = some i) : zipIdx j (outs.drop j) = .tup [.int j, .int i] :: zipIdx (j + 1) (outs.drop (j + 1)) := by
  have hj : j < outs.length := (List.getElem?_eq_some_iff.mp h).1
  have : outs.drop j = i :: outs.drop (j + 1) := by
    rw [List.drop_eq_getElem_cons hj, (List.getElem?_eq_some_iff.mp h).2]
  rw [this]; rfl
theorem zipIdx_nil' {outs : List Int} {j : Nat} (h : outs[j]? = none) : zipIdx j (outs.drop j) = [] := by
  rw [List.getElem?_eq_none_iff] at h
  rw [List.drop_of_length_le h]; rfl

/-- the generators but one -/
structure GG (g : Nat) (a b : Array GenState) : Prop where
  bare : AllBare a → AllBare b
  kept : ∀ (i : Nat) (x : GenState), i ≠ g → a[i]? = some x → b[i]? = some x
theorem GG.refl (g : Nat) (a : Array GenState) : GG g a a := ⟨id, fun _ _ _ e => e⟩
theorem GG.set {g : Nat} {a : Array GenState} {x : GenState} (hx : x.bare = true) : GG g a (a.setIfInBounds g x) where
  bare := fun h y hy => by
    obtain ⟨i, hi⟩ := Array.getElem?_of_mem hy
    rw [Array.getElem?_setIfInBounds] at hi
    split at hi
    · split at hi
      · cases hi; exact hx
      · cases hi
    · exact h _ (Array.mem_of_getElem? hi)
  kept := fun i y hi hy => by rw [Array.getElem?_setIfInBounds_ne (Ne.symm hi)]; exact hy

structure ZA where
  L : Addr
  ga : Addr
  ri : Addr
  TI : Addr
  TO : Addr
  z : Addr
  ax : Addr
structure ZN (a : ZA) : Prop where
  zL : a.z ≠ a.L
  zT : a.TO ≠ a.z
  zr : a.ri ≠ a.z
  zI : a.TI ≠ a.z
  zg : a.ga ≠ a.z
  za : a.ax ≠ a.z
  TL : a.TO ≠ a.L
  Tr : a.TO ≠ a.ri
  TI' : a.TI ≠ a.TO
  Tg : a.ga ≠ a.TO
  Ta : a.ax ≠ a.TO
  rL : a.ri ≠ a.L
  rI : a.TI ≠ a.ri
  rg : a.ga ≠ a.ri
  ra : a.ax ≠ a.ri
  LI : a.TI ≠ a.L
  Lg : a.ga ≠ a.L
  La : a.L ≠ a.ax
structure ZIt (a : ZA) (It : Addr) : Prop where
  z : a.z ≠ It
  T : a.TO ≠ It
  r : a.ri ≠ It
  I : a.TI ≠ It
  g : a.ga ≠ It
  L : a.L ≠ It
  x : a.ax ≠ It
noncomputable def zaOf (B ax : Nat) : ZA := ⟨B, B + 1, B + 2, B + 3, B + 4, B + 5, ax⟩
theorem zn_of {B ax : Nat} (h : ax < B) : ZN (zaOf B ax) := by
  constructor <;> (simp only [zaOf]; show (_ : Nat) ≠ _; (first | lia | omega))

/-- the zip loop's own state, j items on -/
structure ZInv (prog : Program) (w : World) (A : Around) (h₀ : Heap) (a : ZA) (vs : Array Value) (exp : Nat → Option Int) (gn : Nat) (wr W : List Addr) (j : Nat) (oi : Option Addr) (s : Shared) : Prop where
  mL : a.L ∈ wr
  mR : a.ri ∈ wr
  mT : a.TO ∈ wr
  mZ : a.z ∈ wr
  mI : ∀ It, oi = some It → It ∈ wr
  mem : ∀ b ∈ wr, b = a.L ∨ b = a.ri ∨ b = a.TO ∨ b = a.z ∨ oi = some b
  live : Live wr s.heap
  out : ∀ b ∈ wr, b ∉ W
  oG : a.ga ∉ W
  oT : a.TI ∉ W
  oA : a.ax ∉ W
  ne : ZN a
  nit : ∀ It, oi = some It → ZIt a It
  zip : IsZip s.heap a.z a.TI a.TO .none
  ti : IsPair s.heap a.TI (.ref a.ri) (.ref a.ga)
  tto : ∃ x y, IsPair s.heap a.TO x y
  ri : IsRangeIter s.heap a.ri (j : Int) (3 - (j : Int)) 1
  gen : s.heap.IsGen a.ga gn
  il : s.heap.IsList a.ax vs
  st : j < 3 → GenSt prog w A.in1.in1 h₀ a.L a.ax exp gn oi (3 - j) s
  first : oi = none → j = 0

section
variable {prog : Program} {w : World} {Γ : Gp} {A : Around} {h₀ : Heap} {a : ZA} {vs : Array Value} {exp : Nat → Option Int} {gn : Nat} {wr W W' : List Addr} {j : Nat} {oi : Option Addr} {s s' : Shared}

theorem GenSt.frame {A₂ : Around} {L ax : Addr} {g n : Nat} (st : GenSt prog w A₂ h₀ L ax exp g oi n s) (hk : ∀ b, b = L ∨ b = ax ∨ oi = some b → ∀ o, s.heap.get? b = some o → s'.heap.get? b = some o) (hg : ∀ x, s.gens[g]? = some x → s'.gens[g]? = some x) : GenSt prog w A₂ h₀ L ax exp g oi n s' := by
  cases oi with
  | none =>
    obtain ⟨ps, b, nm, gs, fa, cd, m, h1, h2, h3, h4⟩ := st
    exact ⟨ps, b, nm, gs, fa, cd, m, hg _ h1, h2, h3.at' fun o e => hk L (.inl rfl) o e, h4⟩
  | some It =>
    obtain ⟨gs', h1, ⟨o1, e1⟩, ⟨o2, e2⟩, h4⟩ := st
    refine ⟨gs', hg _ h1, ⟨o1, hk L (.inl rfl) _ e1⟩, ⟨o2, hk It (.inr (.inr rfl)) _ e2⟩, fun s'' h5 h6 => h4 s'' (fun b hb o e => h5 b hb o (hk b ?_ o e)) h6⟩
    rcases hb with rfl | rfl | rfl
    · exact .inl rfl
    · exact .inr (.inr rfl)
    · exact .inr (.inl rfl)

theorem ZInv.frame (I : ZInv prog w A h₀ a vs exp gn wr W j oi s) (ev : Ev W s W' s') : ZInv prog w A h₀ a vs exp gn wr W' j oi s' := by
  have k : ∀ b o, b ∉ W → s.heap.get? b = some o → s'.heap.get? b = some o ∧ b ∉ W' := fun b o hb e => gX_get (ev.sub b o (gX_of e hb))
  have kw : ∀ b ∈ wr, ∀ o, s.heap.get? b = some o → s'.heap.get? b = some o ∧ b ∉ W' := fun b hb o e => k b o (I.out b hb) e
  refine ⟨I.mL, I.mR, I.mT, I.mZ, I.mI, I.mem, ?_, ?_, ?_, ?_, ?_, I.ne, I.nit, (kw _ I.mZ _ I.zip).1, (k _ _ I.oT I.ti).1, ?_, (kw _ I.mR _ I.ri).1, ?_, I.il.at fun o e => (k _ o I.oA e).1, ?_, I.first⟩
  · intro b hb; obtain ⟨o, e⟩ := I.live b hb; exact ⟨o, (kw b hb o e).1⟩
  · intro b hb; obtain ⟨o, e⟩ := I.live b hb; exact (kw b hb o e).2
  · obtain ⟨o, _, _, e, _⟩ := I.gen; exact (k _ o I.oG e).2
  · exact (k _ _ I.oT I.ti).2
  · obtain ⟨o, e, _⟩ := I.il; exact (k _ o I.oA e).2
  · obtain ⟨a, b, e⟩ := I.tto; exact ⟨a, b, (kw _ I.mT _ e).1⟩
  · obtain ⟨o, nm, qn, e, r⟩ := I.gen; exact ⟨o, nm, qn, (k _ o I.oG e).1, r⟩
  · intro hj
    refine (I.st hj).frame (fun b hb o e => ?_) fun x hx => ev.gens.kept _ _ hx
    rcases hb with rfl | rfl | hb
    · exact (kw _ I.mL o e).1
    · exact (k _ o I.oA e).1
    · exact (kw _ (I.mI b hb) o e).1

/-- one turn of the zip loop leaves -/
structure ZStep (wr : List Addr) (gn : Nat) (s s' : Shared) : Prop where
  kept : ∀ b o, b ∉ wr → s.heap.get? b = some o → s'.heap.get? b = some o
  os : s'.os = s.os
  gens : GG gn s.gens s'.gens

theorem IsGen_live {h : Heap} {ga : Addr} {g : Nat} (x : h.IsGen ga g) : ∃ o, h.get? ga = some o := let ⟨o, _, _, e, _⟩ := x; ⟨o, e⟩
theorem IsGen_at {h h' : Heap} {ga : Addr} {g : Nat} (x : h.IsGen ga g) (k : ∀ o, h.get? ga = some o → h'.get? ga = some o) : h'.IsGen ga g := let ⟨o, nm, qn, e, r⟩ := x; ⟨o, nm, qn, k o e, r⟩

theorem zip_turn {ns outs : List Int} {es : List Expr} {kk : Nat} {tp : Pos} {Q : Option Value → Shared → Prop} {E : Value → Shared → Prop} (I : ZInv prog w A h₀ a vs exp gn wr W j oi s) (hh : A.handled = none) (hroom : A.in1.depth < recursionLimit) (hg0 : GOK prog w Γ h₀) (h0 : ∀ b ∈ wr, h₀.get? b = none)
    (hkp : ∀ b o, h₀.get? b = some o → s.heap.get? b = some o) (hgi : gi 3 none ns = some outs) (hexp : ∀ i, i < 3 → exp (2 - i) = outs[i]?) (hin : IntsAre vs.toList ns) (hlW : Live W s.heap)
    (hd : outs[j]? = none → ∀ s', ZStep wr gn s s' → Q none s')
    (hi : ∀ i, outs[j]? = some i → ∀ s₃ T, (∀ (Q' : Unit → Shared → Prop) (E' : Value → Shared → Prop),
        (∀ s' t t' wr' It, ZStep wr gn s s' → IsPair s'.heap T (.int j t) (.int i t') → T ∉ wr' → s.heap.get? T = none → (∀ b ∈ wr', b ∈ wr ∨ s.heap.get? b = none) → (∀ b ∈ wr, b ∈ wr') → ZInv prog w A h₀ a vs exp gn wr' W (j + 1) (some It) s' → Q' () s') →
        wpAny (model prog w) A (letOwnedTupleGo (.Tuple es kk tp) (.ref a.z) (.ref T)) Q' E' s₃) → Q (some (.ref T)) s₃) :
    wpAny (model prog w) A (pyNext (.ref a.z)) Q E s := by
  obtain ⟨tx, ty, hto⟩ := I.tto
  have N := I.ne
  by_cases hj : j < 3
  · have hll : (0 : Int) < 3 - (j : Int) := by (first | lia | omega)
    have he2 : 3 - j - 1 = 2 - j := by (first | lia | omega)
    have hej : exp (3 - j - 1) = outs[j]? := by rw [he2]; exact hexp j hj
    refine zip_step N.zI N.zT N.zr N.Tr I.zip I.ti hto I.ri hll fun h₃ Es z₃ T₃ r₃ k₃ hEs => ?_
    have hs3 : ∀ b o, b ∉ wr → s.heap.get? b = some o → h₃.get? b = some o := fun b o hb e => k₃ b o (fun q => hb (q ▸ I.mZ)) (fun q => hb (q ▸ I.mR)) (fun q => hb (q ▸ I.mT)) e
    have g₃ : h₃.IsGen a.ga gn := IsGen_at I.gen fun o e => k₃ _ o N.zg N.rg N.Tg e
    have l₃ : h₃.IsList a.ax vs := I.il.at fun o e => k₃ _ o N.za N.ra N.Ta e
    have ti₃ : IsPair h₃ a.TI (.ref a.ri) (.ref a.ga) := k₃ _ _ N.zI N.rI N.TI' I.ti
    have lL₃ : ∃ o, h₃.get? a.L = some o := let ⟨o, e⟩ := I.live _ I.mL; ⟨o, k₃ _ o (Ne.symm N.zL) (Ne.symm N.rL) (Ne.symm N.TL) e⟩
    obtain ⟨s₂, es₂⟩ : ∃ s₂ : Shared, s₂ = { s with heap := h₃, toks := s.toks + 1 } := ⟨_, rfl⟩
    rw [← es₂]
    have e₂ : s₂.heap = h₃ := by rw [es₂]
    have g₂ : s₂.gens = s.gens := by rw [es₂]
    have o₂ : s₂.os = s.os := by rw [es₂]
    have st₂ : GenSt prog w A.in1.in1 h₀ a.L a.ax exp gn oi (3 - j) s₂ := (I.st hj).frame (fun b hb o e => by
      rw [e₂]
      rcases hb with rfl | rfl | hb
      · exact k₃ _ o (Ne.symm N.zL) (Ne.symm N.rL) (Ne.symm N.TL) e
      · exact k₃ _ o N.za N.ra N.Ta e
      · have M := I.nit _ hb
        exact k₃ _ o (Ne.symm M.z) (Ne.symm M.r) (Ne.symm M.T) e) fun x hx => by rw [g₂]; exact hx
    have hit_ne : ∀ It, ItR oi It s₂ → ZIt a It := fun It hit => by
      cases oi with
      | some b => cases hit; exact I.nit _ rfl
      | none =>
        have hnone : h₃.get? It = none := by have : s₂.heap.get? It = none := hit; rwa [e₂] at this
        have ne_ : ∀ b, (∃ o, h₃.get? b = some o) → b ≠ It := fun b ⟨o, e⟩ q => by rw [q, hnone] at e; cases e
        exact ⟨ne_ _ ⟨_, z₃⟩, ne_ _ ⟨_, T₃⟩, ne_ _ ⟨_, r₃⟩, ne_ _ ⟨_, ti₃⟩, ne_ _ (IsGen_live g₃), ne_ _ lL₃, ne_ _ (let ⟨o, e, _⟩ := l₃; ⟨o, e⟩)⟩
    have back : ∀ b, h₃.get? b = none → s.heap.get? b = none := fun b hb => by
      cases e : s.heap.get? b with
      | none => rfl
      | some o =>
        exfalso
        by_cases q1 : b = a.z
        · subst q1; rw [z₃] at hb; cases hb
        · by_cases q2 : b = a.ri
          · subst q2; rw [r₃] at hb; cases hb
          · by_cases q3 : b = a.TO
            · subst q3; rw [T₃] at hb; cases hb
            · rw [k₃ b o q1 q2 q3 e] at hb; cases hb
    have hitw : ∀ It, ItR oi It s₂ → oi = some It ∨ s.heap.get? It = none := fun It hit => by
      cases oi with
      | some b => cases hit; exact .inl rfl
      | none => exact .inr (back _ (by have : s₂.heap.get? It = none := hit; rwa [e₂] at this))
    refine gen_step (Γ := Γ) (A := A.in1) (s := s₂) (outs := outs) (ns := ns) (vs := vs) hh hroom (n := 3 - j) (by (first | lia | omega)) hg0 (h0 _ I.mL) (fun b o e => by
      rw [e₂]; exact hs3 b o (fun q => by rw [h0 b q] at e; cases e) (hkp b o e)) (by rw [e₂]; exact g₃) (by rw [e₂]; exact l₃) hin N.La st₂ (fun q => ?_) ?_ ?_
    · have hj0 := I.first q
      subst hj0
      exact ⟨hgi, fun i hi => hexp i hi⟩
    · intro i t s₄ It x hexp' kp hit lL lI hos hb hgens hst
      have M := hit_ne It hit
      rw [hej] at hexp'
      rw [e₂] at kp
      have z₄ := kp _ _ N.zL M.z z₃
      have T₄ := kp _ _ N.TL M.T T₃
      refine ⟨z₄, T₄, fun h' z' T' TO' k' => ?_⟩
      have hTnone : s₄.heap.get? s₄.heap.objs.size = none := fresh_none _ (Nat.le_refl _)
      have neT : ∀ b, (∃ o, s₄.heap.get? b = some o) → s₄.heap.objs.size ≠ b := fun b ⟨o, e⟩ q => by rw [← q, hTnone] at e; cases e
      refine hi i hexp' _ _ fun Q' E' hq' => wpAny_letOwnedTupleGo_zip z' fun h₆ z₆ sb₆ => ?_
      have hsT : s.heap.get? s₄.heap.objs.size = none := by
        cases e : s.heap.get? s₄.heap.objs.size with
        | none => rfl
        | some o =>
          exfalso
          by_cases q1 : s₄.heap.objs.size ∈ wr
          · rcases I.mem _ q1 with q | q | q | q | q
            · exact neT _ lL q
            · exact neT _ ⟨_, kp _ _ N.rL M.r r₃⟩ q
            · exact neT _ ⟨_, T₄⟩ q
            · exact neT _ ⟨_, z₄⟩ q
            · refine neT It lI ?_
              rcases hitw It hit with r | r
              · rw [q] at r; exact Option.some.inj r
              · rw [q] at hit; exact Eq.symm hit
          · have hc : s₄.heap.get? s₄.heap.objs.size = some o := by
              refine kp _ o (fun q => q1 (q ▸ I.mL)) (fun q => ?_) (hs3 _ o q1 e)
              exact neT It lI q
            rw [hTnone] at hc; cases hc
      have up : ∀ b o, b ≠ a.z → b ≠ a.TO → s₄.heap.get? b = some o → h₆.get? b = some o := fun b o h1 h2 e => sb₆.extBut b o h1 (k' b o h1 h2 e)
      have kall : ∀ b o, b ∉ wr → s.heap.get? b = some o → h₆.get? b = some o := fun b o hb e => by
        refine up b o (fun q => hb (q ▸ I.mZ)) (fun q => hb (q ▸ I.mT)) (kp b o (fun q => hb (q ▸ I.mL)) (fun q => ?_) (hs3 b o hb e))
        rcases hitw It hit with r | r
        · exact hb (q ▸ I.mI _ r)
        · rw [q, r] at e; cases e
      have r₆ : IsRangeIter h₆ a.ri ((j : Int) + 1) (3 - (j : Int) - 1) 1 := up _ _ N.zr (Ne.symm N.Tr) (kp _ _ N.rL M.r r₃)
      have T₆ : IsPair h₆ a.TO (.int j s.toks) (.int i t) := sb₆.extBut _ _ N.zT TO'
      have L₆ : ∃ o, h₆.get? a.L = some o := let ⟨o, e⟩ := lL; ⟨o, up _ o (Ne.symm N.zL) (Ne.symm N.TL) e⟩
      have I₆ : ∃ o, h₆.get? It = some o := let ⟨o, e⟩ := lI; ⟨o, up _ o (Ne.symm M.z) (Ne.symm M.T) e⟩
      refine hq' _ _ _ (It :: wr) It ⟨kall, hos.trans o₂, ?_⟩ (sb₆.extBut _ _ (neT _ ⟨_, z₄⟩) T') (fun q => ?_) hsT (fun b hb => ?_) (fun b hb => List.mem_cons_of_mem _ hb) ⟨List.mem_cons_of_mem _ I.mL, List.mem_cons_of_mem _ I.mR, List.mem_cons_of_mem _ I.mT, List.mem_cons_of_mem _ I.mZ, fun b hb => by cases hb; exact List.mem_cons_self, ?_, ?_, ?_, I.oG, I.oT, I.oA, N, fun b hb => by cases hb; exact M, z₆, ?_, ⟨_, _, T₆⟩, ?_, ?_, ?_, ?_, nofun⟩
      · show GG gn s.gens s₄.gens
        rw [hgens, g₂]; exact .set hb
      · rcases List.mem_cons.mp q with q | q
        · exact neT It lI q
        · obtain ⟨o, e⟩ := I.live _ q; rw [hsT] at e; cases e
      · rcases List.mem_cons.mp hb with rfl | hb
        · rcases hitw _ hit with r | r
          · exact .inl (I.mI _ r)
          · exact .inr r
        · exact .inl hb
      · intro b hb
        rcases List.mem_cons.mp hb with rfl | hb
        · exact .inr (.inr (.inr (.inr rfl)))
        · rcases I.mem b hb with q | q | q | q | q
          · exact .inl q
          · exact .inr (.inl q)
          · exact .inr (.inr (.inl q))
          · exact .inr (.inr (.inr (.inl q)))
          · refine .inr (.inr (.inr (.inr ?_)))
            rw [q] at hit
            have : b = It := Eq.symm hit
            rw [this]
      · intro b hb
        rcases List.mem_cons.mp hb with rfl | hb
        · exact I₆
        · rcases I.mem b hb with q | q | q | q | q
          · subst q; exact L₆
          · subst q; exact ⟨_, r₆⟩
          · subst q; exact ⟨_, T₆⟩
          · subst q; exact ⟨_, z₆⟩
          · rw [q] at hit
            have : b = It := Eq.symm hit
            rw [this]; exact I₆
      · intro b hb q
        rcases List.mem_cons.mp hb with rfl | hb
        · rcases hitw _ hit with r | r
          · exact I.out _ (I.mI _ r) q
          · obtain ⟨o, e⟩ := hlW _ q; rw [r] at e; cases e
        · exact I.out b hb q
      · exact up _ _ N.zI N.TI' (kp _ _ N.LI M.I ti₃)
      · have e1 : ((j + 1 : Nat) : Int) = (j : Int) + 1 := by (first | lia | omega)
        rw [e1, show (3 : Int) - ((j : Int) + 1) = 3 - (j : Int) - 1 by (first | lia | omega)]
        exact r₆
      · exact IsGen_at g₃ fun o e => up _ o N.zg N.Tg (kp _ o N.Lg M.g e)
      · exact l₃.at fun o e => up _ o N.za N.Ta (kp _ o (Ne.symm N.La) M.x e)
      · intro hj1
        have := hst (by (first | lia | omega))
        rw [show 3 - j - 1 = 3 - (j + 1) by (first | lia | omega)] at this
        refine this.frame (fun b hb o e => ?_) fun x hx => hx
        rcases hb with rfl | rfl | hb
        · exact up _ o (Ne.symm N.zL) (Ne.symm N.TL) e
        · exact up _ o N.za N.Ta e
        · cases hb; exact up _ o (Ne.symm M.z) (Ne.symm M.T) e
    · intro e s₄ It x hexp' kp hit hos hb hgens hstop
      have M := hit_ne It hit
      rw [hej] at hexp'
      rw [e₂] at kp
      refine hEs e s₄ (kp _ _ N.zL M.z z₃) hstop fun h' k' => hd hexp' _ ⟨fun b o hb e => ?_, hos.trans o₂, ?_⟩
      · refine k' b o (fun q => hb (q ▸ I.mZ)) (kp b o (fun q => hb (q ▸ I.mL)) (fun q => ?_) (hs3 b o hb e))
        rcases hitw It hit with r | r
        · exact hb (q ▸ I.mI _ r)
        · rw [q, r] at e; cases e
      · show GG gn s.gens s₄.gens
        rw [hgens, g₂]; exact .set hb
  · have hlen := gi_len _ _ _ _ hgi
    refine zip_stop hh N.zT N.zr I.zip I.ti hto I.ri (by (first | lia | omega)) fun h' k' => hd (by rw [List.getElem?_eq_none_iff]; (first | lia | omega)) _ ⟨fun b o hb e => k' b o (fun q => hb (q ▸ I.mZ)) e, rfl, .refl _ _⟩
end
end Mine

namespace Mine

section
variable {prog : Program} {w : World} {Γ : Gp} {n : Nat} {C : Nat → List AV → Option AV}

theorem Fm.ofHeap {env : Env} {sc : Sc} {h₀ : Heap} {X W : List Addr} {ρ : Loc} {m : NM} {oa : OA} {s s' : Shared} (f : Fm prog w Γ env sc h₀ X W ρ m oa s) (e : s'.heap = s.heap) : Fm prog w Γ env sc h₀ X W ρ m oa s' := by
  obtain ⟨h, g, d, t, os⟩ := s
  obtain ⟨h', g', d', t', os'⟩ := s'
  dsimp only at e
  subst e
  exact ⟨f.root, f.live, f.lin, f.ns, f.loc, f.cel, f.cew, f.cef, f.cei, f.own, f.oax, f.oad, f.hi⟩

theorem Fm.dropZ {env : Env} {sc : Sc} {h₀ : Heap} {X W : List Addr} {ρ : Loc} {m : NM} {oa : OA} {s s' : Shared} {wr : List Addr} (f : Fm prog w Γ env sc h₀ (wr ++ X) W ρ m oa s) (kp : ∀ b o, b ∉ wr → s.heap.get? b = some o → s'.heap.get? b = some o) (hW : ∀ b ∈ wr, b ∉ W) (hX : ∀ b ∈ wr, b ∉ X) (h0 : ∀ b ∈ wr, h₀.get? b = none) : Fm prog w Γ env sc h₀ X W ρ m oa s' := by
  have ev : Ev wr s wr { s with heap := s'.heap } := ⟨fun b o e => by
    obtain ⟨e1, e2⟩ := gX_get e
    exact gX_of (kp b o e2 e1) e2, rfl, .refl _⟩
  exact (f.drop ev hW hX h0).ofHeap rfl

set_option tactic.hygienic true in
theorem owedZ : OwedZ prog w Γ n C := fun sc g g2 g3 p1 p2 p3 p4 p5 p6 p7 pos kk a t p ts b q hg hg2 hg3 eg eg2 eg3 htt he hns ht ha env h₀ X W ρ m oa fl ρ' A s Q E hv fx ao f h => by
  simp only [qS1,qS2,qS3,qS4,qS5,qS6,qS7,qS8,qS9,qS10,qS11,qS12,qS13,qS14,qS15,qS16,qS17,qS18, qI1, qI2, qI3, qI4, Option.bind_eq_some_iff] at hv
  obtain ⟨vals, ⟨lv, hlv, hz⟩, hv⟩ := hv
  obtain ⟨es, tk, tp, rfl⟩ : ∃ es tk tp, t = .Tuple es tk tp := by
    cases t <;> first | exact ⟨_, _, _, rfl⟩ | cases htt
  unfold zipgV at hz
  split at hz
  · rename_i xs
    simp only [Option.bind_eq_some_iff, Option.map_eq_some_iff] at hz
    obtain ⟨ns, hns', outs, hgi, rfl⟩ := hz
    refine wpAny_For ?_ (fun _ => rfl)
    refine zip_setup hg hg2 hg3 eg eg2 eg3 he hns hlv hns' (f.cx fx ao) fun s₂ s₅ ax vs B gn x₂ il hin hax Z => ?_
    have lB : ∀ b, b ∈ X ++ W → b < B := fun b hb => by
      rw [← Z.base]; exact (f.live.keeps x₂.heap).lt b hb
    have haxB : ax < B := by rw [← Z.base]; obtain ⟨o, e, _⟩ := il; exact Heap.lt_size e
    rw [List.mem_append, not_or] at hax
    have fresh : ∀ k, s.heap.get? (B + k) = none := fun k => by
      cases e : s.heap.get? (B + k) with
      | none => rfl
      | some o =>
        have h1 := Heap.lt_size (x₂.heap _ _ e)
        rw [Z.base] at h1
        exact absurd h1 (Nat.not_lt.mpr (Nat.le_add_right _ _))
    have nX : ∀ k, B + k ∉ X ++ W := fun k q => absurd (lB _ q) (Nat.not_lt.mpr (Nat.le_add_right _ _))
    obtain ⟨ps, bb, nm, gs, fa, cd, m₀, hgens, hGI, hNs, hmG⟩ := Z.gens
    have gk : GK s₂.gens s₅.gens := by
      rw [hgens]
      exact ⟨fun q => q.push rfl, fun i g e => by
        have : i < s₂.gens.size := (Array.getElem?_eq_some_iff.mp e).1
        rw [Array.getElem?_push, if_neg (Nat.ne_of_lt this)]; exact e⟩
    have x₅ : Ext s s₅ := x₂.trans ⟨Z.kept, Z.os, gk⟩
    have hgn : s.gens[gn]? = none := by
      cases e : s.gens[gn]? with
      | none => rfl
      | some g =>
        have h1 : s₂.gens[gn]? = some g := x₂.gens.kept _ _ e
        have h2 := (Array.getElem?_eq_some_iff.mp h1).1
        rw [Z.gsz] at h2
        exact absurd h2 (Nat.lt_irrefl _)
    have hwr0 : ∀ b ∈ [B + 0, B + 2, B + 4, B + 5], ∃ k, b = B + k := fun b hb => by
      simp only [List.mem_cons, List.not_mem_nil, or_false] at hb
      rcases hb with rfl | rfl | rfl | rfl
      · exact ⟨0, rfl⟩
      · exact ⟨2, rfl⟩
      · exact ⟨4, rfl⟩
      · exact ⟨5, rfl⟩
    have hlive : Live [B + 0, B + 2, B + 4, B + 5] s₅.heap := fun b hb => by
      simp only [List.mem_cons, List.not_mem_nil, or_false] at hb
      rcases hb with rfl | rfl | rfl | rfl
      · obtain ⟨o, _, _, e, _⟩ := hNs; exact ⟨o, e⟩
      · exact ⟨_, Z.ri⟩
      · exact ⟨_, Z.tto⟩
      · exact ⟨_, Z.zip⟩
    have f₅ := f.grow x₅ (wr := [B + 0, B + 2, B + 4, B + 5]) (fun b hb => by obtain ⟨k, rfl⟩ := hwr0 b hb; exact fresh k) hlive
    have I₅ : ZInv prog w A h₀ (zaOf B ax) vs (fun i => outs[2 - i]?) gn [B + 0, B + 2, B + 4, B + 5] W 0 none s₅ := by
      refine ⟨?_, ?_, ?_, ?_, nofun, ?_, hlive, ?_, ?_, ?_, hax.2, zn_of haxB, nofun, Z.zip, Z.ti, ⟨_, _, Z.tto⟩, ?_, Z.gen, il.at fun o e => Z.kept _ o e, fun _ => ?_, fun _ => rfl⟩
      · show B ∈ [B + 0, B + 2, B + 4, B + 5]; exact List.mem_cons_self
      · show B + 2 ∈ [B + 0, B + 2, B + 4, B + 5]; exact List.mem_cons_of_mem _ List.mem_cons_self
      · show B + 4 ∈ [B + 0, B + 2, B + 4, B + 5]; exact List.mem_cons_of_mem _ (List.mem_cons_of_mem _ List.mem_cons_self)
      · show B + 5 ∈ [B + 0, B + 2, B + 4, B + 5]; exact List.mem_cons_of_mem _ (List.mem_cons_of_mem _ (List.mem_cons_of_mem _ List.mem_cons_self))
      · intro b hb
        simp only [List.mem_cons, List.not_mem_nil, or_false] at hb
        rcases hb with rfl | rfl | rfl | rfl
        · exact .inl rfl
        · exact .inr (.inl rfl)
        · exact .inr (.inr (.inl rfl))
        · exact .inr (.inr (.inr (.inl rfl)))
      · intro b hb q
        obtain ⟨k, rfl⟩ := hwr0 b hb
        exact nX k (List.mem_append_right _ q)
      · exact fun q => nX 1 (List.mem_append_right _ q)
      · exact fun q => nX 3 (List.mem_append_right _ q)
      · exact Z.ri
      · refine ⟨ps, bb, nm, gs, fa, cd, m₀, ?_, hGI, hNs, hmG⟩
        rw [hgens, ← Z.gsz, Array.getElem?_push, if_pos rfl]
        rfl
    have hX' : ∀ b, s.heap.get? b = none → b ∉ X := fun b hb q => by obtain ⟨o, e⟩ := f.live b (List.mem_append_left _ q); rw [hb] at e; cases e
    have h0' : ∀ b, s.heap.get? b = none → h₀.get? b = none := fun b hb => by
      cases e : h₀.get? b with
      | none => rfl
      | some o => have := (gX_get (f.root.2 b o e)).1; rw [hb] at this; cases this
    refine codeAny_forLoop_any (fun k s' => ∃ j oi wr ρ₁ W₁ m₁ oa₁, k = outs.length - j ∧ evFor (fun x ρ => (bindV ρ ts x).bind fun ρ' => evB C q ρ') false (zipIdx j (outs.drop j)) ρ₁ = some (fl, ρ') ∧ Ev W s W₁ s' ∧ ZInv prog w A h₀ (zaOf B ax) vs (fun i => outs[2 - i]?) gn wr W₁ j oi s' ∧ Fm prog w Γ env sc h₀ (wr ++ X) W₁ ρ₁ m₁ oa₁ s' ∧ (∀ b ∈ wr, b ∉ X ∧ h₀.get? b = none ∧ ∀ o, gX s.heap W b ≠ some o)) ?_ outs.length
      ⟨0, none, _, ρ, W, m, oa, rfl, by simpa using hv, x₅.ev, I₅, f₅, fun b hb => by obtain ⟨k, rfl⟩ := hwr0 b hb; exact ⟨hX' _ (fresh k), h0' _ (fresh k), fun o e => by have := (gX_get e).1; rw [fresh k] at this; cases this⟩⟩
    rintro k s' ⟨j, oi, wr, ρ₁, W₁, m₁, oa₁, rfl, hv, ev, I, f', hwr⟩
    have wide : ∀ {sb : Shared}, ZStep wr gn s' sb → Ev W s W₁ sb := fun zs => ⟨fun b o e => by
      obtain ⟨e3, e4⟩ := gX_get (ev.sub b o e)
      exact gX_of (zs.kept b o (fun q => (hwr b q).2.2 o e) e3) e4, zs.os.trans ev.os,
      ⟨fun q => zs.gens.bare (ev.gens.bare q), fun i g e => zs.gens.kept i g (fun q => by rw [q, hgn] at e; cases e) (ev.gens.kept i g e)⟩⟩
    refine zip_turn (Γ := Γ) (ns := ns) (outs := outs) (es := es) (kk := tk) (tp := tp) I ao.hh (by have := ao.dep; show A.depth < recursionLimit; omega) f.root.1 (fun b hb => (hwr b hb).2.1) (fun b o e => (gX_get (f'.root.2 b o e)).1) hgi (fun i hi => ?_) hin (fun b hb => f'.live b (List.mem_append_right _ hb)) (fun hn s'' zs => ?_) (fun i hi s₃ T hgo => ?_)
    · show outs[2 - (2 - i)]? = outs[i]?
      rw [show 2 - (2 - i) = i by omega]
    · rw [zipIdx_nil' hn] at hv
      rewrite [qF1] at hv
      simp only [Bool.false_eq_true, if_false, Option.some.injEq, Prod.mk.injEq] at hv
      obtain ⟨rfl, rfl⟩ := hv
      exact wpAny_execs_nil (h _ _ _ _ _ (wide zs) (f'.dropZ zs.kept I.out (fun b hb => (hwr b hb).1) fun b hb => (hwr b hb).2.1) rfl)
    · rw [zipIdx_cons' hi] at hv
      rewrite [qF2] at hv
      simp only [Option.bind_eq_some_iff] at hv
      obtain ⟨⟨fl₁, ρ₃⟩, ⟨ρ₂, hb, hbody⟩, h2⟩ := hv
      refine hgo _ _ fun s₄ tt tt' wr' It zs hT hTw hTs hnew hin' I₄ => ?_
      have hwr' : ∀ b ∈ wr', b ∉ X ∧ h₀.get? b = none ∧ ∀ o, gX s.heap W b ≠ some o := fun b hb => by
        rcases hnew b hb with r | r
        · exact hwr b r
        · refine ⟨fun q => ?_, ?_, fun o q => ?_⟩
          · obtain ⟨o, e⟩ := f'.live b (List.mem_append_left _ (List.mem_append_right _ q)); rw [r] at e; cases e
          · cases e : h₀.get? b with
            | none => rfl
            | some o => have := (gX_get (f'.root.2 b o e)).1; rw [r] at this; cases this
          · have := (gX_get (ev.sub b o q)).1; rw [r] at this; cases this
      have hTn : T ∉ (wr' ++ X) ++ W₁ := fun q => by
        rw [List.append_assoc] at q
        rcases List.mem_append.mp q with q | q
        · exact hTw q
        · have : ∃ o, s'.heap.get? T = some o := by
            rcases List.mem_append.mp q with q | q
            · exact f'.live T (List.mem_append_left _ (List.mem_append_right _ q))
            · exact f'.live T (List.mem_append_right _ q)
          obtain ⟨o, e⟩ := this; rw [hTs] at e; cases e
      have f₄ : Fm prog w Γ env sc h₀ (wr' ++ X) W₁ ρ₁ m₁ oa₁ s₄ := f'.hidGrow zs.kept hnew I₄.live hin' I.out fun b hb => (hwr b hb).2.1
      have rv : VR Γ.tokA (gX s₄.heap ((wr' ++ X) ++ W₁)) (.tup [.int j, .int i]) (.ref T) := VR.ofTup (vs := #[.int j tt, .int i tt']) ⟨_, hT, rfl, _, rfl⟩ hTn ⟨⟨tt, rfl⟩, ⟨tt', rfl⟩, trivial⟩ (by simp [sizeLine_eq])
      refine bind_target fx ao.hh ht hb rv f₄ fun s₅ m₅ oa₅ f₅ ev₅ => ?_
      refine ha env h₀ (wr' ++ X) W₁ ρ₂ m₅ oa₅ fl₁ ρ₃ A s₅ _ _ hbody fx ao f₅ fun s₆ W₆ m₆ oa₆ fl₆ ev₆ f₆ r => ?_
      have ev' : Ev W s W₆ s₆ := ((wide zs).trans ev₅).trans ev₆
      have I₆ := I₄.frame (ev₅.trans ev₆)
      have hj : j < outs.length := (List.getElem?_eq_some_iff.mp hi).1
      cases fl₁ with
      | next => cases r; exact ⟨outs.length - (j + 1), by omega, j + 1, _, wr', ρ₃, W₆, m₆, oa₆, rfl, h2, ev', I₆, f₆, hwr'⟩
      | cont => cases r; exact ⟨outs.length - (j + 1), by omega, j + 1, _, wr', ρ₃, W₆, m₆, oa₆, rfl, h2, ev', I₆, f₆, hwr'⟩
      | ret v =>
        obtain ⟨v', rfl, r⟩ := r
        simp only [Option.some.injEq, Prod.mk.injEq] at h2
        obtain ⟨rfl, rfl⟩ := h2
        refine h _ _ _ _ _ ev' (f₆.drop (.refl _ _) I₆.out (fun b hb => (hwr' b hb).1) fun b hb => (hwr' b hb).2.1) ⟨v', rfl, r.mono (gX_less fun a ha => ?_)⟩
        rw [List.append_assoc]; exact List.mem_append_right _ ha
  · cases hz

theorem all_calls : ∀ n, CallsOK prog w Γ n (evCall tab' n) := calls_ok (fun _ => ⟨owed_idx⟩) (fun _ => owedS) (fun _ => owedZ)
end
end Mine

namespace Mine

noncomputable def entExt (e : DictEntry) : Str × Tok × Value := match e.key with | .str x t => (x, t, e.val) | _ => (Str.ofString "", 0, e.val)
noncomputable def entMk (P : Params) (y : Str × Tok × Value) : DictEntry := ⟨PyData.keyHash P y.1, .str y.1 y.2.1, y.2.2⟩
theorem keysLit_of {P : Params} : ∀ l : List (Str × Tok × Value), KeysLit P (l.map (entMk P))
  | [] => trivial
  | y :: r => ⟨⟨y.1, y.2.1, rfl, rfl⟩, keysLit_of r⟩
theorem findBy_lits {P : Params} {x : Str} : ∀ l : List (Str × Tok × Value), findBy Value.isStrOf (l.map (entMk P)).toArray x = (l.find? fun y => y.1 == x).map (·.2.2)
  | [] => rfl
  | y :: r => by
    have ih := findBy_lits (P := P) (x := x) r
    unfold findBy at ih ⊢
    rw [List.find?_toArray] at ih ⊢
    rw [List.map_cons, List.find?_cons, List.find?_cons]
    show Option.map _ (match (y.1 == x) with | true => _ | false => _) = _
    cases h : (y.1 == x) with
    | true => rfl
    | false => exact ih
noncomputable def vint : Value → Option Int
  | .int i _ => some i
  | _ => none
theorem lits_tok {x : Str} : ∀ (l : List (Str × Tok × Value)) (tt : List (String × Int)), l.map (fun y => (y.1, vint y.2.2)) = tt.map (fun p => (Str.ofString p.1, some p.2)) →
    (∀ i, (tt.map fun p => (Str.ofString p.1, p.2)).lookup x = some i → ∃ t, (l.find? fun y => y.1 == x).map (·.2.2) = some (.int i t)) ∧
    ((tt.map fun p => (Str.ofString p.1, p.2)).lookup x = none → (l.find? fun y => y.1 == x).map (·.2.2) = none)
  | [], [], _ => ⟨fun i h => by simp at h, fun _ => rfl⟩
  | [], _ :: _, h => by cases h
  | _ :: _, [], h => by cases h
  | y :: r, p :: tt, h => by
    rw [List.map_cons, List.map_cons] at h
    obtain ⟨h1, h2⟩ := List.cons.inj h
    have ⟨e1, e2⟩ := Prod.mk.inj h1
    have ih := lits_tok (x := x) r tt h2
    rw [List.map_cons, List.lookup_cons, List.find?_cons]
    have hc : (y.1 == x) = (x == Str.ofString p.1) := by
      rw [e1, Bool.eq_iff_iff, beq_iff_eq, beq_iff_eq]; exact eq_comm
    rw [hc]
    cases hx : (x == Str.ofString p.1) with
    | true =>
      refine ⟨fun i hi => ?_, fun hn => by cases hn⟩
      cases hi
      cases hv : y.2.2 with
      | int i t => rw [hv] at e2; cases e2; exact ⟨t, by simp [hv]⟩
      | _ => rw [hv] at e2; cases e2
    | false => exact ih

noncomputable def dictIn (K : Frag) (a : Addr) : Array DictEntry := match K.lookup a with | some o => (match o.data with | .dict es _ => es | _ => #[]) | none => #[]
theorem theFun_mem {x : Str} {t : Arguments × List Stmt × Scope} : ∀ {b : List Stmt}, theFun x b = some t → x ∈ fnamesOf b
  | [], h => by cases h
  | st :: r, h => by
    cases st with
    | FunctionDef n a b d e f s g i p =>
      replace h : (if n = x then some (a, b, s) else theFun x r) = some t := h
      show x ∈ n :: fnamesOf r
      split at h
      · rename_i e; rw [e]; exact List.mem_cons_self
      · exact List.mem_cons_of_mem _ (theFun_mem h)
    | _ => exact theFun_mem (b := r) h

noncomputable def nIn (K : Frag) (a : Addr) : Nat := match K.lookup a with | some o => (match o.data with | .dict _ n => n | _ => 0) | none => 0
theorem rec_all : (fnamesOf body0).map (fun y => ((recsOf VW).find? fun d => d.name == y).map fun d => (d.params, d.body, d.scope)) = (fnamesOf body0).map (fun y => theFun y body0) := by kernel_rfl
theorem toks_K (P : Params) : ((dictIn (myK P) 92).toList.map entExt).map (entMk P) = (dictIn (myK P) 92).toList := by kernel_rfl
theorem toks_obj (P : Params) : (myK P).lookup 92 = some ⟨.type "dict", none, .dict (dictIn (myK P) 92) (nIn (myK P) 92), #[]⟩ := by kernel_rfl
theorem toks_tab (P : Params) : ((dictIn (myK P) 92).toList.map entExt).map (fun y => (y.1, vint y.2.2)) = tokTab.map (fun p => (Str.ofString p.1, some p.2)) := by kernel_rfl
theorem glob_obj (P : Params) : ((myK P).lookup 3).map (·.data) = some (.dict (dictIn (myK P) 3) (nIn (myK P) 3)) := by kernel_rfl
theorem cst_obj (P : Params) : ((myK P).lookup 2).map (·.data) = some (.dict #[] (nIn (myK P) 2)) := by kernel_rfl
theorem glob_ints (P : Params) : ["_MOVE_COST", "_CASE_COST", "_MAX_STRING_SIZE", "NT_OFFSET", "CHAR_MAX"].map (fun x => (nsFind (dictIn (myK P) 3) (Str.ofString x)).bind vint) = [some 2, some 1, some 40, some 256, some 127] := by kernel_rfl
theorem glob_tok (P : Params) : nsFind (dictIn (myK P) 3) (Str.ofString "EXACT_TOKEN_TYPES") = some (.ref 92) := by kernel_rfl
theorem glob_none (P : Params) : bnames.map (fun p => nsFind (dictIn (myK P) 3) (Str.ofString p.1)) = bnames.map (fun _ => none) := by kernel_rfl
theorem boot_names : bnames.map (fun p => bootBuiltins (Str.ofString p.1)) = bnames.map (fun p => some p.2) := by kernel_rfl

section
variable {prog : Program} {w : World} {h : Heap} {mg mb : Str → Option Value} {loose : List Str} {mean : ExcName → Option Value}

theorem gok_of (T : Top VW loose mean mg mb h) (KX : (myK w.params).In h) : GOK prog w ⟨mg, mb, 92⟩ h := by
  have hmg : ∀ x, mg x = nsFind (dictIn (myK w.params) 3) x := fun x => by
    obtain ⟨o, es, ep, h1, h2, _, h3⟩ := T.g
    have h4 := glob_obj w.params
    rw [Option.map_eq_some_iff] at h4
    obtain ⟨o', h5, h6⟩ := h4
    have h7 := KX _ _ h5
    have h8 : h.get? mainGlobals = some o' := h7
    rw [h1] at h8
    cases h8
    rw [h2] at h6
    cases h6
    exact (h3 x).symm
  have hints : ∀ (k : Nat) (x : String) (i : Int), ["_MOVE_COST", "_CASE_COST", "_MAX_STRING_SIZE", "NT_OFFSET", "CHAR_MAX"][k]? = some x → [some 2, some 1, some 40, some 256, some 127][k]? = some (some i) → ∃ t, mg (Str.ofString x) = some (.int i t) := fun k x i h1 h2 => by
    have h3 := congrArg (·[k]?) (glob_ints w.params)
    simp only [List.getElem?_map, h1, Option.map_some, h2] at h3
    have h4 := Option.some.inj h3
    rw [← hmg, Option.bind_eq_some_iff] at h4
    obtain ⟨v, h5, h6⟩ := h4
    cases v with
    | int j t => cases h6; exact ⟨t, h5⟩
    | _ => cases h6
  have hm := mapOf_K (prog := prog) (w := w) KX (toks_obj w.params) (by rw [← toks_K]; exact keysLit_of _)
  refine ⟨T.nolimit, T.g, T.b, ⟨_, hm, fun x => ?_⟩, rfl, ?_, ?_, ?_, ?_⟩
  · have e : dictIn (myK w.params) 92 = (((dictIn (myK w.params) 92).toList.map entExt).map (entMk w.params)).toArray := by
      rw [toks_K]
    rw [e, findBy_lits]
    exact lits_tok _ _ (toks_tab w.params)
  · have h4 := cst_obj w.params
    rw [Option.map_eq_some_iff] at h4
    obtain ⟨o', h5, h6⟩ := h4
    exact ⟨fun _ => none, ⟨o', #[], _, KX _ _ h5, h6, fun e he => by simp at he, fun _ => rfl⟩, rfl⟩
  · intro x v hx
    unfold gconst at hx
    split at hx
    · rename_i e; cases hx; subst e
      obtain ⟨t, ht⟩ := hints 0 _ 2 rfl rfl
      exact ⟨_, ht, fun g => ⟨t, rfl⟩⟩
    · split at hx
      · rename_i e; cases hx; subst e
        obtain ⟨t, ht⟩ := hints 1 _ 1 rfl rfl
        exact ⟨_, ht, fun g => ⟨t, rfl⟩⟩
      · split at hx
        · rename_i e; cases hx; subst e
          obtain ⟨t, ht⟩ := hints 2 _ 40 rfl rfl
          exact ⟨_, ht, fun g => ⟨t, rfl⟩⟩
        · split at hx
          · rename_i e; cases hx; subst e
            obtain ⟨t, ht⟩ := hints 3 _ 256 rfl rfl
            exact ⟨_, ht, fun g => ⟨t, rfl⟩⟩
          · split at hx
            · rename_i e; cases hx; subst e
              exact ⟨_, (hmg _).trans (glob_tok w.params), fun g => rfl⟩
            · split at hx
              · rename_i e; cases hx; subst e
                obtain ⟨t, ht⟩ := hints 4 _ 127 rfl rfl
                exact ⟨_, ht, fun g => ⟨t, rfl⟩⟩
              · cases hx
  · intro x ps b sc hx
    have hmem := theFun_mem hx
    have h1 := (List.map_inj_left.mp rec_all) x hmem
    rw [hx, Option.map_eq_some_iff] at h1
    obtain ⟨d, h2, h3⟩ := h1
    have hd := List.mem_of_find?_eq_some h2
    have hn : d.name = x := by simpa using List.find?_some h2
    obtain ⟨a, o, pm, code, doc, h4, h5, h6, h7⟩ := T.fn d hd
    cases h3
    subst hn
    exact ⟨a, o, pm, code, doc, h4, h5, h6, h7⟩
  · intro p hp
    refine ⟨?_, ?_⟩
    · exact (hmg _).trans ((List.map_inj_left.mp (glob_none w.params)) p hp)
    · have h1 := (List.map_inj_left.mp boot_names) p hp
      show mb _ = _
      rw [T.builtins _ ?_]
      · exact h1
      · intro e
        have : ∀ p ∈ bnames, (Str.ofString p.1 == ("__name__" : Str)) = false := by decide +kernel
        have := this p hp
        rw [e] at this
        simp at this
end
end Mine

namespace Mine

noncomputable def lawOK (ps : Arguments) (s : Scope) : Bool :=
  ps.posonlyargs.isEmpty && ps.vararg.isNone && ps.kwonlyargs.isEmpty && ps.kwarg.isNone && ps.args.length == 1 &&
  (s.names.take 1 == ps.args.map fun a => (a.arg, NameKind.local)) && s.kind == .function && !s.isCoroutine && !s.isGenerator && s.names.all fun p => (p.2 == .local || p.2 == .globalImplicit || p.2 == .cell) && s.names.lookup p.1 == some p.2

theorem lawOK_spec {ps : Arguments} {sc : Scope} (h : lawOK ps sc = true) : ∃ a : Arg, ps = ⟨[], [a], none, [], ps.kw_defaults, none, ps.defaults⟩ ∧ sc.names.take 1 = [(a.arg, NameKind.local)] ∧
    sc.kind = .function ∧ sc.isCoroutine = false ∧ sc.isGenerator = false ∧ ∀ p ∈ sc.names, (p.2 = .local ∨ p.2 = .globalImplicit ∨ p.2 = .cell) ∧ sc.names.lookup p.1 = some p.2 := by
  unfold lawOK at h
  simp only [Bool.and_eq_true, List.all_eq_true, Bool.or_eq_true, beq_iff_eq, Bool.not_eq_true', List.isEmpty_iff, Option.isNone_iff_eq_none, or_assoc] at h
  obtain ⟨⟨⟨⟨⟨⟨⟨⟨⟨h1, h2⟩, h3⟩, h4⟩, h5⟩, h6⟩, h7⟩, h8⟩, h9⟩, h10⟩ := h
  obtain ⟨a, b, c, d, e, f, g⟩ := ps
  simp only at h1 h2 h3 h4 h5 h6
  subst h1 h2 h3 h4
  obtain ⟨x, rfl⟩ := List.length_eq_one_iff.mp h5
  exact ⟨x, rfl, h6, h7, h8, h9, h10⟩

noncomputable def lawEnv (name : Str) (ps : Arguments) (b : List Stmt) (sc : Scope) (pm cd doc : Value) (L a : Addr) : Env := callEnvC (docDef name ps b sc pm cd doc) L a

theorem fx_law {name : Str} {ps : Arguments} {b : List Stmt} {sc : Scope} {pm cd doc : Value} {L a : Addr} (h : lawOK ps sc = true) : Fx (lawEnv name ps b sc pm cd doc L a) (scOf sc) := by
  obtain ⟨_, _, _, hk, _, _, hn⟩ := lawOK_spec h
  refine ⟨hk, rfl, rfl, fun x hx => hx, fun x hx => hx, fun x hx => hx, fun x hx => ?_, scOf_ok sc⟩
  have hx' : sc.names.lookup x = some .free := hx
  obtain ⟨h1, _⟩ := hn _ (mem_of_lookup hx')
  rcases h1 with h1 | h1 | h1 <;> cases h1

section
variable {prog : Program} {w : World} {Γ : Gp} {n : Nat} {A : Around} {X : List Addr} {s s₁ : Shared} {C : Nat → List AV → Option AV}

theorem fm_law {name : Str} {ps : Arguments} {b : List Stmt} {sc : Scope} {pm cd doc : Value} {a : Addr} {arg : AV} {v : Value} {k : Nat} {m : NM} {x₀ : Arg} (h : lawOK ps sc = true) (hx₀ : sc.names.take 1 = [(x₀.arg, NameKind.local)]) (hg : GOK prog w Γ s.heap) (hl : Live X s.heap) (hv : VR Γ.tokA (gX s.heap X) arg v)
    (hm : m x₀.arg = some v)
    (I : InCallC s (lawEnv name ps b sc pm cd doc s.heap.objs.size a).locals m (lawEnv name ps b sc pm cd doc s.heap.objs.size a).cells (fun _ => none) s₁) :
    Fm prog w Γ (lawEnv name ps b sc pm cd doc s.heap.objs.size a) (scOf sc) s.heap X (s.heap.objs.size :: sc.names.filterMap (fun p => (lawEnv name ps b sc pm cd doc s.heap.objs.size a).cells.lookup p.1)) (.val arg :: List.replicate k .no) m (fun _ => []) s₁ := by
  obtain ⟨_, _, _, hk, _, _, hn⟩ := lawOK_spec h
  have hL : (lawEnv name ps b sc pm cd doc s.heap.objs.size a).locals = s.heap.objs.size := rfl
  have hcs : (lawEnv name ps b sc pm cd doc s.heap.objs.size a).cells = cellsFrom (s.heap.objs.size + 1) sc.names [] := rfl
  rw [hL] at I
  have keep := I.toInCall.keep
  have habove : ∀ c ∈ sc.names.filterMap (fun p => (lawEnv name ps b sc pm cd doc s.heap.objs.size a).cells.lookup p.1), s.heap.objs.size < c := fun c hc => by
    rw [List.mem_filterMap] at hc
    obtain ⟨p, hp, e⟩ := hc
    exact I.above p.1 c (by exact PySem.mem_of_lookup e)
  have hW : ∀ c ∈ (s.heap.objs.size :: sc.names.filterMap (fun p => (lawEnv name ps b sc pm cd doc s.heap.objs.size a).cells.lookup p.1)), s.heap.objs.size ≤ c := fun c hc => by
    rcases List.mem_cons.mp hc with rfl | hc
    · exact Nat.le_refl _
    · exact Nat.le_of_lt (habove c hc)
  have hnW : ∀ c o, s.heap.get? c = some o → c ∉ (s.heap.objs.size :: sc.names.filterMap (fun p => (lawEnv name ps b sc pm cd doc s.heap.objs.size a).cells.lookup p.1)) := fun c o e q => absurd (Heap.lt_size e) (Nat.not_lt.mpr (hW c q))
  have hsub : Sub (gX s.heap X) (gX s₁.heap (X ++ (s.heap.objs.size :: sc.names.filterMap (fun p => (lawEnv name ps b sc pm cd doc s.heap.objs.size a).cells.lookup p.1)))) := fun b o e => by
    obtain ⟨e1, e2⟩ := gX_get e
    refine gX_of (keep b o e1) ?_
    rw [List.mem_append, not_or]
    exact ⟨e2, hnW b o e1⟩
  have hnf : ∀ x, (scOf sc).kind x ≠ some .free := fun x hx => by
    have hx' : sc.names.lookup x = some .free := hx
    obtain ⟨h1, _⟩ := hn _ (mem_of_lookup hx')
    rcases h1 with h1 | h1 | h1 <;> cases h1
  have h0 : sc.names[0]? = some (x₀.arg, .local) := by
    have := congrArg (·[0]?) hx₀
    simpa using this
  have val0 : ∀ {i : Nat} {v : AV}, (Slot.val arg :: List.replicate k Slot.no)[i]? = some (.val v) → i = 0 ∧ v = arg := fun {i v} e => by
    cases i with
    | zero => cases (Option.some.inj e); exact ⟨rfl, rfl⟩
    | succ i =>
      rw [List.getElem?_cons_succ] at e
      have := (List.getElem?_eq_some_iff.mp e).2
      simp at this
  have idx0 : ∀ {x : Str} {nk : NameKind}, sc.names.lookup x = some nk → (scOf sc).idx x = some 0 → x = x₀.arg ∧ nk = .local := fun {x nk} hx hi => by
    obtain ⟨j, h1, h2⟩ := posOf_get (n := 0) hx
    have hi' : posOf x sc.names 0 = some 0 := hi
    rw [hi'] at h1
    have hij : 0 = j := by simpa using h1
    subst hij
    rw [h0] at h2; cases h2; exact ⟨rfl, rfl⟩
  have cellmem : ∀ {x c}, (scOf sc).kind x = some .cell → (lawEnv name ps b sc pm cd doc s.heap.objs.size a).cells.lookup x = some c → c ∈ sc.names.filterMap (fun p => (lawEnv name ps b sc pm cd doc s.heap.objs.size a).cells.lookup p.1) := fun {x c} hx e => List.mem_filterMap.mpr ⟨(x, .cell), by exact mem_of_lookup hx, e⟩
  constructor
  · exact ⟨hg, fun c o e => gX_of (keep c o e) (hnW c o e)⟩
  · intro c hc
    rcases List.mem_append.mp hc with hc | hc
    · obtain ⟨o, e⟩ := hl c hc; exact ⟨o, keep c o e⟩
    · rcases List.mem_cons.mp hc with rfl | hc
      · obtain ⟨o, _, _, e, _⟩ := I.toInCall.ns; exact ⟨o, e⟩
      · rw [List.mem_filterMap] at hc
        obtain ⟨p, hp, e⟩ := hc
        obtain ⟨o, e, _⟩ := I.cell p.1 _ e
        exact ⟨o, e⟩
  · exact List.mem_cons_self
  · exact I.toInCall.ns
  · intro x i v' hx hi hv'
    obtain ⟨rfl, rfl⟩ := val0 hv'
    obtain ⟨rfl, _⟩ := idx0 hx hi
    exact ⟨v, hm, hv.mono hsub⟩
  · intro x hx
    rcases hx with hx | hx
    · have : ((cellsFrom (s.heap.objs.size + 1) sc.names []).lookup x).isSome = true := cellsFrom_some _ _ _ (.inl hx)
      obtain ⟨c, hc⟩ := Option.isSome_iff_exists.mp this
      refine ⟨c, hc, fun i v' hi hv' => ?_⟩
      obtain ⟨rfl, rfl⟩ := val0 hv'
      obtain ⟨_, e⟩ := idx0 (nk := .cell) hx hi
      cases e
    · exact absurd hx (hnf x)
  · intro x c hx hc
    exact ⟨List.mem_cons_of_mem _ (cellmem hx hc), Nat.ne_of_gt (habove c (cellmem hx hc)), fun i q => (by cases q), none, I.cell x c hc⟩
  · intro x c hx; exact absurd hx (hnf x)
  · intro x y c _ _ h1 h2; exact name_of_addr I.apart (PySem.mem_of_lookup h1) (PySem.mem_of_lookup h2)
  · intro x i sl _ hs ho
    cases i with
    | zero => simp at hs; subst hs; cases ho
    | succ i =>
      rw [List.getElem?_cons_succ] at hs
      have := (List.getElem?_eq_some_iff.mp hs).2
      simp at this; subst this; cases ho
  · intro i c hc; cases hc
  · intro i j c hc; cases hc
  · intro i sl hi hs
    have hi' : sc.names.length ≤ i := hi
    have hpos : 0 < sc.names.length := (List.getElem?_eq_some_iff.mp h0).1
    cases i with
    | zero => (first | lia | omega)
    | succ i =>
      rw [List.getElem?_cons_succ] at hs
      have := (List.getElem?_eq_some_iff.mp hs).2
      simp at this; exact this.symm

theorem law_ok : lawOK (tf "law").1 (tf "law").2.2 = true := by kernel_rfl
theorem law_tf : theFun (Str.ofString "law") body0 = some (tf "law") := by kernel_rfl
theorem law_body (hC : CallsOK prog w Γ n C) (ow : Owed prog w Γ n C) (os : OwedS prog w Γ n C) (oz : OwedZ prog w Γ n C) : SndB' prog w Γ n C (scOf (tf "law").2.2) (tf "law").2.1 fn_law.body := by
  have h : (compXB hC ow os oz 60 (scOf (tf "law").2.2) (tf "law").2.1).map (·.p) = some fn_law.body := by kernel_rfl
  obtain ⟨g, _, e⟩ := Option.map_eq_some_iff.mp h
  rw [← e]; exact g.h

theorem sem_law (hC : CallsOK prog w Γ n C) {arg r : AV} (hr : evFn C fn_law [arg] = some r) : SemCall prog w Γ (n + 1) 22 [arg] r := by
  have hbody := law_body hC ⟨owed_idx⟩ owedS owedZ
  have hok := law_ok
  have hf := law_tf
  generalize tf "law" = t at hbody hok hf
  obtain ⟨ps, b, sc⟩ := t
  dsimp only at hbody hok
  intro y hy a hma A X s vs Q E ao g hl hvs hQ
  have hy : "law" = y := by simpa [gnames] using hy
  subst hy
  obtain ⟨a', o, pm, cd, doc, h1, h2, h3, h4⟩ := g.fns _ _ _ _ hf
  rw [hma] at h1; cases h1
  obtain ⟨x₀, hps, htake, hk, hco, hgen, hnm⟩ := lawOK_spec hok
  obtain ⟨v, rfl, hv⟩ : ∃ v, vs = [v] ∧ VR Γ.tokA (gX s.heap X) arg v := by
    cases vs with
    | nil => exact hvs.elim
    | cons v r =>
      obtain ⟨h5, h6⟩ := hvs
      cases r with
      | nil => exact ⟨v, rfl, h5⟩
      | cons _ _ => exact h6.elim
  have hbind : bindArgs (docDef (Str.ofString "law") ps b sc pm cd doc) ⟨[v], []⟩ = pure [(x₀.arg, v)] := by
    rw [hps]; exact bind_gen (as := [x₀]) (vs := [v]) rfl (by simp)
  have hmem : (x₀.arg, NameKind.local) ∈ sc.names := List.mem_of_mem_take (htake ▸ List.mem_singleton_self _)
  have hloc : sc.names.lookup x₀.arg = some .local := (hnm _ hmem).2
  unfold evFn at hr
  rw [Option.map_eq_some_iff] at hr
  obtain ⟨⟨fl, ρ'⟩, hev, hres⟩ := hr
  refine wpAny_call (codeAny_call_cells (by have := ao.dep; (first | lia | omega)) h2 h3 g.lim h4 rfl hbind rfl (fun p hp => by simp at hp; subst hp; exact .inl hloc) (fun s₁ I => ?_) hco hgen hk)
  have hkl : (callEnvC (docDef (Str.ofString "law") ps b sc pm cd doc) s.heap.objs.size a).kindOf x₀.arg = some .local := hloc
  unfold bindL bindC at I
  rw [if_pos hkl, if_pos hkl] at I
  unfold bindL bindC at I
  have fm := fm_law (k := fn_law.n - 1) (arg := arg) hok htake g hl hv (by simp) I
  refine hbody _ _ _ _ _ _ _ _ _ _ _ _ _ hev (fx_law hok) ao.deeper fm fun s' W' m' oa' fl' ev f' rr => ?_
  obtain ⟨h₁, tk, es⟩ := I.toInCall.same
  have hsub : ∀ b o, s.heap.get? b = some o → s'.heap.get? b = some o := fun b o e => (gX_get (f'.root.2 b o e)).1
  have ext : Ext s s' := ⟨hsub, by rw [ev.os, es], by have := ev.gens; rw [es] at this; exact this⟩
  cases fl with
  | next => cases rr; cases hres; exact hQ s' _ ext rfl
  | cont => cases rr; cases hres; exact hQ s' _ ext rfl
  | ret v =>
    obtain ⟨v', rfl, rr⟩ := rr
    cases hres
    exact hQ s' v' ext (rr.mono (gX_less fun b hb => List.mem_append_left _ hb))
end
end Mine

namespace Mine

theorem vrs_ints {tokA : Addr} {g : Look} : ∀ {ns : List Int} {vs : List Value}, IntsAre vs ns → VRs tokA g (ns.map .int) vs := by
  intro ns vs h
  induction h with
  | nil => trivial
  | cons _ _ _ ih => exact ⟨⟨_, rfl⟩, ih⟩

noncomputable def law_says (n : Nat) : Prop := ∀ ns : List Int, ns.length ≤ 63 → evFn (evCall tab' n) fn_law [.list (ns.map .int)] = some (.bool true)

set_option tactic.hygienic true in
set_option maxHeartbeats 8000000 in
theorem law_top (n : Nat) (hn : n ≤ 600) (H : law_says n) : PySem.Challenge.rw_tl0024_01.Holds := by
  refine holds_law law_said fun said => ?_
  refine holds_open (q := VW) (loose := VL) (Xt := XT) (XP := fun _ _ => True) (Yf := HK.obs) (Ya := HK.val) (YP := HK.says) (N := 4626) left_all HK.of HK.keeps (fun _ _ => trivial) (fun _ _ _ _ _ => trivial) (by rfl) (by rfl) (by rfl) (fun s _ => recFacts_of (by rfl)) (by rfl) said (by decide +kernel) ⟨rfl, rfl, rfl, rfl, rfl, by decide +kernel⟩ ?hw ?hc
  case hw => w_witness2
  intro w s₀ s₁ mg mb G Y fa o pm cd doc dV kV ho hd hcd hD hmg hg args vals as hpre hlay hrd hwl hlo
  have KX := kIn_of Y
  have T := G.T
  clear ho hd hcd hD G Y
  have hfa : mg (Str.ofString "law") = some (.ref fa) := hmg
  clear hmg
  wrow_args hpre hlay hrd hwl hlo
  rename_i ns _ _ _ _ _ _ _ a vs _ hL _ _ _ hI _ hlen _
  have hlen : ns.length ≤ 63 := by (first | lia | omega)
  have hS := sem_law (prog := PySem.Challenge.rw_tl0024_01.row.prog) (w := w) (Γ := ⟨mg, mb, 92⟩) (all_calls n) (H ns hlen)
  refine hS "law" rfl fa hfa callerA [] s₁ [.ref a] _ _ ⟨rfl, ?_, ?_⟩ (gok_of T KX) (fun b hb => by cases hb) ⟨VR.ofList hL (fun q => by cases q) (vrs_ints hI) ?_, trivial⟩ fun s' v' x r => ?_
  · show 301 + (n + 1) < 1000; (first | lia | omega)
  · show 4 + 4 * (n + 1) + 16 < 9900; (first | lia | omega)
  · rw [List.length_map, sizeLine_eq]; (first | lia | omega)
  · have r : v' = .bool true := r
    subst r
    refine ⟨.inl ⟨.bool true, .bool true, [], rfl, fun _ => rfl, .bool _, ?_, fun _ => ⟨List.nodup_nil, fun a ha => by cases ha⟩⟩, .of_keep x.heap, x.os, x.gens.bare (.of_eq hg)⟩
    first | rfl | law_fin | (with_unfolding_all rfl) | simp
end Mine

namespace Mine

theorem call_eq {f k n : Nat} {pf : PFun} {args : List AV} (h : tab' f = some (k, pf)) (hl : args.length = k) : evCall tab' (n + 1) f args = evFn (evCall tab' n) pf args := by
  simp only [qEC, h, Option.bind_some, hl, if_true]

theorem c_lt (n : Nat) (a b : Int) : evCall tab' (n + 1) 0 [.int a, .int b] = some (.bool (decide (a < b))) := by rw [call_eq tab_lt rfl]; rfl
theorem c_add (n : Nat) (a b : Int) : evCall tab' (n + 1) 1 [.int a, .int b] = some (.int (a + b)) := by rw [call_eq tab_add rfl]; rfl
theorem c_mul (n : Nat) (a b : Int) (h : a.natAbs < 2 ^ 63 ∨ b.natAbs < 2 ^ 63) : evCall tab' (n + 1) 2 [.int a, .int b] = some (.int (a * b)) := by
  rw [call_eq tab_mul rfl]
  have : binV .mul (.int a) (.int b) = some (.int (a * b)) := if_pos h
  simp only [evFn, fn_mul, qB1, qB2, qS1, qS2, qS3, qS4, qS5, qS6, qS7, qS8, qS9, qS10, qS11, qS12, qS13, qS14, qS15, qS16, qS17, qS18, qE1, qE2, qE3, qE4, qE5, qE6, qE7, qE8, qE9, qE10, qE11, qE0, qE12, qE13, qE14, qE15, qE16, qE17, qE18, qE19, qE20, qR1, qR2, qR3, qR4, qR5, qR6, qR7, qR8, qR9, qR10, qR11, qR12, qR13, qR14, qR15, qR16, qR17, qR18, qR19, qR20, qR21, Mine.freeze, List.append, List.foldl, freeze1, valAt, List.map, List.length, List.replicate, Nat.sub, List.nil_append, List.cons_append, List.getElem?_cons_zero, List.getElem?_cons_succ, Option.bind_some, this, Option.map_some]
theorem c_sub (n : Nat) (a b : Int) : evCall tab' (n + 1) 3 [.int a, .int b] = some (.int (a - b)) := by rw [call_eq tab_sub rfl]; rfl
theorem c_contains (n : Nat) (x : Str) : evCall tab' (n + 1) 4 [.tok, .str x] = some (.bool (tokGet x).isSome) := by rw [call_eq tab_contains rfl]; rfl
theorem c_getTok (n : Nat) (x : Str) (i : Int) (h : tokGet x = some i) : evCall tab' (n + 1) 5 [.tok, .str x] = some (.int i) := by
  rw [call_eq tab_getitem rfl]
  show Option.map _ (Option.bind (Option.map _ (Option.map _ (tokGet x))) _) = _
  rw [h]; rfl
theorem c_getList (n : Nat) (xs : List AV) (k : Nat) (v : AV) (h : xs[k]? = some v) : evCall tab' (n + 1) 5 [.list xs, .int k] = some v := by
  rw [call_eq tab_getitem rfl]
  have : idxV xs k = some v := by unfold idxV; rw [if_pos (by (first | lia | omega))]; simpa using h
  show Option.map _ (Option.bind (Option.map _ (idxV xs k)) _) = _
  rw [this]; rfl
theorem c_iadd (n : Nat) (a b : Int) : evCall tab' (n + 1) 8 [.int a, .int b] = some (.int (a + b)) := by rw [call_eq tab_iadd rfl]; rfl
theorem c_isub (n : Nat) (a b : Int) : evCall tab' (n + 1) 9 [.int a, .int b] = some (.int (a - b)) := by rw [call_eq tab_isub rfl]; rfl
theorem c_isNT (n : Nat) (a : Int) : evCall tab' (n + 1) 10 [.int a] = some (.bool (decide (256 ≤ a))) := by rw [call_eq tab_ISNONTERMINAL rfl]; rfl

/-! ## texts -/
noncomputable def tx (l : List Nat) : Str := ⟨l.toArray⟩
theorem tx_len (l : List Nat) : (tx l).length = l.length := rfl
theorem tx_inj {a b : List Nat} : tx a = tx b ↔ a = b := by simp [tx]
theorem tx_get (l : List Nat) (k : Nat) : (tx l).cps[k]? = l[k]? := by simp [tx]

noncomputable def fig : Nat → Nat | 0 => 97 | 1 => 65 | 2 => 98 | _ => 66
noncomputable def sc (i j : Nat) : Int := if i / 2 = j / 2 then (if i = j then 0 else 1) else 2
theorem fig_inj {i j : Nat} (hi : i < 4) (hj : j < 4) (h : fig i = fig j) : i = j := by
  have : ∀ i, i < 4 → ∀ j, j < 4 → fig i = fig j → i = j := by decide
  exact this i hi j hj h
theorem c_sc (n i j : Nat) (hi : i < 4) (hj : j < 4) : evCall tab' (n + 1) 11 [.str (tx [fig i]), .str (tx [fig j])] = some (.int (sc i j)) := by
  rw [call_eq tab_sub_cost rfl]
  have h4 : ∀ k, k < 4 → k = 0 ∨ k = 1 ∨ k = 2 ∨ k = 3 := by (first | lia | omega)
  rcases h4 i hi with rfl | rfl | rfl | rfl <;> rcases h4 j hj with rfl | rfl | rfl | rfl <;> kernel_rfl
end Mine

namespace Mine

theorem range_pick {α : Type} (l : List α) (a : Nat) : ∀ m : Nat, ((List.range m).map (a + ·)).filterMap (l[·]?) = (l.drop a).take m
  | 0 => rfl
  | m + 1 => by
    rw [List.range_succ, List.map_append, List.filterMap_append, range_pick l a m, List.take_add_one, List.getElem?_drop]
    congr 1
theorem sliceRange_one (a b : Nat) : sliceRange a b 1 = (List.range (b - a)).map (a + ·) := by
  unfold sliceRange
  simp only [show (1 : Int) > 0 by decide, if_true, Int.ediv_one, Int.one_mul]
  have : (if (a : Int) < b then (b : Int) - a + 1 - 1 else 0).toNat = b - a := by split <;> (first | lia | omega)
  rw [this]
  refine List.map_congr_left fun k _ => by (first | lia | omega)
theorem slice_pick {α : Type} (l : List α) (a b : Nat) : (sliceRange a b 1).filterMap (l[·]?) = (l.drop a).take (b - a) := by
  rw [sliceRange_one, range_pick]

theorem txt_slice {l : List Nat} {lo hi : Option Int} {a b : Nat} (h : Builtin.Str.strSliceIndices lo hi 1 l.length = sliceRange a b 1) (hb : b ≤ l.length) : Txt.slice (tx l) lo hi = tx ((l.drop a).take (b - a)) := by
  unfold Txt.slice
  rw [tx_len, h]
  have hp : ((sliceRange a b 1).filterMap ((tx l).cps[·]?)) = (l.drop a).take (b - a) := by
    rw [← slice_pick]
    refine congrArg (fun f => List.filterMap f _) (funext fun k => tx_get l k)
  rw [hp]
  split
  · rename_i hc
    rw [sliceRange_one] at hc
    simp at hc
    by_cases h0 : l.length = 0
    · have := List.length_eq_zero_iff.mp h0; subst this; simp
    · have ha : a = 0 := by (first | lia | omega)
      subst ha
      simp
      rw [List.take_of_length_le (by (first | lia | omega))]
  · rfl

theorem min_cast (k n : Nat) : min (k : Int) n = ((min k n : Nat) : Int) := by
  rcases Nat.le_total k n with h | h
  · rw [Nat.min_eq_left h, Int.min_eq_left (Int.ofNat_le.mpr h)]
  · rw [Nat.min_eq_right h, Int.min_eq_right (Int.ofNat_le.mpr h)]
theorem clip_pos (k n : Nat) : max 0 (min (if (k : Int) < 0 then (k : Int) + n else k) (n : Int)) = ((min k n : Nat) : Int) := by
  rw [if_neg (Int.not_lt.mpr (Int.natCast_nonneg k)), min_cast, Int.max_eq_right (Int.natCast_nonneg _)]
theorem clip_neg (q n : Nat) (h : 0 < q) : max 0 (min (if -(q : Int) < 0 then -(q : Int) + n else -(q : Int)) (n : Int)) = ((n - q : Nat) : Int) := by
  rw [if_pos (by omega), Int.min_eq_left (by omega)]
  rcases Nat.le_total q n with h | h
  · rw [Int.ofNat_sub h, Int.max_eq_right (by omega)]; omega
  · rw [Nat.sub_eq_zero_of_le h, Int.max_eq_left (by omega)]; rfl
theorem ssi_from (k n : Nat) : ∃ a, Builtin.Str.strSliceIndices (some (k : Int)) none 1 n = sliceRange (a : Nat) n 1 ∧ (a = min k n) := by
  refine ⟨min k n, ?_, rfl⟩
  show sliceRange (max 0 (min (if (k : Int) < 0 then (k : Int) + n else k) (n : Int))) n 1 = _
  rw [clip_pos]
theorem ssi_to (k n : Nat) : Builtin.Str.strSliceIndices none (some (k : Int)) 1 n = sliceRange (0 : Nat) ((min k n : Nat) : Int) 1 := by
  show sliceRange 0 (max 0 (min (if (k : Int) < 0 then (k : Int) + n else k) (n : Int))) 1 = _
  rw [clip_pos]; rfl
theorem ssi_neg (q n : Nat) (h : 0 < q) : Builtin.Str.strSliceIndices none (some (-(q : Int))) 1 n = sliceRange (0 : Nat) ((n - q : Nat) : Int) 1 := by
  show sliceRange 0 (max 0 (min (if -(q : Int) < 0 then -(q : Int) + n else -(q : Int)) (n : Int))) 1 = _
  rw [clip_neg q n h]; rfl
theorem ssi_all (n : Nat) : Builtin.Str.strSliceIndices none none 1 n = sliceRange (0 : Nat) n 1 := rfl

theorem s_from (l : List Nat) (k : Nat) : sliceV (.str (tx l)) (.int k) .none .none = some (.str (tx (l.drop k))) := by
  show some (AV.str (Txt.slice (tx l) (some (k : Int)) none)) = _
  obtain ⟨a, h, rfl⟩ := ssi_from k l.length
  rw [txt_slice h (Nat.le_refl _)]
  congr 3
  by_cases hk : k ≤ l.length
  · rw [Nat.min_eq_left hk, List.take_of_length_le (by simp)]
  · rw [Nat.min_eq_right (by (first | lia | omega)), List.drop_of_length_le (by (first | lia | omega)), List.drop_of_length_le (by (first | lia | omega))]; simp
theorem s_to (l : List Nat) (k : Nat) : sliceV (.str (tx l)) .none (.int k) .none = some (.str (tx (l.take k))) := by
  show some (AV.str (Txt.slice (tx l) none (some (k : Int)))) = _
  rw [txt_slice (ssi_to k l.length) (Nat.min_le_right _ _)]
  congr 3
  rw [List.drop_zero, Nat.sub_zero]
  by_cases hk : k ≤ l.length
  · rw [Nat.min_eq_left hk]
  · rw [Nat.min_eq_right (by (first | lia | omega)), List.take_of_length_le (by (first | lia | omega)), List.take_of_length_le (by (first | lia | omega))]
theorem s_neg (l : List Nat) (q : Nat) (h : 0 < q) : sliceV (.str (tx l)) .none (.int (-(q : Int))) .none = some (.str (tx (l.take (l.length - q)))) := by
  show some (AV.str (Txt.slice (tx l) none (some (-(q : Int))))) = _
  rw [txt_slice (ssi_neg q l.length h) (by omega)]
  rw [List.drop_zero, Nat.sub_zero]
theorem s_all (l : List Nat) : sliceV (.str (tx l)) .none .none .none = some (.str (tx l)) := by
  show some (AV.str (Txt.slice (tx l) none none)) = _
  rw [txt_slice (ssi_all l.length) (Nat.le_refl _)]
  rw [List.drop_zero, Nat.sub_zero, List.take_length]

theorem list_slice {xs : List AV} {lo hi : Option Int} {a b : Nat} (h : slIdx lo hi none xs.length = sliceRange a b 1) : slL xs lo hi none = (xs.drop a).take (b - a) := by
  unfold slL; rw [h, slice_pick]
theorem sli_from (k n : Nat) : slIdx (some (k : Int)) none none n = sliceRange ((min k n : Nat) : Int) n 1 := by
  unfold slIdx sliceBounds
  simp only [Option.getD_none, show (1 : Int) > 0 by decide, if_true]
  congr 1
  split <;> (first | lia | omega)
theorem sli_to (k n : Nat) : slIdx none (some (k : Int)) none n = sliceRange (0 : Nat) ((min k n : Nat) : Int) 1 := by
  unfold slIdx sliceBounds
  simp only [Option.getD_none, show (1 : Int) > 0 by decide, if_true]
  congr 1
  split <;> (first | lia | omega)
theorem sli_back (q n : Nat) (h : 0 < q) : slIdx (some (-(q : Int))) none none n = sliceRange ((n - q : Nat) : Int) n 1 := by
  unfold slIdx sliceBounds
  simp only [Option.getD_none, show (1 : Int) > 0 by decide, if_true]
  congr 1
  split <;> (first | lia | omega)
theorem sliceV_list {xs ys : List AV} {lo hi st : AV} {l h s : Option Int} (h1 : part? lo = some l) (h2 : part? hi = some h) (h3 : part? st = some s) (e : slL xs l h s = ys) (hs : s ≠ some 0) (hz : ys.length ≤ sizeLine) : sliceV (.list xs) lo hi st = some (.list ys) := by
  unfold sliceV
  simp only [h1, h2, h3, e]
  rw [if_neg (by rw [not_or]; exact ⟨hs, by (first | lia | omega)⟩)]
theorem l_from (xs : List AV) (k : Nat) (hz : xs.length ≤ sizeLine) : sliceV (.list xs) (.int k) .none .none = some (.list (xs.drop k)) := by
  refine sliceV_list rfl rfl rfl ?_ nofun (by rw [List.length_drop]; (first | lia | omega))
  rw [list_slice (sli_from k xs.length)]
  by_cases hk : k ≤ xs.length
  · rw [Nat.min_eq_left hk, List.take_of_length_le (by simp)]
  · rw [Nat.min_eq_right (by (first | lia | omega)), List.drop_of_length_le (by (first | lia | omega)), List.drop_of_length_le (by (first | lia | omega))]; simp
theorem l_to (xs : List AV) (k : Nat) (hz : xs.length ≤ sizeLine) : sliceV (.list xs) .none (.int k) .none = some (.list (xs.take k)) := by
  refine sliceV_list rfl rfl rfl ?_ nofun (by rw [List.length_take]; (first | lia | omega))
  rw [list_slice (sli_to k xs.length), List.drop_zero, Nat.sub_zero]
  by_cases hk : k ≤ xs.length
  · rw [Nat.min_eq_left hk]
  · rw [Nat.min_eq_right (by (first | lia | omega)), List.take_of_length_le (by (first | lia | omega)), List.take_of_length_le (by (first | lia | omega))]
theorem l_back (xs : List AV) (q : Nat) (h : 0 < q) (hz : xs.length ≤ sizeLine) : sliceV (.list xs) (.int (-(q : Int))) .none .none = some (.list (xs.drop (xs.length - q))) := by
  refine sliceV_list rfl rfl rfl ?_ nofun (by rw [List.length_drop]; omega)
  rw [list_slice (sli_back q xs.length h), List.take_of_length_le (by simp)]

theorem pick_ints (ns : List Int) (is : List Nat) : is.filterMap ((ns.map AV.int)[·]?) = (is.filterMap (ns[·]?)).map .int := by
  induction is with
  | nil => rfl
  | cons i r ih =>
    rw [List.filterMap_cons, List.filterMap_cons, List.getElem?_map]
    cases ns[i]? with
    | none => exact ih
    | some x => simp only [Option.map_some, List.map_cons]; rw [ih]
theorem l_step (ns : List Int) (p s : Nat) (hs : 0 < s) (hz : ns.length ≤ sizeLine) : ∃ ms : List Int, sliceV (.list (ns.map .int)) (.int p) .none (.int s) = some (.list (ms.map .int)) := by
  refine ⟨(slIdx (some (p : Int)) none (some (s : Int)) ns.length).filterMap (ns[·]?), sliceV_list rfl rfl rfl ?_ (by simp; (first | lia | omega)) ?_⟩
  · unfold slL; rw [List.length_map, pick_ints]
  · rw [List.length_map]
    refine Nat.le_trans (List.length_filterMap_le _ _) (Nat.le_trans ?_ hz)
    have h1 : (s : Int) > 0 := by (first | lia | omega)
    have key : ∀ a : Int, 0 ≤ a → (if a < (ns.length : Int) then ((ns.length : Int) - a + s - 1) / s else 0).toNat ≤ ns.length := fun a ha => by
      split
      · have h2 : ((ns.length : Int) - a + s - 1) / s ≤ (ns.length : Int) - a := by
          refine Int.ediv_le_of_le_mul h1 ?_
          have : 0 ≤ ((ns.length : Int) - a - 1) * ((s : Int) - 1) := Int.mul_nonneg (by (first | lia | omega)) (by (first | lia | omega))
          have e : ((ns.length : Int) - a - 1) * ((s : Int) - 1) = ((ns.length : Int) - a) * s - ((ns.length : Int) - a) - s + 1 := by
            rw [Int.sub_mul, Int.mul_sub, Int.one_mul]; (first | lia | omega)
          (first | lia | omega)
        (first | lia | omega)
      · simp
    unfold slIdx sliceBounds sliceRange
    simp only [Option.getD_some, h1, if_true, List.length_map, List.length_range]
    exact key _ (by (first | lia | omega))
theorem ints_map (ns : List Int) : ints? (ns.map .int) = some ns := by
  induction ns with
  | nil => rfl
  | cons a r ih => simp only [List.map_cons, qInt, ih, Option.map_some]
theorem strs_map (xs : List Str) : strs? (xs.map .str) = some xs := by
  induction xs with
  | nil => rfl
  | cons a r ih => simp only [List.map_cons, qStr, ih, Option.map_some]
theorem sum_ints (ns : List Int) : biV .sumL [.list (ns.map .int)] = some (.int ns.sum) := by
  show (ints? _).bind _ = _
  rw [ints_map]; rfl
end Mine

namespace Mine

/-- the distance of two words, written backwards -/
noncomputable def Rrow (a : Nat) (n : Int) (f : List Nat → Int) : List Nat → Int
  | [] => 2 * (n + 1)
  | b :: y => min (f y + sc a b) (min (f (b :: y) + 2) (Rrow a n f y + 2))
noncomputable def R : List Nat → List Nat → Int
  | [] => fun y => 2 * (y.length : Int)
  | a :: x => Rrow a (x.length : Int) (R x)

theorem sc_bd (a b : Nat) : 0 ≤ sc a b ∧ sc a b ≤ 2 := by unfold sc; split <;> (try split) <;> (first | lia | omega)
theorem sc_self (a : Nat) : sc a a = 0 := by unfold sc; simp
theorem sc_symm (a b : Nat) : sc a b = sc b a := by unfold sc; simp only [eq_comm]
theorem R_nl (y : List Nat) : R [] y = 2 * (y.length : Int) := rfl
theorem R_nr (x : List Nat) : R x [] = 2 * (x.length : Int) := by
  cases x with
  | nil => rfl
  | cons a x => rfl
theorem R_cc (a b : Nat) (x y : List Nat) : R (a :: x) (b :: y) = min (R x y + sc a b) (min (R x (b :: y) + 2) (R (a :: x) y + 2)) := rfl
theorem R_symm : ∀ (n : Nat) (x y : List Nat), x.length + y.length ≤ n → R x y = R y x
  | _, [], y, _ => by rw [R_nl, R_nr]
  | _, a :: x, [], _ => by rw [R_nl, R_nr]
  | n + 1, a :: x, b :: y, h => by
    simp only [List.length_cons] at h
    rw [R_cc, R_cc, R_symm n x y (by (first | lia | omega)), R_symm n x (b :: y) (by simp; (first | lia | omega)), R_symm n (a :: x) y (by simp; (first | lia | omega)), sc_symm a b]
    exact congrArg (min _) (Int.min_comm _ _)
  | 0, a :: x, b :: y, h => by simp at h
theorem R_ub (a b : Nat) (x y : List Nat) : R (a :: x) (b :: y) ≤ R x y + sc a b ∧ R (a :: x) (b :: y) ≤ R x (b :: y) + 2 ∧ R (a :: x) (b :: y) ≤ R (a :: x) y + 2 := by
  rw [R_cc]
  exact ⟨Int.min_le_left _ _, Int.le_trans (Int.min_le_right _ _) (Int.min_le_left _ _), Int.le_trans (Int.min_le_right _ _) (Int.min_le_right _ _)⟩
theorem R_lb {a b : Nat} {x y : List Nat} {z : Int} (h1 : z ≤ R x y + sc a b) (h2 : z ≤ R x (b :: y) + 2) (h3 : z ≤ R (a :: x) y + 2) : z ≤ R (a :: x) (b :: y) := by
  rw [R_cc]; exact Int.le_min.mpr ⟨h1, Int.le_min.mpr ⟨h2, h3⟩⟩
theorem R_up1 (a : Nat) (x y : List Nat) : R (a :: x) y ≤ R x y + 2 := by
  cases y with
  | nil => rw [R_nr, R_nr]; simp; omega
  | cons b y => exact (R_ub a b x y).2.1
theorem R_up2 (b : Nat) (x y : List Nat) : R x (b :: y) ≤ R x y + 2 := by
  rw [R_symm _ x _ (Nat.le_refl _), R_symm _ x _ (Nat.le_refl _)]; exact R_up1 b y x
theorem R_lip1 (a : Nat) (x : List Nat) : ∀ y : List Nat, R x y ≤ R (a :: x) y + 2
  | [] => by rw [R_nr, R_nr]; simp; (first | lia | omega)
  | b :: y => by
    have h1 := R_up2 b x y
    have h2 := R_lip1 a x y
    have h3 := (sc_bd a b).1
    have : R x (b :: y) - 2 ≤ R (a :: x) (b :: y) := R_lb (by omega) (Int.le_trans (Int.sub_le_self _ (by decide)) (Int.le_add_of_nonneg_right (by decide))) (by omega)
    omega
theorem R_lip2 (b : Nat) (x y : List Nat) : R x y ≤ R x (b :: y) + 2 := by
  rw [R_symm _ x _ (Nat.le_refl _), R_symm _ x _ (Nat.le_refl _)]; exact R_lip1 b y x
theorem R_same (c : Nat) (x y : List Nat) : R (c :: x) (c :: y) = R x y := by
  have h1 := R_lip1 c x y
  have h2 := R_lip2 c x y
  have h3 := (R_ub c c x y).1
  rw [sc_self, Int.add_zero] at h3
  exact Int.le_antisymm h3 (R_lb (by rw [sc_self, Int.add_zero]; exact Int.le_refl _) h2 h1)
theorem R_le (n : Nat) : ∀ (x y : List Nat), x.length + y.length ≤ n → R x y ≤ 2 * ((x.length : Int) + y.length) := by
  intro x
  induction x with
  | nil => intro y _; rw [R_nl]; simp
  | cons a x ih =>
    intro y h
    simp only [List.length_cons] at h
    have h1 := R_up1 a x y
    have h2 := ih y (by (first | lia | omega))
    simp only [List.length_cons]; (first | lia | omega)
theorem R_tail_nil (c : Nat) : ∀ y : List Nat, R [c] (y ++ [c]) = R [] y
  | [] => by rw [List.nil_append, R_same]
  | b :: y => by
    have h3 := (sc_bd c b).1
    have h4 := (R_ub c b [] (y ++ [c])).2.2
    have e : (y ++ [c]).length = y.length + 1 := List.length_append
    rw [R_tail_nil c y, R_nl] at h4
    rw [List.cons_append]
    refine Int.le_antisymm ?_ (R_lb ?_ ?_ ?_)
    · rw [R_nl, List.length_cons]; clear h3; omega
    · rw [R_nl, R_nl, e, List.length_cons]; clear h4; omega
    · rw [R_nl, R_nl, List.length_cons, List.length_cons, e]; clear h4 h3; omega
    · rw [R_tail_nil c y, R_nl, R_nl, List.length_cons]; clear h4 h3; omega
theorem R_tail (c : Nat) : ∀ (n : Nat) (x y : List Nat), x.length + y.length ≤ n → R (x ++ [c]) (y ++ [c]) = R x y
  | _, [], y, _ => R_tail_nil c y
  | _, a :: x, [], _ => by
    rw [R_symm _ _ _ (Nat.le_refl _), R_symm _ (a :: x) _ (Nat.le_refl _)]; exact R_tail_nil c (a :: x)
  | n + 1, a :: x, b :: y, h => by
    simp only [List.length_cons] at h
    have h2 := R_tail c n x (b :: y) (by simp; (first | lia | omega))
    have h3 := R_tail c n (a :: x) y (by simp; (first | lia | omega))
    rw [List.cons_append] at h2 h3
    rw [List.cons_append, List.cons_append, R_cc, R_cc, R_tail c n x y (by (first | lia | omega)), h2, h3]
  | 0, a :: x, b :: y, h => by simp at h

noncomputable def D (x y : List Nat) : Int := R x.reverse y.reverse
theorem D_symm (x y : List Nat) : D x y = D y x := R_symm _ _ _ (Nat.le_refl _)
theorem D_le (x y : List Nat) : D x y ≤ 2 * ((x.length : Int) + y.length) := by
  have := R_le _ x.reverse y.reverse (Nat.le_refl _)
  simpa [D] using this
theorem D_cons (c : Nat) (x y : List Nat) : D (c :: x) (c :: y) = D x y := by
  unfold D; rw [List.reverse_cons, List.reverse_cons, R_tail c _ _ _ (Nat.le_refl _)]
theorem D_snoc (c : Nat) (x y : List Nat) : D (x ++ [c]) (y ++ [c]) = D x y := by
  unfold D; rw [List.reverse_append, List.reverse_append]; exact R_same c _ _
theorem D_nl (y : List Nat) : D [] y = 2 * (y.length : Int) := by unfold D; rw [List.reverse_nil, R_nl]; simp
theorem D_nr (x : List Nat) : D x [] = 2 * (x.length : Int) := by unfold D; rw [List.reverse_nil, R_nr]; simp
theorem D_self : ∀ x : List Nat, D x x = 0
  | [] => by rw [D_nl]; rfl
  | c :: x => by rw [D_cons, D_self x]

/-- the table's entry -/
noncomputable def T (x y : List Nat) (i j : Nat) : Int := D (x.take i) (y.take j)
theorem T_0r (x y : List Nat) (i : Nat) (h : i ≤ x.length) : T x y i 0 = 2 * (i : Int) := by
  unfold T; rw [List.take_zero, D_nr, List.length_take, Nat.min_eq_left h]
theorem T_0l (x y : List Nat) (j : Nat) (h : j ≤ y.length) : T x y 0 j = 2 * (j : Int) := by
  unfold T; rw [List.take_zero, D_nl, List.length_take, Nat.min_eq_left h]
theorem take_rev (x : List Nat) (i : Nat) (a : Nat) (h : x[i]? = some a) : (x.take (i + 1)).reverse = a :: (x.take i).reverse := by
  rw [List.take_add_one, h, List.reverse_append]; rfl
theorem T_ss (x y : List Nat) (i j a b : Nat) (ha : x[i]? = some a) (hb : y[j]? = some b) : T x y (i + 1) (j + 1) = min (T x y i j + sc a b) (min (T x y i (j + 1) + 2) (T x y (i + 1) j + 2)) := by
  unfold T D; rw [take_rev x i a ha, take_rev y j b hb, R_cc]
theorem T_le (x y : List Nat) (i j : Nat) (h : x.length + y.length ≤ 9) : T x y i j ≤ 18 := by
  have := D_le (x.take i) (y.take j)
  have h1 := List.length_take_le' i x
  have h2 := List.length_take_le' j y
  unfold T; omega
theorem if_min (a b : Int) : (if a < b then a else b) = min a b := by
  split
  · rename_i h; rw [Int.min_eq_left (Int.le_of_lt h)]
  · rename_i h; rw [Int.min_eq_right (Int.not_lt.mp h)]
theorem min_add2 (a b : Int) : min a b + 2 = min (a + 2) (b + 2) := by
  rcases Int.le_total a b with h | h
  · rw [Int.min_eq_left h, Int.min_eq_left (Int.add_le_add_right h 2)]
  · rw [Int.min_eq_right h, Int.min_eq_right (Int.add_le_add_right h 2)]
theorem if_min3 (a b c : Int) : (if b < a then (if c < b then c else b) else (if c < a then c else a)) = min a (min b c) := by
  rw [if_min, if_min]
  split
  · rename_i h; rw [Int.min_comm c b, Int.min_eq_right (a := a) (Int.le_trans (Int.min_le_left _ _) (Int.le_of_lt h))]
  · rename_i h; rw [← Int.min_assoc, Int.min_eq_left (Int.not_lt.mp h), Int.min_comm]
theorem T_full (x y : List Nat) : T x y x.length y.length = D x y := by unfold T; rw [List.take_length, List.take_length]
end Mine

namespace Mine
theorem q_eqS (a b : Str) : cmpV .eq (.str a) (.str b) = some (a == b) := rfl
theorem q_tb (b : Bool) : truth (.bool b) = some b := rfl

theorem subV_tx {l : List Nat} {k c : Nat} (h : l[k]? = some c) : subV (.str (tx l)) (.int k) = some (.str (tx [c])) := by
  unfold subV
  simp only [show (0 : Int) ≤ (k : Int) by (first | lia | omega), if_true, Int.toNat_natCast, tx_get, h, Option.map_some]
  rfl
theorem subV_tx_neg {l : List Nat} {q c : Nat} (hq : 0 < q) (hl : q ≤ l.length) (h : l[l.length - q]? = some c) : subV (.str (tx l)) (.int (-(q : Int))) = some (.str (tx [c])) := by
  unfold subV
  have e : (-(q : Int) + ((tx l).length : Int)).toNat = l.length - q := by rw [tx_len, Int.add_comm, ← Int.sub_eq_add_neg]; exact Int.toNat_sub _ _
  show (if (0 : Int) ≤ -(q : Int) then _ else if -((tx l).length : Int) ≤ -(q : Int) then _ else _) = _
  rw [if_neg (by (first | lia | omega)), if_pos (by rw [tx_len]; (first | lia | omega)), e, tx_get, h]
  rfl

noncomputable abbrev W (x : List Nat) : AV := .str (tx (x.map fig))
noncomputable def Fig (x : List Nat) : Prop := ∀ a ∈ x, a < 4
theorem Fig.drop {x : List Nat} (h : Fig x) (k : Nat) : Fig (x.drop k) := fun a ha => h a (List.mem_of_mem_drop ha)
theorem Fig.take {x : List Nat} (h : Fig x) (k : Nat) : Fig (x.take k) := fun a ha => h a (List.mem_of_mem_take ha)
theorem Fig.get {x : List Nat} (h : Fig x) {k a : Nat} (e : x[k]? = some a) : a < 4 := h a (List.mem_of_getElem? e)
theorem str_eq_one {a b : Nat} (ha : a < 4) (hb : b < 4) : (tx [fig a] == tx [fig b]) = decide (a = b) := by
  by_cases h : a = b
  · subst h; simp
  · rw [decide_eq_false h]
    simp only [beq_eq_false_iff_ne, ne_eq, tx_inj, List.cons.injEq, and_true]
    exact fun e => h (fig_inj ha hb e)
theorem W_eq {x y : List Nat} (hx : Fig x) (hy : Fig y) (h : tx (x.map fig) = tx (y.map fig)) : x = y := by
  rw [tx_inj] at h
  induction x generalizing y with
  | nil => cases y with | nil => rfl | cons => cases h
  | cons a x ih =>
    cases y with
    | nil => cases h
    | cons b y =>
      simp only [List.map_cons, List.cons.injEq] at h
      rw [fig_inj (hx a List.mem_cons_self) (hy b List.mem_cons_self) h.1, ih (fun c hc => hx c (List.mem_cons_of_mem _ hc)) (fun c hc => hy c (List.mem_cons_of_mem _ hc)) h.2]
theorem truth_W (x : List Nat) : truth (W x) = some (decide (x ≠ [])) := by
  show some ((tx (x.map fig)).length != 0) = _
  rw [tx_len]
  cases x <;> simp

section
variable {C : Nat → List AV → Option AV} {x y : List Nat} {rest : Loc} {mc : Slot}

theorem w1_cond (hx : Fig x) (hy : Fig y) (k : Nat) : evT C p_lev_w1c (.val (W x) :: .val (W y) :: mc :: .val (.int k) :: rest) = some (decide (k < x.length ∧ k < y.length ∧ x[k]? = y[k]?)) := by
  have tr : ∀ z : List Nat, truth (.str (tx ((z.map fig).drop k))) = some (decide (k < z.length)) := fun z => by
    show some ((tx _).length != 0) = _
    rw [tx_len, List.length_drop, List.length_map]
    by_cases h : k < z.length
    · rw [decide_eq_true h]; simp; (first | lia | omega)
    · rw [decide_eq_false h]; simp; (first | lia | omega)
  simp only [p_lev_w1c, evT, qE1, qE2, qE3, qE4, qE5, qE6, qE7, qE8, qE9, qE10, qE11, qE0, qE12s, qE12l, qE12i, qE12c, qE13, qE14, qE15, qE16, qE17, qE18, qE19, qE20, valAt, baseAt, List.getElem?_cons_zero, List.getElem?_cons_succ, Option.bind_some, s_from, tr]
  by_cases h1 : k < x.length
  · by_cases h2 : k < y.length
    · have e1 : (x.map fig)[k]? = some (fig x[k]) := by simp [h1]
      have e2 : (y.map fig)[k]? = some (fig y[k]) := by simp [h2]
      simp only [decide_eq_true h1, decide_eq_true h2, if_true, Option.bind_some, tr, subV_tx e1, subV_tx e2, q_eqS, Option.map_some, q_tb]
      rw [str_eq_one (hx _ (List.getElem_mem h1)) (hy _ (List.getElem_mem h2))]
      simp [h1, h2]
    · simp only [h1, h2, decide_true, decide_false, if_true, Option.bind_some, tr, Bool.false_eq_true, if_false, false_and, and_false]
  · simp only [decide_eq_false h1, Option.bind_some, tr, Bool.false_eq_true, if_false, h1, false_and, decide_false]

theorem w1_body (k : Nat) (a b : Slot) : evB C p_lev_w1b (a :: b :: mc :: .val (.int k) :: rest) = some (.next, a :: b :: mc :: .val (.int (k + 1 : Nat)) :: rest) := rfl

theorem w1_loop (hx : Fig x) (hy : Fig y) : ∀ (m k fuel : Nat), x.length ≤ m + k → m < fuel → k ≤ x.length → k ≤ y.length → D (x.drop k) (y.drop k) = D x y →
    ∃ k' : Nat, k' ≤ x.length ∧ k' ≤ y.length ∧ D (x.drop k') (y.drop k') = D x y ∧
      evWh (evT C p_lev_w1c) (fun ρ => evB C p_lev_w1b ρ) fuel (.val (W x) :: .val (W y) :: mc :: .val (.int k) :: rest) = some (.next, .val (W x) :: .val (W y) :: mc :: .val (.int k') :: rest) := by
  intro m
  induction m with
  | zero =>
    intro k fuel hm hf h1 h2 hD
    obtain ⟨f, rfl⟩ : ∃ f, fuel = f + 1 := ⟨fuel - 1, by (first | lia | omega)⟩
    refine ⟨k, h1, h2, hD, ?_⟩
    rewrite [qW2]
    rw [w1_cond hx hy, decide_eq_false (by (first | lia | omega))]
    rfl
  | succ m ih =>
    intro k fuel hm hf h1 h2 hD
    obtain ⟨f, rfl⟩ : ∃ f, fuel = f + 1 := ⟨fuel - 1, by (first | lia | omega)⟩
    rewrite [qW2]
    rw [w1_cond hx hy]
    by_cases hc : k < x.length ∧ k < y.length ∧ x[k]? = y[k]?
    · rw [decide_eq_true hc]
      obtain ⟨c1, c2, c3⟩ := hc
      have hD' : D (x.drop (k + 1)) (y.drop (k + 1)) = D x y := by
        rw [← hD, List.drop_eq_getElem_cons c1, List.drop_eq_getElem_cons c2]
        have : x[k] = y[k] := by simpa [c1, c2] using c3
        rw [this, D_cons]
      obtain ⟨k', q1, q2, q3, q4⟩ := ih (k + 1) f (by (first | lia | omega)) (by (first | lia | omega)) (by (first | lia | omega)) (by (first | lia | omega)) hD'
      refine ⟨k', q1, q2, q3, ?_⟩
      simp only [Option.bind_some, if_true, w1_body]
      exact q4
    · rw [decide_eq_false hc]
      exact ⟨k, h1, h2, hD, rfl⟩

/-- a text's end, q letters taken off -/
theorem to_post (z : List Nat) (q : Nat) {a b c : Slot} {i : Nat} {ρ : Loc} (hi : valAt ρ i = some (.str (tx z))) (h4 : valAt ρ 4 = some (.int (-(q : Int)))) : evE C (.slice (.var i) (.lit .none) (.or (.var 4) (.lit .none)) (.lit .none)) ρ = some (.str (tx (z.take (z.length - q)))) := by
  simp only [qE1,qE2,qE3,qE4,qE5,qE6,qE7,qE8,qE9,qE10,qE11,qE0,qE12s,qE12l,qE12i,qE12c,qE13,qE14,qE15,qE16,qE17,qE18,qE19,qE20, hi, h4, Option.bind_some, truth]
  by_cases hq : q = 0
  · subst hq
    simp only [show ((-((0 : Nat) : Int)) != 0) = false from rfl, Bool.false_eq_true, if_false, Option.bind_some, s_all, Nat.sub_zero, List.take_length]
  · have : ((-(q : Int)) != 0) = true := by simp; (first | lia | omega)
    simp only [this, if_true, Option.bind_some]
    exact s_neg z q (by (first | lia | omega))

theorem w2_cond (hx : Fig x) (hy : Fig y) (q : Nat) (pre : Slot) : evT C p_lev_w2c (.val (W x) :: .val (W y) :: mc :: pre :: .val (.int (-(q : Int))) :: rest) = some (decide (q < x.length ∧ q < y.length ∧ x[x.length - (q + 1)]? = y[y.length - (q + 1)]?)) := by
  have tr : ∀ z : List Nat, truth (.str (tx ((z.map fig).take ((z.map fig).length - q)))) = some (decide (q < z.length)) := fun z => by
    show some ((tx _).length != 0) = _
    rw [tx_len, List.length_take, List.length_map]
    by_cases h : q < z.length
    · rw [decide_eq_true h]; simp; (first | lia | omega)
    · rw [decide_eq_false h]; simp; (first | lia | omega)
  have p0 := to_post (C := C) (x.map fig) q (a := .no) (b := .no) (c := .no) (i := 0) (ρ := .val (W x) :: .val (W y) :: mc :: pre :: .val (.int (-(q : Int))) :: rest) rfl rfl
  have p1 := to_post (C := C) (y.map fig) q (a := .no) (b := .no) (c := .no) (i := 1) (ρ := .val (W x) :: .val (W y) :: mc :: pre :: .val (.int (-(q : Int))) :: rest) rfl rfl
  unfold p_lev_w2c evT
  rw [qE3, p0, Option.bind_some, tr, Option.bind_some]
  by_cases h1 : q < x.length
  · rw [decide_eq_true h1, if_pos rfl, qE3, p1, Option.bind_some, tr, Option.bind_some]
    by_cases h2 : q < y.length
    · have l1 : x.length - (q + 1) < x.length := by (first | lia | omega)
      have l2 : y.length - (q + 1) < y.length := by (first | lia | omega)
      have e1 : (x.map fig)[(x.map fig).length - (q + 1)]? = some (fig x[x.length - (q + 1)]) := by simp [l1]
      have e2 : (y.map fig)[(y.map fig).length - (q + 1)]? = some (fig y[y.length - (q + 1)]) := by simp [l2]
      have b : binV .sub (.int (-(q : Int))) (.int 1) = some (.int (-((q + 1 : Nat) : Int))) := by
        show some (AV.int _) = _
        congr 2; (first | lia | omega)
      rw [decide_eq_true h2, if_pos rfl]
      simp only [qE1,qE2,qE3,qE4,qE5,qE6,qE7,qE8,qE9,qE10,qE11,qE0,qE12s,qE12l,qE12i,qE12c,qE13,qE14,qE15,qE16,qE17,qE18,qE19,qE20, valAt, baseAt, List.getElem?_cons_zero, List.getElem?_cons_succ, Option.bind_some, b, subV_tx_neg (Nat.succ_pos q) (show q + 1 ≤ (x.map fig).length by simp; (first | lia | omega)) e1, subV_tx_neg (Nat.succ_pos q) (show q + 1 ≤ (y.map fig).length by simp; (first | lia | omega)) e2, cmpV, eqV, Option.map_some, truth]
      rw [str_eq_one (hx _ (List.getElem_mem l1)) (hy _ (List.getElem_mem l2))]
      simp [h1, h2, l1, l2]
    · rw [decide_eq_false h2, if_neg (by decide), Option.bind_some, tr, decide_eq_false h2]
      simp [h2]
  · rw [decide_eq_false h1, if_neg (by decide), Option.bind_some, tr, decide_eq_false h1]
    simp [h1]
end
end Mine

namespace Mine

theorem evFor_inv {f : AV → Loc → Option (Fl × Loc)} : ∀ (xs : List AV) (I : Nat → Loc → Prop) (ρ : Loc), I 0 ρ →
    (∀ (i : Nat) (x : AV) (ρ : Loc), xs[i]? = some x → I i ρ → ∃ fl ρ', f x ρ = some (fl, ρ') ∧ (fl = .next ∨ fl = .cont) ∧ I (i + 1) ρ') → ∃ ρ', evFor f false xs ρ = some (.next, ρ') ∧ I xs.length ρ'
  | [], I, ρ, h0, _ => ⟨ρ, rfl, h0⟩
  | x :: xs, I, ρ, h0, hs => by
    obtain ⟨fl, ρ', h1, h2, h3⟩ := hs 0 x ρ rfl h0
    obtain ⟨ρ'', h4, h5⟩ := evFor_inv xs (fun i => I (i + 1)) ρ' h3 fun i y r hy hi => hs (i + 1) y r (by simpa using hy) hi
    refine ⟨ρ'', ?_, by simpa using h5⟩
    rewrite [qF2]
    rw [h1, Option.bind_some]
    rcases h2 with rfl | rfl <;> exact h4
theorem rangeV_nat (n : Nat) (h : n < 2 ^ 62) : rangeV (.int n) = some ((List.range n).map fun (i : Nat) => AV.int i) := by
  unfold rangeV
  dsimp only
  rw [if_pos (by omega)]
  unfold Mine.rangeL
  simp
theorem range_get {n i : Nat} {x : AV} (h : ((List.range n).map fun (i : Nat) => AV.int i)[i]? = some x) : i < n ∧ x = .int i := by
  rw [List.getElem?_map, Option.map_eq_some_iff] at h
  obtain ⟨k, h1, h2⟩ := h
  obtain ⟨h3, h4⟩ := List.getElem?_eq_some_iff.mp h1
  simp at h3 h4
  exact ⟨h3, by rw [← h2, h4]⟩

theorem b_add (a b : Int) : binV .add (.int a) (.int b) = some (.int (a + b)) := rfl
theorem b_sub (a b : Int) : binV .sub (.int a) (.int b) = some (.int (a - b)) := rfl
theorem b_mul (a b : Int) (h : a.natAbs < 2 ^ 63 ∨ b.natAbs < 2 ^ 63) : binV .mul (.int a) (.int b) = some (.int (a * b)) := by
  show (if _ then _ else _) = _
  rw [if_pos h]
theorem k_eq (a b : Int) : cmpV .eq (.int a) (.int b) = some (a == b) := rfl
theorem k_eqS (a b : Str) : cmpV .eq (.str a) (.str b) = some (a == b) := rfl
theorem k_ne (a b : Int) : cmpV .ne (.int a) (.int b) = some (a != b) := rfl
theorem k_lt (a b : Int) : cmpV .lt (.int a) (.int b) = some (decide (a < b)) := rfl
theorem k_gt (a b : Int) : cmpV .gt (.int a) (.int b) = some (decide (b < a)) := rfl
theorem k_ge (a b : Int) : cmpV .ge (.int a) (.int b) = some (decide (b ≤ a)) := rfl
theorem t_bool (b : Bool) : truth (.bool b) = some b := rfl
theorem t_int (b : Int) : truth (.int b) = some (b != 0) := rfl
theorem x_list (xs : List AV) (k : Int) : subV (.list xs) (.int k) = idxV xs k := rfl
theorem x_tup (xs : List AV) (k : Int) : subV (.tup xs) (.int k) = idxV xs k := rfl
theorem idx_nat {xs : List AV} {k : Nat} {v : AV} (h : xs[k]? = some v) : idxV xs k = some v := by unfold idxV; rw [if_pos (by (first | lia | omega))]; simpa using h
theorem idx_last {xs : List AV} {v : AV} (h : xs.getLast? = some v) : idxV xs (-1) = some v := by
  unfold idxV
  rw [List.getLast?_eq_getElem?] at h
  obtain ⟨m, hm⟩ : ∃ m, xs.length = m + 1 := by
    cases xs with
    | nil => cases h
    | cons a r => exact ⟨_, rfl⟩
  rw [hm] at h ⊢
  rw [if_neg (by decide), if_pos (show -((m + 1 : Nat) : Int) ≤ -1 by omega), show (-1 + ((m + 1 : Nat) : Int)) = (m : Int) by omega]
  exact h
theorem m_min2 (a b : Int) : biV .min2 [.int a, .int b] = some (.int (if b < a then b else a)) := rfl
theorem m_lenS (x : Str) : biV .len [.str x] = some (.int x.length) := rfl
theorem m_lenL (x : List AV) : biV .len [.list x] = some (.int x.length) := rfl

section
variable {C : Nat → List AV → Option AV} {x y : List Nat} {rest : Loc} {mc : Slot}

theorem w2_body (q : Nat) (a b c : Slot) : evB C p_lev_w2b (a :: b :: mc :: c :: .val (.int (-(q : Int))) :: rest) = some (.next, a :: b :: mc :: c :: .val (.int (-((q + 1 : Nat) : Int))) :: rest) := by
  have e : -(q : Int) - 1 = -((q + 1 : Nat) : Int) := by (first | lia | omega)
  rw [← e]; rfl
theorem take_end (x : List Nat) (q : Nat) (h : q < x.length) : x.take (x.length - q) = x.take (x.length - (q + 1)) ++ [x[x.length - (q + 1)]'(Nat.sub_lt (Nat.lt_of_le_of_lt (Nat.zero_le _) h) (Nat.succ_pos _))] := by
  have h2 : x.length - (q + 1) < x.length := Nat.sub_lt (Nat.lt_of_le_of_lt (Nat.zero_le _) h) (Nat.succ_pos _)
  have : x.length - q = (x.length - (q + 1)) + 1 := by clear h2; omega
  rw [this, List.take_add_one, List.getElem?_eq_getElem h2]; rfl
theorem w2_loop (hx : Fig x) (hy : Fig y) (pre : Slot) : ∀ (m q fuel : Nat), x.length ≤ m + q → m < fuel → q ≤ x.length → q ≤ y.length → D (x.take (x.length - q)) (y.take (y.length - q)) = D x y →
    ∃ q' : Nat, q' ≤ x.length ∧ q' ≤ y.length ∧ D (x.take (x.length - q')) (y.take (y.length - q')) = D x y ∧
      evWh (evT C p_lev_w2c) (fun ρ => evB C p_lev_w2b ρ) fuel (.val (W x) :: .val (W y) :: mc :: pre :: .val (.int (-(q : Int))) :: rest) = some (.next, .val (W x) :: .val (W y) :: mc :: pre :: .val (.int (-(q' : Int))) :: rest) := by
  intro m
  induction m with
  | zero =>
    intro q fuel hm hf h1 h2 hD
    obtain ⟨f, rfl⟩ : ∃ f, fuel = f + 1 := ⟨fuel - 1, by (first | lia | omega)⟩
    refine ⟨q, h1, h2, hD, ?_⟩
    rewrite [qW2]
    rw [w2_cond hx hy, decide_eq_false (by (first | lia | omega))]
    rfl
  | succ m ih =>
    intro q fuel hm hf h1 h2 hD
    obtain ⟨f, rfl⟩ : ∃ f, fuel = f + 1 := ⟨fuel - 1, by (first | lia | omega)⟩
    rewrite [qW2]
    rw [w2_cond hx hy]
    by_cases hc : q < x.length ∧ q < y.length ∧ x[x.length - (q + 1)]? = y[y.length - (q + 1)]?
    · rw [decide_eq_true hc]
      obtain ⟨c1, c2, c3⟩ := hc
      have l1 : x.length - (q + 1) < x.length := by (first | lia | omega)
      have l2 : y.length - (q + 1) < y.length := by (first | lia | omega)
      have hD' : D (x.take (x.length - (q + 1))) (y.take (y.length - (q + 1))) = D x y := by
        rw [← hD, take_end x q c1, take_end y q c2]
        have : x[x.length - (q + 1)] = y[y.length - (q + 1)] := by simpa [l1, l2] using c3
        rw [this, D_snoc]
      obtain ⟨k', q1, q2, q3, q4⟩ := ih (q + 1) f (by (first | lia | omega)) (by (first | lia | omega)) (by (first | lia | omega)) (by (first | lia | omega)) hD'
      refine ⟨k', q1, q2, q3, ?_⟩
      simp only [Option.bind_some, if_true, w2_body]
      exact q4
    · rw [decide_eq_false hc]
      exact ⟨q, h1, h2, hD, rfl⟩

theorem w3_body {n : Nat} {pre post s11 s12 s13 : Slot} {row : List AV} {b j cb ca : Nat} {res dist mn old : Int} (hca : x[j]? = some ca) (ha : ca < 4) (hb : cb < 4) (hrow : row[j]? = some (.int old)) :
    ((bindV (.val (W x) :: .val (W y) :: mc :: pre :: post :: .ownS row :: .val (.int res) :: .val (.int b) :: .val (W [cb]) :: .val (.int dist) :: .val (.int mn) :: s11 :: s12 :: s13 :: rest) [11] (.int j)).bind fun ρ' => evB (evCall tab' (n + 1)) p_lev_w3b ρ') =
    some (.next, .val (W x) :: .val (W y) :: mc :: pre :: post :: .ownS (row.set j (.int (if dist + sc cb ca < (if old < res then old else res) + 2 then dist + sc cb ca else (if old < res then old else res) + 2))) ::
      .val (.int (if dist + sc cb ca < (if old < res then old else res) + 2 then dist + sc cb ca else (if old < res then old else res) + 2)) :: .val (.int b) :: .val (W [cb]) :: .val (.int old) ::
      .val (.int (if (if dist + sc cb ca < (if old < res then old else res) + 2 then dist + sc cb ca else (if old < res then old else res) + 2) < mn then (if dist + sc cb ca < (if old < res then old else res) + 2 then dist + sc cb ca else (if old < res then old else res) + 2) else mn)) ::
      .val (.int j) :: .val (.int (dist + sc cb ca)) :: .val (.int ((if old < res then old else res) + 2)) :: rest) := by
  have hg : subV (W x) (.int j) = some (W [ca]) := subV_tx (by simp [hca])
  have hg2 : idxV row j = some (.int old) := idx_nat hrow
  have hl : j < row.length := (List.getElem?_eq_some_iff.mp hrow).1
  have hc : evCall tab' (n + 1) 11 [W [cb], W [ca]] = some (.int (sc cb ca)) := c_sc n cb ca hb ha
  unfold p_lev_w3b
  simp only [bindV, qB1, qB2, qS1, qS2, qS3, qS4, qS5, qS6, qS7, qS8, qS9, qS10, qS11, qS12, qS13, qS14, qS15, qS16, qS17, qS18, qE1, qE2, qE3, qE4, qE5, qE6, qE7, qE8, qE9, qE10, qE11, qE0, qE12s, qE12l, qE12i, qE12c, qE13, qE14, qE15, qE16, qE17, qE18, qE19, qE20, qEs1, qEs2, qR1, qR2, qR3, qR4, qR5, qR6, qR7, qR8, qR9, qR10, qR11, qR12, qR13s, qR13l, qR13i, qR13c, qR14, qR15, qR16, qR17, qR18, qR19, qR20, qR21, qRs1, qRs2, Mine.freeze, freeze1, List.foldl, List.set, valAt, baseAt, List.getElem?_cons_zero, List.getElem?_cons_succ, Option.bind_some, Option.map_some, List.append, List.nil_append, List.append_nil, List.cons_append, hg, hc, b_add, x_list, hg2, m_min2, k_lt, t_bool, evT]
  rw [if_pos (⟨by (first | lia | omega), by (first | lia | omega)⟩ : (0 : Int) ≤ (j : Int) ∧ (j : Int) < (row.length : Int))]
  simp only [qB1,qB2, qS1, qS2, qS3, qS4, qS5, qS6, qS7, qS8, qS9, qS10, qS11, qS12, qS13, qS14, qS15, qS16, qS17, qS18, qE1, qE2, qE3, qE4, qE5, qE6, qE7, qE8, qE9, qE10, qE11, qE0, qE12s, qE12l, qE12i, qE12c, qE13, qE14, qE15, qE16, qE17, qE18, qE19, qE20, valAt, List.set, List.getElem?_cons_zero, List.getElem?_cons_succ, Option.bind_some, Option.map_some, Int.toNat_natCast, k_lt, t_bool, evT]
  by_cases hm : (if dist + sc cb ca < (if old < res then old else res) + 2 then dist + sc cb ca else (if old < res then old else res) + 2) < mn
  · rw [decide_eq_true hm, if_pos hm]; rfl
  · rw [decide_eq_false hm, if_neg hm]; rfl
end
end Mine

namespace Mine

noncomputable def rowT (x y : List Nat) (j b : Nat) : List AV := (List.range x.length).map fun i => .int (if i < j then T x y (i + 1) (b + 1) else T x y (i + 1) b)
theorem rowT_get {x y : List Nat} {j b : Nat} (h : j < x.length) : (rowT x y j b)[j]? = some (.int (T x y (j + 1) b)) := by
  unfold rowT; simp [h]
theorem rowT_set {x y : List Nat} {j b : Nat} : (rowT x y j b).set j (.int (T x y (j + 1) (b + 1))) = rowT x y (j + 1) b := by
  unfold rowT
  refine List.ext_getElem (by simp) fun i h1 h2 => ?_
  simp only [List.length_set, List.length_map, List.length_range] at h1
  rw [List.getElem_set]
  simp only [List.getElem_map, List.getElem_range]
  split
  · rename_i e; subst e; rw [if_pos (Nat.lt_succ_self _)]
  · rename_i e
    by_cases hi : i < j
    · rw [if_pos hi, if_pos (by (first | lia | omega))]
    · rw [if_neg hi, if_neg (by (first | lia | omega))]
theorem rowT_end (x y : List Nat) (b : Nat) : rowT x y x.length b = rowT x y 0 (b + 1) := by
  unfold rowT
  refine List.map_congr_left fun i hi => ?_
  rw [List.mem_range] at hi
  rw [if_pos hi, if_neg (by (first | lia | omega))]

section
variable {x y : List Nat} {rest : Loc} {n : Nat}

theorem w3_num {b s t : Int} (h : s ≤ 2) : min (2 * b + s) (min (t + 2) (2 * b + 2)) = min (2 * b + s) (min (2 * (b + 1) + 2) (t + 2)) := by
  rw [Int.min_comm (t + 2), ← Int.min_assoc, ← Int.min_assoc, Int.min_eq_left (a := 2 * b + s) (b := 2 * b + 2) (by omega), Int.min_eq_left (a := 2 * b + s) (b := 2 * (b + 1) + 2) (by omega)]
theorem if_le {a b : Int} (h : a ≤ 18) : (if a < b then a else b) ≤ 18 := by
  rw [if_min]; exact Int.le_trans (Int.min_le_left _ _) h
theorem w3_loop {mc pre post s11 s12 s13 : Slot} {b cb : Nat} {mn : Int} (hx : Fig x) (hcb : y[b]? = some cb) (hb : cb < 4) (h9 : x.length + y.length ≤ 9) (hx0 : 0 < x.length) :
    ∃ (mn' : Int) (t11 t12 t13 : Slot), mn' ≤ 18 ∧
      evFor (fun v ρ => (bindV ρ [11] v).bind fun ρ' => evB (evCall tab' (n + 1)) p_lev_w3b ρ') false ((List.range x.length).map fun (i : Nat) => AV.int i)
        (.val (W x) :: .val (W y) :: mc :: pre :: post :: .ownS (rowT x y 0 b) :: .val (.int (2 * (b : Int))) :: .val (.int b) :: .val (W [cb]) :: .val (.int (2 * (b : Int))) :: .val (.int mn) :: s11 :: s12 :: s13 :: rest) =
      some (.next, .val (W x) :: .val (W y) :: mc :: pre :: post :: .ownS (rowT x y 0 (b + 1)) :: .val (.int (T x y x.length (b + 1))) :: .val (.int b) :: .val (W [cb]) :: .val (.int (T x y x.length b)) :: .val (.int mn') :: t11 :: t12 :: t13 :: rest) := by
  have hby : b < y.length := (List.getElem?_eq_some_iff.mp hcb).1
  obtain ⟨ρ', h1, h2⟩ := evFor_inv (f := fun v ρ => (bindV ρ [11] v).bind fun ρ' => evB (evCall tab' (n + 1)) p_lev_w3b ρ') ((List.range x.length).map fun (i : Nat) => AV.int i)
    (fun j ρ => ∃ (res dist mn : Int) (s11 s12 s13 : Slot), ρ = (.val (W x) :: .val (W y) :: mc :: pre :: post :: .ownS (rowT x y j b) :: .val (.int res) :: .val (.int b) :: .val (W [cb]) :: .val (.int dist) :: .val (.int mn) :: s11 :: s12 :: s13 :: rest) ∧
      j ≤ x.length ∧ dist = T x y j b ∧ res = (if j = 0 then 2 * (b : Int) else T x y j (b + 1)) ∧ (0 < j → mn ≤ 18))
    (.val (W x) :: .val (W y) :: mc :: pre :: post :: .ownS (rowT x y 0 b) :: .val (.int (2 * (b : Int))) :: .val (.int b) :: .val (W [cb]) :: .val (.int (2 * (b : Int))) :: .val (.int mn) :: s11 :: s12 :: s13 :: rest)
    ⟨_, _, _, _, _, _, rfl, Nat.zero_le _, (T_0l x y b (Nat.le_of_lt hby)).symm, rfl, fun h => absurd h (Nat.lt_irrefl _)⟩ (by
      rintro j v ρ hv ⟨res, dist, mn, s11, s12, s13, rfl, hj, hd, hr, hm⟩
      obtain ⟨hj', rfl⟩ := range_get hv
      have hca : x[j]? = some x[j] := by simp [hj']
      have ha : x[j] < 4 := hx _ (List.getElem_mem hj')
      refine ⟨_, _, w3_body (n := n) hca ha hb (rowT_get hj'), .inl rfl, ?_⟩
      have key := T_ss x y j b x[j] cb hca hcb
      have hsc := sc_bd x[j] cb
      have hsy := sc_symm cb x[j]
      have e : (if dist + sc cb x[j] < (if T x y (j + 1) b < res then T x y (j + 1) b else res) + 2 then dist + sc cb x[j] else (if T x y (j + 1) b < res then T x y (j + 1) b else res) + 2) = T x y (j + 1) (b + 1) := by
        rw [hsy, hd, hr, key, if_min, if_min, min_add2]
        by_cases h0 : j = 0
        · subst h0
          rw [if_pos rfl, T_0l x y (b + 1) hby, T_0l x y b (Nat.le_of_lt hby)]
          exact w3_num (hsc.2)
        · rw [if_neg h0, Int.min_comm (T x y (j + 1) b + 2)]
      have hle := T_le x y (j + 1) (b + 1) h9
      rw [e, rowT_set]
      refine ⟨_, _, _, _, _, _, rfl, hj', rfl, by rw [if_neg (Nat.succ_ne_zero j)], fun _ => ?_⟩
      exact if_le hle)
  obtain ⟨res, dist, mn', t11, t12, t13, rfl, _, hd, hr, hm⟩ := h2
  simp only [List.length_map, List.length_range] at hd hr hm h1
  rw [rowT_end, if_neg (Nat.pos_iff_ne_zero.mp hx0 : ¬ x.length = 0)] at *
  refine ⟨mn', t11, t12, t13, hm hx0, ?_⟩
  rw [h1, hd, hr]

theorem mul_two (b : Int) : binV .mul (.int b) (.int 2) = some (.int (2 * b)) := by
  rw [b_mul b 2 (.inr (by decide)), Int.mul_comm]
theorem evB_next {C : Nat → List AV → Option AV} {s : PS} {r : PB} {ρ ρ' : Loc} (h : evS C s ρ = some (.next, ρ')) : evB C (.cons s r) ρ = evB C r ρ' := by rw [qB2, h]; rfl
theorem evB_ret {C : Nat → List AV → Option AV} {s : PS} {r : PB} {ρ ρ' : Loc} {v : AV} (h : evS C s ρ = some (.ret v, ρ')) : evB C (.cons s r) ρ = some (.ret v, ρ') := by rw [qB2, h]; rfl
theorem evS_for {C : Nat → List AV → Option AV} {ts : List Nat} {it : PI} {q : PB} {b : Bool} {ρ : Loc} {xs : List AV} (h : evI C it ρ = some xs) : evS C (.fors ts it q b) ρ = evFor (fun v ρ => (bindV ρ ts v).bind fun ρ' => evB C q ρ') b xs ρ := by
  rw [qS16, h]; rfl
theorem evS_if {C : Nat → List AV → Option AV} {c : PE} {a b : PB} {ρ : Loc} {t : Bool} (h : evT C c ρ = some t) : evS C (.ifs c a b) ρ = if t then evB C a ρ else evB C b ρ := by rw [qS14, h]; rfl
theorem rangeV_txt (l : List Nat) (h : l.length < 1000) : rangeV (.int (tx l).length) = some ((List.range l.length).map fun (i : Nat) => AV.int i) := by
  rw [tx_len]
  exact rangeV_nat _ (Nat.lt_of_lt_of_le h (by decide))
theorem evI_len {C : Nat → List AV → Option AV} {ρ : Loc} {i : Nat} {l : List Nat} (h : valAt ρ i = some (.str (tx l))) (hl : l.length < 1000) : evI C (.range (.bi .len (.cons (.var i) .nil))) ρ = some ((List.range l.length).map fun (i : Nat) => AV.int i) := by
  rw [qI2, qE11, qEs2, qE2, h, Option.bind_some, qEs1, Option.map_some, Option.bind_some, m_lenS, Option.bind_some]
  exact rangeV_txt l hl
theorem st8 {C : Nat → List AV → Option AV} {mc pre post s5 s6 s8 s9 s10 : Slot} {b cb : Nat} (hg : subV (W y) (.int b) = some (W [cb])) : evS C (.asg 8 (.sub (.var 1) (.var 7))) (.val (W x) :: .val (W y) :: mc :: pre :: post :: s5 :: s6 :: .val (.int b) :: s8 :: s9 :: s10 :: rest) =
   some (.next, .val (W x) :: .val (W y) :: mc :: pre :: post :: s5 :: s6 :: .val (.int b) :: .val (W [cb]) :: s9 :: s10 :: rest) := by
  simp only [qS1,qS2,qS3,qS4,qS5,qS6,qS7,qS8,qS9,qS10,qS11,qS12,qS13,qS14,qS15,qS16,qS17,qS18, qE1, qE2, qE3, qE4, qE5, qE6, qE7, qE8, qE9, qE10, qE11, qE0, qE12s, qE12l, qE12i, qE12c, qE13, qE14, qE15, qE16, qE17, qE18, qE19, qE20, qR1, qR2, qR3, qR4, qR5, qR6, qR7, qR8, qR9, qR10, qR11, qR12, qR13s, qR13l, qR13i, qR13c, qR14, qR15, qR16, qR17, qR18, qR19, qR20, qR21, Mine.freeze, freeze1, List.foldl, List.set, valAt, baseAt, List.getElem?_cons_zero, List.getElem?_cons_succ, Option.bind_some, Option.map_some, List.nil_append, hg]
theorem st9 {C : Nat → List AV → Option AV} {s0 s1 mc pre post s5 s6 s8 s9 s10 : Slot} {b : Nat} : evS C (.asg2 9 6 (.bin .mul (.var 7) (.lit (.int (2))))) (s0 :: s1 :: mc :: pre :: post :: s5 :: s6 :: .val (.int b) :: s8 :: s9 :: s10 :: rest) =
   some (.next, s0 :: s1 :: mc :: pre :: post :: s5 :: .val (.int (2 * (b : Int))) :: .val (.int b) :: s8 :: .val (.int (2 * (b : Int))) :: s10 :: rest) := by
  simp only [qS1,qS2,qS3,qS4,qS5,qS6,qS7,qS8,qS9,qS10,qS11,qS12,qS13,qS14,qS15,qS16,qS17,qS18, qE1, qE2, qE3, qE4, qE5, qE6, qE7, qE8, qE9, qE10, qE11, qE0, qE12s, qE12l, qE12i, qE12c, qE13, qE14, qE15, qE16, qE17, qE18, qE19, qE20, List.set, valAt, List.getElem?_cons_zero, List.getElem?_cons_succ, Option.bind_some, Option.map_some, mul_two]
theorem st10 {C : Nat → List AV → Option AV} {s0 s1 mc pre post s5 s6 s7 s8 s9 s10 : Slot} {M : Int} : evS C (.asg 10 (.lit (.int M))) (s0 :: s1 :: mc :: pre :: post :: s5 :: s6 :: s7 :: s8 :: s9 :: s10 :: rest) =
   some (.next, s0 :: s1 :: mc :: pre :: post :: s5 :: s6 :: s7 :: s8 :: s9 :: .val (.int M) :: rest) := rfl

theorem w4_body {pre post s7 s8 s9 s10 s11 s12 s13 : Slot} {b cb : Nat} {res : Int} (hx : Fig x) (hcb : y[b]? = some cb) (hb : cb < 4) (h9 : x.length + y.length ≤ 9) (hx0 : 0 < x.length) :
    ∃ t8 t9 t10 t11 t12 t13 : Slot, ((bindV (.val (W x) :: .val (W y) :: .val (.int 18) :: pre :: post :: .ownS (rowT x y 0 b) :: .val (.int res) :: s7 :: s8 :: s9 :: s10 :: s11 :: s12 :: s13 :: rest) [7] (.int b)).bind fun ρ' => evB (evCall tab' (n + 1)) p_lev_w4b ρ') =
      some (.next, .val (W x) :: .val (W y) :: .val (.int 18) :: pre :: post :: .ownS (rowT x y 0 (b + 1)) :: .val (.int (T x y x.length (b + 1))) :: .val (.int b) :: t8 :: t9 :: t10 :: t11 :: t12 :: t13 :: rest) := by
  have hg : subV (W y) (.int b) = some (W [cb]) := subV_tx (by simp [hcb])
  unfold p_lev_w4b
  generalize (9223372036854775807 : Int) = M
  obtain ⟨mn', t11, t12, t13, hm, hloop⟩ := w3_loop (x := x) (y := y) (rest := rest) (n := n) (mc := .val (.int 18)) (pre := pre) (post := post) (s11 := s11) (s12 := s12) (s13 := s13) (mn := M) hx hcb hb h9 hx0
  refine ⟨.val (W [cb]), .val (.int (T x y x.length b)), .val (.int mn'), t11, t12, t13, ?_⟩
  show evB _ _ (.val (W x) :: .val (W y) :: .val (.int 18) :: pre :: post :: .ownS (rowT x y 0 b) :: .val (.int res) :: .val (.int b) :: s8 :: s9 :: s10 :: s11 :: s12 :: s13 :: rest) = _
  have hI : ∀ ρ : Loc, valAt ρ 0 = some (W x) → evI (evCall tab' (n + 1)) (.range (.bi .len (.cons (.var 0) .nil))) ρ = some ((List.range x.length).map fun (i : Nat) => AV.int i) := fun ρ h => by
    have := evI_len (C := evCall tab' (n + 1)) h (by rw [List.length_map]; (first | lia | omega))
    rwa [List.length_map] at this
  rw [evB_next (st8 hg), evB_next st9, evB_next st10, evB_next ((evS_for (hI _ rfl)).trans hloop)]
  have hT : ∀ ρ : Loc, valAt ρ 10 = some (.int mn') → valAt ρ 2 = some (.int 18) → evT (evCall tab' (n + 1)) (.cmp .gt (.var 10) (.var 2)) ρ = some false := fun ρ h1 h2 => by
    simp only [evT, qE1, qE2, qE3, qE4, qE5, qE6, qE7, qE8, qE9, qE10, qE11, qE0, qE12s, qE12l, qE12i, qE12c, qE13, qE14, qE15, qE16, qE17, qE18, qE19, qE20, h1, h2, Option.bind_some, Option.map_some, k_gt, t_bool]
    rw [decide_eq_false (by (first | lia | omega))]
  rw [evB_next ((evS_if (hT _ rfl rfl)).trans rfl)]
  rfl

theorem w4_loop {pre post s7 s8 s9 s10 s11 s12 s13 : Slot} (hx : Fig x) (hy : Fig y) (h9 : x.length + y.length ≤ 9) (hx0 : 0 < x.length) (hy0 : 0 < y.length) :
    ∃ t7 t8 t9 t10 t11 t12 t13 : Slot, evFor (fun v ρ => (bindV ρ [7] v).bind fun ρ' => evB (evCall tab' (n + 1)) p_lev_w4b ρ') false ((List.range y.length).map fun (i : Nat) => AV.int i)
        (.val (W x) :: .val (W y) :: .val (.int 18) :: pre :: post :: .ownS (rowT x y 0 0) :: .val (.int 0) :: s7 :: s8 :: s9 :: s10 :: s11 :: s12 :: s13 :: rest) =
      some (.next, .val (W x) :: .val (W y) :: .val (.int 18) :: pre :: post :: .ownS (rowT x y 0 y.length) :: .val (.int (D x y)) :: t7 :: t8 :: t9 :: t10 :: t11 :: t12 :: t13 :: rest) := by
  obtain ⟨ρ', h1, h2⟩ := evFor_inv (f := fun v ρ => (bindV ρ [7] v).bind fun ρ' => evB (evCall tab' (n + 1)) p_lev_w4b ρ') ((List.range y.length).map fun (i : Nat) => AV.int i)
    (fun b ρ => ∃ (res : Int) (s7 s8 s9 s10 s11 s12 s13 : Slot), ρ = (.val (W x) :: .val (W y) :: .val (.int 18) :: pre :: post :: .ownS (rowT x y 0 b) :: .val (.int res) :: s7 :: s8 :: s9 :: s10 :: s11 :: s12 :: s13 :: rest) ∧ (0 < b → res = T x y x.length b))
    (.val (W x) :: .val (W y) :: .val (.int 18) :: pre :: post :: .ownS (rowT x y 0 0) :: .val (.int 0) :: s7 :: s8 :: s9 :: s10 :: s11 :: s12 :: s13 :: rest)
    ⟨_, _, _, _, _, _, _, _, rfl, fun h => absurd h (Nat.lt_irrefl _)⟩ (by
      rintro b v ρ hv ⟨res, s7, s8, s9, s10, s11, s12, s13, rfl, _⟩
      obtain ⟨hb', rfl⟩ := range_get hv
      have hcb : y[b]? = some y[b] := by simp [hb']
      obtain ⟨t8, t9, t10, t11, t12, t13, h3⟩ := w4_body (n := n) (rest := rest) (pre := pre) (post := post) (s7 := s7) (s8 := s8) (s9 := s9) (s10 := s10) (s11 := s11) (s12 := s12) (s13 := s13) (res := res) hx hcb (hy _ (List.getElem_mem hb')) h9 hx0
      exact ⟨_, _, h3, .inl rfl, _, _, _, _, _, _, _, _, rfl, fun _ => rfl⟩)
  obtain ⟨res, s7, s8, s9, s10, s11, s12, s13, rfl, hr⟩ := h2
  simp only [List.length_map, List.length_range] at hr h1
  have := hr hy0
  rw [T_full] at this
  subst this
  exact ⟨_, _, _, _, _, _, _, h1⟩
end
end Mine

namespace Mine

theorem evFn_ret {C : Nat → List AV → Option AV} {f : PFun} {args : List AV} {v : AV} {ρ ρ' : Loc} (e : args.map Slot.val ++ List.replicate (f.n - args.length) Slot.no = ρ) (h : evB C f.body ρ = some (.ret v, ρ')) : evFn C f args = some v := by
  unfold evFn; rw [e, h]; rfl

theorem two_mul' (b : Int) : binV .mul (.int 2) (.int b) = some (.int (2 * b)) := b_mul 2 b (.inl (by decide))
theorem W_drop (x : List Nat) (k : Nat) : tx ((x.map fig).drop k) = tx ((x.drop k).map fig) := by rw [List.map_drop]
theorem row_start : ∀ m : Nat, m < 10 → biV .rangeL [.int 2, .int (2 * ((m : Int) + 1)), .int 2] = some (.list ((List.range m).map fun (i : Nat) => .int (2 * ((i : Int) + 1)))) := by
  intro m hm
  have : ∀ m < 10, m = 0 ∨ m = 1 ∨ m = 2 ∨ m = 3 ∨ m = 4 ∨ m = 5 ∨ m = 6 ∨ m = 7 ∨ m = 8 ∨ m = 9 := by decide
  rcases this m hm with rfl | rfl | rfl | rfl | rfl | rfl | rfl | rfl | rfl | rfl <;> kernel_rfl
theorem rowT_zero (x y : List Nat) : rowT x y 0 0 = (List.range x.length).map fun (i : Nat) => .int (2 * ((i : Int) + 1)) := by
  unfold rowT
  refine List.map_congr_left fun i hi => ?_
  rw [List.mem_range] at hi
  rw [if_neg (by (first | lia | omega)), T_0r x y (i + 1) (by (first | lia | omega))]
  congr 1

section
variable {C : Nat → List AV → Option AV} {x y : List Nat} {rest : Loc}

theorem l_s1 {a b : Slot} (hx : Fig x) (hy : Fig y) : evT C (.cmp .eq (.var 0) (.var 1)) (.val (W x) :: .val (W y) :: rest) = some (decide (x = y)) := by
  simp only [evT, qE1, qE2, qE3, qE4, qE5, qE6, qE7, qE8, qE9, qE10, qE11, qE0, qE12s, qE12l, qE12i, qE12c, qE13, qE14, qE15, qE16, qE17, qE18, qE19, qE20, valAt, List.getElem?_cons_zero, List.getElem?_cons_succ, Option.bind_some, Option.map_some, k_eqS, t_bool]
  by_cases h : x = y
  · subst h; simp
  · rw [decide_eq_false h]
    have : ¬ tx (x.map fig) = tx (y.map fig) := fun e => h (W_eq hx hy e)
    simpa using this
theorem l_s4 {b c : Slot} (k : Nat) : evS C (.asg 0 (.slice (.var 0) (.var 3) (.lit .none) (.lit .none))) (.val (W x) :: b :: c :: .val (.int k) :: rest) = some (.next, .val (W (x.drop k)) :: b :: c :: .val (.int k) :: rest) := by
  simp only [qS1,qS2,qS3,qS4,qS5,qS6,qS7,qS8,qS9,qS10,qS11,qS12,qS13,qS14,qS15,qS16,qS17,qS18, qE1, qE2, qE3, qE4, qE5, qE6, qE7, qE8, qE9, qE10, qE11, qE0, qE12s, qE12l, qE12i, qE12c, qE13, qE14, qE15, qE16, qE17, qE18, qE19, qE20, qR1, qR2, qR3, qR4, qR5, qR6, qR7, qR8, qR9, qR10, qR11, qR12, qR13s, qR13l, qR13i, qR13c, qR14, qR15, qR16, qR17, qR18, qR19, qR20, qR21, Mine.freeze, freeze1, List.foldl, List.set, valAt, List.getElem?_cons_zero, List.getElem?_cons_succ, Option.bind_some, Option.map_some, List.cons_append, List.nil_append, s_from, W_drop]
theorem l_s5 {a c : Slot} (k : Nat) : evS C (.asg 1 (.slice (.var 1) (.var 3) (.lit .none) (.lit .none))) (a :: .val (W y) :: c :: .val (.int k) :: rest) = some (.next, a :: .val (W (y.drop k)) :: c :: .val (.int k) :: rest) := by
  simp only [qS1,qS2,qS3,qS4,qS5,qS6,qS7,qS8,qS9,qS10,qS11,qS12,qS13,qS14,qS15,qS16,qS17,qS18, qE1, qE2, qE3, qE4, qE5, qE6, qE7, qE8, qE9, qE10, qE11, qE0, qE12s, qE12l, qE12i, qE12c, qE13, qE14, qE15, qE16, qE17, qE18, qE19, qE20, qR1, qR2, qR3, qR4, qR5, qR6, qR7, qR8, qR9, qR10, qR11, qR12, qR13s, qR13l, qR13i, qR13c, qR14, qR15, qR16, qR17, qR18, qR19, qR20, qR21, Mine.freeze, freeze1, List.foldl, List.set, valAt, List.getElem?_cons_zero, List.getElem?_cons_succ, Option.bind_some, Option.map_some, List.cons_append, List.nil_append, s_from, W_drop]
theorem l_s8 {b c d : Slot} (q : Nat) : evS C (.asg 0 (.slice (.var 0) (.lit .none) (.or (.var 4) (.lit .none)) (.lit .none))) (.val (W x) :: b :: c :: d :: .val (.int (-(q : Int))) :: rest) = some (.next, .val (W (x.take (x.length - q))) :: b :: c :: d :: .val (.int (-(q : Int))) :: rest) := by
  have h := to_post (C := C) (x.map fig) q (a := .no) (b := .no) (c := .no) (i := 0) (ρ := .val (W x) :: b :: c :: d :: .val (.int (-(q : Int))) :: rest) rfl rfl
  simp only [qS1,qS2,qS3,qS4,qS5,qS6,qS7,qS8,qS9,qS10,qS11,qS12,qS13,qS14,qS15,qS16,qS17,qS18, qR1, qR2, qR3, qR4, qR5, qR6, qR7, qR8, qR9, qR10, qR11, qR12, qR13s, qR13l, qR13i, qR13c, qR14, qR15, qR16, qR17, qR18, qR19, qR20, qR21, Mine.freeze, freeze1, List.foldl, List.getElem?_cons_zero, List.getElem?_cons_succ, List.cons_append, List.nil_append]
  rw [h, List.length_map, ← List.map_take]
  rfl
theorem l_s9 {a c d : Slot} (q : Nat) : evS C (.asg 1 (.slice (.var 1) (.lit .none) (.or (.var 4) (.lit .none)) (.lit .none))) (a :: .val (W y) :: c :: d :: .val (.int (-(q : Int))) :: rest) = some (.next, a :: .val (W (y.take (y.length - q))) :: c :: d :: .val (.int (-(q : Int))) :: rest) := by
  have h := to_post (C := C) (y.map fig) q (a := .no) (b := .no) (c := .no) (i := 1) (ρ := a :: .val (W y) :: c :: d :: .val (.int (-(q : Int))) :: rest) rfl rfl
  simp only [qS1,qS2,qS3,qS4,qS5,qS6,qS7,qS8,qS9,qS10,qS11,qS12,qS13,qS14,qS15,qS16,qS17,qS18, qR1, qR2, qR3, qR4, qR5, qR6, qR7, qR8, qR9, qR10, qR11, qR12, qR13s, qR13l, qR13i, qR13c, qR14, qR15, qR16, qR17, qR18, qR19, qR20, qR21, Mine.freeze, freeze1, List.foldl, List.getElem?_cons_zero, List.getElem?_cons_succ, List.cons_append, List.nil_append]
  rw [h, List.length_map, ← List.map_take]
  rfl
theorem l_s10 : evT C (.or (.not (.var 0)) (.not (.var 1))) (.val (W x) :: .val (W y) :: rest) = some (decide (x = [] ∨ y = [])) := by
  simp only [evT, qE1, qE2, qE3, qE4, qE5, qE6, qE7, qE8, qE9, qE10, qE11, qE0, qE12s, qE12l, qE12i, qE12c, qE13, qE14, qE15, qE16, qE17, qE18, qE19, qE20, valAt, List.getElem?_cons_zero, List.getElem?_cons_succ, Option.bind_some, Option.map_some, truth_W, t_bool]
  by_cases h1 : x = [] <;> by_cases h2 : y = [] <;> simp [h1, h2, truth]
theorem l_len {ρ : Loc} {i : Nat} (h : valAt ρ i = some (W x)) : evE C (.bi .len (.cons (.var i) .nil)) ρ = some (.int x.length) := by
  rw [qE11, qEs2, qE2, h, Option.bind_some, qEs1, Option.map_some, Option.bind_some, m_lenS, tx_len, List.length_map]
theorem l_ret10 : evB C (.cons (.ret (.bin .mul (.lit (.int (2))) (.bin .add (.bi .len (.cons (.var 0) .nil)) (.bi .len (.cons (.var 1) .nil))))) .nil) (.val (W x) :: .val (W y) :: rest) = some (.ret (.int (2 * ((x.length : Int) + y.length))), .val (W x) :: .val (W y) :: rest) := by
  refine evB_ret ?_
  have hf : Mine.freeze (.val (W x) :: .val (W y) :: rest) (reads (.bin .mul (.lit (.int (2))) (.bin .add (.bi .len (.cons (.var 0) .nil)) (.bi .len (.cons (.var 1) .nil))))) = .val (W x) :: .val (W y) :: rest := rfl
  rw [qS17]
  simp only [hf]
  rw [qE8, qE1, Option.bind_some, qE8, l_len (x := x) rfl, Option.bind_some, l_len (x := y) rfl, Option.bind_some, b_add, Option.bind_some, b_mul _ _ (.inl (by decide))]
  rfl
theorem l_s11 (h1 : x.length ≤ 9) (h2 : y.length ≤ 9) : evT C (.or (.cmp .gt (.bi .len (.cons (.var 0) .nil)) (.lit (.int (40)))) (.cmp .gt (.bi .len (.cons (.var 1) .nil)) (.lit (.int (40))))) (.val (W x) :: .val (W y) :: rest) = some false := by
  have d1 : decide (40 < (x.length : Int)) = false := decide_eq_false (by (first | lia | omega))
  have d2 : decide (40 < (y.length : Int)) = false := decide_eq_false (by (first | lia | omega))
  unfold evT
  rw [qE4, qE7, l_len (x := x) rfl, Option.bind_some, qE1, Option.bind_some, k_gt, d1]
  simp only [Option.map_some, Option.bind_some, t_bool, Bool.false_eq_true, if_false]
  rw [qE7, l_len (x := y) rfl, Option.bind_some, qE1, Option.bind_some, k_gt, d2]
  rfl
theorem l_s12 : evT C (.cmp .lt (.bi .len (.cons (.var 1) .nil)) (.bi .len (.cons (.var 0) .nil))) (.val (W x) :: .val (W y) :: rest) = some (decide (y.length < x.length)) := by
  unfold evT
  rw [qE7, l_len (x := y) rfl, Option.bind_some, l_len (x := x) rfl, Option.bind_some, k_lt]
  simp only [Option.map_some, Option.bind_some, t_bool, Int.ofNat_lt]
theorem l_swap {a b : AV} : evB C (.cons (.swap 0 1) .nil) (.val a :: .val b :: rest) = some (.next, .val b :: .val a :: rest) := rfl
theorem l_s13 (h1 : x.length ≤ 9) (h2 : y.length ≤ 9) : evT C (.cmp .gt (.bin .mul (.bin .sub (.bi .len (.cons (.var 1) .nil)) (.bi .len (.cons (.var 0) .nil))) (.lit (.int (2)))) (.var 2)) (.val (W x) :: .val (W y) :: .val (.int 18) :: rest) = some false := by
  have d1 : decide (18 < 2 * ((y.length : Int) - x.length)) = false := decide_eq_false (by (first | lia | omega))
  unfold evT
  simp only [qE1,qE2,qE3,qE4,qE5,qE6,qE7,qE8,qE9,qE10,qE11,qE0,qE12s,qE12l,qE12i,qE12c,qE13,qE14,qE15,qE16,qE17,qE18,qE19,qE20, qEs1, qEs2, valAt, List.getElem?_cons_zero, List.getElem?_cons_succ, Option.bind_some, Option.map_some, m_lenS, tx_len, List.length_map, b_sub, mul_two, k_gt, d1, t_bool]
theorem asgOwn_eq {i : Nat} {e : PE} {ρ : Loc} {xs : List AV} (h : evE C e ρ = some (.list xs)) : evS C (.asgOwn i true e) ρ = some (.next, ρ.set i (.ownS xs)) := by
  rw [qS2, h]; rfl
theorem l_range {ρ : Loc} : evE C (.bi .rangeL (.cons (.lit (.int (2))) (.cons (.bin .mul (.lit (.int (2))) (.bin .add (.bi .len (.cons (.var 0) .nil)) (.lit (.int (1))))) (.cons (.lit (.int (2))) .nil)))) (.val (W x) :: ρ) = biV .rangeL [.int 2, .int (2 * ((x.length : Int) + 1)), .int 2] := by
  rw [qE11, qEs2, qE1, Option.bind_some, qEs2, qE8, qE1, Option.bind_some, qE8, l_len (x := x) rfl, Option.bind_some, qE1, Option.bind_some, b_add, Option.bind_some, two_mul', Option.bind_some, qEs2, qE1, Option.bind_some, qEs1, Option.map_some, Option.map_some, Option.map_some, Option.bind_some]
theorem l_s14 {c d e f : Slot} (h1 : x.length ≤ 9) : evS C (.asgOwn 5 true (.bi .rangeL (.cons (.lit (.int (2))) (.cons (.bin .mul (.lit (.int (2))) (.bin .add (.bi .len (.cons (.var 0) .nil)) (.lit (.int (1))))) (.cons (.lit (.int (2))) .nil))))) (.val (W x) :: .val (W y) :: c :: d :: e :: f :: rest) =
    some (.next, .val (W x) :: .val (W y) :: c :: d :: e :: .ownS (rowT x y 0 0) :: rest) := by
  exact asgOwn_eq (l_range.trans ((row_start x.length (Nat.lt_succ_of_le h1)).trans (congrArg (fun z => some (AV.list z)) (rowT_zero x y).symm)))
end

theorem lev_tail (n : Nat) {x y : List Nat} (hx : Fig x) (hy : Fig y) (h9 : x.length + y.length ≤ 9) (hx0 : 0 < x.length) (hy0 : 0 < y.length) {s3 s4 s5 s6 s7 s8 s9 s10 s11 s12 s13 : Slot} {rest : Loc} :
    ∃ ρ', evB (evCall tab' (n + 1)) (.cons (.ifs (.cmp .gt (.bin .mul (.bin .sub (.bi .len (.cons (.var 1) .nil)) (.bi .len (.cons (.var 0) .nil))) (.lit (.int (2)))) (.var 2)) (.cons (.ret (.bin .add (.var 2) (.lit (.int (1))))) .nil) .nil) (.cons (.asgOwn 5 true (.bi .rangeL (.cons (.lit (.int (2))) (.cons (.bin .mul (.lit (.int (2))) (.bin .add (.bi .len (.cons (.var 0) .nil)) (.lit (.int (1))))) (.cons (.lit (.int (2))) .nil))))) (.cons (.asg 6 (.lit (.int (0)))) (.cons (.fors [7] (.range (.bi .len (.cons (.var 1) .nil))) p_lev_w4b false) (.cons (.ret (.var 6)) .nil)))))
      (.val (W x) :: .val (W y) :: .val (.int 18) :: s3 :: s4 :: s5 :: s6 :: s7 :: s8 :: s9 :: s10 :: s11 :: s12 :: s13 :: rest) = some (.ret (.int (D x y)), ρ') := by
  rw [evB_next ((evS_if (l_s13 (by (first | lia | omega)) (by (first | lia | omega)))).trans rfl), evB_next (l_s14 (by (first | lia | omega)))]
  rw [evB_next (s := .asg 6 (.lit (.int (0)))) (ρ' := .val (W x) :: .val (W y) :: .val (.int 18) :: s3 :: s4 :: .ownS (rowT x y 0 0) :: .val (.int 0) :: s7 :: s8 :: s9 :: s10 :: s11 :: s12 :: s13 :: rest) rfl]
  obtain ⟨t7, t8, t9, t10, t11, t12, t13, h⟩ := w4_loop (rest := rest) (n := n) (pre := s3) (post := s4) (s7 := s7) (s8 := s8) (s9 := s9) (s10 := s10) (s11 := s11) (s12 := s12) (s13 := s13) hx hy h9 hx0 hy0
  have hI := evI_len (C := evCall tab' (n + 1)) (ρ := .val (W x) :: .val (W y) :: .val (.int 18) :: s3 :: s4 :: .ownS (rowT x y 0 0) :: .val (.int 0) :: s7 :: s8 :: s9 :: s10 :: s11 :: s12 :: s13 :: rest) (i := 1) (l := y.map fig) rfl (by rw [List.length_map]; (first | lia | omega))
  rw [List.length_map] at hI
  rw [evB_next ((evS_for hI).trans h)]
  exact ⟨_, evB_ret rfl⟩

theorem lev_ok (n : Nat) {x y : List Nat} (hx : Fig x) (hy : Fig y) (h9 : x.length + y.length ≤ 9) : evCall tab' (n + 2) 12 [W x, W y, .int 18] = some (.int (D x y)) := by
  rw [call_eq tab_lev rfl]
  suffices h : ∃ ρ', evB (evCall tab' (n + 1)) fn_lev.body (.val (W x) :: .val (W y) :: .val (.int 18) :: List.replicate 24 .no) = some (.ret (.int (D x y)), ρ') by
    obtain ⟨ρ', h⟩ := h
    exact evFn_ret rfl h
  unfold fn_lev
  dsimp only
  by_cases hxy : x = y
  · subst hxy
    refine ⟨.val (W x) :: .val (W x) :: .val (.int 18) :: List.replicate 24 .no, evB_ret ((evS_if (l_s1 hx hy (a := .no) (b := .no))).trans ?_)⟩
    rw [decide_eq_true rfl, D_self]
    rfl
  · obtain ⟨k, k1, k2, kD, kW⟩ := w1_loop (C := evCall tab' (n + 1)) (mc := .val (.int 18)) (rest := List.replicate 23 .no) hx hy x.length 0 1000 (by (first | lia | omega)) (by (first | lia | omega)) (Nat.zero_le _) (Nat.zero_le _) rfl
    obtain ⟨q, q1, q2, qD, qW⟩ := w2_loop (C := evCall tab' (n + 1)) (mc := .val (.int 18)) (rest := List.replicate 22 .no) (hx.drop k) (hy.drop k) (.val (.int k)) (x.drop k).length 0 1000 (by (first | lia | omega)) (by rw [List.length_drop]; (first | lia | omega)) (Nat.zero_le _) (Nat.zero_le _) (by rw [Nat.sub_zero, Nat.sub_zero, List.take_length, List.take_length])
    have hx2 := (hx.drop k).take ((x.drop k).length - q)
    have hy2 := (hy.drop k).take ((y.drop k).length - q)
    have lx2 : ((x.drop k).take ((x.drop k).length - q)).length ≤ x.length := Nat.le_trans (List.length_take_le' _ _) (by rw [List.length_drop]; exact Nat.sub_le _ _)
    have ly2 : ((y.drop k).take ((y.drop k).length - q)).length ≤ y.length := Nat.le_trans (List.length_take_le' _ _) (by rw [List.length_drop]; exact Nat.sub_le _ _)
    rw [kD] at qD
    rw [evB_next ((evS_if (l_s1 hx hy (a := .no) (b := .no))).trans (by rw [decide_eq_false hxy]; rfl))]
    rw [evB_next (s := .asg 3 (.lit (.int (0)))) (ρ' := .val (W x) :: .val (W y) :: .val (.int 18) :: .val (.int ((0 : Nat) : Int)) :: List.replicate 23 .no) rfl]
    rw [evB_next (s := .whiles p_lev_w1c p_lev_w1b) ((by rw [qS15] : evS _ _ _ = _).trans kW)]
    rw [evB_next (l_s4 k), evB_next (l_s5 k)]
    rw [evB_next (s := .asg 4 (.lit (.int (0)))) (ρ' := .val (W (x.drop k)) :: .val (W (y.drop k)) :: .val (.int 18) :: .val (.int k) :: .val (.int (-((0 : Nat) : Int))) :: List.replicate 22 .no) rfl]
    rw [evB_next (s := .whiles p_lev_w2c p_lev_w2b) ((by rw [qS15] : evS _ _ _ = _).trans qW)]
    rw [evB_next (l_s8 q), evB_next (l_s9 q)]
    generalize (x.drop k).take ((x.drop k).length - q) = x2 at *
    generalize (y.drop k).take ((y.drop k).length - q) = y2 at *
    by_cases hem : x2 = [] ∨ y2 = []
    · have hD : 2 * ((x2.length : Int) + y2.length) = D x y := by
        rw [← qD]
        rcases hem with rfl | rfl
        · rw [D_nl]; simp
        · rw [D_nr]; simp
      have h10 := l_ret10 (C := evCall tab' (n + 1)) (x := x2) (y := y2) (rest := .val (.int 18) :: .val (.int k) :: .val (.int (-(q : Int))) :: List.replicate 22 .no)
      rw [hD] at h10
      exact ⟨_, evB_ret (((evS_if l_s10).trans (if_pos (decide_eq_true hem))).trans h10)⟩
    · rw [evB_next ((evS_if l_s10).trans (by rw [decide_eq_false hem]; rfl))]
      rw [evB_next ((evS_if (l_s11 (by (first | lia | omega)) (by (first | lia | omega)))).trans rfl)]
      rw [not_or] at hem
      have hp : ∀ z : List Nat, z ≠ [] → 0 < z.length := fun z h => by cases z with | nil => exact absurd rfl h | cons => simp
      by_cases hs : y2.length < x2.length
      · rw [evB_next ((evS_if l_s12).trans (by rw [decide_eq_true hs]; exact l_swap))]
        rw [← qD, D_symm]
        exact lev_tail n hy2 hx2 (by (first | lia | omega)) (hp _ hem.2) (hp _ hem.1)
      · rw [evB_next ((evS_if l_s12).trans (by rw [decide_eq_false hs]; rfl))]
        rw [← qD]
        exact lev_tail n hx2 hy2 (by (first | lia | omega)) (hp _ hem.1) (hp _ hem.2)
end Mine

namespace Mine

theorem foldC_map {α : Type} {f : AV → Option (Option AV)} {a b : α → AV} : ∀ ks : List α, (∀ k ∈ ks, f (a k) = some (some (b k))) → foldC f (ks.map a) = some (ks.map b)
  | [], _ => rfl
  | k :: ks, h => by
    rw [List.map_cons, qFC, h k List.mem_cons_self, Option.bind_some, foldC_map ks fun j hj => h j (List.mem_cons_of_mem _ hj)]
    rfl
theorem comp_map {C : Nat → List AV → Option AV} {α : Type} {a b : α → AV} {elt : PE} {ts : List Nat} {it : PI} {ρ : Loc} (ks : List α) (hI : evI C it ρ = some (ks.map a)) (hf : ∀ k ∈ ks, ∃ ρ', bindV ρ ts (a k) = some ρ' ∧ evE C elt ρ' = some (b k)) (hz : ks.length ≤ sizeLine) :
    evE C (.comp elt ts it (.lit (.bool true))) ρ = some (.list (ks.map b)) := by
  rw [qE19, hI, Option.bind_some, foldC_map (b := b) ks fun k hk => ?_]
  · rw [Option.bind_some, if_pos (by rw [List.length_map]; exact hz)]
  · obtain ⟨ρ', h1, h2⟩ := hf k hk
    rw [h1, Option.bind_some, qE1, Option.bind_some, t_bool, Option.bind_some, if_pos rfl, h2]
    rfl

noncomputable abbrev Fg (x : List Nat) : AV := .list (x.map fun (a : Nat) => AV.int a)
noncomputable def rowP (x y : List Nat) (i m : Nat) : List AV := (List.range m).map fun j => .int (T x y i j)
theorem rowP_get {x y : List Nat} {i m j : Nat} (h : j < m) : (rowP x y i m)[j]? = some (.int (T x y i j)) := by unfold rowP; simp [h]
theorem rowP_snoc (x y : List Nat) (i m : Nat) : rowP x y i (m + 1) = rowP x y i m ++ [.int (T x y i m)] := by unfold rowP; rw [List.range_succ, List.map_append]; rfl
theorem rowP_last (x y : List Nat) (i m : Nat) : (rowP x y i (m + 1)).getLast? = some (.int (T x y i m)) := by rw [rowP_snoc]; simp
theorem rowP_len (x y : List Nat) (i m : Nat) : (rowP x y i m).length = m := by unfold rowP; simp

section
variable {C : Nat → List AV → Option AV} {x y : List Nat} {rest : Loc}

theorem pr_cost {ρ : Loc} {a b : Nat} (ha : a < 4) (hb : b < 4) (h3 : valAt ρ 3 = some (.int a)) (h6 : valAt ρ 6 = some (.int b)) :
    evE C (.ite (.cmp .ne (.bin .fdiv (.var 3) (.lit (.int (2)))) (.bin .fdiv (.var 6) (.lit (.int (2))))) (.lit (.int (2))) (.ite (.cmp .ne (.var 3) (.var 6)) (.lit (.int (1))) (.lit (.int (0))))) ρ = some (.int (sc a b)) := by
  have h4 : ∀ k, k < 4 → k = 0 ∨ k = 1 ∨ k = 2 ∨ k = 3 := by (first | lia | omega)
  simp only [qE1,qE2,qE3,qE4,qE5,qE6,qE7,qE8,qE9,qE10,qE11,qE0,qE12s,qE12l,qE12i,qE12c,qE13,qE14,qE15,qE16,qE17,qE18,qE19,qE20, h3, h6, Option.bind_some]
  rcases h4 a ha with rfl | rfl | rfl | rfl <;> rcases h4 b hb with rfl | rfl | rfl | rfl <;> rfl

theorem m_min3 (a b c : Int) : biV .min3 [.int a, .int b, .int c] = some (.int (if b < a then (if c < b then c else b) else (if c < a then c else a))) := rfl
theorem pr_e1 {ρ : Loc} {ahead here : List AV} {place : Nat} {u v w c : Int} (h0 : ahead[place]? = some (.int u)) (h1 : ahead[place + 1]? = some (.int v)) (hl : here.getLast? = some (.int w))
    (r2 : baseAt ρ 2 = some (.list ahead)) (r4 : baseAt ρ 4 = some (.list here)) (r5 : valAt ρ 5 = some (.int place)) (r7 : valAt ρ 7 = some (.int c)) :
    evE C (.bi .min3 (.cons (.bin .add (.sub (.var 2) (.var 5)) (.var 7)) (.cons (.bin .add (.sub (.var 2) (.bin .add (.var 5) (.lit (.int (1))))) (.lit (.int (2)))) (.cons (.bin .add (.sub (.var 4) (.neg (.lit (.int (1))))) (.lit (.int (2)))) .nil)))) ρ =
    some (.int (if v + 2 < u + c then (if w + 2 < v + 2 then w + 2 else v + 2) else (if w + 2 < u + c then w + 2 else u + c))) := by
  have e1 := idx_nat h0
  have e2 : idxV ahead ((place : Int) + 1) = some (.int v) := idx_nat (k := place + 1) h1
  have e3 := idx_last hl
  simp only [qE1,qE2,qE3,qE4,qE5,qE6,qE7,qE8,qE9,qE10,qE11,qE0,qE12s,qE12l,qE12i,qE12c,qE13,qE14,qE15,qE16,qE17,qE18,qE19,qE20, qEs1, qEs2, r2, r4, r5, r7, Option.bind_some, Option.map_some, x_list, e1, e2, e3, b_add, m_min3]
theorem pr_step {s0 s1 s7 : Slot} {ahead here : List AV} {a b place : Nat} {u v w : Int} (h0 : ahead[place]? = some (.int u)) (h1 : ahead[place + 1]? = some (.int v)) (hl : here.getLast? = some (.int w)) (hz : here.length < sizeLine) (ha : a < 4) (hb : b < 4) :
    evB C p_l_price_w2b (s0 :: s1 :: .val (.list ahead) :: .val (.int a) :: .own here :: .val (.int place) :: .val (.int b) :: s7 :: rest) =
      some (.next, s0 :: s1 :: .val (.list ahead) :: .val (.int a) :: .own (here ++ [.int (if v + 2 < u + sc a b then (if w + 2 < v + 2 then w + 2 else v + 2) else (if w + 2 < u + sc a b then w + 2 else u + sc a b))]) :: .val (.int place) :: .val (.int b) :: .val (.int (sc a b)) :: rest) := by
  unfold p_l_price_w2b
  have hA : evS C (.asg 7 (.ite (.cmp .ne (.bin .fdiv (.var 3) (.lit (.int (2)))) (.bin .fdiv (.var 6) (.lit (.int (2))))) (.lit (.int (2))) (.ite (.cmp .ne (.var 3) (.var 6)) (.lit (.int (1))) (.lit (.int (0))))))
      (s0 :: s1 :: .val (.list ahead) :: .val (.int a) :: .own here :: .val (.int place) :: .val (.int b) :: s7 :: rest) = some (.next, s0 :: s1 :: .val (.list ahead) :: .val (.int a) :: .own here :: .val (.int place) :: .val (.int b) :: .val (.int (sc a b)) :: rest) := by
    rw [qS1]
    have hf : Mine.freeze (s0 :: s1 :: .val (.list ahead) :: .val (.int a) :: .own here :: .val (.int place) :: .val (.int b) :: s7 :: rest) (reads (.ite (.cmp .ne (.bin .fdiv (.var 3) (.lit (.int (2)))) (.bin .fdiv (.var 6) (.lit (.int (2))))) (.lit (.int (2))) (.ite (.cmp .ne (.var 3) (.var 6)) (.lit (.int (1))) (.lit (.int (0))))))  = (s0 :: s1 :: .val (.list ahead) :: .val (.int a) :: .own here :: .val (.int place) :: .val (.int b) :: s7 :: rest) := rfl
    simp only [hf]
    rw [pr_cost ha hb rfl rfl]
    rfl
  rw [evB_next hA]
  refine (evB_next ?_).trans rfl
  rw [qS11]
  have hf : Mine.freeze (s0 :: s1 :: .val (.list ahead) :: .val (.int a) :: .own here :: .val (.int place) :: .val (.int b) :: .val (.int (sc a b)) :: rest) (reads (.bi .min3 (.cons (.bin .add (.sub (.var 2) (.var 5)) (.var 7)) (.cons (.bin .add (.sub (.var 2) (.bin .add (.var 5) (.lit (.int (1))))) (.lit (.int (2)))) (.cons (.bin .add (.sub (.var 4) (.neg (.lit (.int (1))))) (.lit (.int (2)))) .nil))))) = (s0 :: s1 :: .val (.list ahead) :: .val (.int a) :: .own here :: .val (.int place) :: .val (.int b) :: .val (.int (sc a b)) :: rest) := rfl
  simp only [hf, List.getElem?_cons_zero, List.getElem?_cons_succ]
  rw [pr_e1 (c := sc a b) h0 h1 hl rfl rfl rfl rfl, Option.bind_some, if_pos hz]
  rfl

theorem pr_in {s0 : Slot} {i a : Nat} (hy : Fig y) (hx : x[i]? = some a) (ha : a < 4) (h9 : y.length ≤ 9) {s5 s6 s7 : Slot} :
    ∃ t5 t6 t7 : Slot, evFor (fun v ρ => (bindV ρ [5, 6] v).bind fun ρ' => evB C p_l_price_w2b ρ') false (enumF 0 (y.map fun (a : Nat) => AV.int a)) (s0 :: .val (Fg y) :: .val (.list (rowP x y i (y.length + 1))) :: .val (.int a) :: .own (rowP x y (i + 1) 1) :: s5 :: s6 :: s7 :: rest) =
      some (.next, s0 :: .val (Fg y) :: .val (.list (rowP x y i (y.length + 1))) :: .val (.int a) :: .own (rowP x y (i + 1) (y.length + 1)) :: t5 :: t6 :: t7 :: rest) := by
  obtain ⟨ρ', h1, h2⟩ := evFor_inv (f := fun v ρ => (bindV ρ [5, 6] v).bind fun ρ' => evB C p_l_price_w2b ρ') (enumF 0 (y.map fun (a : Nat) => AV.int a))
    (fun j ρ => ∃ s5 s6 s7, ρ = (s0 :: .val (Fg y) :: .val (.list (rowP x y i (y.length + 1))) :: .val (.int a) :: .own (rowP x y (i + 1) (j + 1)) :: s5 :: s6 :: s7 :: rest)) _ ⟨s5, s6, s7, rfl⟩ (by
      rintro j v ρ hv ⟨s5, s6, s7, rfl⟩
      rw [enumF_get, Option.map_eq_some_iff] at hv
      obtain ⟨w, hw, rfl⟩ := hv
      rw [List.getElem?_map, Option.map_eq_some_iff] at hw
      obtain ⟨b, hb, rfl⟩ := hw
      have hj : j < y.length := (List.getElem?_eq_some_iff.mp hb).1
      have hb4 := hy.get hb
      rw [Nat.zero_add]
      refine ⟨.next, _, pr_step (s0 := s0) (s7 := s7) (rowP_get (by omega)) (rowP_get (by omega)) (rowP_last x y (i + 1) j) (by rw [rowP_len, sizeLine_eq]; omega) ha hb4, .inl rfl, .val (.int j), .val (.int b), .val (.int (sc a b)), ?_⟩
      have key := T_ss x y i j a b hx hb
      have e : (if T x y i (j + 1) + 2 < T x y i j + sc a b then (if T x y (i + 1) j + 2 < T x y i (j + 1) + 2 then T x y (i + 1) j + 2 else T x y i (j + 1) + 2) else (if T x y (i + 1) j + 2 < T x y i j + sc a b then T x y (i + 1) j + 2 else T x y i j + sc a b)) = T x y (i + 1) (j + 1) := by
        rw [key]; exact if_min3 _ _ _
      rw [e, rowP_snoc x y (i + 1) (j + 1)])
  obtain ⟨t5, t6, t7, rfl⟩ := h2
  rw [enumF_len, List.length_map] at h1
  exact ⟨t5, t6, t7, h1⟩

theorem pr_out {i a : Nat} (hy : Fig y) (hi : i < x.length) (hx : x[i]? = some a) (ha : a < 4) (h9 : y.length ≤ 9) {s3 s4 s5 s6 s7 : Slot} :
    ∃ t4 t5 t6 t7 : Slot, ((bindV (.val (Fg x) :: .val (Fg y) :: .val (.list (rowP x y i (y.length + 1))) :: s3 :: s4 :: s5 :: s6 :: s7 :: rest) [3] (.int a)).bind fun ρ' => evB C p_l_price_w3b ρ') =
      some (.next, .val (Fg x) :: .val (Fg y) :: .val (.list (rowP x y (i + 1) (y.length + 1))) :: .val (.int a) :: t4 :: t5 :: t6 :: t7 :: rest) := by
  obtain ⟨t5, t6, t7, h⟩ := pr_in (C := C) (x := x) (rest := rest) (s0 := .val (Fg x)) hy hx ha h9 (s5 := s5) (s6 := s6) (s7 := s7)
  refine ⟨.val (.list (rowP x y (i + 1) (y.length + 1))), t5, t6, t7, ?_⟩
  unfold p_l_price_w3b
  show evB C _ (.val (Fg x) :: .val (Fg y) :: .val (.list (rowP x y i (y.length + 1))) :: .val (.int a) :: s4 :: s5 :: s6 :: s7 :: rest) = _
  have e1 : idxV (rowP x y i (y.length + 1)) 0 = some (.int (T x y i 0)) := idx_nat (k := 0) (rowP_get (by (first | lia | omega)))
  have hr : [AV.int (T x y i 0 + 2)] = rowP x y (i + 1) 1 := by
    show _ = [AV.int (T x y (i + 1) 0)]
    rw [T_0r x y i (by (first | lia | omega)), T_0r x y (i + 1) (by (first | lia | omega))]
    congr 2
  have hA : evS C (.asgOwn 4 false (.list (.cons (.bin .add (.sub (.var 2) (.lit (.int (0)))) (.lit (.int (2)))) .nil))) (.val (Fg x) :: .val (Fg y) :: .val (.list (rowP x y i (y.length + 1))) :: .val (.int a) :: s4 :: s5 :: s6 :: s7 :: rest) =
      some (.next, .val (Fg x) :: .val (Fg y) :: .val (.list (rowP x y i (y.length + 1))) :: .val (.int a) :: .own (rowP x y (i + 1) 1) :: s5 :: s6 :: s7 :: rest) := by
    have hE : evE C (.list (.cons (.bin .add (.sub (.var 2) (.lit (.int (0)))) (.lit (.int (2)))) .nil)) (.val (Fg x) :: .val (Fg y) :: .val (.list (rowP x y i (y.length + 1))) :: .val (.int a) :: s4 :: s5 :: s6 :: s7 :: rest) = some (.list [.int (T x y i 0 + 2)]) := by
      simp only [qE1,qE2,qE3,qE4,qE5,qE6,qE7,qE8,qE9,qE10,qE11,qE0,qE12s,qE12l,qE12i,qE12c,qE13,qE14,qE15,qE16,qE17,qE18,qE19,qE20, qEs1, qEs2, baseAt, List.getElem?_cons_zero, List.getElem?_cons_succ, Option.bind_some, Option.map_some, x_list, e1, b_add]
      exact if_pos (by rw [sizeLine_eq]; exact (by decide : 1 ≤ 16777216))
    rw [qS2, hE, hr]; rfl
  rw [evB_next hA]
  have hI : evI C (.enum (.var 1)) (.val (Fg x) :: .val (Fg y) :: .val (.list (rowP x y i (y.length + 1))) :: .val (.int a) :: .own (rowP x y (i + 1) 1) :: s5 :: s6 :: s7 :: rest) = some (enumF 0 (y.map fun (a : Nat) => AV.int a)) := rfl
  rw [evB_next ((evS_for hI).trans h)]
  refine (evB_next (ρ' := .val (Fg x) :: .val (Fg y) :: .val (.list (rowP x y (i + 1) (y.length + 1))) :: .val (.int a) :: .val (.list (rowP x y (i + 1) (y.length + 1))) :: t5 :: t6 :: t7 :: rest) rfl).trans rfl
end

theorem rangeV_small (n : Nat) (h : n < 1000) : rangeV (.int n) = some ((List.range n).map fun (i : Nat) => AV.int i) := rangeV_nat n (Nat.lt_of_lt_of_le h (by decide))
theorem evI_lenL1 {C : Nat → List AV → Option AV} {ρ : Loc} {i : Nat} {xs : List AV} (h : valAt ρ i = some (.list xs)) (hl : xs.length + 1 < 1000) : evI C (.range (.bin .add (.bi .len (.cons (.var i) .nil)) (.lit (.int (1))))) ρ = some ((List.range (xs.length + 1)).map fun (i : Nat) => AV.int i) := by
  have h1 : evE C (.bin .add (.bi .len (.cons (.var i) .nil)) (.lit (.int (1)))) ρ = some (.int ((xs.length + 1 : Nat) : Int)) := by
    simp only [qE1,qE2,qE3,qE4,qE5,qE6,qE7,qE8,qE9,qE10,qE11,qE0,qE12s,qE12l,qE12i,qE12c,qE13,qE14,qE15,qE16,qE17,qE18,qE19,qE20, qEs1, qEs2, h, Option.bind_some, Option.map_some, m_lenL, b_add, Int.natCast_add, Int.natCast_one]
  rw [qI2, h1, Option.bind_some]
  exact rangeV_small _ hl
theorem pr_elt {C : Nat → List AV → Option AV} {ρ : Loc} {k : Nat} (h : valAt ρ 13 = some (.int k)) : evE C p_l_price_w1e ρ = some (.int (2 * (k : Int))) := by
  rw [p_l_price_w1e, qE8, qE1, Option.bind_some, qE2, h, Option.bind_some, two_mul']
theorem price_ok (n : Nat) {x y : List Nat} (hx : Fig x) (hy : Fig y) (h9 : x.length + y.length ≤ 9) : evCall tab' (n + 1) 19 [Fg x, Fg y] = some (.int (D x y)) := by
  rw [call_eq tab_law_price rfl]
  generalize evCall tab' n = C
  suffices h : ∃ ρ', evB C fn_law_price.body (.val (Fg x) :: .val (Fg y) :: List.replicate 16 .no) = some (.ret (.int (D x y)), ρ') by
    obtain ⟨ρ', h⟩ := h
    exact evFn_ret rfl h
  unfold fn_law_price
  dsimp only
  have hc : evE C (.comp p_l_price_w1e [13] (.range (.bin .add (.bi .len (.cons (.var 1) .nil)) (.lit (.int (1))))) (.lit (.bool true))) (.val (Fg x) :: .val (Fg y) :: List.replicate 16 .no) = some (.list (rowP x y 0 (y.length + 1))) := by
    have hI := evI_lenL1 (C := C) (ρ := .val (Fg x) :: .val (Fg y) :: List.replicate 16 .no) (i := 1) (xs := y.map fun (a : Nat) => AV.int a) rfl (by rw [List.length_map]; (first | lia | omega))
    rw [List.length_map] at hI
    have hf : ∀ k ∈ List.range (y.length + 1), ∃ ρ', bindV (.val (Fg x) :: .val (Fg y) :: List.replicate 16 .no) [13] (AV.int (k : Nat)) = some ρ' ∧ evE C p_l_price_w1e ρ' = some (AV.int (2 * (k : Int))) := fun k _ => by
      refine ⟨List.set (.val (Fg x) :: .val (Fg y) :: List.replicate 16 .no) 13 (.val (.int k)), rfl, pr_elt ?_⟩
      simp [valAt]
    have hm : ((List.range (y.length + 1)).map fun (i : Nat) => AV.int (2 * (i : Int))) = rowP x y 0 (y.length + 1) := by
      unfold rowP
      refine List.map_congr_left fun j hj => ?_
      rw [List.mem_range] at hj
      rw [T_0l x y j (by (first | lia | omega))]
    rw [← hm]
    exact comp_map (a := fun (i : Nat) => AV.int i) (b := fun (i : Nat) => AV.int (2 * (i : Int))) (List.range (y.length + 1)) hI hf (by rw [List.length_range, sizeLine_eq]; (first | lia | omega))
  rw [evB_next (s := .asg 2 _) (ρ' := .val (Fg x) :: .val (Fg y) :: .val (.list (rowP x y 0 (y.length + 1))) :: List.replicate 15 .no) (by
    rw [qS1]
    show Option.map _ (evE C _ (.val (Fg x) :: .val (Fg y) :: List.replicate 16 .no)) = _
    rw [hc]; rfl)]
  obtain ⟨ρ', h1, h2⟩ := evFor_inv (f := fun v ρ => (bindV ρ [3] v).bind fun ρ' => evB C p_l_price_w3b ρ') (x.map fun (a : Nat) => AV.int a)
    (fun i ρ => ∃ s3 s4 s5 s6 s7, ρ = (.val (Fg x) :: .val (Fg y) :: .val (.list (rowP x y i (y.length + 1))) :: s3 :: s4 :: s5 :: s6 :: s7 :: List.replicate 10 .no)) _ ⟨.no, .no, .no, .no, .no, rfl⟩ (by
      rintro i v ρ hv ⟨s3, s4, s5, s6, s7, rfl⟩
      rw [List.getElem?_map, Option.map_eq_some_iff] at hv
      obtain ⟨a, ha, rfl⟩ := hv
      obtain ⟨t4, t5, t6, t7, h⟩ := pr_out (C := C) (rest := List.replicate 10 .no) hy (List.getElem?_eq_some_iff.mp ha).1 ha (hx.get ha) (by (first | lia | omega)) (s3 := s3) (s4 := s4) (s5 := s5) (s6 := s6) (s7 := s7)
      exact ⟨_, _, h, .inl rfl, _, _, _, _, _, rfl⟩)
  obtain ⟨s3, s4, s5, s6, s7, rfl⟩ := h2
  rw [List.length_map] at h1
  have hI0 : evI C (.expr (.var 0)) (.val (Fg x) :: .val (Fg y) :: .val (.list (rowP x y 0 (y.length + 1))) :: List.replicate 15 .no) = some (x.map fun (a : Nat) => AV.int a) := rfl
  rw [evB_next ((evS_for hI0).trans h1)]
  have e3 := idx_last (rowP_last x y x.length y.length)
  refine ⟨.val (Fg x) :: .val (Fg y) :: .val (.list (rowP x y x.length (y.length + 1))) :: s3 :: s4 :: s5 :: s6 :: s7 :: List.replicate 10 .no, evB_ret ?_⟩
  rw [qS17]
  show Option.map _ (idxV (rowP x y x.length (y.length + 1)) (-1)) = _
  rw [e3, T_full]; rfl
end Mine

namespace Mine

noncomputable abbrev Ed := Nat × Nat × Int
noncomputable abbrev eV (e : Ed) : AV := .tup [.int e.1, .int e.2.1, .int e.2.2]
noncomputable abbrev Es (es : List Ed) : AV := .list (es.map eV)
noncomputable def roundsF : Nat → List Ed → List Nat → Int → List Int
  | 0, _, _, _ => []
  | k + 1, es, way, t => es.flatMap fun e =>
    if way.getLast? = some e.1 ∧ way.head? = some e.2.1 then [Int.fdiv (12 * (t + e.2.2)) way.length]
    else if way.getLast? = some e.1 ∧ e.2.1 ∉ way then roundsF k es (way ++ [e.2.1]) (t + e.2.2) else []

theorem flat_len {α β : Type} (f : α → List β) (b : Nat) : ∀ l : List α, (∀ x ∈ l, (f x).length ≤ b) → (l.flatMap f).length ≤ l.length * b
  | [], _ => by simp
  | x :: l, h => by
    rw [List.flatMap_cons, List.length_append, List.length_cons, Nat.succ_mul]
    have h1 := h x List.mem_cons_self
    have h2 := flat_len f b l fun y hy => h y (List.mem_cons_of_mem _ hy)
    (first | lia | omega)
noncomputable def stepR (k : Nat) (es : List Ed) (way : List Nat) (t : Int) (e : Ed) : List Int :=
  if way.getLast? = some e.1 ∧ way.head? = some e.2.1 then [Int.fdiv (12 * (t + e.2.2)) way.length]
    else if way.getLast? = some e.1 ∧ e.2.1 ∉ way then roundsF k es (way ++ [e.2.1]) (t + e.2.2) else []
theorem roundsF_len (es : List Ed) (h0 : 0 < es.length) : ∀ (k : Nat) (way : List Nat) (t : Int), (roundsF k es way t).length ≤ es.length ^ k
  | 0, way, t => Nat.zero_le _
  | k + 1, way, t => by
    show (es.flatMap (stepR k es way t)).length ≤ _
    rw [Nat.pow_succ, Nat.mul_comm]
    refine flat_len _ _ _ fun e _ => ?_
    have h1 : 1 ≤ es.length ^ k := Nat.one_le_pow _ _ h0
    unfold stepR
    split
    · exact h1
    · split
      · exact roundsF_len es h0 k _ _
      · exact Nat.zero_le _

theorem b_fdiv {x : Int} {n : Nat} (h0 : n ≠ 0) (h : n < 1000) : binV .fdiv (.int x) (.int n) = some (.int (Int.fdiv x n)) := by
  have h2 : (n : Int) ≠ 0 ∧ (n : Int).natAbs < 1073741824 := ⟨by (first | lia | omega), by rw [Int.natAbs_natCast]; exact Nat.lt_of_lt_of_le h (by decide)⟩
  exact if_pos h2
theorem k_notMem (x : Int) (ns : List Int) : cmpV .notMem (.int x) (.list (ns.map .int)) = some (!ns.contains x) := by
  show (ints? _).map _ = _
  rw [ints_map]; rfl
theorem Fg_ints (x : List Nat) : (x.map fun (a : Nat) => AV.int a) = (x.map fun (a : Nat) => (a : Int)).map .int := by rw [List.map_map]; rfl
theorem cast_contains (way : List Nat) (g : Nat) : ((way.map fun (a : Nat) => (a : Int)).contains (g : Int)) = decide (g ∈ way) := by
  rw [Bool.eq_iff_iff, List.contains_iff_mem, decide_eq_true_iff, List.mem_map]
  constructor
  · rintro ⟨a, h1, h2⟩
    rwa [← Int.ofNat.inj h2]
  · exact fun h => ⟨g, h, rfl⟩
theorem Fg_last {way : List Nat} {l : Nat} (h : way.getLast? = some l) : idxV (way.map fun (a : Nat) => AV.int a) (-1) = some (.int l) := idx_last (by rw [List.getLast?_map, h]; rfl)
theorem Fg_head {way : List Nat} {l : Nat} (h : way.head? = some l) : idxV (way.map fun (a : Nat) => AV.int a) 0 = some (.int l) := by
  refine idx_nat (k := 0) ?_
  cases way with
  | nil => cases h
  | cons a r => cases h; rfl

section
variable {C : Nat → List AV → Option AV} {es : List Ed} {way : List Nat} {rest : Loc}

theorem beq_cast (a b : Nat) : ((a : Int) == (b : Int)) = decide (a = b) := by
  rw [Bool.eq_iff_iff, beq_iff_eq, decide_eq_true_iff]; (first | lia | omega)
theorem ro_c1 {s0 s2 s3 s6 : Slot} {s g l h : Nat} (hl : way.getLast? = some l) (hh : way.head? = some h) :
    evT C (.and (.cmp .eq (.var 4) (.sub (.var 1) (.neg (.lit (.int (1)))))) (.cmp .eq (.var 5) (.sub (.var 1) (.lit (.int (0)))))) (s0 :: .val (Fg way) :: s2 :: s3 :: .val (.int s) :: .val (.int g) :: s6 :: rest) = some (decide (l = s ∧ h = g)) := by
  have e1 := Fg_last hl
  have e2 := Fg_head hh
  simp only [evT, qE1, qE2, qE3, qE4, qE5, qE6, qE7, qE8, qE9, qE10, qE11, qE0, qE12s, qE12l, qE12i, qE12c, qE13, qE14, qE15, qE16, qE17, qE18, qE19, qE20, valAt, baseAt, List.getElem?_cons_zero, List.getElem?_cons_succ, Option.bind_some, Option.map_some, x_list, e1, e2, k_eq, t_bool, beq_cast]
  by_cases h1 : s = l
  · rw [decide_eq_true h1, if_pos rfl, Option.bind_some, t_bool]
    simp [h1, eq_comm]
  · rw [decide_eq_false h1, if_neg (by decide), Option.bind_some, t_bool]
    simp [Ne.symm h1]
theorem ro_c2 {s0 s2 s3 s6 : Slot} {s g l : Nat} (hl : way.getLast? = some l) :
    evT C (.and (.cmp .eq (.var 4) (.sub (.var 1) (.neg (.lit (.int (1)))))) (.cmp .notMem (.var 5) (.var 1))) (s0 :: .val (Fg way) :: s2 :: s3 :: .val (.int s) :: .val (.int g) :: s6 :: rest) = some (decide (l = s ∧ g ∉ way)) := by
  have e1 := Fg_last hl
  have e2 : cmpV .notMem (.int (g : Int)) (Fg way) = some (!decide (g ∈ way)) := by rw [Fg, Fg_ints, k_notMem, cast_contains]
  simp only [evT, qE1, qE2, qE3, qE4, qE5, qE6, qE7, qE8, qE9, qE10, qE11, qE0, qE12s, qE12l, qE12i, qE12c, qE13, qE14, qE15, qE16, qE17, qE18, qE19, qE20, valAt, baseAt, List.getElem?_cons_zero, List.getElem?_cons_succ, Option.bind_some, Option.map_some, x_list, e1, e2, k_eq, t_bool, beq_cast]
  by_cases h1 : s = l
  · rw [decide_eq_true h1, if_pos rfl, Option.bind_some, t_bool]
    simp [h1]
  · rw [decide_eq_false h1, if_neg (by decide), Option.bind_some, t_bool]
    simp [Ne.symm h1]

theorem ro_app {s0 : Slot} {s4' s5' : AV} {acc : List AV} {t p : Int} (h0 : way.length ≠ 0) (h1 : way.length < 1000) (hz : acc.length < sizeLine) :
    evB C (.cons (.append 3 (.bin .fdiv (.bin .mul (.lit (.int (12))) (.bin .add (.var 2) (.var 6))) (.bi .len (.cons (.var 1) .nil)))) .nil) (s0 :: .val (Fg way) :: .val (.int t) :: .own acc :: .val s4' :: .val s5' :: .val (.int p) :: rest) =
      some (.next, s0 :: .val (Fg way) :: .val (.int t) :: .own (acc ++ [.int (Int.fdiv (12 * (t + p)) way.length)]) :: .val s4' :: .val s5' :: .val (.int p) :: rest) := by
  refine (evB_next ?_).trans rfl
  have hE : evE C (.bin .fdiv (.bin .mul (.lit (.int (12))) (.bin .add (.var 2) (.var 6))) (.bi .len (.cons (.var 1) .nil))) (s0 :: .val (Fg way) :: .val (.int t) :: .own acc :: .val s4' :: .val s5' :: .val (.int p) :: rest) = some (.int (Int.fdiv (12 * (t + p)) way.length)) := by
    have ha : evE C (.bin .add (.var 2) (.var 6)) (s0 :: .val (Fg way) :: .val (.int t) :: .own acc :: .val s4' :: .val s5' :: .val (.int p) :: rest) = some (.int (t + p)) := rfl
    have hl : evE C (.bi .len (.cons (.var 1) .nil)) (s0 :: .val (Fg way) :: .val (.int t) :: .own acc :: .val s4' :: .val s5' :: .val (.int p) :: rest) = some (.int way.length) := by
      show some (AV.int (List.length _ : Nat)) = _
      rw [List.length_map]
    rw [qE8, qE8, qE1, Option.bind_some, ha, Option.bind_some, b_mul _ _ (.inl (by decide)), Option.bind_some, hl, Option.bind_some, b_fdiv h0 h1]
  rw [qS11]
  have hf : Mine.freeze (s0 :: .val (Fg way) :: .val (.int t) :: .own acc :: .val s4' :: .val s5' :: .val (.int p) :: rest) (reads (.bin .fdiv (.bin .mul (.lit (.int (12))) (.bin .add (.var 2) (.var 6))) (.bi .len (.cons (.var 1) .nil)))) = (s0 :: .val (Fg way) :: .val (.int t) :: .own acc :: .val s4' :: .val s5' :: .val (.int p) :: rest) := rfl
  simp only [hf, List.getElem?_cons_zero, List.getElem?_cons_succ]
  rw [hE, Option.bind_some, if_pos hz]
  rfl
theorem evE_list {ps : PEs} {ρ : Loc} {vs : List AV} (h : evEs C ps ρ = some vs) (hz : vs.length ≤ sizeLine) : evE C (.list ps) ρ = some (.list vs) := by
  rw [qE14, h, Option.bind_some, if_pos hz]
theorem ro_aug {s4' : AV} {acc : List AV} {t p : Int} {g : Nat} {ys : List AV} (hw : way.length < 1000) (hC : C 21 [Es es, Fg (way ++ [g]), .int (t + p)] = some (.list ys)) (hz : acc.length + ys.length ≤ sizeLine) :
    evB C (.cons (.augL 3 (.call 21 (.cons (.var 0) (.cons (.bin .add (.var 1) (.list (.cons (.var 5) .nil))) (.cons (.bin .add (.var 2) (.var 6)) .nil))))) .nil) (.val (Es es) :: .val (Fg way) :: .val (.int t) :: .own acc :: .val s4' :: .val (.int g) :: .val (.int p) :: rest) =
      some (.next, .val (Es es) :: .val (Fg way) :: .val (.int t) :: .own (acc ++ ys) :: .val s4' :: .val (.int g) :: .val (.int p) :: rest) := by
  refine (evB_next ?_).trans rfl
  have hE : evE C (.call 21 (.cons (.var 0) (.cons (.bin .add (.var 1) (.list (.cons (.var 5) .nil))) (.cons (.bin .add (.var 2) (.var 6)) .nil)))) (.val (Es es) :: .val (Fg way) :: .val (.int t) :: .own acc :: .val s4' :: .val (.int g) :: .val (.int p) :: rest) = some (.list ys) := by
    have ha : evE C (.bin .add (.var 2) (.var 6)) (.val (Es es) :: .val (Fg way) :: .val (.int t) :: .own acc :: .val s4' :: .val (.int g) :: .val (.int p) :: rest) = some (.int (t + p)) := rfl
    have h0 : evE C (.var 0) (.val (Es es) :: .val (Fg way) :: .val (.int t) :: .own acc :: .val s4' :: .val (.int g) :: .val (.int p) :: rest) = some (Es es) := rfl
    have hl : evE C (.list (.cons (.var 5) .nil)) (.val (Es es) :: .val (Fg way) :: .val (.int t) :: .own acc :: .val s4' :: .val (.int g) :: .val (.int p) :: rest) = some (.list [.int g]) := by
      have h1 : [AV.int (g : Int)].length ≤ sizeLine := by rw [sizeLine_eq]; exact (by decide : 1 ≤ 16777216)
      exact evE_list rfl h1
    have hc : evE C (.bin .add (.var 1) (.list (.cons (.var 5) .nil))) (.val (Es es) :: .val (Fg way) :: .val (.int t) :: .own acc :: .val s4' :: .val (.int g) :: .val (.int p) :: rest) = some (Fg (way ++ [g])) := by
      have h1 : evE C (.var 1) (.val (Es es) :: .val (Fg way) :: .val (.int t) :: .own acc :: .val s4' :: .val (.int g) :: .val (.int p) :: rest) = some (Fg way) := rfl
      rw [qE8, h1, Option.bind_some, hl, Option.bind_some]
      have hlen : (way.map fun (a : Nat) => AV.int a).length + [AV.int (g : Int)].length ≤ sizeLine := by
        rw [List.length_map, sizeLine_eq]; simp only [List.length_singleton]; (first | lia | omega)
      refine (if_pos hlen).trans ?_
      rw [Fg, List.map_append]; rfl
    rw [qE10, qEs2, h0, Option.bind_some, qEs2, hc, Option.bind_some, qEs2, ha, Option.bind_some, qEs1, Option.map_some, Option.map_some, Option.map_some, Option.bind_some, hC]
  rw [qS8]
  simp only [List.getElem?_cons_zero, List.getElem?_cons_succ]
  rw [hE, Option.bind_some]
  simp only [if_pos hz]
  rfl
end

theorem nodup_lt : ∀ (n : Nat) (l : List Nat), l.Nodup → (∀ x ∈ l, x < n) → l.length ≤ n
  | 0, [], _, _ => Nat.le_refl _
  | 0, a :: l, _, h => absurd (h a List.mem_cons_self) (Nat.not_lt_zero _)
  | n + 1, l, hn, h => by
    by_cases hm : n ∈ l
    · have h1 := nodup_lt n (l.erase n) (hn.erase n) fun x hx => by
        obtain ⟨h2, h3⟩ := hn.mem_erase_iff.mp hx
        exact Nat.lt_of_le_of_ne (Nat.le_of_lt_succ (h x h3)) h2
      rw [List.length_erase_of_mem hm] at h1
      exact Nat.sub_le_iff_le_add.mp h1
    · exact Nat.le_succ_of_le (nodup_lt n l hn fun x hx => Nat.lt_of_le_of_ne (Nat.le_of_lt_succ (h x hx)) fun e => hm (e ▸ hx))
theorem way_le {way : List Nat} (hn : way.Nodup) (h4 : Fig way) : way.length ≤ 4 := by
  exact nodup_lt 4 way hn h4

theorem roundsF_step (k : Nat) (es : List Ed) (way : List Nat) (t : Int) : roundsF (k + 1) es way t = es.flatMap (stepR k es way t) := rfl
theorem stepR_len {k : Nat} {es : List Ed} {way : List Nat} {t : Int} (h0 : 0 < es.length) (e : Ed) : (stepR k es way t e).length ≤ es.length ^ k := by
  have h1 : 1 ≤ es.length ^ k := Nat.one_le_pow _ _ h0
  unfold stepR
  split
  · exact h1
  · split
    · exact roundsF_len es h0 k _ _
    · exact Nat.zero_le _
theorem flat_take {α β : Type} (f : α → List β) (l : List α) (i : Nat) (x : α) (h : l[i]? = some x) : (l.take (i + 1)).flatMap f = (l.take i).flatMap f ++ f x := by
  rw [List.take_add_one, h, List.flatMap_append]; simp

noncomputable def EdOK (es : List Ed) : Prop := ∀ e ∈ es, e.1 < 4 ∧ e.2.1 < 4

theorem stepR_one {k : Nat} {es : List Ed} {way : List Nat} {t : Int} {e : Ed} (hl : way.getLast? = some e.1) (hh : way.head? = some e.2.1) : stepR k es way t e = [Int.fdiv (12 * (t + e.2.2)) way.length] := if_pos ⟨hl, hh⟩

theorem rounds_loop {C : Nat → List AV → Option AV} {es : List Ed} {way : List Nat} {t : Int} {k : Nat} {rest : Loc} (h0 : 0 < es.length) (h6 : es.length ≤ 6) (hk : k ≤ 4) (hne : way ≠ []) (hw : way.length < 1000)
    (hrec : ∀ e ∈ es, way.getLast? = some e.1 → e.2.1 ∉ way → C 21 [Es es, Fg (way ++ [e.2.1]), .int (t + e.2.2)] = some (.list ((roundsF k es (way ++ [e.2.1]) (t + e.2.2)).map .int))) {s4 s5 s6 : Slot} :
    ∃ t4 t5 t6 : Slot, evFor (fun v ρ => (bindV ρ [4, 5, 6] v).bind fun ρ' => evB C p_l_rounds_w1b ρ') false (es.map eV) (.val (Es es) :: .val (Fg way) :: .val (.int t) :: .own [] :: s4 :: s5 :: s6 :: rest) =
      some (.next, .val (Es es) :: .val (Fg way) :: .val (.int t) :: .own ((roundsF (k + 1) es way t).map .int) :: t4 :: t5 :: t6 :: rest) := by
  obtain ⟨l, hl⟩ : ∃ l, way.getLast? = some l := by
    cases h : way.getLast? with
    | none => rw [List.getLast?_eq_none_iff] at h; exact absurd h hne
    | some l => exact ⟨l, rfl⟩
  obtain ⟨hd, hh⟩ : ∃ l, way.head? = some l := by
    cases way with
    | nil => exact absurd rfl hne
    | cons a r => exact ⟨a, rfl⟩
  have hlen0 : way.length ≠ 0 := fun q => hne (List.length_eq_zero_iff.mp q)
  have hpow : es.length ^ k ≤ 1296 := Nat.le_trans (Nat.pow_le_pow_left h6 k) (Nat.le_trans (Nat.pow_le_pow_right (by decide) hk) (by decide))
  have hacc : ∀ i, ((es.take i).flatMap (stepR k es way t)).length ≤ 7776 := fun i => by
    have h1 := flat_len (stepR k es way t) (es.length ^ k) (es.take i) fun e _ => stepR_len h0 e
    have h2 : (es.take i).length ≤ 6 := by rw [List.length_take]; (first | lia | omega)
    exact Nat.le_trans h1 (Nat.le_trans (Nat.mul_le_mul h2 hpow) (by decide))
  obtain ⟨ρ', h1, h2⟩ := evFor_inv (f := fun v ρ => (bindV ρ [4, 5, 6] v).bind fun ρ' => evB C p_l_rounds_w1b ρ') (es.map eV)
    (fun i ρ => ∃ s4 s5 s6, ρ = (.val (Es es) :: .val (Fg way) :: .val (.int t) :: .own (((es.take i).flatMap (stepR k es way t)).map .int) :: s4 :: s5 :: s6 :: rest)) _ ⟨s4, s5, s6, rfl⟩ (by
      rintro i v ρ hv ⟨s4, s5, s6, rfl⟩
      rw [List.getElem?_map, Option.map_eq_some_iff] at hv
      obtain ⟨e, he, rfl⟩ := hv
      have hmem : e ∈ es := List.mem_of_getElem? he
      have hb : bindV (.val (Es es) :: .val (Fg way) :: .val (.int t) :: .own (((es.take i).flatMap (stepR k es way t)).map .int) :: s4 :: s5 :: s6 :: rest) [4, 5, 6] (eV e) = some (.val (Es es) :: .val (Fg way) :: .val (.int t) :: .own (((es.take i).flatMap (stepR k es way t)).map .int) :: .val (.int e.1) :: .val (.int e.2.1) :: .val (.int e.2.2) :: rest) := rfl
      have hz := hacc i
      have hz' := hacc (i + 1)
      rw [flat_take _ _ _ _ he, List.length_append] at hz'
      simp only [hb, Option.bind_some]
      refine ⟨.next, _, ?_, .inl rfl, .val (.int e.1), .val (.int e.2.1), .val (.int e.2.2), rfl⟩
      rw [flat_take _ _ _ _ he, List.map_append]
      unfold p_l_rounds_w1b
      refine (evB_next ?_).trans rfl
      refine (evS_if (ro_c1 hl hh)).trans ?_
      by_cases c1 : l = e.1 ∧ hd = e.2.1
      · rw [decide_eq_true c1, if_pos rfl, stepR_one (by rw [hl, c1.1]) (by rw [hh, c1.2])]
        exact ro_app hlen0 hw (by rw [List.length_map, sizeLine_eq]; (first | lia | omega))
      · rw [decide_eq_false c1, if_neg (by decide)]
        refine (evB_next ?_).trans rfl
        refine (evS_if (ro_c2 hl)).trans ?_
        have n1 : ¬ (way.getLast? = some e.1 ∧ way.head? = some e.2.1) := fun q => c1 ⟨by have := q.1; rw [hl] at this; exact Option.some.inj this, by have := q.2; rw [hh] at this; exact Option.some.inj this⟩
        by_cases c2 : l = e.1 ∧ e.2.1 ∉ way
        · rw [decide_eq_true c2, if_pos rfl]
          have hst : stepR k es way t e = roundsF k es (way ++ [e.2.1]) (t + e.2.2) := by
            unfold stepR
            rw [if_neg n1, if_pos ⟨by rw [hl, c2.1], c2.2⟩]
          rw [hst] at hz' ⊢
          exact ro_aug hw (hrec e hmem (by rw [hl, c2.1]) c2.2) (by rw [List.length_map, List.length_map, sizeLine_eq]; (first | lia | omega))
        · rw [decide_eq_false c2, if_neg (by decide)]
          have hst : stepR k es way t e = [] := by
            unfold stepR
            rw [if_neg n1, if_neg fun q => c2 ⟨by have := q.1; rw [hl] at this; exact Option.some.inj this, q.2⟩]
          rw [hst, List.map_nil, List.append_nil]
          rfl)
  obtain ⟨t4, t5, t6, rfl⟩ := h2
  rw [List.length_map, List.take_length, ← roundsF_step] at h1
  exact ⟨t4, t5, t6, h1⟩

theorem rounds_ok {es : List Ed} (h0 : 0 < es.length) (h6 : es.length ≤ 6) (hE : EdOK es) : ∀ (k n : Nat) (way : List Nat) (t : Int), way.Nodup → Fig way → way ≠ [] → way.length + (k + 1) = 5 → k ≤ n →
    evCall tab' (n + 1) 21 [Es es, Fg way, .int t] = some (.list ((roundsF (k + 1) es way t).map .int)) := by
  intro k
  induction k with
  | zero =>
    intro n way t hn hf hne hl hk
    rw [call_eq tab_law_rounds rfl]
    obtain ⟨t4, t5, t6, h⟩ := rounds_loop (C := evCall tab' n) (k := 0) (t := t) (rest := List.replicate 8 .no) h0 h6 (by (first | lia | omega)) hne (by (first | lia | omega)) (fun e he _ hg => by
      exfalso
      have h5 := way_le (way := way ++ [e.2.1]) (List.nodup_append.mpr ⟨hn, by simp, fun a ha b hb => by simp at hb; subst hb; rintro rfl; exact hg ha⟩) (fun a ha => by
        rcases List.mem_append.mp ha with q | q
        · exact hf a q
        · simp at q; subst q; exact (hE e he).2)
      rw [List.length_append, List.length_singleton] at h5
      (first | lia | omega)) (s4 := .no) (s5 := .no) (s6 := .no)
    refine evFn_ret (ρ := .val (Es es) :: .val (Fg way) :: .val (.int t) :: List.replicate 12 .no) (ρ' := .val (Es es) :: .val (Fg way) :: .val (.int t) :: .val (.list ((roundsF 1 es way t).map .int)) :: t4 :: t5 :: t6 :: List.replicate 8 .no) rfl ?_
    unfold fn_law_rounds
    dsimp only
    rw [evB_next (s := .asgOwn 3 false (.list .nil)) (ρ' := .val (Es es) :: .val (Fg way) :: .val (.int t) :: .own [] :: .no :: .no :: .no :: List.replicate 8 .no) rfl]
    rw [evB_next ((evS_for (xs := es.map eV) rfl).trans h)]
    exact evB_ret rfl
  | succ k ih =>
    intro n way t hn hf hne hl hk
    obtain ⟨n, rfl⟩ : ∃ m, n = m + 1 := ⟨n - 1, by (first | lia | omega)⟩
    rw [call_eq tab_law_rounds rfl]
    obtain ⟨t4, t5, t6, h⟩ := rounds_loop (C := evCall tab' (n + 1)) (k := k + 1) (t := t) (rest := List.replicate 8 .no) h0 h6 (by (first | lia | omega)) hne (by (first | lia | omega)) (fun e he _ hg => by
      refine ih n (way ++ [e.2.1]) (t + e.2.2) (List.nodup_append.mpr ⟨hn, by simp, fun a ha b hb => by simp at hb; subst hb; rintro rfl; exact hg ha⟩) (fun a ha => by
        rcases List.mem_append.mp ha with q | q
        · exact hf a q
        · simp at q; subst q; exact (hE e he).2) (by simp) (by rw [List.length_append, List.length_singleton]; (first | lia | omega)) (by (first | lia | omega))) (s4 := .no) (s5 := .no) (s6 := .no)
    refine evFn_ret (ρ := .val (Es es) :: .val (Fg way) :: .val (.int t) :: List.replicate 12 .no) (ρ' := .val (Es es) :: .val (Fg way) :: .val (.int t) :: .val (.list ((roundsF (k + 1 + 1) es way t).map .int)) :: t4 :: t5 :: t6 :: List.replicate 8 .no) rfl ?_
    unfold fn_law_rounds
    dsimp only
    rw [evB_next (s := .asgOwn 3 false (.list .nil)) (ρ' := .val (Es es) :: .val (Fg way) :: .val (.int t) :: .own [] :: .no :: .no :: .no :: List.replicate 8 .no) rfl]
    rw [evB_next ((evS_for (xs := es.map eV) rfl).trans h)]
    exact evB_ret rfl
end Mine

namespace Mine

noncomputable def oV : Option Int → AV
  | none => .none
  | some i => .int i
noncomputable abbrev oL (l : List (Option Int)) : AV := .list (l.map oV)
/-- a step: from, to, sign (0: +, 1: -), price -/
noncomputable abbrev St4 := Nat × Nat × Nat × Int
noncomputable abbrev sV (e : St4) : AV := .tup [.int e.1, .int e.2.1, .int ((36 + e.2.2.1 : Nat) : Int), .int e.2.2.2]
noncomputable def sgn (e : St4) : Int := if e.2.2.1 = 0 then e.2.2.2 else -e.2.2.2
noncomputable def relax (prev later : List (Option Int)) (e : St4) : List (Option Int) := match prev[e.1]? with
  | some (some c) => (match later[e.2.1]? with
    | some (some o) => if c + sgn e < o then later.set e.2.1 (some (c + sgn e)) else later
    | _ => later.set e.2.1 (some (c + sgn e)))
  | _ => later
theorem relax_len (prev later : List (Option Int)) (e : St4) : (relax prev later e).length = later.length := by
  unfold relax
  split
  · split
    · split <;> simp
    · simp
  · rfl
noncomputable def nextW (prev : List (Option Int)) (es : List St4) : List (Option Int) := es.foldl (relax prev) [none, none, none, none]
noncomputable def FW (es : List St4) : Nat → List (Option Int)
  | 0 => [some 0, some 0, some 0, some 0]
  | k + 1 => nextW (FW es k) es
theorem fold_len (prev : List (Option Int)) : ∀ (es : List St4) (l : List (Option Int)), (es.foldl (relax prev) l).length = l.length
  | [], _ => rfl
  | e :: es, l => by rw [List.foldl_cons, fold_len prev es, relax_len]
theorem FW_len (es : List St4) (k : Nat) : (FW es k).length = 4 := by
  cases k with
  | zero => rfl
  | succ k => exact fold_len _ _ _
theorem fold_take {α β : Type} (f : β → α → β) (l : List α) (i : Nat) (x : α) (a : β) (h : l[i]? = some x) : (l.take (i + 1)).foldl f a = f ((l.take i).foldl f a) x := by
  rw [List.take_add_one, h, List.foldl_append]; rfl
theorem oV_isNone (o : Option Int) : cmpV .isNone (oV o) .none = some o.isNone := by cases o <;> rfl
theorem oL_get {l : List (Option Int)} {k : Nat} {o : Option Int} (h : l[k]? = some o) : (l.map oV)[k]? = some (oV o) := by rw [List.getElem?_map, h]; rfl
theorem oL_set (l : List (Option Int)) (k : Nat) (c : Int) : (l.map oV).set k (.int c) = (l.set k (some c)).map oV := by rw [List.map_set]; rfl
theorem evE_neg1 {C : Nat → List AV → Option AV} {ρ : Loc} : evE C (.neg (.lit (.int (1)))) ρ = some (.int (-1)) := rfl

section
variable {n : Nat} {rest : Loc}

theorem wk_body {steps : Slot} {ws : List AV} {turn : Slot} {prev later : List (Option Int)} {e : St4} {s4 s5 s6 s7 s8 : Slot} (hw : ws.getLast? = some (oL prev)) (hp : prev.length = 4) (hl : later.length = 4) (hs : e.1 < 4) (hg : e.2.1 < 4) (h6 : e.2.2.1 < 2) :
    ∃ (fl : Fl) (t8 : Slot), ((bindV (steps :: .own ws :: turn :: .ownS (later.map oV) :: s4 :: s5 :: s6 :: s7 :: s8 :: rest) [4, 5, 6, 7] (sV e)).bind fun ρ' => evB (evCall tab' (n + 1)) p_l_walks_w1b ρ') =
      some (fl, steps :: .own ws :: turn :: .ownS ((relax prev later e).map oV) :: .val (.int e.1) :: .val (.int e.2.1) :: .val (.int ((36 + e.2.2.1 : Nat) : Int)) :: .val (.int e.2.2.2) :: t8 :: rest) ∧ (fl = .next ∨ fl = .cont) := by
  obtain ⟨s, g, k, d⟩ := e
  dsimp only at hs hg h6 ⊢
  show ∃ (fl : Fl) (t8 : Slot), evB (evCall tab' (n + 1)) p_l_walks_w1b (steps :: .own ws :: turn :: .ownS (later.map oV) :: .val (.int s) :: .val (.int g) :: .val (.int ((36 + k : Nat) : Int)) :: .val (.int d) :: s8 :: rest) = _ ∧ _
  unfold p_l_walks_w1b
  have e1 := idx_last hw
  have hps : prev[s]? = some prev[s] := by simp [hp, hs]
  have hlg : later[g]? = some later[g] := by simp [hl, hg]
  have hA : ∀ r8 : Slot, evS (evCall tab' (n + 1)) (.asg 8 (.call 5 (.cons (.sub (.var 1) (.neg (.lit (.int (1))))) (.cons (.var 4) .nil)))) (steps :: .own ws :: turn :: .ownS (later.map oV) :: .val (.int s) :: .val (.int g) :: .val (.int ((36 + k : Nat) : Int)) :: .val (.int d) :: r8 :: rest) =
      some (.next, steps :: .own ws :: turn :: .ownS (later.map oV) :: .val (.int s) :: .val (.int g) :: .val (.int ((36 + k : Nat) : Int)) :: .val (.int d) :: .val (oV prev[s]) :: rest) := fun r8 => by
    rw [qS1]
    have hf : Mine.freeze (steps :: .own ws :: turn :: .ownS (later.map oV) :: .val (.int s) :: .val (.int g) :: .val (.int ((36 + k : Nat) : Int)) :: .val (.int d) :: r8 :: rest) (reads (.call 5 (.cons (.sub (.var 1) (.neg (.lit (.int (1))))) (.cons (.var 4) .nil)))) = (steps :: .own ws :: turn :: .ownS (later.map oV) :: .val (.int s) :: .val (.int g) :: .val (.int ((36 + k : Nat) : Int)) :: .val (.int d) :: r8 :: rest) := rfl
    simp only [hf]
    simp only [qE1,qE2,qE3,qE4,qE5,qE6,qE7,qE8,qE9,qE10,qE11,qE0,qE12s,qE12l,qE12i,qE12c,qE13,qE14,qE15,qE16,qE17,qE18,qE19,qE20, qEs1, qEs2, valAt, baseAt, List.getElem?_cons_zero, List.getElem?_cons_succ, Option.bind_some, Option.map_some, x_list, e1]
    rw [c_getList n _ s _ (oL_get hps)]
    rfl
  rw [evB_next (hA s8)]
  cases hc : prev[s] with
  | none =>
    have hr : relax prev later (s, g, k, d) = later := by unfold relax; simp only [hps, hc]
    rw [hr]
    exact ⟨.cont, .val .none, rfl, .inr rfl⟩
  | some c =>
    rw [hc] at hps
    have h2 : evS (evCall tab' (n + 1)) (.ifs (.cmp .isNone (.var 8) (.lit .none)) (.cons .cont .nil) .nil) (steps :: .own ws :: turn :: .ownS (later.map oV) :: .val (.int s) :: .val (.int g) :: .val (.int ((36 + k : Nat) : Int)) :: .val (.int d) :: .val (oV (some c)) :: rest) = some (.next, (steps :: .own ws :: turn :: .ownS (later.map oV) :: .val (.int s) :: .val (.int g) :: .val (.int ((36 + k : Nat) : Int)) :: .val (.int d) :: .val (oV (some c)) :: rest)) := rfl
    rw [evB_next h2]
    have h3 : evS (evCall tab' (n + 1)) (.asg 8 (.ite (.cmp .eq (.var 6) (.lit (.int (36)))) (.call 8 (.cons (.var 8) (.cons (.var 7) .nil))) (.call 9 (.cons (.var 8) (.cons (.var 7) .nil))))) (steps :: .own ws :: turn :: .ownS (later.map oV) :: .val (.int s) :: .val (.int g) :: .val (.int ((36 + k : Nat) : Int)) :: .val (.int d) :: .val (oV (some c)) :: rest) =
        some (.next, (steps :: .own ws :: turn :: .ownS (later.map oV) :: .val (.int s) :: .val (.int g) :: .val (.int ((36 + k : Nat) : Int)) :: .val (.int d) :: .val (.int (c + sgn (s, g, k, d))) :: rest)) := by
      rw [qS1]
      have hf : Mine.freeze (steps :: .own ws :: turn :: .ownS (later.map oV) :: .val (.int s) :: .val (.int g) :: .val (.int ((36 + k : Nat) : Int)) :: .val (.int d) :: .val (oV (some c)) :: rest) (reads (.ite (.cmp .eq (.var 6) (.lit (.int (36)))) (.call 8 (.cons (.var 8) (.cons (.var 7) .nil))) (.call 9 (.cons (.var 8) (.cons (.var 7) .nil))))) = (steps :: .own ws :: turn :: .ownS (later.map oV) :: .val (.int s) :: .val (.int g) :: .val (.int ((36 + k : Nat) : Int)) :: .val (.int d) :: .val (oV (some c)) :: rest) := rfl
      simp only [hf]
      have hE : evE (evCall tab' (n + 1)) (.ite (.cmp .eq (.var 6) (.lit (.int (36)))) (.call 8 (.cons (.var 8) (.cons (.var 7) .nil))) (.call 9 (.cons (.var 8) (.cons (.var 7) .nil)))) (steps :: .own ws :: turn :: .ownS (later.map oV) :: .val (.int s) :: .val (.int g) :: .val (.int ((36 + k : Nat) : Int)) :: .val (.int d) :: .val (oV (some c)) :: rest) = some (.int (c + sgn (s, g, k, d))) := by
        have hk : k = 0 ∨ k = 1 := by (first | lia | omega)
        rcases hk with rfl | rfl
        · have hsg : sgn (s, g, 0, d) = d := rfl
          rw [hsg, ← c_iadd n c d]; rfl
        · have hsg : sgn (s, g, 1, d) = -d := rfl
          rw [hsg, ← Int.sub_eq_add_neg, ← c_isub n c d]; rfl
      rw [hE]; rfl
    rw [evB_next h3]
    generalize hcost : c + sgn (s, g, k, d) = cost
    have hset : evB (evCall tab' (n + 1)) (.cons (.callSet 3 (.var 5) (.var 8)) .nil) (steps :: .own ws :: turn :: .ownS (later.map oV) :: .val (.int s) :: .val (.int g) :: .val (.int ((36 + k : Nat) : Int)) :: .val (.int d) :: .val (.int cost) :: rest) =
        some (.next, (steps :: .own ws :: turn :: .ownS ((later.set g (some cost)).map oV) :: .val (.int s) :: .val (.int g) :: .val (.int ((36 + k : Nat) : Int)) :: .val (.int d) :: .val (.int cost) :: rest)) := by
      refine (evB_next ?_).trans rfl
      rw [qS10]
      simp only [qE1,qE2,qE3,qE4,qE5,qE6,qE7,qE8,qE9,qE10,qE11,qE0,qE12s,qE12l,qE12i,qE12c,qE13,qE14,qE15,qE16,qE17,qE18,qE19,qE20, valAt, List.getElem?_cons_zero, List.getElem?_cons_succ, Option.bind_some]
      rw [if_pos (⟨by (first | lia | omega), by rw [List.length_map, hl]; (first | lia | omega)⟩ : (0 : Int) ≤ (g : Int) ∧ (g : Int) < ((later.map oV).length : Int)), Int.toNat_natCast, oL_set]
      rfl
    have hsub : evE (evCall tab' (n + 1)) (.sub (.var 3) (.var 5)) (steps :: .own ws :: turn :: .ownS (later.map oV) :: .val (.int s) :: .val (.int g) :: .val (.int ((36 + k : Nat) : Int)) :: .val (.int d) :: .val (.int cost) :: rest) = some (oV later[g]) := by
      simp only [qE1,qE2,qE3,qE4,qE5,qE6,qE7,qE8,qE9,qE10,qE11,qE0,qE12s,qE12l,qE12i,qE12c,qE13,qE14,qE15,qE16,qE17,qE18,qE19,qE20, valAt, baseAt, List.getElem?_cons_zero, List.getElem?_cons_succ, Option.bind_some, x_list]
      exact idx_nat (oL_get hlg)
    cases ho : later[g] with
    | none =>
      rw [ho] at hsub hlg
      have hr : relax prev later (s, g, k, d) = later.set g (some cost) := by unfold relax; simp only [hps, hlg, hcost]
      have hT : evT (evCall tab' (n + 1)) (.or (.cmp .isNone (.sub (.var 3) (.var 5)) (.lit .none)) (.call 0 (.cons (.var 8) (.cons (.sub (.var 3) (.var 5)) .nil)))) (steps :: .own ws :: turn :: .ownS (later.map oV) :: .val (.int s) :: .val (.int g) :: .val (.int ((36 + k : Nat) : Int)) :: .val (.int d) :: .val (.int cost) :: rest) = some true := by
        unfold evT
        rw [qE4, qE7, hsub]; rfl
      rw [hr]
      refine ⟨.next, .val (.int cost), (evB_next ((evS_if hT).trans ((if_pos rfl).trans hset))).trans rfl, .inl rfl⟩
    | some o =>
      rw [ho] at hsub hlg
      have hT : evT (evCall tab' (n + 1)) (.or (.cmp .isNone (.sub (.var 3) (.var 5)) (.lit .none)) (.call 0 (.cons (.var 8) (.cons (.sub (.var 3) (.var 5)) .nil)))) (steps :: .own ws :: turn :: .ownS (later.map oV) :: .val (.int s) :: .val (.int g) :: .val (.int ((36 + k : Nat) : Int)) :: .val (.int d) :: .val (.int cost) :: rest) = some (decide (cost < o)) := by
        have h8 : evE (evCall tab' (n + 1)) (.var 8) (steps :: .own ws :: turn :: .ownS (later.map oV) :: .val (.int s) :: .val (.int g) :: .val (.int ((36 + k : Nat) : Int)) :: .val (.int d) :: .val (.int cost) :: rest) = some (.int cost) := rfl
        have hlit : ∀ ρ, evE (evCall tab' (n + 1)) (.lit .none) ρ = some .none := fun _ => rfl
        unfold evT
        rw [qE4, qE7, hsub, Option.bind_some, hlit, Option.bind_some, oV_isNone, Option.map_some, Option.bind_some, t_bool, Option.bind_some]
        rw [if_neg (show ¬ ((some o).isNone = true) from Bool.false_ne_true), qE10, qEs2, h8, Option.bind_some, qEs2, hsub, Option.bind_some, qEs1, Option.map_some, Option.map_some, Option.bind_some]
        show Option.bind (evCall tab' (n + 1) 0 [.int cost, .int o]) truth = _
        rw [c_lt, Option.bind_some, t_bool]
      by_cases hlt : cost < o
      · have hr : relax prev later (s, g, k, d) = later.set g (some cost) := by unfold relax; simp only [hps, hlg, hcost, if_pos hlt]
        rw [hr]
        rw [decide_eq_true hlt] at hT
        refine ⟨.next, .val (.int cost), (evB_next ((evS_if hT).trans ((if_pos rfl).trans hset))).trans rfl, .inl rfl⟩
      · have hr : relax prev later (s, g, k, d) = later := by unfold relax; simp only [hps, hlg, hcost, if_neg hlt]
        rw [hr]
        rw [decide_eq_false hlt] at hT
        refine ⟨.next, .val (.int cost), (evB_next ((evS_if hT).trans ((if_neg (by decide)).trans rfl))).trans rfl, .inl rfl⟩

noncomputable def StOK (es : List St4) : Prop := ∀ e ∈ es, e.1 < 4 ∧ e.2.1 < 4 ∧ e.2.2.1 < 2
theorem wk_in {es : List St4} (hE : StOK es) {steps turn : Slot} {ws : List AV} {prev : List (Option Int)} (hw : ws.getLast? = some (oL prev)) (hp : prev.length = 4) {s4 s5 s6 s7 s8 : Slot} :
    ∃ t4 t5 t6 t7 t8 : Slot, evFor (fun v ρ => (bindV ρ [4, 5, 6, 7] v).bind fun ρ' => evB (evCall tab' (n + 1)) p_l_walks_w1b ρ') false (es.map sV) (steps :: .own ws :: turn :: .ownS [.none, .none, .none, .none] :: s4 :: s5 :: s6 :: s7 :: s8 :: rest) =
      some (.next, steps :: .own ws :: turn :: .ownS ((nextW prev es).map oV) :: t4 :: t5 :: t6 :: t7 :: t8 :: rest) := by
  obtain ⟨ρ', h1, h2⟩ := evFor_inv (f := fun v ρ => (bindV ρ [4, 5, 6, 7] v).bind fun ρ' => evB (evCall tab' (n + 1)) p_l_walks_w1b ρ') (es.map sV)
    (fun i ρ => ∃ s4 s5 s6 s7 s8, ρ = (steps :: .own ws :: turn :: .ownS (((es.take i).foldl (relax prev) [none, none, none, none]).map oV) :: s4 :: s5 :: s6 :: s7 :: s8 :: rest)) _ ⟨s4, s5, s6, s7, s8, rfl⟩ (by
      rintro i v ρ hv ⟨s4, s5, s6, s7, s8, rfl⟩
      rw [List.getElem?_map, Option.map_eq_some_iff] at hv
      obtain ⟨e, he, rfl⟩ := hv
      obtain ⟨h1, h2, h3⟩ := hE e (List.mem_of_getElem? he)
      obtain ⟨fl, t8, h, hfl⟩ := wk_body (n := n) (rest := rest) (steps := steps) (turn := turn) (s4 := s4) (s5 := s5) (s6 := s6) (s7 := s7) (s8 := s8) hw hp (fold_len prev (es.take i) [none, none, none, none]) h1 h2 h3
      refine ⟨fl, _, h, hfl, .val (.int e.1), .val (.int e.2.1), .val (.int ((36 + e.2.2.1 : Nat) : Int)), .val (.int e.2.2.2), t8, ?_⟩
      rw [fold_take _ _ _ _ _ he])
  obtain ⟨t4, t5, t6, t7, t8, rfl⟩ := h2
  rw [List.length_map, List.take_length] at h1
  exact ⟨t4, t5, t6, t7, t8, h1⟩

noncomputable def wsF (es : List St4) (m : Nat) : List AV := (List.range m).map fun k => oL (FW es k)
theorem wsF_last (es : List St4) (m : Nat) : (wsF es (m + 1)).getLast? = some (oL (FW es m)) := by unfold wsF; rw [List.range_succ, List.map_append]; simp

theorem wk_out {es : List St4} (hE : StOK es) {i : Nat} (hi : i < 4) {s2 s3 s4 s5 s6 s7 s8 : Slot} :
    ∃ t2 t3 t4 t5 t6 t7 t8 : Slot, ((bindV (.val (.list (es.map sV)) :: .own (wsF es (i + 1)) :: s2 :: s3 :: s4 :: s5 :: s6 :: s7 :: s8 :: rest) [2] (.int i)).bind fun ρ' => evB (evCall tab' (n + 1)) p_l_walks_w2b ρ') =
      some (.next, .val (.list (es.map sV)) :: .own (wsF es (i + 1 + 1)) :: t2 :: t3 :: t4 :: t5 :: t6 :: t7 :: t8 :: rest) := by
  show ∃ t2 t3 t4 t5 t6 t7 t8 : Slot, evB (evCall tab' (n + 1)) p_l_walks_w2b (.val (.list (es.map sV)) :: .own (wsF es (i + 1)) :: .val (.int i) :: s3 :: s4 :: s5 :: s6 :: s7 :: s8 :: rest) = _
  obtain ⟨t4, t5, t6, t7, t8, h⟩ := wk_in (n := n) (rest := rest) hE (steps := .val (.list (es.map sV))) (turn := .val (.int i)) (wsF_last es i) (FW_len es i) (s4 := s4) (s5 := s5) (s6 := s6) (s7 := s7) (s8 := s8)
  refine ⟨.val (.int i), .val (oL (FW es (i + 1))), t4, t5, t6, t7, t8, ?_⟩
  unfold p_l_walks_w2b
  have hz4 : [AV.none, AV.none, AV.none, AV.none].length ≤ sizeLine := by rw [sizeLine_eq]; exact (by decide : 4 ≤ 16777216)
  have hA : evS (evCall tab' (n + 1)) (.asgOwn 3 true (.list (.cons (.lit .none) (.cons (.lit .none) (.cons (.lit .none) (.cons (.lit .none) .nil)))))) (.val (.list (es.map sV)) :: .own (wsF es (i + 1)) :: .val (.int i) :: s3 :: s4 :: s5 :: s6 :: s7 :: s8 :: rest) =
      some (.next, .val (.list (es.map sV)) :: .own (wsF es (i + 1)) :: .val (.int i) :: .ownS [.none, .none, .none, .none] :: s4 :: s5 :: s6 :: s7 :: s8 :: rest) := asgOwn_eq (evE_list rfl hz4)
  rw [evB_next hA, evB_next ((evS_for (xs := es.map sV) rfl).trans h)]
  refine (evB_next ?_).trans rfl
  rw [qS11]
  have hf : Mine.freeze (.val (.list (es.map sV)) :: .own (wsF es (i + 1)) :: .val (.int i) :: .ownS ((nextW (FW es i) es).map oV) :: t4 :: t5 :: t6 :: t7 :: t8 :: rest) (reads (.var 3)) = (.val (.list (es.map sV)) :: .own (wsF es (i + 1)) :: .val (.int i) :: .val (oL (FW es (i + 1))) :: t4 :: t5 :: t6 :: t7 :: t8 :: rest) := rfl
  simp only [hf, List.getElem?_cons_zero, List.getElem?_cons_succ]
  have hv : evE (evCall tab' (n + 1)) (.var 3) (.val (.list (es.map sV)) :: .own (wsF es (i + 1)) :: .val (.int i) :: .val (oL (FW es (i + 1))) :: t4 :: t5 :: t6 :: t7 :: t8 :: rest) = some (oL (FW es (i + 1))) := rfl
  have hz : (wsF es (i + 1)).length < sizeLine := by unfold wsF; rw [List.length_map, List.length_range, sizeLine_eq]; (first | lia | omega)
  rw [hv, Option.bind_some, if_pos hz]
  have hw : wsF es (i + 1 + 1) = wsF es (i + 1) ++ [oL (FW es (i + 1))] := by unfold wsF; rw [List.range_succ, List.map_append]; rfl
  rw [hw]; rfl
end

theorem walks_ok (n : Nat) {es : List St4} (hE : StOK es) : evCall tab' (n + 2) 17 [.list (es.map sV)] = some (.list (wsF es 5)) := by
  rw [call_eq tab_law_walks rfl]
  have hz4 : [AV.int 0, AV.int 0, AV.int 0, AV.int 0].length ≤ sizeLine := by rw [sizeLine_eq]; exact (by decide : 4 ≤ 16777216)
  have hz1 : [AV.list [AV.int 0, AV.int 0, AV.int 0, AV.int 0]].length ≤ sizeLine := by rw [sizeLine_eq]; exact (by decide : 1 ≤ 16777216)
  have hE1 : ∀ ρ, evE (evCall tab' (n + 1)) (.list (.cons (.list (.cons (.lit (.int (0))) (.cons (.lit (.int (0))) (.cons (.lit (.int (0))) (.cons (.lit (.int (0))) .nil))))) .nil)) ρ = some (.list (wsF es 1)) := fun ρ => by
    refine evE_list ?_ hz1
    rw [qEs2, evE_list rfl hz4]; rfl
  obtain ⟨ρ', h1, h2⟩ := evFor_inv (f := fun v ρ => (bindV ρ [2] v).bind fun ρ' => evB (evCall tab' (n + 1)) p_l_walks_w2b ρ') ((List.range 4).map fun (i : Nat) => AV.int i)
    (fun i ρ => ∃ s2 s3 s4 s5 s6 s7 s8, ρ = (.val (.list (es.map sV)) :: .own (wsF es (i + 1)) :: s2 :: s3 :: s4 :: s5 :: s6 :: s7 :: s8 :: List.replicate 12 .no)) (.val (.list (es.map sV)) :: .own (wsF es 1) :: .no :: .no :: .no :: .no :: .no :: .no :: .no :: List.replicate 12 .no) ⟨.no, .no, .no, .no, .no, .no, .no, rfl⟩ (by
      rintro i v ρ hv ⟨s2, s3, s4, s5, s6, s7, s8, rfl⟩
      obtain ⟨hi, rfl⟩ := range_get hv
      obtain ⟨t2, t3, t4, t5, t6, t7, t8, h⟩ := wk_out (n := n) (rest := List.replicate 12 .no) hE hi (s2 := s2) (s3 := s3) (s4 := s4) (s5 := s5) (s6 := s6) (s7 := s7) (s8 := s8)
      exact ⟨.next, _, h, .inl rfl, t2, t3, t4, t5, t6, t7, t8, rfl⟩)
  obtain ⟨s2, s3, s4, s5, s6, s7, s8, rfl⟩ := h2
  have hI : evI (evCall tab' (n + 1)) (.range (.lit (.int (4)))) (.val (.list (es.map sV)) :: .own (wsF es 1) :: .no :: .no :: .no :: .no :: .no :: .no :: .no :: List.replicate 12 .no) = some ((List.range 4).map fun (i : Nat) => AV.int i) := by
    rw [qI2, qE1, Option.bind_some]; exact rangeV_small 4 (by decide)
  refine evFn_ret (ρ := .val (.list (es.map sV)) :: .no :: .no :: .no :: .no :: .no :: .no :: .no :: .no :: List.replicate 12 .no) (ρ' := .val (.list (es.map sV)) :: .val (.list (wsF es 5)) :: s2 :: s3 :: s4 :: s5 :: s6 :: s7 :: s8 :: List.replicate 12 .no) rfl ?_
  unfold fn_law_walks
  dsimp only
  rw [evB_next (s := .asgOwn 1 false _) (ρ' := .val (.list (es.map sV)) :: .own (wsF es 1) :: .no :: .no :: .no :: .no :: .no :: .no :: .no :: List.replicate 12 .no) (by rw [qS2, hE1]; rfl)]
  rw [evB_next ((evS_for hI).trans h1)]
  exact evB_ret rfl
end Mine

namespace Mine

noncomputable abbrev Fr4 := Int × Nat
noncomputable abbrev pV (m : Fr4) : AV := .tup [.int m.1, .int m.2]
noncomputable def mV : Option Fr4 → AV
  | none => .none
  | some m => pV m
section
variable (F : Nat → List (Option Int))
noncomputable def mostStep (v : Nat) (last : Int) (m : Fr4) (k : Nat) : Fr4 := match (F k)[v]? with
  | some (some c) => if m.1 * ((4 - k : Nat) : Int) < (last - c) * (m.2 : Int) then (last - c, 4 - k) else m
  | _ => m
noncomputable def mostF (v : Nat) (last : Int) : Fr4 := [1, 2, 3].foldl (mostStep F v last) (last, 4)
noncomputable def leastStep (l : Option Fr4) (v : Nat) : Option Fr4 := match (F 4)[v]? with
  | some (some last) => (match l with
    | none => some (mostF F v last)
    | some l' => if (mostF F v last).1 * (l'.2 : Int) < l'.1 * ((mostF F v last).2 : Int) then some (mostF F v last) else some l')
  | _ => l
noncomputable def meanF : Option Fr4 := (List.range 4).foldl (leastStep F) none
end
theorem mostStep_q {F : Nat → List (Option Int)} {v : Nat} {last : Int} {m : Fr4} {k : Nat} (h : m.2 ≤ 4) : (mostStep F v last m k).2 ≤ 4 := by
  unfold mostStep
  split
  · split
    · show 4 - k ≤ 4; omega
    · exact h
  · exact h
theorem mostFold_q {F : Nat → List (Option Int)} {v : Nat} {last : Int} : ∀ (l : List Nat) (m : Fr4), m.2 ≤ 4 → (l.foldl (mostStep F v last) m).2 ≤ 4
  | [], _, h => h
  | _ :: l, _, h => mostFold_q l _ (mostStep_q h)
theorem leastStep_q {F : Nat → List (Option Int)} {l : Option Fr4} {v : Nat} (h : ∀ m, l = some m → m.2 ≤ 4) : ∀ m, leastStep F l v = some m → m.2 ≤ 4 := by
  intro m
  unfold leastStep
  split
  · split
    · intro e; cases e; exact mostFold_q _ _ (Nat.le_refl _)
    · split
      · intro e; cases e; exact mostFold_q _ _ (Nat.le_refl _)
      · intro e; cases e; exact h _ rfl
  · exact h m
theorem leastFold_q {F : Nat → List (Option Int)} : ∀ (vs : List Nat) (l : Option Fr4), (∀ m, l = some m → m.2 ≤ 4) → ∀ m, vs.foldl (leastStep F) l = some m → m.2 ≤ 4
  | [], _, h => h
  | _ :: vs, _, h => leastFold_q vs _ (leastStep_q h)

theorem c_mulN (n : Nat) (a : Int) {q : Nat} (h : q ≤ 4) : evCall tab' (n + 1) 2 [.int a, .int q] = some (.int (a * q)) :=
  c_mul n a q (.inr (by rw [Int.natAbs_natCast]; exact Nat.lt_of_le_of_lt h (by decide)))
theorem oV_notNone (o : Option Int) : cmpV .notNone (oV o) .none = some o.isSome := by cases o <;> rfl

section
variable {n : Nat} {rest : Loc} {F : Nat → List (Option Int)}
noncomputable abbrev wsG (F : Nat → List (Option Int)) : List AV := (List.range 5).map fun k => oL (F k)

theorem mn_cmp {ρ : Loc} {i j : Nat} {a b : Fr4} (ha : baseAt ρ i = some (pV a)) (hb : baseAt ρ j = some (pV b)) (qa : a.2 ≤ 4) (qb : b.2 ≤ 4) :
    evE (evCall tab' (n + 1)) (.call 0 (.cons (.call 2 (.cons (.sub (.var i) (.lit (.int (0)))) (.cons (.sub (.var j) (.lit (.int (1)))) .nil))) (.cons (.call 2 (.cons (.sub (.var j) (.lit (.int (0)))) (.cons (.sub (.var i) (.lit (.int (1)))) .nil))) .nil))) ρ = some (.bool (decide (a.1 * (b.2 : Int) < b.1 * (a.2 : Int)))) := by
  have x0 : ∀ m : Fr4, subV (pV m) (.int 0) = some (.int m.1) := fun _ => rfl
  have x1 : ∀ m : Fr4, subV (pV m) (.int 1) = some (.int m.2) := fun _ => rfl
  have s1 : evE (evCall tab' (n + 1)) (.sub (.var i) (.lit (.int (0)))) ρ = some (.int a.1) := by rw [qE0]; simp only [ha, Option.bind_some]; rw [qE1, Option.bind_some, x0]
  have s2 : evE (evCall tab' (n + 1)) (.sub (.var j) (.lit (.int (1)))) ρ = some (.int b.2) := by rw [qE0]; simp only [hb, Option.bind_some]; rw [qE1, Option.bind_some, x1]
  have s3 : evE (evCall tab' (n + 1)) (.sub (.var j) (.lit (.int (0)))) ρ = some (.int b.1) := by rw [qE0]; simp only [hb, Option.bind_some]; rw [qE1, Option.bind_some, x0]
  have s4 : evE (evCall tab' (n + 1)) (.sub (.var i) (.lit (.int (1)))) ρ = some (.int a.2) := by rw [qE0]; simp only [ha, Option.bind_some]; rw [qE1, Option.bind_some, x1]
  have m1 : evE (evCall tab' (n + 1)) (.call 2 (.cons (.sub (.var i) (.lit (.int (0)))) (.cons (.sub (.var j) (.lit (.int (1)))) .nil))) ρ = some (.int (a.1 * (b.2 : Int))) := by
    rw [qE10, qEs2, s1, Option.bind_some, qEs2, s2, Option.bind_some, qEs1, Option.map_some, Option.map_some, Option.bind_some]
    exact c_mulN n _ qb
  have m2 : evE (evCall tab' (n + 1)) (.call 2 (.cons (.sub (.var j) (.lit (.int (0)))) (.cons (.sub (.var i) (.lit (.int (1)))) .nil))) ρ = some (.int (b.1 * (a.2 : Int))) := by
    rw [qE10, qEs2, s3, Option.bind_some, qEs2, s4, Option.bind_some, qEs1, Option.map_some, Option.map_some, Option.bind_some]
    exact c_mulN n _ qa
  rw [qE10, qEs2, m1, Option.bind_some, qEs2, m2, Option.bind_some, qEs1, Option.map_some, Option.map_some, Option.bind_some]
  exact c_lt n _ _

theorem mn_body {s1 s6 : Slot} {v k : Nat} {last : Int} {m : Fr4} (hv : v < 4) (hk : k < 4) (hF : (F k).length = 4) (hm : m.2 ≤ 4) :
    ∃ t6 : Slot, evB (evCall tab' (n + 1)) p_l_mean_w1b (.val (.list (wsG F)) :: s1 :: .val (.int v) :: .val (.int last) :: .val (pV m) :: .val (.int k) :: s6 :: rest) =
      some (.next, .val (.list (wsG F)) :: s1 :: .val (.int v) :: .val (.int last) :: .val (pV (mostStep F v last m k)) :: .val (.int k) :: t6 :: rest) := by
  have hg : (F k)[v]? = some (F k)[v] := by simp [hF, hv]
  have e1 : idxV (wsG F) k = some (oL (F k)) := idx_nat (by have h5 : k < 5 := Nat.lt_succ_of_lt hk; simp [wsG, h5])
  have e2 : idxV ((F k).map oV) v = some (oV (F k)[v]) := idx_nat (oL_get hg)
  have hsub : ∀ r6 : Slot, evE (evCall tab' (n + 1)) (.sub (.sub (.var 0) (.var 5)) (.var 2)) (.val (.list (wsG F)) :: s1 :: .val (.int v) :: .val (.int last) :: .val (pV m) :: .val (.int k) :: r6 :: rest) = some (oV (F k)[v]) := fun r6 => by
    simp only [qE1,qE2,qE3,qE4,qE5,qE6,qE7,qE8,qE9,qE10,qE11,qE0,qE12s,qE12l,qE12i,qE12c,qE13,qE14,qE15,qE16,qE17,qE18,qE19,qE20, valAt, baseAt, List.getElem?_cons_zero, List.getElem?_cons_succ, Option.bind_some, x_list, e1, e2]
  unfold p_l_mean_w1b
  have hT : evT (evCall tab' (n + 1)) (.cmp .notNone (.sub (.sub (.var 0) (.var 5)) (.var 2)) (.lit .none)) (.val (.list (wsG F)) :: s1 :: .val (.int v) :: .val (.int last) :: .val (pV m) :: .val (.int k) :: s6 :: rest) = some (F k)[v].isSome := by
    have hlit : ∀ ρ, evE (evCall tab' (n + 1)) (.lit .none) ρ = some .none := fun _ => rfl
    unfold evT
    rw [qE7, hsub, Option.bind_some, hlit, Option.bind_some, oV_notNone, Option.map_some, Option.bind_some, t_bool]
  cases hc : (F k)[v] with
  | none =>
    rw [hc] at hT hg
    have hr : mostStep F v last m k = m := by unfold mostStep; simp only [hg]
    rw [hr]
    exact ⟨s6, (evB_next ((evS_if hT).trans rfl)).trans rfl⟩
  | some c =>
    rw [hc] at hT hg hsub
    have h1 : evS (evCall tab' (n + 1)) (.asg 6 (.tup (.cons (.call 3 (.cons (.var 3) (.cons (.sub (.sub (.var 0) (.var 5)) (.var 2)) .nil))) (.cons (.bin .sub (.lit (.int (4))) (.var 5)) .nil)))) (.val (.list (wsG F)) :: s1 :: .val (.int v) :: .val (.int last) :: .val (pV m) :: .val (.int k) :: s6 :: rest) =
        some (.next, .val (.list (wsG F)) :: s1 :: .val (.int v) :: .val (.int last) :: .val (pV m) :: .val (.int k) :: .val (pV (last - c, 4 - k)) :: rest) := by
      rw [qS1]
      have hf : Mine.freeze (.val (.list (wsG F)) :: s1 :: .val (.int v) :: .val (.int last) :: .val (pV m) :: .val (.int k) :: s6 :: rest) (reads (.tup (.cons (.call 3 (.cons (.var 3) (.cons (.sub (.sub (.var 0) (.var 5)) (.var 2)) .nil))) (.cons (.bin .sub (.lit (.int (4))) (.var 5)) .nil)))) = (.val (.list (wsG F)) :: s1 :: .val (.int v) :: .val (.int last) :: .val (pV m) :: .val (.int k) :: s6 :: rest) := rfl
      simp only [hf]
      have h3 : evE (evCall tab' (n + 1)) (.var 3) (.val (.list (wsG F)) :: s1 :: .val (.int v) :: .val (.int last) :: .val (pV m) :: .val (.int k) :: s6 :: rest) = some (.int last) := rfl
      have hcall : evE (evCall tab' (n + 1)) (.call 3 (.cons (.var 3) (.cons (.sub (.sub (.var 0) (.var 5)) (.var 2)) .nil))) (.val (.list (wsG F)) :: s1 :: .val (.int v) :: .val (.int last) :: .val (pV m) :: .val (.int k) :: s6 :: rest) = some (.int (last - c)) := by
        rw [qE10, qEs2, h3, Option.bind_some, qEs2, hsub, Option.bind_some, qEs1, Option.map_some, Option.map_some, Option.bind_some]
        exact c_sub n last c
      have h4 : evE (evCall tab' (n + 1)) (.bin .sub (.lit (.int (4))) (.var 5)) (.val (.list (wsG F)) :: s1 :: .val (.int v) :: .val (.int last) :: .val (pV m) :: .val (.int k) :: s6 :: rest) = some (.int ((4 - k : Nat) : Int)) := by
        have e4 : ((4 - k : Nat) : Int) = 4 - (k : Int) := by omega
        rw [e4]; rfl
      have hz : [AV.int (last - c), AV.int ((4 - k : Nat) : Int)].length ≤ sizeLine := by rw [sizeLine_eq]; exact (by decide : 2 ≤ 16777216)
      have ht : evE (evCall tab' (n + 1)) (.tup (.cons (.call 3 (.cons (.var 3) (.cons (.sub (.sub (.var 0) (.var 5)) (.var 2)) .nil))) (.cons (.bin .sub (.lit (.int (4))) (.var 5)) .nil))) (.val (.list (wsG F)) :: s1 :: .val (.int v) :: .val (.int last) :: .val (pV m) :: .val (.int k) :: s6 :: rest) = some (pV (last - c, 4 - k)) := by
        rw [qE15, qEs2, hcall, Option.bind_some, qEs2, h4, Option.bind_some, qEs1, Option.map_some, Option.map_some, Option.bind_some, if_pos hz]
      rw [ht]; rfl
    refine ⟨.val (pV (last - c, 4 - k)), (evB_next ((evS_if hT).trans ((if_pos rfl).trans ?_))).trans rfl⟩
    rw [evB_next h1]
    have hcmp := mn_cmp (n := n) (ρ := .val (.list (wsG F)) :: s1 :: .val (.int v) :: .val (.int last) :: .val (pV m) :: .val (.int k) :: .val (pV (last - c, 4 - k)) :: rest) (i := 4) (j := 6) (a := m) (b := (last - c, 4 - k)) rfl rfl hm (by show 4 - k ≤ 4; omega)
    have hT2 : evT (evCall tab' (n + 1)) (.call 0 (.cons (.call 2 (.cons (.sub (.var 4) (.lit (.int (0)))) (.cons (.sub (.var 6) (.lit (.int (1)))) .nil))) (.cons (.call 2 (.cons (.sub (.var 6) (.lit (.int (0)))) (.cons (.sub (.var 4) (.lit (.int (1)))) .nil))) .nil))) (.val (.list (wsG F)) :: s1 :: .val (.int v) :: .val (.int last) :: .val (pV m) :: .val (.int k) :: .val (pV (last - c, 4 - k)) :: rest) = some (decide (m.1 * ((4 - k : Nat) : Int) < (last - c) * (m.2 : Int))) := by
      unfold evT; rw [hcmp, Option.bind_some, t_bool]
    by_cases hlt : m.1 * ((4 - k : Nat) : Int) < (last - c) * (m.2 : Int)
    · have hr : mostStep F v last m k = (last - c, 4 - k) := by unfold mostStep; simp only [hg, if_pos hlt]
      rw [hr]
      rw [decide_eq_true hlt] at hT2
      exact (evB_next ((evS_if hT2).trans ((if_pos rfl).trans rfl))).trans rfl
    · have hr : mostStep F v last m k = m := by unfold mostStep; simp only [hg, if_neg hlt]
      rw [hr]
      rw [decide_eq_false hlt] at hT2
      exact (evB_next ((evS_if hT2).trans ((if_neg (by decide)).trans rfl))).trans rfl

theorem mn_in {s1 s5 s6 : Slot} {v : Nat} {last : Int} (hv : v < 4) (hF : ∀ k, (F k).length = 4) :
    ∃ t5 t6 : Slot, evFor (fun x ρ => (bindV ρ [5] x).bind fun ρ' => evB (evCall tab' (n + 1)) p_l_mean_w1b ρ') false ([1, 2, 3].map fun (k : Nat) => AV.int k) (.val (.list (wsG F)) :: s1 :: .val (.int v) :: .val (.int last) :: .val (pV (last, 4)) :: s5 :: s6 :: rest) =
      some (.next, .val (.list (wsG F)) :: s1 :: .val (.int v) :: .val (.int last) :: .val (pV (mostF F v last)) :: t5 :: t6 :: rest) := by
  obtain ⟨ρ', h1, h2⟩ := evFor_inv (f := fun x ρ => (bindV ρ [5] x).bind fun ρ' => evB (evCall tab' (n + 1)) p_l_mean_w1b ρ') ([1, 2, 3].map fun (k : Nat) => AV.int k)
    (fun i ρ => ∃ s5 s6, ρ = (.val (.list (wsG F)) :: s1 :: .val (.int v) :: .val (.int last) :: .val (pV (([1, 2, 3].take i).foldl (mostStep F v last) (last, 4))) :: s5 :: s6 :: rest)) _ ⟨s5, s6, rfl⟩ (by
      rintro i x ρ hx ⟨s5, s6, rfl⟩
      rw [List.getElem?_map, Option.map_eq_some_iff] at hx
      obtain ⟨k, hk, rfl⟩ := hx
      have hk4 : k < 4 := by
        have := List.mem_of_getElem? hk
        simp at this; (first | lia | omega)
      obtain ⟨t6, h⟩ := mn_body (n := n) (rest := rest) (F := F) (s1 := s1) (s6 := s6) (last := last) (m := ([1, 2, 3].take i).foldl (mostStep F v last) (last, 4)) hv hk4 (hF k) (mostFold_q _ _ (Nat.le_refl _))
      refine ⟨.next, _, h, .inl rfl, .val (.int k), t6, ?_⟩
      rw [fold_take _ _ _ _ _ hk])
  obtain ⟨t5, t6, rfl⟩ := h2
  exact ⟨t5, t6, h1⟩

theorem mn_out {s2 s3 s4 s5 s6 : Slot} {v : Nat} {l : Option Fr4} {o : Option Int} (hg : (F 4)[v]? = some o) (hv : v < 4) (hF : ∀ k, (F k).length = 4) (hl : ∀ m, l = some m → m.2 ≤ 4) :
    ∃ (fl : Fl) (t2 t3 t4 t5 t6 : Slot), ((bindV (.val (.list (wsG F)) :: .val (mV l) :: s2 :: s3 :: s4 :: s5 :: s6 :: rest) [2, 3] (.tup [.int v, oV o])).bind fun ρ' => evB (evCall tab' (n + 1)) p_l_mean_w2b ρ') =
      some (fl, .val (.list (wsG F)) :: .val (mV (leastStep F l v)) :: t2 :: t3 :: t4 :: t5 :: t6 :: rest) ∧ (fl = .next ∨ fl = .cont) := by
  show ∃ (fl : Fl) (t2 t3 t4 t5 t6 : Slot), evB (evCall tab' (n + 1)) p_l_mean_w2b (.val (.list (wsG F)) :: .val (mV l) :: .val (.int v) :: .val (oV o) :: s4 :: s5 :: s6 :: rest) = _ ∧ _
  unfold p_l_mean_w2b
  cases o with
  | none =>
    have hr : leastStep F l v = l := by unfold leastStep; simp only [hg]
    rw [hr]
    exact ⟨.cont, .val (.int v), .val .none, s4, s5, s6, rfl, .inr rfl⟩
  | some last =>
    have h2 : evS (evCall tab' (n + 1)) (.ifs (.cmp .isNone (.var 3) (.lit .none)) (.cons .cont .nil) .nil) (.val (.list (wsG F)) :: .val (mV l) :: .val (.int v) :: .val (oV (some last)) :: s4 :: s5 :: s6 :: rest) = some (.next, .val (.list (wsG F)) :: .val (mV l) :: .val (.int v) :: .val (oV (some last)) :: s4 :: s5 :: s6 :: rest) := rfl
    rw [evB_next h2]
    have h3 : evS (evCall tab' (n + 1)) (.asg 4 (.tup (.cons (.var 3) (.cons (.lit (.int (4))) .nil)))) (.val (.list (wsG F)) :: .val (mV l) :: .val (.int v) :: .val (oV (some last)) :: s4 :: s5 :: s6 :: rest) = some (.next, .val (.list (wsG F)) :: .val (mV l) :: .val (.int v) :: .val (.int last) :: .val (pV (last, 4)) :: s5 :: s6 :: rest) := by
      have hz : [AV.int last, AV.int 4].length ≤ sizeLine := by rw [sizeLine_eq]; exact (by decide : 2 ≤ 16777216)
      have ht : evE (evCall tab' (n + 1)) (.tup (.cons (.var 3) (.cons (.lit (.int (4))) .nil))) (.val (.list (wsG F)) :: .val (mV l) :: .val (.int v) :: .val (oV (some last)) :: s4 :: s5 :: s6 :: rest) = some (.tup [.int last, .int 4]) := by
        rw [qE15]
        show Option.bind (some [AV.int last, AV.int 4]) _ = _
        rw [Option.bind_some, if_pos hz]
      rw [qS1]
      have hf : Mine.freeze (.val (.list (wsG F)) :: .val (mV l) :: .val (.int v) :: .val (oV (some last)) :: s4 :: s5 :: s6 :: rest) (reads (.tup (.cons (.var 3) (.cons (.lit (.int (4))) .nil)))) = (.val (.list (wsG F)) :: .val (mV l) :: .val (.int v) :: .val (oV (some last)) :: s4 :: s5 :: s6 :: rest) := rfl
      simp only [hf]
      rw [ht]; rfl
    rw [evB_next h3]
    obtain ⟨t5, t6, hin⟩ := mn_in (n := n) (rest := rest) (s1 := .val (mV l)) (s5 := s5) (s6 := s6) (last := last) hv hF
    have hz3 : [AV.int 1, AV.int 2, AV.int 3].length ≤ sizeLine := by rw [sizeLine_eq]; exact (by decide : 3 ≤ 16777216)
    have hI : ∀ ρ, evI (evCall tab' (n + 1)) (.expr (.tup (.cons (.lit (.int (1))) (.cons (.lit (.int (2))) (.cons (.lit (.int (3))) .nil))))) ρ = some ([1, 2, 3].map fun (k : Nat) => AV.int k) := fun ρ => by
      have ht : evE (evCall tab' (n + 1)) (.tup (.cons (.lit (.int (1))) (.cons (.lit (.int (2))) (.cons (.lit (.int (3))) .nil)))) ρ = some (.tup [.int 1, .int 2, .int 3]) := by
        rw [qE15]
        show Option.bind (some [AV.int 1, AV.int 2, AV.int 3]) _ = _
        rw [Option.bind_some, if_pos hz3]
      rw [qI1, ht]; rfl
    rw [evB_next ((evS_for (hI _)).trans hin)]
    have hmq : (mostF F v last).2 ≤ 4 := mostFold_q _ _ (Nat.le_refl _)
    cases l with
    | none =>
      have hr : leastStep F none v = some (mostF F v last) := by unfold leastStep; simp only [hg]
      rw [hr]
      exact ⟨.next, .val (.int v), .val (.int last), .val (pV (mostF F v last)), t5, t6, rfl, .inl rfl⟩
    | some l' =>
      have hcmp := mn_cmp (n := n) (ρ := .val (.list (wsG F)) :: .val (pV l') :: .val (.int v) :: .val (.int last) :: .val (pV (mostF F v last)) :: t5 :: t6 :: rest) (i := 4) (j := 1) (a := mostF F v last) (b := l') rfl rfl hmq (hl _ rfl)
      have hT : evT (evCall tab' (n + 1)) (.or (.cmp .isNone (.var 1) (.lit .none)) (.call 0 (.cons (.call 2 (.cons (.sub (.var 4) (.lit (.int (0)))) (.cons (.sub (.var 1) (.lit (.int (1)))) .nil))) (.cons (.call 2 (.cons (.sub (.var 1) (.lit (.int (0)))) (.cons (.sub (.var 4) (.lit (.int (1)))) .nil))) .nil)))) (.val (.list (wsG F)) :: .val (pV l') :: .val (.int v) :: .val (.int last) :: .val (pV (mostF F v last)) :: t5 :: t6 :: rest) = some (decide ((mostF F v last).1 * (l'.2 : Int) < l'.1 * ((mostF F v last).2 : Int))) := by
        have h0 : evE (evCall tab' (n + 1)) (.cmp .isNone (.var 1) (.lit .none)) (.val (.list (wsG F)) :: .val (pV l') :: .val (.int v) :: .val (.int last) :: .val (pV (mostF F v last)) :: t5 :: t6 :: rest) = some (.bool false) := rfl
        unfold evT
        rw [qE4, h0, Option.bind_some, t_bool, Option.bind_some, if_neg (by decide), hcmp, Option.bind_some, t_bool]
      by_cases hlt : (mostF F v last).1 * (l'.2 : Int) < l'.1 * ((mostF F v last).2 : Int)
      · have hr : leastStep F (some l') v = some (mostF F v last) := by unfold leastStep; simp only [hg, if_pos hlt]
        rw [hr]
        rw [decide_eq_true hlt] at hT
        exact ⟨.next, .val (.int v), .val (.int last), .val (pV (mostF F v last)), t5, t6, (evB_next ((evS_if hT).trans ((if_pos rfl).trans rfl))).trans rfl, .inl rfl⟩
      · have hr : leastStep F (some l') v = some l' := by unfold leastStep; simp only [hg, if_neg hlt]
        rw [hr]
        rw [decide_eq_false hlt] at hT
        exact ⟨.next, .val (.int v), .val (.int last), .val (pV (mostF F v last)), t5, t6, (evB_next ((evS_if hT).trans ((if_neg (by decide)).trans rfl))).trans rfl, .inl rfl⟩
end

theorem mean_ok (n : Nat) {F : Nat → List (Option Int)} (hF : ∀ k, (F k).length = 4) : evCall tab' (n + 2) 18 [.list (wsG F)] = some (mV (meanF F)) := by
  rw [call_eq tab_law_mean rfl]
  obtain ⟨ρ', h1, h2⟩ := evFor_inv (f := fun x ρ => (bindV ρ [2, 3] x).bind fun ρ' => evB (evCall tab' (n + 1)) p_l_mean_w2b ρ') (enumF 0 ((F 4).map oV))
    (fun i ρ => ∃ s2 s3 s4 s5 s6, ρ = (.val (.list (wsG F)) :: .val (mV (((List.range 4).take i).foldl (leastStep F) none)) :: s2 :: s3 :: s4 :: s5 :: s6 :: List.replicate 10 .no)) (.val (.list (wsG F)) :: .val .none :: .no :: .no :: .no :: .no :: .no :: List.replicate 10 .no) ⟨.no, .no, .no, .no, .no, rfl⟩ (by
      rintro i x ρ hx ⟨s2, s3, s4, s5, s6, rfl⟩
      rw [enumF_get, Option.map_eq_some_iff, Nat.zero_add] at hx
      obtain ⟨y, hy, rfl⟩ := hx
      rw [List.getElem?_map, Option.map_eq_some_iff] at hy
      obtain ⟨o, ho, rfl⟩ := hy
      have hi : i < 4 := by
        have := (List.getElem?_eq_some_iff.mp ho).1
        rwa [hF] at this
      obtain ⟨fl, t2, t3, t4, t5, t6, h, hfl⟩ := mn_out (n := n) (rest := List.replicate 10 .no) (F := F) (s2 := s2) (s3 := s3) (s4 := s4) (s5 := s5) (s6 := s6) (v := i) (l := ((List.range 4).take i).foldl (leastStep F) none) ho hi hF (leastFold_q _ _ (fun m e => by cases e))
      refine ⟨fl, _, h, hfl, t2, t3, t4, t5, t6, ?_⟩
      rw [fold_take (l := List.range 4) (x := i) (h := by simp [hi])])
  obtain ⟨s2, s3, s4, s5, s6, rfl⟩ := h2
  rw [enumF_len, List.length_map, hF] at h1
  have hI : evI (evCall tab' (n + 1)) (.enum (.sub (.var 0) (.lit (.int (4))))) (.val (.list (wsG F)) :: .val .none :: .no :: .no :: .no :: .no :: .no :: List.replicate 10 .no) = some (enumF 0 ((F 4).map oV)) := rfl
  refine evFn_ret (ρ := .val (.list (wsG F)) :: .no :: .no :: .no :: .no :: .no :: .no :: List.replicate 10 .no) (ρ' := .val (.list (wsG F)) :: .val (mV (meanF F)) :: s2 :: s3 :: s4 :: s5 :: s6 :: List.replicate 10 .no) rfl ?_
  unfold fn_law_mean
  dsimp only
  rw [evB_next (s := .asg 1 (.lit .none)) (ρ' := .val (.list (wsG F)) :: .val .none :: .no :: .no :: .no :: .no :: .no :: List.replicate 10 .no) rfl]
  rw [evB_next ((evS_for hI).trans h1)]
  exact evB_ret rfl
end Mine

namespace Mine

/-- a walk of k steps -/
inductive Wk (es : List Ed) : Nat → Nat → Nat → Int → Prop where
  | nil (u : Nat) (h : u < 4) : Wk es u u 0 0
  | snoc {u x v k : Nat} {c w : Int} (a : Wk es u x k c) (b : (x, v, w) ∈ es) : Wk es u v (k + 1) (c + w)
noncomputable def toEd (e : St4) : Ed := (e.1, e.2.1, sgn e)

noncomputable def Best (S : Int → Prop) (o : Option Int) : Prop := match o with
  | some m => S m ∧ ∀ x, S x → m ≤ x
  | none => ∀ x, ¬ S x
theorem Best.congr {S S' : Int → Prop} {o : Option Int} (h : ∀ x, S x ↔ S' x) (b : Best S o) : Best S' o := by
  cases o with
  | none => exact fun x q => b x ((h x).mpr q)
  | some m => exact ⟨(h m).mp b.1, fun x q => b.2 x ((h x).mpr q)⟩

noncomputable def Sset (prev : List (Option Int)) (l : List St4) (v : Nat) (x : Int) : Prop := ∃ e ∈ l, e.2.1 = v ∧ ∃ c, prev[e.1]? = some (some c) ∧ x = c + sgn e
theorem Sset_snoc {prev : List (Option Int)} {l : List St4} {e : St4} {v : Nat} {x : Int} : Sset prev (l ++ [e]) v x ↔ Sset prev l v x ∨ (e.2.1 = v ∧ ∃ c, prev[e.1]? = some (some c) ∧ x = c + sgn e) := by
  constructor
  · rintro ⟨f, hf, h⟩
    rcases List.mem_append.mp hf with q | q
    · exact .inl ⟨f, q, h⟩
    · simp at q; subst q; exact .inr h
  · rintro (⟨f, hf, h⟩ | h)
    · exact ⟨f, List.mem_append_left _ hf, h⟩
    · exact ⟨e, by simp, h⟩

set_option tactic.hygienic true in
theorem relax_best {prev later : List (Option Int)} {acc : List St4} {e : St4} (hl : later.length = 4) (hg : e.2.1 < 4) (h : ∀ v o, later[v]? = some o → Best (Sset prev acc v) o) : ∀ v o, (relax prev later e)[v]? = some o → Best (Sset prev (acc ++ [e]) v) o := by
  intro v o hv
  refine Best.congr (fun x => Sset_snoc.symm) ?_
  have same : ∀ o, later[v]? = some o → (∀ x, (e.2.1 = v ∧ ∃ c, prev[e.1]? = some (some c) ∧ x = c + sgn e) → ∃ m, o = some m ∧ m ≤ x) → Best (fun x => Sset prev acc v x ∨ (e.2.1 = v ∧ ∃ c, prev[e.1]? = some (some c) ∧ x = c + sgn e)) o := fun o ho q => by
    have b := h v o ho
    cases o with
    | none =>
      rintro x (q1 | q1)
      · exact b x q1
      · obtain ⟨m, e, _⟩ := q x q1; cases e
    | some m =>
      refine ⟨.inl b.1, ?_⟩
      rintro x (q1 | q1)
      · exact b.2 x q1
      · obtain ⟨m', e, h⟩ := q x q1; cases e; exact h
  have newv : ∀ c, prev[e.1]? = some (some c) → e.2.1 = v → (∀ o, later[v]? = some o → ∀ m, o = some m → c + sgn e ≤ m) → o = some (c + sgn e) → Best (fun x => Sset prev acc v x ∨ (e.2.1 = v ∧ ∃ c, prev[e.1]? = some (some c) ∧ x = c + sgn e)) o := fun c hc hev q ho => by
    subst ho
    refine ⟨.inr ⟨hev, c, hc, rfl⟩, ?_⟩
    have hlv : later[v]? = some later[v] := by
      have : v < later.length := by rw [hl, ← hev]; exact hg
      simp [this]
    rintro x (q1 | ⟨_, c', hc', rfl⟩)
    · have b := h v _ hlv
      cases hm : later[v] with
      | none => rw [hm] at b; exact absurd q1 (b x)
      | some m =>
        rw [hm] at b
        exact Int.le_trans (q _ hlv m hm) (b.2 x q1)
    · rw [hc] at hc'; cases hc'; exact Int.le_refl _
  unfold relax at hv
  split at hv
  · rename_i c hc
    split at hv
    · rename_i o' ho'
      split at hv
      · rename_i hlt
        by_cases hev : e.2.1 = v
        · rw [List.getElem?_set, if_pos hev, if_pos (by rw [hl]; exact hg)] at hv
          refine newv c hc hev (fun o h1 m hm => ?_) (Option.some.inj hv).symm
          rw [← hev, ho'] at h1; cases h1; cases hm; exact Int.le_of_lt hlt
        · rw [List.getElem?_set_ne hev] at hv
          exact same o hv fun x q => absurd q.1 hev
      · rename_i hlt
        refine same o hv fun x q => ?_
        obtain ⟨hev, c', hc', rfl⟩ := q
        rw [hc] at hc'; cases hc'
        rw [← hev, ho'] at hv; cases hv
        exact ⟨o', rfl, Int.not_lt.mp hlt⟩
    · rename_i hno
      by_cases hev : e.2.1 = v
      · rw [List.getElem?_set, if_pos hev, if_pos (by rw [hl]; exact hg)] at hv
        refine newv c hc hev (fun o h1 m hm => ?_) (Option.some.inj hv).symm
        subst hm
        rw [← hev] at h1
        exact absurd h1 (hno m)
      · rw [List.getElem?_set_ne hev] at hv
        exact same o hv fun x q => absurd q.1 hev
  · rename_i hno
    exact same o hv fun x ⟨_, c, hc, _⟩ => absurd hc (hno c)

theorem fold_best {prev : List (Option Int)} : ∀ (l acc : List St4) (later : List (Option Int)), later.length = 4 → (∀ e ∈ l, e.2.1 < 4) → (∀ v o, later[v]? = some o → Best (Sset prev acc v) o) → ∀ v o, (l.foldl (relax prev) later)[v]? = some o → Best (Sset prev (acc ++ l) v) o
  | [], acc, later, _, _, h => by rw [List.append_nil]; exact h
  | e :: l, acc, later, hl, hg, h => by
    have := fold_best l (acc ++ [e]) (relax prev later e) (by rw [relax_len, hl]) (fun f hf => hg f (List.mem_cons_of_mem _ hf)) (relax_best hl (hg e List.mem_cons_self) h)
    rw [List.append_assoc] at this
    exact this

set_option tactic.hygienic true in
theorem FW_best {sts : List St4} (hE : StOK sts) : ∀ (k v : Nat) (o : Option Int), v < 4 → (FW sts k)[v]? = some o → Best (fun x => ∃ u, Wk (sts.map toEd) u v k x) o
  | 0, v, o, hv, h => by
    have h4 : ∀ v, v < 4 → v = 0 ∨ v = 1 ∨ v = 2 ∨ v = 3 := by (first | lia | omega)
    have : o = some 0 := by
      rcases h4 v hv with rfl | rfl | rfl | rfl <;> exact (Option.some.inj h).symm
    subst this
    refine ⟨⟨v, .nil v hv⟩, ?_⟩
    rintro x ⟨u, hw⟩
    cases hw; exact Int.le_refl _
  | k + 1, v, o, hv, h => by
    have h1 := fold_best (prev := FW sts k) sts [] [none, none, none, none] rfl (fun e he => (hE e he).2.1) (fun v o hvo => by
      have h4 : v < 4 := (List.getElem?_eq_some_iff.mp hvo).1
      have : o = none := by
        have h4 : v = 0 ∨ v = 1 ∨ v = 2 ∨ v = 3 := by (first | lia | omega)
        rcases h4 with rfl | rfl | rfl | rfl <;> exact (Option.some.inj hvo).symm
      subst this
      rintro x ⟨e, he, _⟩; cases he) v o h
    rw [List.nil_append] at h1
    have prevOK : ∀ (e : St4), e ∈ sts → ∃ o, (FW sts k)[e.1]? = some o := fun e he => ⟨_, List.getElem?_eq_getElem (by rw [FW_len]; exact (hE e he).1)⟩
    cases o with
    | none =>
      rintro x ⟨u, hw⟩
      cases hw with
      | snoc a b =>
        rename_i y c w
        obtain ⟨e, he, ee⟩ := List.mem_map.mp b
        cases ee
        obtain ⟨o, ho⟩ := prevOK e he
        have hb := FW_best hE k e.1 o (hE e he).1 ho
        cases o with
        | none => exact hb c ⟨u, a⟩
        | some m => exact h1 (m + sgn e) ⟨e, he, rfl, m, ho, rfl⟩
    | some m =>
      obtain ⟨⟨e, he, hev, c, hc, rfl⟩, hmin⟩ := h1
      have hb := FW_best hE k e.1 _ (hE e he).1 hc
      obtain ⟨⟨u, hu⟩, _⟩ := hb
      refine ⟨⟨u, ?_⟩, ?_⟩
      · subst hev
        exact .snoc hu (List.mem_map.mpr ⟨e, he, rfl⟩)
      · rintro x ⟨u', hw⟩
        cases hw with
        | snoc a b =>
          rename_i y c' w
          obtain ⟨e', he', ee⟩ := List.mem_map.mp b
          cases ee
          obtain ⟨o, ho⟩ := prevOK e' he'
          have hb' := FW_best hE k e'.1 o (hE e' he').1 ho
          cases o with
          | none => exact absurd ⟨u', a⟩ (hb' c')
          | some m' =>
            have h2 := hmin (m' + sgn e') ⟨e', he', rfl, m', ho, rfl⟩
            have h3 := hb'.2 c' ⟨u', a⟩
            (first | lia | omega)
end Mine

namespace Mine

inductive Pth (es : List Ed) : List Nat → Int → Prop where
  | one (u : Nat) (h : u < 4) : Pth es [u] 0
  | snoc {way : List Nat} {t : Int} {x g : Nat} {w : Int} (a : Pth es way t) (b : way.getLast? = some x) (c : (x, g, w) ∈ es) (d : g ∉ way) : Pth es (way ++ [g]) (t + w)

section
variable {es : List Ed}
theorem Pth.ne {way : List Nat} {t : Int} (p : Pth es way t) : way ≠ [] := by cases p <;> simp
theorem Pth.fig (hE : EdOK es) {way : List Nat} {t : Int} (p : Pth es way t) : Fig way := by
  induction p with
  | one u h => intro a ha; simp at ha; subst ha; exact h
  | snoc a b c d ih =>
    intro y hy
    rcases List.mem_append.mp hy with q | q
    · exact ih y q
    · simp at q; subst q; exact (hE _ c).2
set_option tactic.hygienic true in
theorem Pth.nodup {way : List Nat} {t : Int} (p : Pth es way t) : way.Nodup := by
  induction p with
  | one u h => simp
  | snoc a b c d ih =>
    rename_i g w
    exact List.nodup_append.mpr ⟨ih, by simp, fun x hx y hy => by simp at hy; subst hy; rintro rfl; exact d hx⟩
theorem Pth.le4 (hE : EdOK es) {way : List Nat} {t : Int} (p : Pth es way t) : way.length ≤ 4 := way_le p.nodup (p.fig hE)
set_option tactic.hygienic true in
theorem Pth.ends {way : List Nat} {t : Int} (p : Pth es way t) : ∃ h l, way.head? = some h ∧ way.getLast? = some l ∧ Wk es h l (way.length - 1) t := by
  induction p with
  | one u h => exact ⟨u, u, rfl, rfl, .nil u h⟩
  | snoc a b c d ih =>
    rename_i way t x g w
    obtain ⟨h, l, h1, h2, h3⟩ := ih
    rw [h2] at b; cases b
    refine ⟨h, g, ?_, by simp, ?_⟩
    · cases way with
      | nil => cases h1
      | cons y r => exact h1
    · have : (way ++ [g]).length - 1 = (way.length - 1) + 1 := by
        have := a.ne
        have : 0 < way.length := by cases way with | nil => exact absurd rfl this | cons => simp
        rw [List.length_append, List.length_singleton]; (first | lia | omega)
      rw [this]
      exact .snoc h3 c

set_option tactic.hygienic true in
theorem Pth.split (hE : EdOK es) {way : List Nat} {t : Int} (p : Pth es way t) : ∀ (i g : Nat), way[i]? = some g → ∃ t1, Pth es (way.take (i + 1)) t1 ∧ Pth es (way.drop i) (t - t1) := by
  induction p with
  | one u h =>
    intro i g hi
    have : i = 0 := by
      have := (List.getElem?_eq_some_iff.mp hi).1
      simp at this; exact this
    subst this
    exact ⟨0, .one u h, .one u h⟩
  | snoc a b c d ih =>
    rename_i way t x g' w
    intro i g hi
    by_cases hlt : i < way.length
    · rw [List.getElem?_append_left hlt] at hi
      obtain ⟨t1, h1, h2⟩ := ih i g hi
      refine ⟨t1, ?_, ?_⟩
      · rw [List.take_append_of_le_length hlt]; exact h1
      · rw [List.drop_append_of_le_length (by (first | lia | omega)), show t + w - t1 = t - t1 + w by (first | lia | omega)]
        refine .snoc h2 ?_ c fun q => d (List.mem_of_mem_drop q)
        rw [List.getLast?_drop, if_neg (by (first | lia | omega))]; exact b
    · have hi' : i = way.length := by
        have := (List.getElem?_eq_some_iff.mp hi).1
        simp at this; (first | lia | omega)
      subst hi'
      refine ⟨t + w, ?_, ?_⟩
      · rw [List.take_of_length_le (by simp)]; exact .snoc a b c d
      · rw [List.drop_left, show t + w - (t + w) = 0 by (first | lia | omega)]; exact .one g' (hE _ c).2

theorem mem_next {k : Nat} {way : List Nat} {t : Int} {x g : Nat} {w r : Int} (hl : way.getLast? = some x) (he : (x, g, w) ∈ es) (hg : g ∉ way) (h : r ∈ roundsF k es (way ++ [g]) (t + w)) : r ∈ roundsF (k + 1) es way t := by
  rw [roundsF_step, List.mem_flatMap]
  refine ⟨_, he, ?_⟩
  unfold stepR
  rw [if_neg (fun q => hg ?_), if_pos ⟨hl, hg⟩]
  · exact h
  · have := q.2
    exact List.mem_of_mem_head? this
theorem mem_close {k : Nat} {way : List Nat} {t : Int} {x g : Nat} {w : Int} (hl : way.getLast? = some x) (hh : way.head? = some g) (he : (x, g, w) ∈ es) : Int.fdiv (12 * (t + w)) way.length ∈ roundsF (k + 1) es way t := by
  rw [roundsF_step, List.mem_flatMap]
  exact ⟨_, he, by rw [stepR_one hl hh]; simp⟩
set_option tactic.hygienic true in
theorem Pth.up (hE : EdOK es) {way : List Nat} {t : Int} (p : Pth es way t) : ∀ h, way.head? = some h → ∀ r, r ∈ roundsF (5 - way.length) es way t → r ∈ roundsF 4 es [h] 0 := by
  induction p with
  | one u h => intro h' hh r hr; cases hh; exact hr
  | snoc a b c d ih =>
    rename_i way t x g w
    intro h hh r hr
    have h4 := (Pth.snoc a b c d).le4 hE
    rw [List.length_append, List.length_singleton] at h4 hr
    have hh' : way.head? = some h := by
      have := a.ne
      cases way with
      | nil => exact absurd rfl this
      | cons y r => exact hh
    refine ih h hh' r ?_
    have : 5 - way.length = (5 - (way.length + 1)) + 1 := by (first | lia | omega)
    rw [this]
    exact mem_next b c d hr

noncomputable def roundsAll (es : List Ed) : List Int := (List.range 4).flatMap fun u => roundsF 4 es [u] 0
theorem Pth.closed (hE : EdOK es) {way : List Nat} {t : Int} (p : Pth es way t) {x g : Nat} {w : Int} (hl : way.getLast? = some x) (hh : way.head? = some g) (he : (x, g, w) ∈ es) : Int.fdiv (12 * (t + w)) way.length ∈ roundsAll es := by
  unfold roundsAll
  rw [List.mem_flatMap]
  refine ⟨g, List.mem_range.mpr (hE _ he).2, p.up hE g hh _ ?_⟩
  have h4 := p.le4 hE
  have : 5 - way.length = (4 - way.length) + 1 := by (first | lia | omega)
  rw [this]
  exact mem_close hl hh he

theorem fdiv_exact (z : Int) {L : Nat} (h1 : 0 < L) (h4 : L ≤ 4) : Int.fdiv (12 * z) L * L = 12 * z := by
  have : L = 1 ∨ L = 2 ∨ L = 3 ∨ L = 4 := by (first | lia | omega)
  rw [Int.fdiv_eq_ediv_of_nonneg _ (by (first | lia | omega))]
  rcases this with rfl | rfl | rfl | rfl <;> (first | lia | omega)

theorem rounds_sound (hE : EdOK es) : ∀ (k : Nat) (way : List Nat) (t r : Int), Pth es way t → r ∈ roundsF k es way t → ∃ (h L : Nat) (c : Int), 0 < L ∧ L ≤ 4 ∧ Wk es h h L c ∧ r * L = 12 * c
  | 0, way, t, r, p, h => nomatch (show r ∈ ([] : List Int) from h)
  | k + 1, way, t, r, p, h => by
    rw [roundsF_step, List.mem_flatMap] at h
    obtain ⟨⟨x, g, w⟩, he, hr⟩ := h
    unfold stepR at hr
    obtain ⟨hd, l, h1, h2, h3⟩ := p.ends
    have hpos : 0 < way.length := by
      have := p.ne
      cases way with
      | nil => exact absurd rfl this
      | cons => simp
    split at hr
    · rename_i hc
      obtain ⟨c1, c2⟩ := hc
      rw [h2] at c1; cases c1
      rw [h1] at c2; cases c2
      simp at hr
      refine ⟨g, way.length, t + w, hpos, p.le4 hE, ?_, ?_⟩
      · have : way.length = (way.length - 1) + 1 := by (first | lia | omega)
        rw [this]; exact .snoc h3 he
      · rw [hr]; exact fdiv_exact _ hpos (p.le4 hE)
    · split at hr
      · rename_i hc
        exact rounds_sound hE k _ _ r (.snoc p hc.1 he hc.2) hr
      · simp at hr
theorem all_sound (hE : EdOK es) {r : Int} (h : r ∈ roundsAll es) : ∃ (h L : Nat) (c : Int), 0 < L ∧ L ≤ 4 ∧ Wk es h h L c ∧ r * L = 12 * c := by
  unfold roundsAll at h
  rw [List.mem_flatMap] at h
  obtain ⟨u, hu, hr⟩ := h
  exact rounds_sound hE 4 [u] 0 r (.one u (List.mem_range.mp hu)) hr

set_option tactic.hygienic true in
/-- every walk comes down to a path, what falls away costs on the average no less than lam -/
theorem reduce (hE : EdOK es) {lam : Int} (hlam : ∀ r ∈ roundsAll es, lam ≤ r) {u v k : Nat} {c : Int} (wk : Wk es u v k c) :
    ∃ (way : List Nat) (t : Int), Pth es way t ∧ way.head? = some u ∧ way.getLast? = some v ∧ way.length ≤ k + 1 ∧ lam * ((k : Int) + 1 - way.length) ≤ 12 * (c - t) ∧ (roundsAll es = [] → way.length = k + 1) := by
  induction wk with
  | nil h => exact ⟨[_], 0, .one _ h, rfl, rfl, by simp, by simp, fun _ => rfl⟩
  | snoc a b ih =>
    rename_i x v k c w
    obtain ⟨way, t, p, hh, hl, hle, hr, hno⟩ := ih
    by_cases hv : v ∈ way
    · obtain ⟨i, hi⟩ := List.getElem?_of_mem hv
      have hilt : i < way.length := (List.getElem?_eq_some_iff.mp hi).1
      obtain ⟨t1, p1, p2⟩ := p.split hE i v hi
      have hl2 : (way.drop i).getLast? = some x := by rw [List.getLast?_drop, if_neg (by (first | lia | omega))]; exact hl
      have hh2 : (way.drop i).head? = some v := by rw [List.head?_drop]; exact hi
      have hm := p2.closed hE hl2 hh2 b
      have hlen : (way.drop i).length = way.length - i := List.length_drop
      have h4 := p2.le4 hE
      have hx := fdiv_exact (t - t1 + w) (L := (way.drop i).length) (by (first | lia | omega)) h4
      have hle2 := hlam _ hm
      generalize hq : Int.fdiv (12 * (t - t1 + w)) (way.drop i).length = q at *
      have hmul : lam * ((way.drop i).length : Int) ≤ q * ((way.drop i).length : Int) := Int.mul_le_mul_of_nonneg_right hle2 (by (first | lia | omega))
      refine ⟨way.take (i + 1), t1, p1, ?_, ?_, ?_, ?_, fun e => ?_⟩
      · rw [List.head?_take, if_neg (by (first | lia | omega))]; exact hh
      · rw [List.getLast?_take]; simp [hi]
      · rw [List.length_take]; (first | lia | omega)
      · have hlt : (way.take (i + 1)).length = i + 1 := by rw [List.length_take]; (first | lia | omega)
        rw [hlt]
        rw [hx] at hmul
        have e1 : lam * (((k + 1 : Nat) : Int) + 1 - ((i + 1 : Nat) : Int)) = lam * ((k : Int) + 1 - way.length) + lam * ((way.drop i).length : Int) := by
          rw [← Int.mul_add]; congr 1; (first | lia | omega)
        rw [e1]; (first | lia | omega)
      · rw [e] at hm; cases hm
    · refine ⟨way ++ [v], t + w, .snoc p hl b hv, ?_, by simp, ?_, ?_, fun e => ?_⟩
      · have := p.ne
        cases way with
        | nil => exact absurd rfl this
        | cons y r => exact hh
      · rw [List.length_append, List.length_singleton]; (first | lia | omega)
      · rw [List.length_append, List.length_singleton]
        have e1 : ((k + 1 : Nat) : Int) + 1 - ((way.length + 1 : Nat) : Int) = (k : Int) + 1 - way.length := by (first | lia | omega)
        rw [e1]; (first | lia | omega)
      · rw [List.length_append, List.length_singleton, hno e]
end
end Mine

namespace Mine

section
variable {es : List Ed}
theorem Wk.lt (hE : EdOK es) {u v k : Nat} {c : Int} (w : Wk es u v k c) : v < 4 := by
  cases w with
  | nil h => exact h
  | snoc a b => exact (hE _ b).2
theorem Wk.app {u x v a b : Nat} {c d : Int} (p : Wk es u x a c) (q : Wk es x v b d) : Wk es u v (a + b) (c + d) := by
  induction q with
  | nil h => rw [Int.add_zero]; exact p
  | snoc e f ih => rw [← Int.add_assoc]; exact .snoc ih f
set_option tactic.hygienic true in
theorem Wk.split (hE : EdOK es) {u a : Nat} : ∀ (b v : Nat) {c : Int}, Wk es u v (a + b) c → ∃ x d e, Wk es u x a d ∧ Wk es x v b e ∧ c = d + e
  | 0, v, c, p => ⟨v, c, 0, p, .nil v (p.lt hE), by (first | lia | omega)⟩
  | b + 1, v, c, p => by
    rw [← Nat.add_assoc] at p
    cases p with
    | snoc q r =>
      rename_i y d w
      obtain ⟨x, d1, d2, h1, h2, h3⟩ := Wk.split hE b y q
      exact ⟨x, d1, d2 + w, h1, .snoc h2 r, by (first | lia | omega)⟩
end

theorem ex_min (P : Nat → Int → Prop) (hP : ∀ k x y, P k x → P k y → x = y) : ∀ n : Nat, (∃ k x, k < n ∧ P k x) → ∃ k x, k < n ∧ P k x ∧ ∀ j y, j < n → P j y → x ≤ y
  | 0, ⟨k, x, h, _⟩ => absurd h (Nat.not_lt_zero _)
  | n + 1, ⟨k, x, h, hp⟩ => by
    by_cases hn : ∃ k x, k < n ∧ P k x
    · obtain ⟨k1, x1, h1, p1, m1⟩ := ex_min P hP n hn
      by_cases hq : ∃ y, P n y
      · obtain ⟨y, py⟩ := hq
        by_cases hxy : x1 ≤ y
        · refine ⟨k1, x1, Nat.lt_succ_of_lt h1, p1, fun j z hj pz => ?_⟩
          rcases Nat.lt_succ_iff_lt_or_eq.mp hj with q | rfl
          · exact m1 j z q pz
          · rw [hP _ _ _ pz py]; exact hxy
        · refine ⟨n, y, Nat.lt_succ_self _, py, fun j z hj pz => ?_⟩
          rcases Nat.lt_succ_iff_lt_or_eq.mp hj with q | rfl
          · have := m1 j z q pz; (first | lia | omega)
          · rw [hP _ _ _ pz py]; exact Int.le_refl _
      · refine ⟨k1, x1, Nat.lt_succ_of_lt h1, p1, fun j z hj pz => ?_⟩
        rcases Nat.lt_succ_iff_lt_or_eq.mp hj with q | rfl
        · exact m1 j z q pz
        · exact absurd ⟨z, pz⟩ hq
    · rcases Nat.lt_succ_iff_lt_or_eq.mp h with q | rfl
      · exact absurd ⟨k, x, q, hp⟩ hn
      · refine ⟨k, x, Nat.lt_succ_self _, hp, fun j z hj pz => ?_⟩
        rcases Nat.lt_succ_iff_lt_or_eq.mp hj with q | rfl
        · exact absurd ⟨j, z, q, pz⟩ hn
        · rw [hP _ _ _ pz hp]; exact Int.le_refl _

section
variable {sts : List St4}
noncomputable abbrev edges (sts : List St4) : List Ed := sts.map toEd
theorem edges_ok (hE : StOK sts) : EdOK (edges sts) := by
  intro e he
  obtain ⟨s, hs, rfl⟩ := List.mem_map.mp he
  exact ⟨(hE s hs).1, (hE s hs).2.1⟩
theorem F_of (hE : StOK sts) {u v k : Nat} {c : Int} (w : Wk (edges sts) u v k c) : ∃ m, (FW sts k)[v]? = some (some m) ∧ m ≤ c := by
  have hv := w.lt (edges_ok hE)
  obtain ⟨o, hg⟩ : ∃ o, (FW sts k)[v]? = some o := ⟨_, List.getElem?_eq_getElem (by rw [FW_len]; exact hv)⟩
  have hb := FW_best hE k v _ hv hg
  cases o with
  | none => exact absurd ⟨u, w⟩ (hb c)
  | some m => exact ⟨m, hg, hb.2 c ⟨u, w⟩⟩
theorem F_walk (hE : StOK sts) {v k : Nat} {c : Int} (h : (FW sts k)[v]? = some (some c)) : ∃ u, Wk (edges sts) u v k c := by
  have hv : v < 4 := by have := (List.getElem?_eq_some_iff.mp h).1; rwa [FW_len] at this
  exact (FW_best hE k v _ hv h).1

theorem karp_hi (hE : StOK sts) {lam : Int} (hlam : ∀ r ∈ roundsAll (edges sts), lam ≤ r) {v : Nat} {last : Int} (h : (FW sts 4)[v]? = some (some last)) :
    ∃ k c, k < 4 ∧ (FW sts k)[v]? = some (some c) ∧ lam * (4 - (k : Int)) ≤ 12 * (last - c) := by
  obtain ⟨u, w⟩ := F_walk hE h
  obtain ⟨way, t, p, hh, hl, hle, hr, _⟩ := reduce (edges_ok hE) hlam w
  have h4 := p.le4 (edges_ok hE)
  obtain ⟨hd, l, e1, e2, w2⟩ := p.ends
  rw [hh] at e1; cases e1
  rw [hl] at e2; cases e2
  have hpos : 0 < way.length := by
    have := p.ne
    cases way with
    | nil => exact absurd rfl this
    | cons => simp
  obtain ⟨m, hm, hmt⟩ := F_of hE w2
  refine ⟨way.length - 1, m, by (first | lia | omega), hm, ?_⟩
  have e : (4 : Int) - ((way.length - 1 : Nat) : Int) = ((4 : Nat) : Int) + 1 - way.length := by (first | lia | omega)
  rw [e]
  (first | lia | omega)
theorem karp_none (hE : StOK sts) (h0 : roundsAll (edges sts) = []) {v : Nat} {last : Int} : (FW sts 4)[v]? ≠ some (some last) := by
  intro h
  obtain ⟨u, w⟩ := F_walk hE h
  obtain ⟨way, t, p, _, _, _, _, hno⟩ := reduce (edges_ok hE) (lam := 0) (fun r hr => by rw [h0] at hr; cases hr) w
  have h4 := p.le4 (edges_ok hE)
  have := hno h0
  (first | lia | omega)

theorem karp_lo (hE : StOK sts) {lam : Int} (hlam : ∀ r ∈ roundsAll (edges sts), lam ≤ r) (hm : lam ∈ roundsAll (edges sts)) :
    ∃ (v : Nat) (last : Int), (FW sts 4)[v]? = some (some last) ∧ ∀ k c, k < 4 → (FW sts k)[v]? = some (some c) → 12 * (last - c) ≤ lam * (4 - (k : Int)) := by
  have hO := edges_ok hE
  obtain ⟨h, L, cs, hL0, hL4, wc, hcs⟩ := all_sound hO hm
  have hh4 : h < 4 := wc.lt hO
  have hF0 : (FW sts 0)[h]? = some (some 0) := by
    have : h = 0 ∨ h = 1 ∨ h = 2 ∨ h = 3 := by (first | lia | omega)
    rcases this with rfl | rfl | rfl | rfl <;> rfl
  obtain ⟨k0, x0, hk0, ⟨f0, hf0, hx0⟩, hmin⟩ := ex_min (fun k x => ∃ c, (FW sts k)[h]? = some (some c) ∧ x = 12 * c - lam * (k : Int)) (fun k x y ⟨c, h1, h2⟩ ⟨d, h3, h4⟩ => by
    rw [h1] at h3; cases h3; rw [h2, h4]) 4 ⟨0, _, by decide, 0, hF0, rfl⟩
  have low : ∀ u K c, Wk (edges sts) u h K c → x0 ≤ 12 * c - lam * (K : Int) := fun u K c w => by
    obtain ⟨way, t, p, hh, hl, hle, hr, _⟩ := reduce hO hlam w
    have h4 := p.le4 hO
    obtain ⟨hd, l, e1, e2, w2⟩ := p.ends
    rw [hl] at e2; cases e2
    obtain ⟨m, hm, hmt⟩ := F_of hE w2
    have hpos : 0 < way.length := by
      have := p.ne
      cases way with
      | nil => exact absurd rfl this
      | cons => simp
    have h5 := hmin (way.length - 1) _ (by (first | lia | omega)) ⟨m, hm, rfl⟩
    have e : ((way.length - 1 : Nat) : Int) = (way.length : Int) - 1 := by (first | lia | omega)
    rw [e] at h5
    have e2 : lam * ((K : Int) + 1 - way.length) = lam * (K : Int) - lam * ((way.length : Int) - 1) := by
      rw [← Int.mul_sub]; congr 1; (first | lia | omega)
    rw [e2] at hr
    (first | lia | omega)
  obtain ⟨u0, w0⟩ := F_walk hE hf0
  have w4 := (wc.app wc).app (wc.app wc)
  have ea : L + L + (L + L) = (4 - k0) + (L + L + (L + L) - (4 - k0)) := by (first | lia | omega)
  rw [ea] at w4
  obtain ⟨v, s, s', ws, ws', hs⟩ := Wk.split hO _ _ w4
  have wv := w0.app ws
  have e4 : k0 + (4 - k0) = 4 := by (first | lia | omega)
  rw [e4] at wv
  obtain ⟨last, hlast, hle⟩ := F_of hE wv
  refine ⟨v, last, hlast, fun k c hk hc => ?_⟩
  obtain ⟨u, wu⟩ := F_walk hE hc
  have h6 := low u _ _ (wu.app ws')
  have e6 : ((k + (L + L + (L + L) - (4 - k0)) : Nat) : Int) = (k : Int) + 4 * L - 4 + k0 := by (first | lia | omega)
  rw [e6] at h6
  have e7 : lam * ((k : Int) + 4 * L - 4 + k0) = lam * (k : Int) + 4 * (lam * (L : Int)) - 4 * lam + lam * (k0 : Int) := by
    rw [Int.mul_add, Int.mul_sub, Int.mul_add, Int.mul_left_comm lam 4 (L : Int), Int.mul_comm lam 4]
  have e8 : lam * (4 - (k : Int)) = 4 * lam - lam * (k : Int) := by rw [Int.mul_sub, Int.mul_comm lam 4]
  rw [e7, hcs] at h6
  rw [e8]
  (first | lia | omega)

theorem frac_trans {a c e : Int} {b d f : Nat} (hd : 0 < d) (h1 : a * (d : Int) ≤ c * (b : Int)) (h2 : c * (f : Int) ≤ e * (d : Int)) : a * (f : Int) ≤ e * (b : Int) := by
  have h3 : a * (d : Int) * (f : Int) ≤ c * (b : Int) * (f : Int) := Int.mul_le_mul_of_nonneg_right h1 (by (first | lia | omega))
  have h4 : c * (f : Int) * (b : Int) ≤ e * (d : Int) * (b : Int) := Int.mul_le_mul_of_nonneg_right h2 (by (first | lia | omega))
  have e1 : a * (d : Int) * (f : Int) = (a * (f : Int)) * (d : Int) := by rw [Int.mul_assoc, Int.mul_comm (d : Int) f, ← Int.mul_assoc]
  have e2 : c * (b : Int) * (f : Int) = c * (f : Int) * (b : Int) := by rw [Int.mul_assoc, Int.mul_comm (b : Int) f, ← Int.mul_assoc]
  have e3 : e * (d : Int) * (b : Int) = (e * (b : Int)) * (d : Int) := by rw [Int.mul_assoc, Int.mul_comm (d : Int) b, ← Int.mul_assoc]
  have h5 : (a * (f : Int)) * (d : Int) ≤ (e * (b : Int)) * (d : Int) := by
    rw [← e1, ← e3]
    exact Int.le_trans h3 (by rw [e2]; exact h4)
  have hd' : (0 : Int) < (d : Int) := by (first | lia | omega)
  exact Int.le_of_mul_le_mul_right h5 hd'

/-- what most tells of one word -/
structure MostOK (F : Nat → List (Option Int)) (v : Nat) (last : Int) (ks : List Nat) (m : Fr4) : Prop where
  att : ∃ k c, k < 4 ∧ (F k)[v]? = some (some c) ∧ m = (last - c, 4 - k)
  top : ∀ k ∈ ks, ∀ c, (F k)[v]? = some (some c) → (last - c) * (m.2 : Int) ≤ m.1 * ((4 - k : Nat) : Int)
set_option tactic.hygienic true in
theorem most_step {F : Nat → List (Option Int)} {v : Nat} {last : Int} {ks : List Nat} {m : Fr4} {k : Nat} (hk : k < 4) (h : MostOK F v last ks m) : MostOK F v last (ks ++ [k]) (mostStep F v last m k) := by
  obtain ⟨⟨k1, c1, hk1, hc1, rfl⟩, top⟩ := h
  unfold mostStep
  split
  · rename_i c hc
    split
    · rename_i hlt
      refine ⟨⟨k, c, hk, hc, rfl⟩, fun j hj d hd => ?_⟩
      rcases List.mem_append.mp hj with q | q
      · exact frac_trans (d := 4 - k1) (by omega) (top j q d hd) (Int.le_of_lt hlt) |> fun h => h
      · simp at q; subst q; rw [hc] at hd; cases hd; exact Int.le_refl _
    · rename_i hlt
      refine ⟨⟨k1, c1, hk1, hc1, rfl⟩, fun j hj d hd => ?_⟩
      rcases List.mem_append.mp hj with q | q
      · exact top j q d hd
      · simp at q; subst q; rw [hc] at hd; cases hd; exact Int.not_lt.mp hlt
  · rename_i hno
    refine ⟨⟨k1, c1, hk1, hc1, rfl⟩, fun j hj d hd => ?_⟩
    rcases List.mem_append.mp hj with q | q
    · exact top j q d hd
    · simp at q; subst q; exact absurd hd (hno d)
theorem most_ok {F : Nat → List (Option Int)} {v : Nat} {last : Int} (h0 : (F 0)[v]? = some (some 0)) : MostOK F v last [0, 1, 2, 3] (mostF F v last) := by
  have b : MostOK F v last [0] (last, 4) := ⟨⟨0, 0, by decide, h0, by simp⟩, fun k hk c hc => by
    simp at hk; subst hk; rw [h0] at hc; cases hc; simp⟩
  exact most_step (k := 3) (by decide) (most_step (k := 2) (by decide) (most_step (k := 1) (by decide) b))

structure LeastOK (F : Nat → List (Option Int)) (vs : List Nat) (l : Option Fr4) : Prop where
  none : l = none → ∀ v ∈ vs, ∀ last, (F 4)[v]? ≠ some (some last)
  att : ∀ m, l = some m → ∃ v last, (F 4)[v]? = some (some last) ∧ m = mostF F v last
  low : ∀ m, l = some m → ∀ v ∈ vs, ∀ last, (F 4)[v]? = some (some last) → m.1 * ((mostF F v last).2 : Int) ≤ (mostF F v last).1 * (m.2 : Int)
set_option tactic.hygienic true in
theorem least_step {F : Nat → List (Option Int)} (hq : ∀ (v : Nat) (last : Int), (F 4)[v]? = some (some last) → 0 < (mostF F v last).2) {vs : List Nat} {l : Option Fr4} {v : Nat} (h : LeastOK F vs l) : LeastOK F (vs ++ [v]) (leastStep F l v) := by
  unfold leastStep
  split
  · rename_i last hlast
    split
    · refine ⟨fun e => by (cases e), fun m e => by cases e; exact ⟨v, last, hlast, rfl⟩, fun m e j hj d hd => ?_⟩
      cases e
      rcases List.mem_append.mp hj with q | q
      · exact absurd hd (h.none rfl j q d)
      · simp at q; subst q; rw [hlast] at hd; cases hd; exact Int.le_refl _
    · rename_i l'
      split
      · rename_i hlt
        refine ⟨fun e => by (cases e), fun m e => by cases e; exact ⟨v, last, hlast, rfl⟩, fun m e j hj d hd => ?_⟩
        cases e
        rcases List.mem_append.mp hj with q | q
        · obtain ⟨v1, last1, h1, rfl⟩ := h.att _ rfl
          exact frac_trans (hq _ _ h1) (Int.le_of_lt hlt) (h.low _ rfl j q d hd)
        · simp at q; subst q; rw [hlast] at hd; cases hd; exact Int.le_refl _
      · rename_i hlt
        refine ⟨fun e => by (cases e), fun m e => by cases e; exact h.att _ rfl, fun m e j hj d hd => ?_⟩
        cases e
        rcases List.mem_append.mp hj with q | q
        · exact h.low _ rfl j q d hd
        · simp at q; subst q; rw [hlast] at hd; cases hd; exact Int.not_lt.mp hlt
  · rename_i hno
    refine ⟨fun e j hj d => ?_, h.att, fun m e j hj d hd => ?_⟩
    · rcases List.mem_append.mp hj with q | q
      · exact h.none e j q d
      · simp at q; subst q; exact fun hd => hno d hd
    · rcases List.mem_append.mp hj with q | q
      · exact h.low m e j q d hd
      · simp at q; subst q; exact absurd hd (hno d)

theorem karp (hE : StOK sts) : (roundsAll (edges sts) = [] → meanF (FW sts) = none) ∧ (∀ lam ∈ roundsAll (edges sts), (∀ r ∈ roundsAll (edges sts), lam ≤ r) → ∃ m : Fr4, meanF (FW sts) = some m ∧ 12 * m.1 = lam * (m.2 : Int)) := by
  have h0 : ∀ (v : Nat) (last : Int), (FW sts 4)[v]? = some (some last) → (FW sts 0)[v]? = some (some 0) := fun v last h => by
    have hv : v < 4 := by have := (List.getElem?_eq_some_iff.mp h).1; rwa [FW_len] at this
    have : v = 0 ∨ v = 1 ∨ v = 2 ∨ v = 3 := by (first | lia | omega)
    rcases this with rfl | rfl | rfl | rfl <;> rfl
  have mok : ∀ (v : Nat) (last : Int), (FW sts 4)[v]? = some (some last) → MostOK (FW sts) v last [0, 1, 2, 3] (mostF (FW sts) v last) := fun v last h => most_ok (h0 v last h)
  have hq : ∀ (v : Nat) (last : Int), (FW sts 4)[v]? = some (some last) → 0 < (mostF (FW sts) v last).2 := fun v last h => by
    obtain ⟨⟨k, c, hk, hc, e⟩, _⟩ := mok v last h
    rw [e]; show 0 < 4 - k; (first | lia | omega)
  have b : LeastOK (FW sts) [] none := ⟨fun _ v hv => by (cases hv), fun m e => by (cases e), fun m e => by (cases e)⟩
  have lo : LeastOK (FW sts) [0, 1, 2, 3] (meanF (FW sts)) := least_step hq (v := 3) (least_step hq (v := 2) (least_step hq (v := 1) (least_step hq (v := 0) b)))
  constructor
  · intro hr
    cases hm : meanF (FW sts) with
    | none => rfl
    | some m =>
      obtain ⟨v, last, h1, _⟩ := lo.att m hm
      exact absurd h1 (karp_none hE hr)
  · intro lam hmem hlam
    obtain ⟨v, last, hv, hlo⟩ := karp_lo hE hlam hmem
    have hv4 : v ∈ [0, 1, 2, 3] := by
      have : v < 4 := by have := (List.getElem?_eq_some_iff.mp hv).1; rwa [FW_len] at this
      have : v = 0 ∨ v = 1 ∨ v = 2 ∨ v = 3 := by (first | lia | omega)
      rcases this with rfl | rfl | rfl | rfl <;> simp
    cases hm : meanF (FW sts) with
    | none => exact absurd hv (lo.none hm v hv4 last)
    | some m =>
      refine ⟨m, rfl, ?_⟩
      obtain ⟨v1, last1, h1, e1⟩ := lo.att m hm
      obtain ⟨⟨k1, c1, hk1, hc1, a1⟩, t1⟩ := mok v1 last1 h1
      rw [← e1] at a1 t1
      have hi : lam * (m.2 : Int) ≤ 12 * m.1 := by
        obtain ⟨k, c, hk, hc, hh⟩ := karp_hi hE hlam h1
        have ht := t1 k (by
          have : k = 0 ∨ k = 1 ∨ k = 2 ∨ k = 3 := by (first | lia | omega)
          rcases this with rfl | rfl | rfl | rfl <;> simp) c hc
        have e : ((4 - k : Nat) : Int) = 4 - (k : Int) := by (first | lia | omega)
        rw [← e] at hh
        have ht' : (12 * (last1 - c)) * (m.2 : Int) ≤ (12 * m.1) * ((4 - k : Nat) : Int) := by rw [Int.mul_assoc, Int.mul_assoc]; (first | lia | omega)
        have := frac_trans (a := lam) (b := 1) (c := 12 * (last1 - c)) (d := 4 - k) (e := 12 * m.1) (f := m.2) (by (first | lia | omega)) (by rw [Int.natCast_one, Int.mul_one]; exact hh) ht'
        rw [Int.natCast_one, Int.mul_one] at this
        exact this
      have hl := lo.low m hm v hv4 last hv
      obtain ⟨⟨k2, c2, hk2, hc2, a2⟩, _⟩ := mok v last hv
      have hs := hlo k2 c2 hk2 hc2
      have e : ((4 - k2 : Nat) : Int) = 4 - (k2 : Int) := by (first | lia | omega)
      rw [a2] at hl
      rw [← e] at hs
      have hl' : (12 * m.1) * ((4 - k2 : Nat) : Int) ≤ (12 * (last - c2)) * (m.2 : Int) := by rw [Int.mul_assoc, Int.mul_assoc]; dsimp only at hl; (first | lia | omega)
      have := frac_trans (a := 12 * m.1) (b := m.2) (c := 12 * (last - c2)) (d := 4 - k2) (e := lam) (f := 1) (by (first | lia | omega)) hl' (by rw [Int.natCast_one, Int.mul_one]; exact hs)
      rw [Int.natCast_one, Int.mul_one] at this
      (first | lia | omega)
end
end Mine

namespace Mine

/-! ## the rulers, and what _grouping_intervals tells of them -/
noncomputable abbrev iL (l : List Int) : AV := .list (l.map .int)
noncomputable def rulerF (a b c : Int) (m : Nat) : List Int := match m with | 0 => [a, b, c] | 1 => [a, b, 0, c] | 2 => [a, b, 127, c] | _ => [a, 0, c]
noncomputable def toldF (a b c : Int) (m : Nat) : List Int := match m with | 0 => [a, b, c] | 1 => [a, b, b] | 2 => [a, b] | _ => [a, a, a]
theorem c_rulers (n : Nat) (a b c : Int) (m : Nat) (hm : m < 4) : evCall tab' (n + 1) 13 [iL [a, b, c], .int m] = some (.tup [iL (rulerF a b c m), iL (toldF a b c m)]) := by
  rw [call_eq tab_law_rulers rfl]
  have : m = 0 ∨ m = 1 ∨ m = 2 ∨ m = 3 := by (first | lia | omega)
  rcases this with rfl | rfl | rfl | rfl <;> kernel_rfl
theorem gi_told {a b c : Int} {m : Nat} (ha : 0 < a ∧ a < 4) (hb : 0 < b ∧ b < 4) (hc : 0 < c ∧ c < 4) (hm : m < 4) : gi 3 none (rulerF a b c m) = some (toldF a b c m) := by
  have na : a ≠ 127 := by (first | lia | omega)
  have nb : b ≠ 127 := by (first | lia | omega)
  have nc : c ≠ 127 := by (first | lia | omega)
  have za : a ≠ 0 := by (first | lia | omega)
  have zb : b ≠ 0 := by (first | lia | omega)
  have zc : c ≠ 0 := by (first | lia | omega)
  have : m = 0 ∨ m = 1 ∨ m = 2 ∨ m = 3 := by (first | lia | omega)
  rcases this with rfl | rfl | rfl | rfl <;> simp [rulerF, toldF, qGi, qGi0, giRep, na, nb, nc, za, zb, zc, List.replicate]

/-! ## cutting -/
noncomputable def cutP : List Nat → List Nat → List (List Nat)
  | _, [] => []
  | x, s :: o => x.take s :: cutP (x.drop s) o
noncomputable def cutR : List Nat → List Nat → List Nat
  | x, [] => x
  | x, s :: o => cutR (x.drop s) o
theorem cutP_len : ∀ (o x : List Nat), (cutP x o).length = o.length
  | [], _ => rfl
  | s :: o, x => congrArg (· + 1) (cutP_len o _)
noncomputable def pieces (x o : List Nat) : List (List Nat) := (if o.length = 2 then [[]] else []) ++ cutP x o ++ [cutR x o]

theorem a_list {xs ys : List AV} (h : xs.length + ys.length ≤ sizeLine) : binV .add (.list xs) (.list ys) = some (.list (xs ++ ys)) := if_pos h
theorem W_take (x : List Nat) (k : Nat) : tx ((x.map fig).take k) = tx ((x.take k).map fig) := by rw [List.map_take]

section
variable {C : Nat → List AV → Option AV} {rest : Loc}

theorem cut_body {x : List Nat} {s1 s3 : Slot} {ws : List AV} {s : Nat} (hz : ws.length < sizeLine) :
    evB C p_l_cut_w1b (.val (W x) :: s1 :: .own ws :: s3 :: .val (.int s) :: rest) = some (.next, .val (W (x.drop s)) :: s1 :: .own (ws ++ [W (x.take s)]) :: s3 :: .val (.int s) :: rest) := by
  unfold p_l_cut_w1b
  have h1 : evS C (.append 2 (.slice (.var 0) (.lit .none) (.var 4) (.lit .none))) (.val (W x) :: s1 :: .own ws :: s3 :: .val (.int s) :: rest) = some (.next, .val (W x) :: s1 :: .own (ws ++ [W (x.take s)]) :: s3 :: .val (.int s) :: rest) := by
    have hE : evE C (.slice (.var 0) (.lit .none) (.var 4) (.lit .none)) (.val (W x) :: s1 :: .own ws :: s3 :: .val (.int s) :: rest) = some (W (x.take s)) := by
      simp only [qE1,qE2,qE3,qE4,qE5,qE6,qE7,qE8,qE9,qE10,qE11,qE0,qE12s,qE12l,qE12i,qE12c,qE13,qE14,qE15,qE16,qE17,qE18,qE19,qE20, valAt, List.getElem?_cons_zero, List.getElem?_cons_succ, Option.bind_some]
      rw [s_to, W_take]
    rw [qS11]
    have hf : Mine.freeze (.val (W x) :: s1 :: .own ws :: s3 :: .val (.int s) :: rest) (reads (.slice (.var 0) (.lit .none) (.var 4) (.lit .none))) = (.val (W x) :: s1 :: .own ws :: s3 :: .val (.int s) :: rest) := rfl
    simp only [hf, List.getElem?_cons_zero, List.getElem?_cons_succ]
    rw [hE, Option.bind_some, if_pos hz]
    rfl
  rw [evB_next h1]
  refine (evB_next ?_).trans rfl
  have hE : evE C (.slice (.var 0) (.var 4) (.lit .none) (.lit .none)) (.val (W x) :: s1 :: .own (ws ++ [W (x.take s)]) :: s3 :: .val (.int s) :: rest) = some (W (x.drop s)) := by
    simp only [qE1,qE2,qE3,qE4,qE5,qE6,qE7,qE8,qE9,qE10,qE11,qE0,qE12s,qE12l,qE12i,qE12c,qE13,qE14,qE15,qE16,qE17,qE18,qE19,qE20, valAt, List.getElem?_cons_zero, List.getElem?_cons_succ, Option.bind_some]
    rw [s_from, W_drop]
  rw [qS1]
  have hf : Mine.freeze (.val (W x) :: s1 :: .own (ws ++ [W (x.take s)]) :: s3 :: .val (.int s) :: rest) (reads (.slice (.var 0) (.var 4) (.lit .none) (.lit .none))) = (.val (W x) :: s1 :: .own (ws ++ [W (x.take s)]) :: s3 :: .val (.int s) :: rest) := rfl
  simp only [hf]
  rw [hE]; rfl

theorem cut_loop {s1 : Slot} : ∀ (o : List Nat) (x : List Nat) (k : Nat) (ws : List AV) (s3 s4 : Slot), ws.length + o.length < 100 →
    ∃ t3 t4 : Slot, evFor (fun v ρ => (bindV ρ [3, 4] v).bind fun ρ' => evB C p_l_cut_w1b ρ') false (zipIdx k (o.map fun (i : Nat) => (i : Int))) (.val (W x) :: s1 :: .own ws :: s3 :: s4 :: rest) =
      some (.next, .val (W (cutR x o)) :: s1 :: .own (ws ++ (cutP x o).map W) :: t3 :: t4 :: rest)
  | [], x, k, ws, s3, s4, _ => ⟨s3, s4, by rw [show (cutP x []).map W = [] from rfl, List.append_nil]; rfl⟩
  | s :: o, x, k, ws, s3, s4, h => by
    obtain ⟨t3, t4, ih⟩ := cut_loop (s1 := s1) o (x.drop s) (k + 1) (ws ++ [W (x.take s)]) (.val (.int k)) (.val (.int s)) (by simp only [List.length_append, List.length_cons, List.length_nil] at h ⊢; (first | lia | omega))
    refine ⟨t3, t4, ?_⟩
    rw [List.map_cons, qZ, qF2]
    have hb : bindV (.val (W x) :: s1 :: .own ws :: s3 :: s4 :: rest) [3, 4] (.tup [.int k, .int s]) = some (.val (W x) :: s1 :: .own ws :: .val (.int k) :: .val (.int s) :: rest) := rfl
    rw [hb, Option.bind_some, cut_body (by rw [sizeLine_eq]; simp only [List.length_cons] at h; (first | lia | omega)), Option.bind_some]
    refine ih.trans ?_
    rw [List.append_assoc]; rfl

theorem sh_body {x : List Nat} {s1 : Slot} {ws : List AV} {s : Nat} (hz : ws.length < sizeLine) (hx : x.length ≤ 9) :
    evB C p_l_shared_w1b (.val (Fg x) :: s1 :: .own ws :: .val (.int s) :: rest) = some (.next, .val (Fg (x.drop s)) :: s1 :: .own (ws ++ [Fg (x.take s)]) :: .val (.int s) :: rest) := by
  have hxz : (x.map fun (a : Nat) => AV.int a).length ≤ sizeLine := by rw [List.length_map, sizeLine_eq]; (first | lia | omega)
  unfold p_l_shared_w1b
  have h1 : evS C (.append 2 (.slice (.var 0) (.lit .none) (.var 3) (.lit .none))) (.val (Fg x) :: s1 :: .own ws :: .val (.int s) :: rest) = some (.next, .val (Fg x) :: s1 :: .own (ws ++ [Fg (x.take s)]) :: .val (.int s) :: rest) := by
    have hE : evE C (.slice (.var 0) (.lit .none) (.var 3) (.lit .none)) (.val (Fg x) :: s1 :: .own ws :: .val (.int s) :: rest) = some (Fg (x.take s)) := by
      simp only [qE1,qE2,qE3,qE4,qE5,qE6,qE7,qE8,qE9,qE10,qE11,qE0,qE12s,qE12l,qE12i,qE12c,qE13,qE14,qE15,qE16,qE17,qE18,qE19,qE20, valAt, List.getElem?_cons_zero, List.getElem?_cons_succ, Option.bind_some]
      rw [l_to _ _ hxz, ← List.map_take]
    rw [qS11]
    have hf : Mine.freeze (.val (Fg x) :: s1 :: .own ws :: .val (.int s) :: rest) (reads (.slice (.var 0) (.lit .none) (.var 3) (.lit .none))) = (.val (Fg x) :: s1 :: .own ws :: .val (.int s) :: rest) := rfl
    simp only [hf, List.getElem?_cons_zero, List.getElem?_cons_succ]
    rw [hE, Option.bind_some, if_pos hz]
    rfl
  rw [evB_next h1]
  refine (evB_next ?_).trans rfl
  have hE : evE C (.slice (.var 0) (.var 3) (.lit .none) (.lit .none)) (.val (Fg x) :: s1 :: .own (ws ++ [Fg (x.take s)]) :: .val (.int s) :: rest) = some (Fg (x.drop s)) := by
    simp only [qE1,qE2,qE3,qE4,qE5,qE6,qE7,qE8,qE9,qE10,qE11,qE0,qE12s,qE12l,qE12i,qE12c,qE13,qE14,qE15,qE16,qE17,qE18,qE19,qE20, valAt, List.getElem?_cons_zero, List.getElem?_cons_succ, Option.bind_some]
    rw [l_from _ _ hxz, ← List.map_drop]
  rw [qS1]
  have hf : Mine.freeze (.val (Fg x) :: s1 :: .own (ws ++ [Fg (x.take s)]) :: .val (.int s) :: rest) (reads (.slice (.var 0) (.var 3) (.lit .none) (.lit .none))) = (.val (Fg x) :: s1 :: .own (ws ++ [Fg (x.take s)]) :: .val (.int s) :: rest) := rfl
  simp only [hf]
  rw [hE]; rfl
theorem sh_loop {s1 : Slot} : ∀ (o : List Nat) (x : List Nat) (ws : List AV) (s3 : Slot), ws.length + o.length < 100 → x.length ≤ 9 →
    ∃ t3 : Slot, evFor (fun v ρ => (bindV ρ [3] v).bind fun ρ' => evB C p_l_shared_w1b ρ') false ((o.map fun (i : Nat) => (i : Int)).map .int) (.val (Fg x) :: s1 :: .own ws :: s3 :: rest) =
      some (.next, .val (Fg (cutR x o)) :: s1 :: .own (ws ++ (cutP x o).map Fg) :: t3 :: rest)
  | [], x, ws, s3, _, _ => ⟨s3, by rw [show (cutP x []).map Fg = [] from rfl, List.append_nil]; rfl⟩
  | s :: o, x, ws, s3, h, hx => by
    obtain ⟨t3, ih⟩ := sh_loop (s1 := s1) o (x.drop s) (ws ++ [Fg (x.take s)]) (.val (.int s)) (by simp only [List.length_append, List.length_cons, List.length_nil] at h ⊢; (first | lia | omega)) (by rw [List.length_drop]; (first | lia | omega))
    refine ⟨t3, ?_⟩
    rw [List.map_cons, List.map_cons, qF2]
    have hb : bindV (.val (Fg x) :: s1 :: .own ws :: s3 :: rest) [3] (.int s) = some (.val (Fg x) :: s1 :: .own ws :: .val (.int s) :: rest) := rfl
    rw [hb, Option.bind_some, sh_body (by rw [sizeLine_eq]; simp only [List.length_cons] at h; (first | lia | omega)) hx, Option.bind_some]
    refine ih.trans ?_
    rw [List.append_assoc]; rfl

/-- the last four -/
theorem last4 {p : List AV} {g : List Nat → AV} {x o : List Nat} (h : o.length = 2 ∨ o.length = 3) (hp : p.getLast? = some (g [])) (hpl : p.length < 10) :
    (p ++ (cutP x o).map g ++ [g (cutR x o)]).drop ((p ++ (cutP x o).map g ++ [g (cutR x o)]).length - 4) = (pieces x o).map g := by
  have hl := cutP_len o x
  simp only [List.length_append, List.length_map, List.length_singleton, hl]
  obtain ⟨q, e, rfl⟩ : ∃ q e, p = q ++ [e] := by
    rcases List.eq_nil_or_concat p with rfl | ⟨q, e, rfl⟩
    · simp at hp
    · exact ⟨q, e, by simp⟩
  simp at hp
  subst hp
  unfold pieces
  rcases h with h | h
  · rw [if_pos h, h]
    simp only [List.length_append, List.length_singleton]
    rw [show q.length + 1 + 2 + 1 - 4 = q.length by (first | lia | omega), List.append_assoc, List.append_assoc, List.drop_left]
    simp
  · rw [if_neg (by (first | lia | omega)), h]
    simp only [List.length_append, List.length_singleton]
    rw [show q.length + 1 + 3 + 1 - 4 = (q ++ [g []]).length by simp, List.append_assoc, List.drop_left]
    simp
end
end Mine

namespace Mine

theorem str_empty : Str.ofString "" = tx [] := by decide +kernel
theorem evE_bin {C : Nat → List AV → Option AV} {o : Bop} {a b : PE} {ρ : Loc} {v u : AV} (ha : evE C a ρ = some v) (hb : evE C b ρ = some u) : evE C (.bin o a b) ρ = binV o v u := by rw [qE8, ha, Option.bind_some, hb, Option.bind_some]
theorem evE_slice {C : Nat → List AV → Option AV} {a lo hi st : PE} {ρ : Loc} {v l h s : AV} (ha : evE C a ρ = some v) (hl : evE C lo ρ = some l) (hh : evE C hi ρ = some h) (hs : evE C st ρ = some s) : evE C (.slice a lo hi st) ρ = sliceV v l h s := by
  rw [qE13, ha, Option.bind_some, hl, Option.bind_some, hh, Option.bind_some, hs, Option.bind_some]
theorem evE_lit {C : Nat → List AV → Option AV} {v : AV} {ρ : Loc} : evE C (.lit v) ρ = some v := by rw [qE1]
theorem pieces_len {x o : List Nat} (h : o.length = 2 ∨ o.length = 3) : (pieces x o).length = 4 := by
  unfold pieces
  rw [List.length_append, List.length_append, cutP_len]
  rcases h with h | h
  · rw [if_pos h, h]; rfl
  · rw [if_neg (by (first | lia | omega)), h]; rfl

theorem cut_ok (n : Nat) {x o : List Nat} {ruler : List Int} (h : o.length = 2 ∨ o.length = 3) (hg : gi 3 none ruler = some (o.map fun (i : Nat) => (i : Int))) :
    evCall tab' (n + 1) 14 [W x, iL ruler] = some (.list ((pieces x o).map W)) := by
  rw [call_eq tab_law_cut rfl]
  generalize evCall tab' n = C
  obtain ⟨t3, t4, hl⟩ := cut_loop (C := C) (rest := List.replicate 9 .no) (s1 := .val (iL ruler)) o x 0 [] .no .no (by simp; (first | lia | omega))
  refine evFn_ret (ρ := .val (W x) :: .val (iL ruler) :: List.replicate 12 .no) (ρ' := .val (W (cutR x o)) :: .val (iL ruler) :: .val (.list ((cutP x o).map W)) :: t3 :: t4 :: List.replicate 9 .no) rfl ?_
  unfold fn_law_cut
  dsimp only
  rw [evB_next (s := .asgOwn 2 false (.list .nil)) (ρ' := .val (W x) :: .val (iL ruler) :: .own [] :: .no :: .no :: List.replicate 9 .no) rfl]
  have hI : evI C (.zipg 3 (.var 1)) (.val (W x) :: .val (iL ruler) :: .own [] :: .no :: .no :: List.replicate 9 .no) = some (zipIdx 0 (o.map fun (i : Nat) => (i : Int))) := by
    rw [qI4]
    show zipgV 3 (iL ruler) = _
    show (ints? (ruler.map .int)).bind _ = _
    rw [ints_map, Option.bind_some, hg]; rfl
  rw [evB_next ((evS_for hI).trans hl)]
  refine evB_ret ?_
  rw [qS17]
  have hf : Mine.freeze (.val (W (cutR x o)) :: .val (iL ruler) :: .own ([] ++ (cutP x o).map W) :: t3 :: t4 :: List.replicate 9 .no) (reads (.slice (.bin .add (.bin .add (.list (.cons (.lit (.str (Str.ofString ""))) (.cons (.lit (.str (Str.ofString ""))) (.cons (.lit (.str (Str.ofString ""))) .nil)))) (.var 2)) (.list (.cons (.var 0) .nil))) (.neg (.lit (.int (4)))) (.lit .none) (.lit .none))) = .val (W (cutR x o)) :: .val (iL ruler) :: .val (.list ((cutP x o).map W)) :: t3 :: t4 :: List.replicate 9 .no := rfl
  simp only [hf]
  have hcl := cutP_len o x
  have z3 : [W [], W [], W []].length ≤ sizeLine := by rw [sizeLine_eq]; exact (by decide : 3 ≤ 16777216)
  have z1 : [W (cutR x o)].length ≤ sizeLine := by rw [sizeLine_eq]; exact (by decide : 1 ≤ 16777216)
  have h3 : evE C (.list (.cons (.lit (.str (Str.ofString ""))) (.cons (.lit (.str (Str.ofString ""))) (.cons (.lit (.str (Str.ofString ""))) .nil)))) (.val (W (cutR x o)) :: .val (iL ruler) :: .val (.list ((cutP x o).map W)) :: t3 :: t4 :: List.replicate 9 .no) = some (.list [W [], W [], W []]) := by
    rw [str_empty]; exact evE_list rfl z3
  have h2 : evE C (.var 2) (.val (W (cutR x o)) :: .val (iL ruler) :: .val (.list ((cutP x o).map W)) :: t3 :: t4 :: List.replicate 9 .no) = some (.list ((cutP x o).map W)) := rfl
  have h1 : evE C (.list (.cons (.var 0) .nil)) (.val (W (cutR x o)) :: .val (iL ruler) :: .val (.list ((cutP x o).map W)) :: t3 :: t4 :: List.replicate 9 .no) = some (.list [W (cutR x o)]) := evE_list rfl z1
  have hn : evE C (.neg (.lit (.int (4)))) (.val (W (cutR x o)) :: .val (iL ruler) :: .val (.list ((cutP x o).map W)) :: t3 :: t4 :: List.replicate 9 .no) = some (.int (-((4 : Nat) : Int))) := rfl
  have hz : ([W [], W [], W []] ++ (cutP x o).map W ++ [W (cutR x o)]).length ≤ sizeLine := by
    simp only [List.length_append, List.length_map, hcl, List.length_cons, List.length_nil, sizeLine_eq]; (first | lia | omega)
  have hab := (evE_bin (o := .add) h3 h2).trans (a_list (by simp only [List.length_map, hcl, List.length_cons, List.length_nil, sizeLine_eq]; (first | lia | omega)))
  have hall := (evE_bin (o := .add) hab h1).trans (a_list (by rw [List.length_append] at hz; exact hz))
  rw [evE_slice hall hn evE_lit evE_lit, l_back _ 4 (by decide) hz, last4 (g := W) h rfl (by decide)]
  rfl

theorem shared_ok (n : Nat) {x o : List Nat} (h : o.length = 2 ∨ o.length = 3) (hx : x.length ≤ 9) :
    evCall tab' (n + 1) 20 [Fg x, iL (o.map fun (i : Nat) => (i : Int))] = some (.list ((pieces x o).map Fg)) := by
  rw [call_eq tab_law_shared rfl]
  generalize evCall tab' n = C
  obtain ⟨t3, hl⟩ := sh_loop (C := C) (rest := List.replicate 6 .no) (s1 := .val (iL (o.map fun (i : Nat) => (i : Int)))) o x [] .no (by simp; (first | lia | omega)) hx
  refine evFn_ret (ρ := .val (Fg x) :: .val (iL (o.map fun (i : Nat) => (i : Int))) :: List.replicate 8 .no) (ρ' := .val (Fg (cutR x o)) :: .val (iL (o.map fun (i : Nat) => (i : Int))) :: .val (.list ((cutP x o).map Fg)) :: t3 :: List.replicate 6 .no) rfl ?_
  unfold fn_law_shared
  dsimp only
  rw [evB_next (s := .asgOwn 2 false (.list .nil)) (ρ' := .val (Fg x) :: .val (iL (o.map fun (i : Nat) => (i : Int))) :: .own [] :: .no :: List.replicate 6 .no) rfl]
  have hI : evI C (.expr (.var 1)) (.val (Fg x) :: .val (iL (o.map fun (i : Nat) => (i : Int))) :: .own [] :: .no :: List.replicate 6 .no) = some ((o.map fun (i : Nat) => (i : Int)).map .int) := rfl
  rw [evB_next ((evS_for hI).trans hl)]
  refine evB_ret ?_
  rw [qS17]
  have hf : Mine.freeze (.val (Fg (cutR x o)) :: .val (iL (o.map fun (i : Nat) => (i : Int))) :: .own ([] ++ (cutP x o).map Fg) :: t3 :: List.replicate 6 .no) (reads (.slice (.bin .add (.bin .add (.list (.cons (.list .nil) .nil)) (.var 2)) (.list (.cons (.var 0) .nil))) (.neg (.lit (.int (4)))) (.lit .none) (.lit .none))) = .val (Fg (cutR x o)) :: .val (iL (o.map fun (i : Nat) => (i : Int))) :: .val (.list ((cutP x o).map Fg)) :: t3 :: List.replicate 6 .no := rfl
  simp only [hf]
  have hcl := cutP_len o x
  have z0 : ([] : List AV).length ≤ sizeLine := by rw [sizeLine_eq]; exact (by decide : 0 ≤ 16777216)
  have z3 : [Fg []].length ≤ sizeLine := by rw [sizeLine_eq]; exact (by decide : 1 ≤ 16777216)
  have z1 : [Fg (cutR x o)].length ≤ sizeLine := by rw [sizeLine_eq]; exact (by decide : 1 ≤ 16777216)
  have h3 : evE C (.list (.cons (.list .nil) .nil)) (.val (Fg (cutR x o)) :: .val (iL (o.map fun (i : Nat) => (i : Int))) :: .val (.list ((cutP x o).map Fg)) :: t3 :: List.replicate 6 .no) = some (.list [Fg []]) := by
    refine evE_list ?_ z3
    rw [qEs2, evE_list rfl z0]; rfl
  have h2 : evE C (.var 2) (.val (Fg (cutR x o)) :: .val (iL (o.map fun (i : Nat) => (i : Int))) :: .val (.list ((cutP x o).map Fg)) :: t3 :: List.replicate 6 .no) = some (.list ((cutP x o).map Fg)) := rfl
  have h1 : evE C (.list (.cons (.var 0) .nil)) (.val (Fg (cutR x o)) :: .val (iL (o.map fun (i : Nat) => (i : Int))) :: .val (.list ((cutP x o).map Fg)) :: t3 :: List.replicate 6 .no) = some (.list [Fg (cutR x o)]) := evE_list rfl z1
  have hn : evE C (.neg (.lit (.int (4)))) (.val (Fg (cutR x o)) :: .val (iL (o.map fun (i : Nat) => (i : Int))) :: .val (.list ((cutP x o).map Fg)) :: t3 :: List.replicate 6 .no) = some (.int (-((4 : Nat) : Int))) := rfl
  have hz : ([Fg []] ++ (cutP x o).map Fg ++ [Fg (cutR x o)]).length ≤ sizeLine := by
    simp only [List.length_append, List.length_map, hcl, List.length_cons, List.length_nil, sizeLine_eq]; (first | lia | omega)
  have hab := (evE_bin (o := .add) h3 h2).trans (a_list (by simp only [List.length_map, hcl, List.length_cons, List.length_nil, sizeLine_eq]; (first | lia | omega)))
  have hall := (evE_bin (o := .add) hab h1).trans (a_list (by rw [List.length_append] at hz; exact hz))
  rw [evE_slice hall hn evE_lit evE_lit, l_back _ 4 (by decide) hz, last4 (g := Fg) h rfl (by decide)]
  rfl
end Mine

namespace Mine

section
variable {n : Nat} {rest : Loc}

theorem evE_call {C : Nat → List AV → Option AV} {f : Nat} {ps : PEs} {ρ : Loc} {vs : List AV} {r : AV} (h : evEs C ps ρ = some vs) (hc : C f vs = some r) : evE C (.call f ps) ρ = some r := by rw [qE10, h, Option.bind_some, hc]
theorem evEs_two {C : Nat → List AV → Option AV} {a b : PE} {ρ : Loc} {v u : AV} (ha : evE C a ρ = some v) (hb : evE C b ρ = some u) : evEs C (.cons a (.cons b .nil)) ρ = some [v, u] := by rw [qEs2, ha, Option.bind_some, qEs2, hb, Option.bind_some, qEs1]; rfl
theorem evS_asg {C : Nat → List AV → Option AV} {i : Nat} {e : PE} {ρ : Loc} {v : AV} (hf : Mine.freeze ρ (reads e) = ρ) (h : evE C e ρ = some v) : evS C (.asg i e) ρ = some (.next, ρ.set i (.val v)) := by rw [qS1]; simp only [hf]; rw [h]; rfl

noncomputable def WordOK (l : List Nat) (k : Nat) (w : Int) : Prop := (k = 1 ∨ k = 2) ∧ (tokGet (tx (l.take 2))).isSome = decide (k = 2) ∧
  (tokGet (tx (l.take k)) = some w ∨ (tokGet (tx (l.take k)) = none ∧ ∃ a : Nat, l[0]? = some a ∧ 97 ≤ a ∧ a ≤ 100 ∧ w = 256 + ((a : Int) - 97)))

theorem rd_body {l : List Nat} {k : Nat} {w : Int} {xs ys : List AV} {s2 s3 : Slot} (h : WordOK l k w) (hx : xs.length + 1 < sizeLine) (hy : ys.length < sizeLine) :
    evB (evCall tab' (n + 1)) p_l_read_w1b (.val (.str (tx l)) :: .own2 xs ys :: s2 :: s3 :: rest) =
      some (.next, .val (.str (tx (l.drop k))) :: (if w = 12 then .own2 (xs ++ [.list ys]) [] else .own2 xs (ys ++ [.int w])) :: .val (.int k) :: .val (.int w) :: rest) := by
  obtain ⟨hk, h2, hw⟩ := h
  unfold p_l_read_w1b
  have hs2 : ∀ ρ : Loc, valAt ρ 0 = some (.str (tx l)) → evE (evCall tab' (n + 1)) (.slice (.var 0) (.lit .none) (.lit (.int (2))) (.lit .none)) ρ = some (.str (tx (l.take 2))) := fun ρ h0 => by
    rw [evE_slice (v := .str (tx l)) (by rw [qE2, h0]) evE_lit evE_lit evE_lit]
    exact s_to l 2
  have hsk : ∀ ρ : Loc, valAt ρ 0 = some (.str (tx l)) → valAt ρ 2 = some (.int k) → evE (evCall tab' (n + 1)) (.slice (.var 0) (.lit .none) (.var 2) (.lit .none)) ρ = some (.str (tx (l.take k))) := fun ρ h0 h2 => by
    rw [evE_slice (v := .str (tx l)) (by rw [qE2, h0]) evE_lit (by rw [qE2, h2]) evE_lit]
    exact s_to l k
  have e1 : evE (evCall tab' (n + 1)) (.ite (.call 4 (.cons (.lit .tok) (.cons (.slice (.var 0) (.lit .none) (.lit (.int (2))) (.lit .none)) .nil))) (.lit (.int (2))) (.lit (.int (1)))) (.val (.str (tx l)) :: .own2 xs ys :: s2 :: s3 :: rest) = some (.int k) := by
    rw [qE9, evE_call (evEs_two evE_lit (hs2 _ rfl)) (c_contains n _), Option.bind_some, t_bool, Option.bind_some, h2]
    rcases hk with rfl | rfl
    · rw [if_neg (by decide), qE1]; rfl
    · rw [if_pos (by decide), qE1]; rfl
  rw [evB_next (evS_asg (by rfl) e1)]
  show evB _ _ (.val (.str (tx l)) :: .own2 xs ys :: .val (.int k) :: s3 :: rest) = _
  have hT : evT (evCall tab' (n + 1)) (.call 4 (.cons (.lit .tok) (.cons (.slice (.var 0) (.lit .none) (.var 2) (.lit .none)) .nil))) (.val (.str (tx l)) :: .own2 xs ys :: .val (.int k) :: s3 :: rest) = some (tokGet (tx (l.take k))).isSome := by
    unfold evT
    rw [evE_call (evEs_two evE_lit (hsk _ rfl rfl)) (c_contains n _), Option.bind_some, t_bool]
  have h3 : evS (evCall tab' (n + 1)) (.ifs (.call 4 (.cons (.lit .tok) (.cons (.slice (.var 0) (.lit .none) (.var 2) (.lit .none)) .nil))) (.cons (.asg 3 (.call 5 (.cons (.lit .tok) (.cons (.slice (.var 0) (.lit .none) (.var 2) (.lit .none)) .nil)))) .nil) (.cons (.asg 3 (.call 1 (.cons (.lit (.int (256))) (.cons (.idxOf 0) .nil)))) .nil)) (.val (.str (tx l)) :: .own2 xs ys :: .val (.int k) :: s3 :: rest) =
      some (.next, .val (.str (tx l)) :: .own2 xs ys :: .val (.int k) :: .val (.int w) :: rest) := by
    refine (evS_if hT).trans ?_
    rcases hw with hw | ⟨hw, a, ha, a1, a2, ew⟩
    · rw [hw, if_pos (show (some w).isSome = true from rfl)]
      exact (evB_next (evS_asg (by rfl) (evE_call (evEs_two evE_lit (hsk _ rfl rfl)) (c_getTok n _ w hw)))).trans rfl
    · rw [hw, if_neg (show ¬ ((none : Option Int).isSome = true) from Bool.false_ne_true)]
      have hidx : evE (evCall tab' (n + 1)) (.idxOf 0) (.val (.str (tx l)) :: .own2 xs ys :: .val (.int k) :: s3 :: rest) = some (.int ((a : Int) - 97)) := by
        rw [qE18]
        show Option.bind ((tx l).cps[0]?) _ = _
        rw [tx_get, ha, Option.bind_some, if_pos ⟨a1, a2⟩]
      refine (evB_next (evS_asg (by rfl) (evE_call (evEs_two evE_lit hidx) (c_add n _ _)))).trans ?_
      rw [ew]; rfl
  rw [evB_next h3]
  have hT2 : evT (evCall tab' (n + 1)) (.cmp .eq (.var 3) (.lit (.int (12)))) (.val (.str (tx l)) :: .own2 xs ys :: .val (.int k) :: .val (.int w) :: rest) = some (w == 12) := rfl
  have h4 : evS (evCall tab' (n + 1)) (.ifs (.cmp .eq (.var 3) (.lit (.int (12)))) (.cons (.appendNew 1) .nil) (.cons (.appendLast 1 (.var 3)) .nil)) (.val (.str (tx l)) :: .own2 xs ys :: .val (.int k) :: .val (.int w) :: rest) =
      some (.next, .val (.str (tx l)) :: (if w = 12 then .own2 (xs ++ [.list ys]) [] else .own2 xs (ys ++ [.int w])) :: .val (.int k) :: .val (.int w) :: rest) := by
    refine (evS_if hT2).trans ?_
    by_cases h12 : w = 12
    · rw [if_pos h12, if_pos (by rw [h12]; rfl)]
      refine (evB_next ?_).trans rfl
      rw [qS13]
      simp only [List.getElem?_cons_zero, List.getElem?_cons_succ]
      rw [if_pos hx]; rfl
    · rw [if_neg h12, if_neg (by simpa using h12)]
      refine (evB_next ?_).trans rfl
      rw [qS12]
      have hf : Mine.freeze (.val (.str (tx l)) :: .own2 xs ys :: .val (.int k) :: .val (.int w) :: rest) (reads (.var 3)) = (.val (.str (tx l)) :: .own2 xs ys :: .val (.int k) :: .val (.int w) :: rest) := rfl
      simp only [hf, List.getElem?_cons_zero, List.getElem?_cons_succ]
      have hv : evE (evCall tab' (n + 1)) (.var 3) (.val (.str (tx l)) :: .own2 xs ys :: .val (.int k) :: .val (.int w) :: rest) = some (.int w) := rfl
      rw [hv, Option.bind_some, if_pos hy]; rfl
  rw [evB_next h4]
  generalize (if w = 12 then Slot.own2 (xs ++ [.list ys]) [] else .own2 xs (ys ++ [.int w])) = sl
  have h5 : evE (evCall tab' (n + 1)) (.slice (.var 0) (.var 2) (.lit .none) (.lit .none)) (.val (.str (tx l)) :: sl :: .val (.int k) :: .val (.int w) :: rest) = some (.str (tx (l.drop k))) := by
    rw [evE_slice (v := .str (tx l)) (l := .int k) (by rw [qE2]; rfl) (by rw [qE2]; rfl) evE_lit evE_lit]
    exact s_from l k
  exact (evB_next (evS_asg (by rfl) h5)).trans rfl

noncomputable abbrev rdW (n : Nat) (f : Nat) (ρ : Loc) : Option (Fl × Loc) := evWh (evT (evCall tab' (n + 1)) p_l_read_w1c) (fun ρ => evB (evCall tab' (n + 1)) p_l_read_w1b ρ) f ρ
theorem rd_wh {l : List Nat} {k f : Nat} {w : Int} {xs ys : List AV} {s2 s3 : Slot} (hl : l ≠ []) (h : WordOK l k w) (hx : xs.length + 1 < sizeLine) (hy : ys.length < sizeLine) :
    rdW n (f + 1) (.val (.str (tx l)) :: .own2 xs ys :: s2 :: s3 :: rest) = rdW n f (.val (.str (tx (l.drop k))) :: (if w = 12 then .own2 (xs ++ [.list ys]) [] else .own2 xs (ys ++ [.int w])) :: .val (.int k) :: .val (.int w) :: rest) := by
  have hT : evT (evCall tab' (n + 1)) p_l_read_w1c (.val (.str (tx l)) :: .own2 xs ys :: s2 :: s3 :: rest) = some true := by
    show some ((tx l).length != 0) = _
    rw [tx_len]
    cases l with
    | nil => exact absurd rfl hl
    | cons a r => rfl
  show evWh _ _ (f + 1) _ = _
  rw [qW2, hT, Option.bind_some, if_pos rfl, rd_body h hx hy]
  rfl
theorem rd_end {f : Nat} {s1 s2 s3 : Slot} : rdW n (f + 1) (.val (.str (tx [])) :: s1 :: s2 :: s3 :: rest) = some (.next, .val (.str (tx [])) :: s1 :: s2 :: s3 :: rest) := rfl

/-- a drawn step: from, to, sign -/
noncomputable abbrev Dr := Nat × Nat × Nat
noncomputable def DrOK (d : Dr) : Prop := d.1 < 4 ∧ d.2.1 < 4 ∧ d.2.2 < 2
noncomputable def opC (k : Nat) : Nat := if k = 0 then 43 else 45
noncomputable def codes (d : Dr) : List Nat := [97 + d.1, opC d.2.2, 61, 97 + d.2.1]
noncomputable def textC : List Dr → List Nat
  | [] => []
  | [d] => codes d
  | d :: r => codes d ++ 44 :: textC r
noncomputable def rowV (d : Dr) : List AV := [.int ((256 + d.1 : Nat) : Int), .int ((36 + d.2.2 : Nat) : Int), .int ((256 + d.2.1 : Nat) : Int)]

theorem tok_l2 : ∀ s, s < 4 → ∀ b ∈ [43, 45, 44], tokGet (tx [97 + s, b]) = none := by decide +kernel
theorem tok_l1 : ∀ s, s < 4 → tokGet (tx [97 + s]) = none := by decide +kernel
theorem tok_op : ∀ k, k < 2 → tokGet (tx [opC k, 61]) = some ((36 + k : Nat) : Int) := by decide +kernel
theorem tok_c2 : ∀ s, s < 4 → tokGet (tx [44, 97 + s]) = none := by decide +kernel
theorem tok_c1 : tokGet (tx [44]) = some 12 := by decide +kernel

theorem word_letter {s : Nat} {r : List Nat} (hs : s < 4) (hr : r = [] ∨ ∃ b t, r = b :: t ∧ b ∈ [43, 45, 44]) : WordOK ((97 + s) :: r) 1 ((256 + s : Nat) : Int) := by
  refine ⟨.inl rfl, ?_, .inr ⟨tok_l1 s hs, 97 + s, rfl, by (first | lia | omega), by (first | lia | omega), by (first | lia | omega)⟩⟩
  rcases hr with rfl | ⟨b, t, rfl, hb⟩
  · show (tokGet (tx [97 + s])).isSome = _
    rw [tok_l1 s hs]; rfl
  · show (tokGet (tx [97 + s, b])).isSome = _
    rw [tok_l2 s hs b hb]; rfl
theorem word_op {k : Nat} {r : List Nat} (hk : k < 2) : WordOK (opC k :: 61 :: r) 2 ((36 + k : Nat) : Int) := by
  refine ⟨.inr rfl, ?_, .inl (tok_op k hk)⟩
  show (tokGet (tx [opC k, 61])).isSome = _
  rw [tok_op k hk]; rfl
theorem word_comma {s : Nat} {r : List Nat} (hs : s < 4) : WordOK (44 :: (97 + s) :: r) 1 12 := by
  refine ⟨.inl rfl, ?_, .inl tok_c1⟩
  show (tokGet (tx [44, 97 + s])).isSome = _
  rw [tok_c2 s hs]; rfl

theorem rd_row {d : Dr} (hd : DrOK d) {t : List Nat} (ht : t = [] ∨ ∃ r, t = 44 :: r) {xs : List AV} {f : Nat} {s2 s3 : Slot} (hx : xs.length < 100) :
    ∃ t2 t3 : Slot, rdW n (f + 3) (.val (.str (tx (codes d ++ t))) :: .own2 xs [] :: s2 :: s3 :: rest) = rdW n f (.val (.str (tx t)) :: .own2 xs (rowV d) :: t2 :: t3 :: rest) := by
  obtain ⟨s, g, k⟩ := d
  obtain ⟨h1, h2, h3⟩ := hd
  dsimp only at h1 h2 h3
  have hxz : xs.length + 1 < sizeLine := by rw [sizeLine_eq]; (first | lia | omega)
  have n1 : ((256 + s : Nat) : Int) ≠ 12 := by (first | lia | omega)
  have n2 : ((36 + k : Nat) : Int) ≠ 12 := by (first | lia | omega)
  have n3 : ((256 + g : Nat) : Int) ≠ 12 := by (first | lia | omega)
  have hop : opC k ∈ [43, 45, 44] := by
    have : k = 0 ∨ k = 1 := by (first | lia | omega)
    rcases this with rfl | rfl <;> decide
  have z0 : ([] : List AV).length < sizeLine := by rw [sizeLine_eq]; exact (by decide : 0 < 16777216)
  have z1 : ([] ++ [AV.int ((256 + s : Nat) : Int)]).length < sizeLine := by rw [sizeLine_eq]; exact (by decide : 1 < 16777216)
  have z2 : ([] ++ [AV.int ((256 + s : Nat) : Int)] ++ [AV.int ((36 + k : Nat) : Int)]).length < sizeLine := by rw [sizeLine_eq]; exact (by decide : 2 < 16777216)
  refine ⟨.val (.int (1 : Nat)), .val (.int ((256 + g : Nat) : Int)), ?_⟩
  have e1 := rd_wh (n := n) (rest := rest) (f := f + 2) (s2 := s2) (s3 := s3) (List.cons_ne_nil _ _) (word_letter (r := opC k :: 61 :: (97 + g) :: t) h1 (.inr ⟨_, _, rfl, hop⟩)) hxz z0
  rw [if_neg n1] at e1
  have e2 := rd_wh (n := n) (rest := rest) (f := f + 1) (s2 := .val (.int (1 : Nat))) (s3 := .val (.int ((256 + s : Nat) : Int))) (List.cons_ne_nil _ _) (word_op (r := (97 + g) :: t) h3) hxz z1
  rw [if_neg n2] at e2
  have e3 := rd_wh (n := n) (rest := rest) (f := f) (s2 := .val (.int (2 : Nat))) (s3 := .val (.int ((36 + k : Nat) : Int))) (List.cons_ne_nil _ _) (word_letter (r := t) h2 (ht.imp id fun ⟨r, e⟩ => ⟨44, r, e, by decide⟩)) hxz z2
  rw [if_neg n3] at e3
  exact e1.trans (e2.trans e3)

theorem textC_head {d : Dr} {ds : List Dr} : ∃ r, textC (d :: ds) = (97 + d.1) :: r := by
  cases ds with
  | nil => exact ⟨_, rfl⟩
  | cons e r => exact ⟨_, rfl⟩
theorem rd_all : ∀ (ds : List Dr), ds ≠ [] → (∀ d ∈ ds, DrOK d) → ∀ (xs : List AV) (f : Nat) (s2 s3 : Slot), xs.length + ds.length < 100 →
    ∃ (xs' ys' : List AV) (t2 t3 : Slot), xs' ++ [.list ys'] = xs ++ ds.map (fun d => .list (rowV d)) ∧ rdW n (4 * ds.length + 1 + f) (.val (.str (tx (textC ds))) :: .own2 xs [] :: s2 :: s3 :: rest) = some (.next, .val (.str (tx [])) :: .own2 xs' ys' :: t2 :: t3 :: rest)
  | [], h, _, _, _, _, _, _ => absurd rfl h
  | [d], _, hd, xs, f, s2, s3, hx => by
    obtain ⟨t2, t3, h⟩ := rd_row (n := n) (rest := rest) (hd d (by simp)) (t := []) (.inl rfl) (xs := xs) (f := f + 2) (s2 := s2) (s3 := s3) (by simp at hx; (first | lia | omega))
    refine ⟨xs, rowV d, t2, t3, rfl, ?_⟩
    rw [List.append_nil] at h
    have : 4 * [d].length + 1 + f = f + 2 + 3 := by simp; (first | lia | omega)
    rw [this]
    exact h.trans rd_end
  | d :: e :: r, _, hd, xs, f, s2, s3, hx => by
    obtain ⟨t2, t3, h⟩ := rd_row (n := n) (rest := rest) (hd d (by simp)) (t := 44 :: textC (e :: r)) (.inr ⟨_, rfl⟩) (xs := xs) (f := 4 * (e :: r).length + 1 + f + 1) (s2 := s2) (s3 := s3) (by simp at hx; (first | lia | omega))
    obtain ⟨q, hq⟩ := textC_head (d := e) (ds := r)
    have hxz : xs.length + 1 < sizeLine := by rw [sizeLine_eq]; simp at hx; (first | lia | omega)
    have z3 : (rowV d).length < sizeLine := by rw [sizeLine_eq]; exact (by decide : 3 < 16777216)
    have e1 := rd_wh (n := n) (rest := rest) (f := 4 * (e :: r).length + 1 + f) (s2 := t2) (s3 := t3) (List.cons_ne_nil _ _) (word_comma (r := q) (hd e (by simp)).1) hxz z3
    rw [if_pos rfl] at e1
    obtain ⟨xs', ys', u2, u3, h1, h2⟩ := rd_all (e :: r) (by simp) (fun d' hd' => hd d' (List.mem_cons_of_mem _ hd')) (xs ++ [.list (rowV d)]) f (.val (.int (1 : Nat))) (.val (.int 12)) (by simp at hx ⊢; (first | lia | omega))
    refine ⟨xs', ys', u2, u3, ?_, ?_⟩
    · rw [h1, List.append_assoc]; rfl
    · have : 4 * (d :: e :: r).length + 1 + f = 4 * (e :: r).length + 1 + f + 1 + 3 := by simp; (first | lia | omega)
      rw [this]
      refine h.trans ?_
      rw [hq]
      refine e1.trans ?_
      rw [hq] at h2
      exact h2
end

theorem read_ok (n : Nat) {ds : List Dr} (hn : ds ≠ []) (hd : ∀ d ∈ ds, DrOK d) (h6 : ds.length ≤ 6) : evCall tab' (n + 2) 15 [.str (tx (textC ds))] = some (.list (ds.map fun d => .list (rowV d))) := by
  rw [call_eq tab_law_read rfl]
  obtain ⟨xs', ys', t2, t3, h1, h2⟩ := rd_all (n := n) (rest := List.replicate 11 .no) ds hn hd [] (999 - 4 * ds.length) .no .no (by simp; (first | lia | omega))
  have e : 4 * ds.length + 1 + (999 - 4 * ds.length) = 1000 := by (first | lia | omega)
  rw [e] at h2
  rw [List.nil_append] at h1
  refine evFn_ret (ρ := .val (.str (tx (textC ds))) :: List.replicate 14 .no) (ρ' := .val (.str (tx [])) :: .val (.list (ds.map fun d => .list (rowV d))) :: t2 :: t3 :: List.replicate 11 .no) rfl ?_
  unfold fn_law_read
  dsimp only
  rw [evB_next (s := .asgOwn2 1) (ρ' := .val (.str (tx (textC ds))) :: .own2 [] [] :: .no :: .no :: List.replicate 11 .no) rfl]
  rw [evB_next (s := .whiles p_l_read_w1c p_l_read_w1b) ((by rw [qS15] : evS _ _ _ = _).trans h2)]
  rw [← h1]
  exact evB_ret rfl
end Mine

namespace Mine

noncomputable def pc (ps : List (List Nat)) (i : Nat) : List Nat := ps.getD i []
noncomputable def stOf (ps : List (List Nat)) (d : Dr) : St4 := (d.1, d.2.1, d.2.2, D (pc ps d.1) (pc ps d.2.1))
structure PsOK (ps : List (List Nat)) : Prop where
  len : ps.length = 4
  fig : ∀ i, Fig (pc ps i)
  nine : ∀ i j, i < 4 → j < 4 → i ≠ j → (pc ps i).length + (pc ps j).length ≤ 9
theorem PsOK.get {ps : List (List Nat)} (h : PsOK ps) {i : Nat} (hi : i < 4) : ps[i]? = some (pc ps i) := by
  have hl : i < ps.length := by rw [h.len]; exact hi
  unfold pc
  rw [List.getD_eq_getElem?_getD, List.getElem?_eq_getElem hl]; rfl

section
variable {n : Nat}

theorem evEs_one {C : Nat → List AV → Option AV} {a : PE} {ρ : Loc} {v : AV} (ha : evE C a ρ = some v) : evEs C (.cons a .nil) ρ = some [v] := by rw [qEs2, ha, Option.bind_some, qEs1]; rfl
theorem evEs_cons {C : Nat → List AV → Option AV} {a : PE} {r : PEs} {ρ : Loc} {v : AV} {vs : List AV} (ha : evE C a ρ = some v) (hr : evEs C r ρ = some vs) : evEs C (.cons a r) ρ = some (v :: vs) := by rw [qEs2, ha, Option.bind_some, hr]; rfl
theorem evEs_nil {C : Nat → List AV → Option AV} {ρ : Loc} : evEs C .nil ρ = some [] := by rw [qEs1]
theorem evE_var {C : Nat → List AV → Option AV} {i : Nat} {ρ : Loc} {v : AV} (h : valAt ρ i = some v) : evE C (.var i) ρ = some v := by rw [qE2, h]
theorem evE_subV {C : Nat → List AV → Option AV} {i : Nat} {j : PE} {ρ : Loc} {v u : AV} (h : baseAt ρ i = some v) (hj : evE C j ρ = some u) : evE C (.sub (.var i) j) ρ = subV v u := by
  rw [qE0]; simp only [h, Option.bind_some]; rw [hj, Option.bind_some]

/-- which words of a row are places -/
theorem sp_f {ρ : Loc} (h8 : ρ.length = 13) (v : Int) : ((bindV ρ [8] (.int v)).bind fun ρ' => (evE (evCall tab' (n + 1)) (.call 10 (.cons (.var 8) .nil)) ρ').bind fun c => (truth c).bind fun t => if t then (evE (evCall tab' (n + 1)) p_l_steps_w1e ρ').map some else some none) = some (if 256 ≤ v then some (.int (v - 256)) else none) := by
  have hv : valAt (ρ.set 8 (.val (.int v))) 8 = some (.int v) := by
    unfold valAt
    rw [List.getElem?_set_self (by (first | lia | omega))]
  show (Option.bind (some (ρ.set 8 (.val (.int v)))) _) = _
  rw [Option.bind_some, evE_call (evEs_one (evE_var hv)) (c_isNT n v), Option.bind_some, t_bool, Option.bind_some]
  by_cases h : 256 ≤ v
  · rw [decide_eq_true h, if_pos rfl, if_pos h]
    unfold p_l_steps_w1e
    rw [evE_call (evEs_two (evE_var hv) evE_lit) (c_sub n v 256)]; rfl
  · rw [decide_eq_false h, if_neg (by decide), if_neg h]

theorem sp_comp {ρ : Loc} (h8 : ρ.length = 13) {d : Dr} (h3 : valAt ρ 3 = some (.list (rowV d))) (hd : DrOK d) : evE (evCall tab' (n + 1)) (.comp p_l_steps_w1e [8] (.expr (.var 3)) (.call 10 (.cons (.var 8) .nil))) ρ = some (.list [.int d.1, .int d.2.1]) := by
  obtain ⟨s, g, k⟩ := d
  obtain ⟨h1, h2, hk⟩ := hd
  dsimp only at h1 h2 hk ⊢
  have z : (rowV (s, g, k)).length ≤ sizeLine := by rw [sizeLine_eq]; exact (by decide : 3 ≤ 16777216)
  have hI : evI (evCall tab' (n + 1)) (.expr (.var 3)) ρ = some (rowV (s, g, k)) := by rw [qI1, evE_var h3]; rfl
  have e1 : ((256 + s : Nat) : Int) - 256 = s := by (first | lia | omega)
  have e2 : ((256 + g : Nat) : Int) - 256 = g := by (first | lia | omega)
  rw [qE19, hI, Option.bind_some]
  have a1 : (256 : Int) ≤ ((256 + s : Nat) : Int) := by (first | lia | omega)
  have a2 : ¬ (256 : Int) ≤ ((36 + k : Nat) : Int) := by (first | lia | omega)
  have a3 : (256 : Int) ≤ ((256 + g : Nat) : Int) := by (first | lia | omega)
  unfold rowV at z ⊢
  dsimp only at z ⊢
  rw [qFC, sp_f h8, Option.bind_some, qFC, sp_f h8, Option.bind_some, qFC, sp_f h8, Option.bind_some, qFC0, if_pos a1, if_neg a2, if_pos a3, e1, e2, Option.map_some, Option.map_some, Option.map_some, Option.bind_some, if_pos z]

theorem sp_body {ps : List (List Nat)} (hp : PsOK ps) {d : Dr} (hd : DrOK d) (hne : d.1 ≠ d.2.1) {s0 s3 s4 s5 : Slot} {acc : List AV} (hz : acc.length < sizeLine) {rest : Loc} (hr : rest.length = 7) :
    ((bindV (s0 :: .val (.list (ps.map W)) :: .own acc :: s3 :: s4 :: s5 :: rest) [3] (.list (rowV d))).bind fun ρ' => evB (evCall tab' (n + 2)) p_l_steps_w2b ρ') =
      some (.next, s0 :: .val (.list (ps.map W)) :: .own (acc ++ [sV (stOf ps d)]) :: .val (.list (rowV d)) :: .val (.int d.1) :: .val (.int d.2.1) :: rest) := by
  show evB (evCall tab' (n + 2)) p_l_steps_w2b (s0 :: .val (.list (ps.map W)) :: .own acc :: .val (.list (rowV d)) :: s4 :: s5 :: rest) = _
  unfold p_l_steps_w2b
  have h1 : evS (evCall tab' (n + 2)) (.asgT [4, 5] (.comp p_l_steps_w1e [8] (.expr (.var 3)) (.call 10 (.cons (.var 8) .nil)))) (s0 :: .val (.list (ps.map W)) :: .own acc :: .val (.list (rowV d)) :: s4 :: s5 :: rest) =
      some (.next, s0 :: .val (.list (ps.map W)) :: .own acc :: .val (.list (rowV d)) :: .val (.int d.1) :: .val (.int d.2.1) :: rest) := by
    rw [qS4, sp_comp (n := n + 1) (by simp [hr]) rfl hd]; rfl
  rw [evB_next h1]
  refine (evB_next ?_).trans rfl
  rw [qS11]
  have hf : Mine.freeze (s0 :: .val (.list (ps.map W)) :: .own acc :: .val (.list (rowV d)) :: .val (.int d.1) :: .val (.int d.2.1) :: rest) (reads (.tup (.cons (.var 4) (.cons (.var 5) (.cons (.sub (.var 3) (.lit (.int (1)))) (.cons (.call 12 (.cons (.sub (.var 1) (.var 4)) (.cons (.sub (.var 1) (.var 5)) (.cons (.lit (.int (18))) .nil)))) .nil)))))) = (s0 :: .val (.list (ps.map W)) :: .own acc :: .val (.list (rowV d)) :: .val (.int d.1) :: .val (.int d.2.1) :: rest) := rfl
  simp only [hf, List.getElem?_cons_zero, List.getElem?_cons_succ]
  have g0 : (ps.map W)[d.1]? = some (W (pc ps d.1)) := by rw [List.getElem?_map, hp.get hd.1]; rfl
  have g1 : (ps.map W)[d.2.1]? = some (W (pc ps d.2.1)) := by rw [List.getElem?_map, hp.get hd.2.1]; rfl
  have v4 : evE (evCall tab' (n + 2)) (.var 4) (s0 :: .val (.list (ps.map W)) :: .own acc :: .val (.list (rowV d)) :: .val (.int d.1) :: .val (.int d.2.1) :: rest) = some (.int d.1) := evE_var rfl
  have v5 : evE (evCall tab' (n + 2)) (.var 5) (s0 :: .val (.list (ps.map W)) :: .own acc :: .val (.list (rowV d)) :: .val (.int d.1) :: .val (.int d.2.1) :: rest) = some (.int d.2.1) := evE_var rfl
  have w4 : evE (evCall tab' (n + 2)) (.sub (.var 1) (.var 4)) (s0 :: .val (.list (ps.map W)) :: .own acc :: .val (.list (rowV d)) :: .val (.int d.1) :: .val (.int d.2.1) :: rest) = some (W (pc ps d.1)) := (evE_subV (v := .list (ps.map W)) rfl v4).trans (idx_nat g0)
  have w5 : evE (evCall tab' (n + 2)) (.sub (.var 1) (.var 5)) (s0 :: .val (.list (ps.map W)) :: .own acc :: .val (.list (rowV d)) :: .val (.int d.1) :: .val (.int d.2.1) :: rest) = some (W (pc ps d.2.1)) := (evE_subV (v := .list (ps.map W)) rfl v5).trans (idx_nat g1)
  have r1 : evE (evCall tab' (n + 2)) (.sub (.var 3) (.lit (.int (1)))) (s0 :: .val (.list (ps.map W)) :: .own acc :: .val (.list (rowV d)) :: .val (.int d.1) :: .val (.int d.2.1) :: rest) = some (.int ((36 + d.2.2 : Nat) : Int)) := (evE_subV (v := .list (rowV d)) rfl evE_lit).trans (idx_nat (xs := rowV d) (k := 1) rfl)
  have lv : evE (evCall tab' (n + 2)) (.call 12 (.cons (.sub (.var 1) (.var 4)) (.cons (.sub (.var 1) (.var 5)) (.cons (.lit (.int (18))) .nil)))) (s0 :: .val (.list (ps.map W)) :: .own acc :: .val (.list (rowV d)) :: .val (.int d.1) :: .val (.int d.2.1) :: rest) = some (.int (D (pc ps d.1) (pc ps d.2.1))) :=
    evE_call (evEs_cons w4 (evEs_cons w5 (evEs_cons evE_lit evEs_nil))) (lev_ok n (hp.fig _) (hp.fig _) (hp.nine _ _ hd.1 hd.2.1 hne))
  have z4 : [AV.int (d.1 : Int), AV.int (d.2.1 : Int), AV.int ((36 + d.2.2 : Nat) : Int), AV.int (D (pc ps d.1) (pc ps d.2.1))].length ≤ sizeLine := by rw [sizeLine_eq]; exact (by decide : 4 ≤ 16777216)
  have ht : evE (evCall tab' (n + 2)) (.tup (.cons (.var 4) (.cons (.var 5) (.cons (.sub (.var 3) (.lit (.int (1)))) (.cons (.call 12 (.cons (.sub (.var 1) (.var 4)) (.cons (.sub (.var 1) (.var 5)) (.cons (.lit (.int (18))) .nil)))) .nil))))) (s0 :: .val (.list (ps.map W)) :: .own acc :: .val (.list (rowV d)) :: .val (.int d.1) :: .val (.int d.2.1) :: rest) = some (sV (stOf ps d)) := by
    rw [qE15, evEs_cons v4 (evEs_cons v5 (evEs_cons r1 (evEs_cons lv evEs_nil))), Option.bind_some, if_pos z4]
    rfl
  rw [ht, Option.bind_some, if_pos hz]
  rfl
end

theorem steps_ok (n : Nat) {ps : List (List Nat)} (hp : PsOK ps) {ds : List Dr} (hd : ∀ d ∈ ds, DrOK d ∧ d.1 ≠ d.2.1) (h6 : ds.length ≤ 6) :
    evCall tab' (n + 3) 16 [.list (ds.map fun d => .list (rowV d)), .list (ps.map W)] = some (.list ((ds.map (stOf ps)).map sV)) := by
  rw [call_eq tab_law_steps rfl]
  obtain ⟨ρ', h1, h2⟩ := evFor_inv (f := fun x ρ => (bindV ρ [3] x).bind fun ρ' => evB (evCall tab' (n + 2)) p_l_steps_w2b ρ') (ds.map fun d => .list (rowV d))
    (fun i ρ => ∃ s3 s4 s5, ρ = (.val (.list (ds.map fun d => .list (rowV d))) :: .val (.list (ps.map W)) :: .own (((ds.take i).map (stOf ps)).map sV) :: s3 :: s4 :: s5 :: List.replicate 7 .no)) (.val (.list (ds.map fun d => .list (rowV d))) :: .val (.list (ps.map W)) :: .own [] :: .no :: .no :: .no :: List.replicate 7 .no) ⟨.no, .no, .no, rfl⟩ (by
      rintro i x ρ hx ⟨s3, s4, s5, rfl⟩
      rw [List.getElem?_map, Option.map_eq_some_iff] at hx
      obtain ⟨d, hdi, rfl⟩ := hx
      obtain ⟨hok, hne⟩ := hd d (List.mem_of_getElem? hdi)
      have hz : (((ds.take i).map (stOf ps)).map sV).length < sizeLine := by
        rw [List.length_map, List.length_map, List.length_take, sizeLine_eq]; (first | lia | omega)
      refine ⟨.next, _, sp_body (n := n) hp hok hne hz rfl, .inl rfl, .val (.list (rowV d)), .val (.int d.1), .val (.int d.2.1), ?_⟩
      rw [List.take_add_one, hdi, List.map_append, List.map_append]; rfl)
  obtain ⟨s3, s4, s5, rfl⟩ := h2
  rw [List.length_map, List.take_length] at h1
  refine evFn_ret (ρ := .val (.list (ds.map fun d => .list (rowV d))) :: .val (.list (ps.map W)) :: .no :: .no :: .no :: .no :: List.replicate 7 .no) (ρ' := .val (.list (ds.map fun d => .list (rowV d))) :: .val (.list (ps.map W)) :: .val (.list ((ds.map (stOf ps)).map sV)) :: s3 :: s4 :: s5 :: List.replicate 7 .no) rfl ?_
  unfold fn_law_steps
  dsimp only
  rw [evB_next (s := .asgOwn 2 false (.list .nil)) (ρ' := .val (.list (ds.map fun d => .list (rowV d))) :: .val (.list (ps.map W)) :: .own [] :: .no :: .no :: .no :: List.replicate 7 .no) rfl]
  have hI : evI (evCall tab' (n + 2)) (.expr (.var 0)) (.val (.list (ds.map fun d => .list (rowV d))) :: .val (.list (ps.map W)) :: .own [] :: .no :: .no :: .no :: List.replicate 7 .no) = some (ds.map fun d => .list (rowV d)) := rfl
  rw [evB_next ((evS_for hI).trans h1)]
  exact evB_ret rfl
end Mine

namespace Mine

/-! ## joining texts -/
theorem glue_fold (g : List Nat) : ∀ (r : List (List Nat)) (acc : List Nat), (r.map tx).foldl (fun a p => a ++ (tx g).cps ++ p.cps) acc.toArray = (acc ++ r.flatMap fun p => g ++ p).toArray
  | [], acc => by simp
  | p :: r, acc => by
    rw [List.map_cons, List.foldl_cons]
    have : acc.toArray ++ (tx g).cps ++ (tx p).cps = (acc ++ g ++ p).toArray := by simp [tx]
    rw [this, glue_fold g r, List.flatMap_cons]
    congr 1
    simp
theorem join_tx (g a : List Nat) (r : List (List Nat)) : Txt.join (tx g) ((a :: r).map tx) = tx (a ++ r.flatMap fun p => g ++ p) := by
  show Str.mk _ = _
  rw [List.map_cons, List.drop_one, List.tail_cons, List.headD_cons]
  exact congrArg Str.mk (glue_fold g r a)
theorem sum_le {l : List (List Nat)} {b : Nat} (h : ∀ x ∈ l, x.length ≤ b) : ((l.map tx).map (·.length)).sum ≤ l.length * b := by
  induction l with
  | nil => simp
  | cons a r ih =>
    rw [List.map_cons, List.map_cons, List.sum_cons, List.length_cons, Nat.succ_mul]
    have h1 := h a List.mem_cons_self
    have h2 := ih fun x hx => h x (List.mem_cons_of_mem _ hx)
    have h3 : (tx a).length = a.length := rfl
    (first | lia | omega)
theorem joinV_tx {g : List Nat} {l : List (List Nat)} {a : List Nat} {r : List (List Nat)} (e : l = a :: r) (hb : ∀ x ∈ l, x.length ≤ 4) (hg : g.length ≤ 1) (hl : l.length ≤ 9) : joinV (.str (tx g)) (.list (l.map fun x => .str (tx x))) = some (.str (tx (a ++ r.flatMap fun p => g ++ p))) := by
  have hs : strs? (l.map fun x => .str (tx x)) = some (l.map tx) := by
    have := strs_map (l.map tx)
    rwa [List.map_map] at this
  have h1 : ((l.map tx).map (·.length)).sum + (l.map tx).length * (tx g).length ≤ 16777216 := by
    have h2 := sum_le hb
    have h3 : (l.map tx).length * (tx g).length ≤ 9 * 1 := Nat.mul_le_mul (by rw [List.length_map]; exact hl) hg
    have h4 : l.length * 4 ≤ 9 * 4 := Nat.mul_le_mul_right 4 hl
    exact Nat.le_trans (Nat.add_le_add (Nat.le_trans h2 h4) h3) (by decide)
  subst e
  have h5 : (Txt.join (tx g) ((a :: r).map tx)).length ≤ sizeLine := by
    rw [join_tx, tx_len, List.length_append, sizeLine_eq]
    have ha := hb a List.mem_cons_self
    have hf := flat_len (fun p => g ++ p) 5 r fun x hx => by
      have := hb x (List.mem_cons_of_mem _ hx)
      rw [List.length_append]; (first | lia | omega)
    rw [List.length_cons] at hl
    (first | lia | omega)
  unfold joinV
  dsimp only
  rw [hs, Option.bind_some, if_pos ⟨h1, h5⟩, join_tx]

/-! ## an environment without owned lists -/
structure Pu (ρ : Loc) : Prop where
  len : ρ.length = 31
  pure : ∀ (i : Nat) (sl : Slot), ρ[i]? = some sl → sl.owned = false
theorem Pu.freeze1 {ρ : Loc} (h : Pu ρ) (i : Nat) : Mine.freeze1 ρ i = ρ := by
  unfold Mine.freeze1
  split
  · rename_i e; cases h.pure _ _ e
  · rename_i e; cases h.pure _ _ e
  · rename_i e; cases h.pure _ _ e
  · rfl
theorem Pu.freeze {ρ : Loc} (h : Pu ρ) : ∀ is : List Nat, Mine.freeze ρ is = ρ
  | [] => rfl
  | i :: is => by
    show Mine.freeze (Mine.freeze1 ρ i) is = ρ
    rw [h.freeze1, h.freeze is]
theorem Pu.set {ρ : Loc} (h : Pu ρ) (i : Nat) (v : AV) : Pu (ρ.set i (.val v)) := by
  refine ⟨by rw [List.length_set, h.len], fun j sl e => ?_⟩
  by_cases hij : i = j
  · subst hij
    rw [List.getElem?_set] at e
    simp only [if_true] at e
    split at e
    · cases e; rfl
    · cases e
  · rw [List.getElem?_set_ne hij] at e; exact h.pure j sl e
theorem va_self {ρ : Loc} {i : Nat} {v : AV} (h : Pu ρ) (hi : i < 31) : valAt (ρ.set i (.val v)) i = some v := by
  unfold valAt
  rw [List.getElem?_set_self (by rw [h.len]; exact hi)]
theorem va_ne {ρ : Loc} {i j : Nat} {v : AV} (h : i ≠ j) : valAt (ρ.set i (.val v)) j = valAt ρ j := by
  unfold valAt
  rw [List.getElem?_set_ne h]
theorem ba_of {ρ : Loc} {i : Nat} {v : AV} (h : valAt ρ i = some v) : baseAt ρ i = some v := by
  unfold valAt at h
  unfold baseAt
  split at h
  · rename_i e; rw [e]; exact h
  · cases h

section
variable {C : Nat → List AV → Option AV} {ρ : Loc}
theorem Pu.asg (h : Pu ρ) {i : Nat} {e : PE} {v : AV} (he : evE C e ρ = some v) (r : PB) : evB C (.cons (.asg i e) r) ρ = evB C r (ρ.set i (.val v)) :=
  evB_next (evS_asg (h.freeze _) he)

theorem evE_sub' {a i : PE} {v u : AV} (ha : ∀ r, subB ρ r a = r) (h : evE C a ρ = some v) (hi : evE C i ρ = some u) : evE C (.sub a i) ρ = subV v u := by
  rw [qE12, ha, h, Option.bind_some, hi, Option.bind_some]
theorem b_mod {a b : Int} (hb : b ≠ 0) : binV .mod (.int a) (.int b) = some (.int (Int.fmod a b)) := if_pos hb
theorem b_fdivL {a b : Int} (h : b ≠ 0 ∧ b.natAbs < 1073741824) : binV .fdiv (.int a) (.int b) = some (.int (Int.fdiv a b)) := if_pos h
theorem b_addS {a b : Str} (h : a.length + b.length ≤ sizeLine) : binV .add (.str a) (.str b) = some (.str (a ++ b)) := if_pos h
theorem evE_bi {b : Bi} {ps : PEs} {vs : List AV} (h : evEs C ps ρ = some vs) : evE C (.bi b ps) ρ = biV b vs := by rw [qE11, h, Option.bind_some]

/-- the sum of every s-th cell from the place on -/
theorem sums {cs : List Int} (hc : cs.length ≤ 60) (s : Nat) (hs : 0 < s) : ∃ S : Nat → Int, ∀ (C : Nat → List AV → Option AV) (ρ : Loc) (k : Nat), valAt ρ 1 = some (iL cs) → valAt ρ 26 = some (.int k) → evE C (.bi .sumL (.cons (.slice (.var 1) (.var 26) (.lit .none) (.lit (.int (s : Int)))) .nil)) ρ = some (.int (S k)) := by
  have h : ∀ k : Nat, ∃ ms : List Int, sliceV (iL cs) (.int k) .none (.int (s : Int)) = some (iL ms) := fun k => l_step cs k s hs (by rw [sizeLine_eq]; (first | lia | omega))
  obtain ⟨f, hf⟩ := Classical.skolem.mp h
  refine ⟨fun k => (f k).sum, fun C ρ k h1 h26 => ?_⟩
  rw [evE_bi (evEs_one ((evE_slice (evE_var h1) (evE_var h26) evE_lit evE_lit).trans (hf k)))]
  exact sum_ints _
end
end Mine

namespace Mine

noncomputable abbrev tV (kf : Nat × Int) : AV := .tup [.int kf.1, .int kf.2]
noncomputable def k9 : List (Nat × Int) := [(0, 0), (1, 3), (2, 1), (3, 2), (4, 0), (5, 2), (6, 0), (7, 1), (8, 2)]
noncomputable def k3 : List (Nat × Int) := [(0, 1), (1, 2), (2, 0)]
noncomputable def k6 : List (Nat × Int) := [(0, 0), (1, 13), (2, 6), (3, 14), (4, 7), (5, 9)]
noncomputable abbrev dV (d : Dr) : AV := .tup [.int d.1, .int d.2.1, .int d.2.2]

section
variable {C : Nat → List AV → Option AV} {ρ : Loc}

theorem small_le {n : Nat} (h : n ≤ 100) : n ≤ sizeLine := by rw [sizeLine_eq]; (first | lia | omega)
theorem b1_ (hp : Pu ρ) (x : AV) : bindV ρ [26] x = some (ρ.set 26 (.val x)) := rfl
theorem b2_ (hp : Pu ρ) (x y : AV) : bindV ρ [26, 27] (.tup [x, y]) = some ((ρ.set 26 (.val x)).set 27 (.val y)) := rfl
theorem b3_ (hp : Pu ρ) (x y z : AV) : bindV ρ [26, 27, 28] (.tup [x, y, z]) = some (((ρ.set 26 (.val x)).set 27 (.val y)).set 28 (.val z)) := rfl

theorem law_e1 (hp : Pu ρ) {ns : List Int} (h0 : valAt ρ 0 = some (iL ns)) (hn : ns.length ≤ 63) :
    evE C (.comp p_law_w1e [26] (.expr (.slice (.var 0) (.lit .none) (.lit (.int (60))) (.lit .none))) (.lit (.bool true))) ρ = some (iL ((ns.take 60).map fun i => Int.fmod i 1000000)) := by
  have hI : evI C (.expr (.slice (.var 0) (.lit .none) (.lit (.int (60))) (.lit .none))) ρ = some ((ns.take 60).map .int) := by
    have hs : sliceV (iL ns) .none (.int 60) .none = some (.list ((ns.map .int).take 60)) := l_to (ns.map .int) 60 (by rw [List.length_map, sizeLine_eq]; (first | lia | omega))
    rw [qI1, (evE_slice (evE_var h0) evE_lit evE_lit evE_lit).trans hs, Option.bind_some, ← List.map_take]
    rfl
  rw [comp_map (b := fun i => AV.int (Int.fmod i 1000000)) (ns.take 60) hI (fun k _ => ⟨_, b1_ hp _, ?_⟩) (small_le (by rw [List.length_take]; (first | lia | omega)))]
  · rw [iL, List.map_map]; rfl
  · unfold p_law_w1e
    rw [evE_bin ((evE_bi (evEs_one (evE_var (va_self hp (by decide))))).trans (show biV .toInt [.int k] = some (.int k) from rfl)) evE_lit, b_mod (by decide)]

theorem law_e2 (hp : Pu ρ) {cs : List Int} (h1 : valAt ρ 1 = some (iL cs)) {S : Nat → Int} (hS : ∀ (C : Nat → List AV → Option AV) (ρ : Loc) (k : Nat), valAt ρ 1 = some (iL cs) → valAt ρ 26 = some (.int k) → evE C (.bi .sumL (.cons (.slice (.var 1) (.var 26) (.lit .none) (.lit (.int (9)))) .nil)) ρ = some (.int (S k))) :
    evE C (.comp p_law_w2e [26, 27] (.enum (.list (.cons (.lit (.int (0))) (.cons (.lit (.int (3))) (.cons (.lit (.int (1))) (.cons (.lit (.int (2))) (.cons (.lit (.int (0))) (.cons (.lit (.int (2))) (.cons (.lit (.int (0))) (.cons (.lit (.int (1))) (.cons (.lit (.int (2))) .nil))))))))))) (.lit (.bool true))) ρ = some (Fg (k9.map fun kf => (Int.fmod (kf.2 + S kf.1) 4).toNat)) := by
  have hI : evI C (.enum (.list (.cons (.lit (.int (0))) (.cons (.lit (.int (3))) (.cons (.lit (.int (1))) (.cons (.lit (.int (2))) (.cons (.lit (.int (0))) (.cons (.lit (.int (2))) (.cons (.lit (.int (0))) (.cons (.lit (.int (1))) (.cons (.lit (.int (2))) .nil))))))))))) ρ = some (k9.map tV) := by
    have hz : [AV.int 0, .int 3, .int 1, .int 2, .int 0, .int 2, .int 0, .int 1, .int 2].length ≤ sizeLine := small_le (by decide)
    rw [qI3, evE_list rfl hz]; rfl
  rw [comp_map (b := fun kf => AV.int (Int.fmod (kf.2 + S kf.1) 4)) k9 hI (fun kf _ => ⟨_, b2_ hp _ _, ?_⟩) (small_le (by decide))]
  · rw [Fg, List.map_map]
    congr 2
    refine List.map_congr_left fun kf _ => ?_
    have := Int.fmod_eq_emod_of_nonneg (kf.2 + S kf.1) (b := 4) (by decide)
    show AV.int _ = AV.int _
    congr 1
    show Int.fmod (kf.2 + S kf.1) 4 = (((Int.fmod (kf.2 + S kf.1) 4).toNat : Nat) : Int)
    rw [this]; exact (Int.toNat_of_nonneg (Int.emod_nonneg _ (by decide))).symm
  · unfold p_law_w2e
    have p1 := hp.set 26 (.int kf.1)
    rw [evE_bin ((evE_bin (evE_var (va_self p1 (by decide))) (hS _ _ kf.1 (by rw [va_ne (by decide), va_ne (by decide)]; exact h1) (by rw [va_ne (by decide)]; exact va_self hp (by decide)))).trans (b_add _ _)) evE_lit, b_mod (by decide)]

theorem law_e3 (hp : Pu ρ) {cs : List Int} (h1 : valAt ρ 1 = some (iL cs)) {S : Nat → Int} (hS : ∀ (C : Nat → List AV → Option AV) (ρ : Loc) (k : Nat), valAt ρ 1 = some (iL cs) → valAt ρ 26 = some (.int k) → evE C (.bi .sumL (.cons (.slice (.var 1) (.var 26) (.lit .none) (.lit (.int (3)))) .nil)) ρ = some (.int (S k))) :
    evE C (.comp p_law_w3e [26, 27] (.enum (.list (.cons (.lit (.int (1))) (.cons (.lit (.int (2))) (.cons (.lit (.int (0))) .nil))))) (.lit (.bool true))) ρ = some (.list (k3.map fun kf => .int (Int.fmod (kf.2 + S kf.1) 3 + 1))) := by
  have hI : evI C (.enum (.list (.cons (.lit (.int (1))) (.cons (.lit (.int (2))) (.cons (.lit (.int (0))) .nil))))) ρ = some (k3.map tV) := by
    have hz : [AV.int 1, .int 2, .int 0].length ≤ sizeLine := small_le (by decide)
    rw [qI3, evE_list rfl hz]; rfl
  refine comp_map (b := fun kf => AV.int (Int.fmod (kf.2 + S kf.1) 3 + 1)) k3 hI (fun kf _ => ⟨_, b2_ hp _ _, ?_⟩) (small_le (by decide))
  unfold p_law_w3e
  have p1 := hp.set 26 (.int kf.1)
  rw [evE_bin ((evE_bin ((evE_bin (evE_var (va_self p1 (by decide))) (hS _ _ kf.1 (by rw [va_ne (by decide), va_ne (by decide)]; exact h1) (by rw [va_ne (by decide)]; exact va_self hp (by decide)))).trans (b_add _ _)) evE_lit).trans (b_mod (by decide))) evE_lit, b_add]

theorem law_e4 (hp : Pu ρ) {cs : List Int} (h1 : valAt ρ 1 = some (iL cs)) {S : Nat → Int} (hS : ∀ (C : Nat → List AV → Option AV) (ρ : Loc) (k : Nat), valAt ρ 1 = some (iL cs) → valAt ρ 26 = some (.int k) → evE C (.bi .sumL (.cons (.slice (.var 1) (.var 26) (.lit .none) (.lit (.int (6)))) .nil)) ρ = some (.int (S k))) :
    evE C (.comp p_law_w4e [26, 27] (.enum (.list (.cons (.lit (.int (0))) (.cons (.lit (.int (13))) (.cons (.lit (.int (6))) (.cons (.lit (.int (14))) (.cons (.lit (.int (7))) (.cons (.lit (.int (9))) .nil)))))))) (.lit (.bool true))) ρ = some (iL (k6.map fun kf => kf.2 + S kf.1)) := by
  have hI : evI C (.enum (.list (.cons (.lit (.int (0))) (.cons (.lit (.int (13))) (.cons (.lit (.int (6))) (.cons (.lit (.int (14))) (.cons (.lit (.int (7))) (.cons (.lit (.int (9))) .nil)))))))) ρ = some (k6.map tV) := by
    have hz : [AV.int 0, .int 13, .int 6, .int 14, .int 7, .int 9].length ≤ sizeLine := small_le (by decide)
    rw [qI3, evE_list rfl hz]; rfl
  rw [comp_map (b := fun kf => AV.int (kf.2 + S kf.1)) k6 hI (fun kf _ => ⟨_, b2_ hp _ _, ?_⟩) (small_le (by decide))]
  · rw [iL, List.map_map]; rfl
  · unfold p_law_w4e
    have p1 := hp.set 26 (.int kf.1)
    exact (evE_bin (evE_var (va_self p1 (by decide))) (hS _ _ kf.1 (by rw [va_ne (by decide), va_ne (by decide)]; exact h1) (by rw [va_ne (by decide)]; exact va_self hp (by decide)))).trans (b_add _ _)

/-- the step that a number tells -/
noncomputable def drOf (n : Int) : Dr := ((Int.fmod n 4).toNat, (Int.fmod (Int.fmod n 4 + 1 + Int.fmod (Int.fdiv n 4) 3) 4).toNat, (Int.fmod (Int.fdiv n 12) 2).toNat)
theorem drOf_ok (n : Int) : DrOK (drOf n) ∧ (drOf n).1 ≠ (drOf n).2.1 := by
  unfold DrOK drOf
  simp only [Int.fmod_eq_emod_of_nonneg _ (show (0 : Int) ≤ 4 by decide), Int.fmod_eq_emod_of_nonneg _ (show (0 : Int) ≤ 3 by decide), Int.fmod_eq_emod_of_nonneg _ (show (0 : Int) ≤ 2 by decide), Int.fdiv_eq_ediv_of_nonneg _ (show (0 : Int) ≤ 4 by decide), Int.fdiv_eq_ediv_of_nonneg _ (show (0 : Int) ≤ 12 by decide)]
  have a1 := Int.emod_nonneg n (show (4 : Int) ≠ 0 by decide)
  have a2 := Int.emod_lt_of_pos n (show (0 : Int) < 4 by decide)
  have m1 := Int.emod_nonneg (n / 4) (show (3 : Int) ≠ 0 by decide)
  have m2 := Int.emod_lt_of_pos (n / 4) (show (0 : Int) < 3 by decide)
  have q1 := Int.emod_nonneg (n / 12) (show (2 : Int) ≠ 0 by decide)
  have q2 := Int.emod_lt_of_pos (n / 12) (show (0 : Int) < 2 by decide)
  generalize n % 4 = a at *
  generalize n / 4 % 3 = m at *
  generalize n / 12 % 2 = q at *
  obtain ⟨a, rfl⟩ := Int.eq_ofNat_of_zero_le a1
  obtain ⟨m, rfl⟩ := Int.eq_ofNat_of_zero_le m1
  obtain ⟨q, rfl⟩ := Int.eq_ofNat_of_zero_le q1
  have key : ∀ a < 4, ∀ m < 3, (((((a : Nat) : Int) + 1 + (m : Nat)) % 4).toNat < 4) ∧ a ≠ ((((a : Nat) : Int) + 1 + (m : Nat)) % 4).toNat := by decide
  obtain ⟨k1, k2⟩ := key a (Int.ofNat_lt.mp a2) m (Int.ofNat_lt.mp m2)
  exact ⟨⟨Int.ofNat_lt.mp a2, k1, Int.ofNat_lt.mp q2⟩, k2⟩
theorem law_e5 (hp : Pu ρ) {ms : List Int} (h4 : valAt ρ 4 = some (iL ms)) (hm : ms.length ≤ 6) :
    evE C (.comp p_law_w5e [26] (.expr (.var 4)) (.lit (.bool true))) ρ = some (.list ((ms.map drOf).map dV)) := by
  have hI : evI C (.expr (.var 4)) ρ = some (ms.map .int) := by rw [qI1, evE_var h4]; rfl
  rw [comp_map (b := fun n => dV (drOf n)) ms hI (fun n _ => ⟨_, b1_ hp _, ?_⟩) (small_le (by (first | lia | omega)))]
  · rw [List.map_map]; rfl
  · unfold p_law_w5e
    have v : evE C (.var 26) (ρ.set 26 (.val (.int n))) = some (.int n) := evE_var (va_self hp (by decide))
    have e1 := (evE_bin v evE_lit).trans (b_mod (a := n) (b := 4) (by decide))
    have e2 := (evE_bin e1 (evE_lit (v := .int 1))).trans (b_add _ _)
    have e3 := (evE_bin v evE_lit).trans (b_fdivL (a := n) (b := 4) (by decide))
    have e4 := (evE_bin e3 evE_lit).trans (b_mod (b := 3) (by decide))
    have e5 := (evE_bin e2 e4).trans (b_add _ _)
    have e6 := (evE_bin e5 evE_lit).trans (b_mod (b := 4) (by decide))
    have e7 := (evE_bin v evE_lit).trans (b_fdivL (a := n) (b := 12) (by decide))
    have e8 := (evE_bin e7 evE_lit).trans (b_mod (b := 2) (by decide))
    have hz : [AV.int (Int.fmod n 4), AV.int (Int.fmod (Int.fmod n 4 + 1 + Int.fmod (Int.fdiv n 4) 3) 4), AV.int (Int.fmod (Int.fdiv n 12) 2)].length ≤ sizeLine := small_le (by decide : 3 ≤ 100)
    rw [qE15, evEs_cons e1 (evEs_cons e6 (evEs_cons e8 evEs_nil)), Option.bind_some, if_pos hz]
    have nn : ∀ (a : Int) {b : Int}, 0 < b → ((Int.fmod a b).toNat : Int) = Int.fmod a b := fun a b hb => by
      rw [Int.fmod_eq_emod_of_nonneg _ (Int.le_of_lt hb)]
      exact Int.toNat_of_nonneg (Int.emod_nonneg _ (Int.ne_of_gt hb))
    unfold dV drOf
    rw [nn _ (by decide), nn _ (by decide), nn _ (by decide)]
end
end Mine

namespace Mine

theorem pick4 (k : Nat) (h : k < 4) : subV (.str (Str.ofString "aAbB")) (.int k) = some (.str (tx [fig k])) := by
  have : k = 0 ∨ k = 1 ∨ k = 2 ∨ k = 3 := by (first | lia | omega)
  rcases this with rfl | rfl | rfl | rfl <;> kernel_rfl
theorem pickL (k : Nat) (h : k < 4) : subV (.str (Str.ofString "abcd")) (.int k) = some (.str (tx [97 + k])) := by
  have : k = 0 ∨ k = 1 ∨ k = 2 ∨ k = 3 := by (first | lia | omega)
  rcases this with rfl | rfl | rfl | rfl <;> kernel_rfl
theorem pickO (k : Nat) (h : k < 2) : subV (.list [.str (Str.ofString "+="), .str (Str.ofString "-=")]) (.int k) = some (.str (tx [opC k, 61])) := by
  have : k = 0 ∨ k = 1 := by (first | lia | omega)
  rcases this with rfl | rfl <;> kernel_rfl
theorem tx_app (a b : List Nat) : tx a ++ tx b = tx (a ++ b) := by
  show Str.mk _ = _
  simp [tx]
theorem str_comma : Str.ofString "," = tx [44] := by decide +kernel
theorem flat_nil (r : List Nat) : ((r.map fun k => [fig k]).flatMap fun p => [] ++ p) = r.map fig := by
  induction r with
  | nil => rfl
  | cons a r ih => rw [List.map_cons, List.flatMap_cons, ih]; rfl
theorem textC_flat : ∀ (d : Dr) (r : List Dr), textC (d :: r) = codes d ++ (r.map codes).flatMap fun p => [44] ++ p
  | d, [] => (List.append_nil _).symm
  | d, e :: r => by
    show codes d ++ 44 :: textC (e :: r) = _
    rw [textC_flat e r, List.map_cons, List.flatMap_cons]; rfl

section
variable {C : Nat → List AV → Option AV} {ρ : Loc}

theorem law_e7 (hp : Pu ρ) {x : List Nat} (h2 : valAt ρ 2 = some (Fg x)) (hx : Fig x) (h9 : x.length = 9) :
    evE C (.join (.lit (.str (Str.ofString ""))) (.comp p_law_w6e [26] (.expr (.var 2)) (.lit (.bool true)))) ρ = some (W x) := by
  have hI : evI C (.expr (.var 2)) ρ = some (x.map fun (a : Nat) => AV.int a) := by rw [qI1, evE_var h2]; rfl
  have hc : evE C (.comp p_law_w6e [26] (.expr (.var 2)) (.lit (.bool true))) ρ = some (.list (x.map fun k => .str (tx [fig k]))) := by
    refine comp_map (b := fun k => AV.str (tx [fig k])) x hI (fun k hk => ⟨_, b1_ hp _, ?_⟩) (small_le (by (first | lia | omega)))
    unfold p_law_w6e
    exact (evE_sub' (fun _ => rfl) evE_lit (evE_var (va_self hp (by decide)))).trans (pick4 k (hx k hk))
  obtain ⟨a, r, rfl⟩ : ∃ a r, x = a :: r := by
    cases x with
    | nil => cases h9
    | cons a r => exact ⟨a, r, rfl⟩
  have hj := joinV_tx (g := []) (l := (a :: r).map fun k => [fig k]) (a := [fig a]) (r := r.map fun k => [fig k]) rfl (fun y hy => by
    obtain ⟨k, _, rfl⟩ := List.mem_map.mp hy
    show 1 ≤ 4; decide) (Nat.zero_le _) (by rw [List.length_map]; (first | lia | omega))
  rw [List.map_map, flat_nil] at hj
  rw [qE16, evE_lit, Option.bind_some, hc, Option.bind_some, str_empty]
  exact hj

theorem law_e8 (hp : Pu ρ) {d : Dr} {r : List Dr} (h5 : valAt ρ 5 = some (.list ((d :: r).map dV))) (hd : ∀ e ∈ d :: r, DrOK e) (h6 : (d :: r).length ≤ 6) :
    evE C (.join (.lit (.str (Str.ofString ","))) (.comp p_law_w7e [26, 27, 28] (.expr (.var 5)) (.lit (.bool true)))) ρ = some (.str (tx (textC (d :: r)))) := by
  have hI : evI C (.expr (.var 5)) ρ = some ((d :: r).map dV) := by rw [qI1, evE_var h5]; rfl
  have hc : evE C (.comp p_law_w7e [26, 27, 28] (.expr (.var 5)) (.lit (.bool true))) ρ = some (.list ((d :: r).map fun e => .str (tx (codes e)))) := by
    refine comp_map (b := fun e => AV.str (tx (codes e))) (d :: r) hI (fun e he => ⟨_, b3_ hp _ _ _, ?_⟩) (small_le (by (first | lia | omega)))
    obtain ⟨h1, h2, h3⟩ := hd e he
    have p1 := hp.set 26 (.int e.1)
    have p2 := p1.set 27 (.int e.2.1)
    have v26 : valAt (((ρ.set 26 (.val (.int e.1))).set 27 (.val (.int e.2.1))).set 28 (.val (.int e.2.2))) 26 = some (.int e.1) := by
      rw [va_ne (by decide), va_ne (by decide)]; exact va_self hp (by decide)
    have v27 : valAt (((ρ.set 26 (.val (.int e.1))).set 27 (.val (.int e.2.1))).set 28 (.val (.int e.2.2))) 27 = some (.int e.2.1) := by
      rw [va_ne (by decide)]; exact va_self p1 (by decide)
    have v28 : valAt (((ρ.set 26 (.val (.int e.1))).set 27 (.val (.int e.2.1))).set 28 (.val (.int e.2.2))) 28 = some (.int e.2.2) := va_self p2 (by decide)
    have z2 : [AV.str (Str.ofString "+="), AV.str (Str.ofString "-=")].length ≤ sizeLine := small_le (by decide : 2 ≤ 100)
    unfold p_law_w7e
    have e1 := (evE_sub' (C := C) (a := .lit (.str (Str.ofString "abcd"))) (fun _ => rfl) evE_lit (evE_var v26)).trans (pickL _ h1)
    have e2 := (evE_sub' (C := C) (a := .list (.cons (.lit (.str (Str.ofString "+="))) (.cons (.lit (.str (Str.ofString "-="))) .nil))) (fun _ => rfl) (evE_list (evEs_two evE_lit evE_lit) z2) (evE_var v28)).trans (pickO _ h3)
    have e3 := (evE_sub' (C := C) (a := .lit (.str (Str.ofString "abcd"))) (fun _ => rfl) evE_lit (evE_var v27)).trans (pickL _ h2)
    have y1 : (tx [97 + e.1]).length + (tx [opC e.2.2, 61]).length ≤ sizeLine := small_le (by decide : 3 ≤ 100)
    have y2 : (tx [97 + e.1] ++ tx [opC e.2.2, 61]).length + (tx [97 + e.2.1]).length ≤ sizeLine := by rw [tx_app]; exact small_le (by decide : 4 ≤ 100)
    rw [evE_bin ((evE_bin e1 e2).trans (b_addS y1)) e3, b_addS y2, tx_app, tx_app]
    rfl
  have hj := joinV_tx (g := [44]) (l := (d :: r).map codes) (a := codes d) (r := r.map codes) rfl (fun y hy => by
    obtain ⟨k, _, rfl⟩ := List.mem_map.mp hy
    show 4 ≤ 4; decide) (Nat.le_refl _) (by rw [List.length_map]; (first | lia | omega))
  rw [List.map_map] at hj
  rw [qE16, evE_lit, Option.bind_some, hc, Option.bind_some, str_comma, textC_flat]
  exact hj

theorem price_sgn (l : Nat) (hl : l < 2) (z : Int) (s g : Nat) : binV .mul (.int (1 - 2 * (l : Int))) (.int z) = some (.int (sgn (s, g, l, z))) := by
  have : l = 0 ∨ l = 1 := by (first | lia | omega)
  rcases this with rfl | rfl
  · rw [show (1 - 2 * ((0 : Nat) : Int)) = 1 from rfl, b_mul 1 z (.inl (by decide)), Int.one_mul]; rfl
  · rw [show (1 - 2 * ((1 : Nat) : Int)) = -1 from rfl, b_mul (-1) z (.inl (by decide)), Int.neg_mul, Int.one_mul]; rfl
theorem law_e12 (n : Nat) (hp : Pu ρ) {ps : List (List Nat)} (hps : PsOK ps) {ds : List Dr} (h5 : valAt ρ 5 = some (.list (ds.map dV))) (h11 : valAt ρ 11 = some (.list (ps.map Fg))) (hd : ∀ d ∈ ds, DrOK d ∧ d.1 ≠ d.2.1) (h6 : ds.length ≤ 6) :
    evE (evCall tab' (n + 1)) (.comp p_law_w8e [26, 27, 28] (.expr (.var 5)) (.lit (.bool true))) ρ = some (Es (edges (ds.map (stOf ps)))) := by
  have hI : evI (evCall tab' (n + 1)) (.expr (.var 5)) ρ = some (ds.map dV) := by rw [qI1, evE_var h5]; rfl
  rw [comp_map (b := fun d => eV (toEd (stOf ps d))) ds hI (fun d hdm => ⟨_, b3_ hp _ _ _, ?_⟩) (small_le (by (first | lia | omega)))]
  · rw [Es, List.map_map, List.map_map]; rfl
  · obtain ⟨⟨h1, h2, h3⟩, hne⟩ := hd d hdm
    have p1 := hp.set 26 (.int d.1)
    have p2 := p1.set 27 (.int d.2.1)
    have v26 : valAt (((ρ.set 26 (.val (.int d.1))).set 27 (.val (.int d.2.1))).set 28 (.val (.int d.2.2))) 26 = some (.int d.1) := by
      rw [va_ne (by decide), va_ne (by decide)]; exact va_self hp (by decide)
    have v27 : valAt (((ρ.set 26 (.val (.int d.1))).set 27 (.val (.int d.2.1))).set 28 (.val (.int d.2.2))) 27 = some (.int d.2.1) := by
      rw [va_ne (by decide)]; exact va_self p1 (by decide)
    have v28 : valAt (((ρ.set 26 (.val (.int d.1))).set 27 (.val (.int d.2.1))).set 28 (.val (.int d.2.2))) 28 = some (.int d.2.2) := va_self p2 (by decide)
    have v11 : valAt (((ρ.set 26 (.val (.int d.1))).set 27 (.val (.int d.2.1))).set 28 (.val (.int d.2.2))) 11 = some (.list (ps.map Fg)) := by
      rw [va_ne (by decide), va_ne (by decide), va_ne (by decide)]; exact h11
    have g0 : (ps.map Fg)[d.1]? = some (Fg (pc ps d.1)) := by rw [List.getElem?_map, hps.get h1]; rfl
    have g1 : (ps.map Fg)[d.2.1]? = some (Fg (pc ps d.2.1)) := by rw [List.getElem?_map, hps.get h2]; rfl
    unfold p_law_w8e
    have w26 := (evE_subV (C := evCall tab' (n + 1)) (v := .list (ps.map Fg)) (ba_of v11) (evE_var v26)).trans (idx_nat g0)
    have w27 := (evE_subV (C := evCall tab' (n + 1)) (v := .list (ps.map Fg)) (ba_of v11) (evE_var v27)).trans (idx_nat g1)
    have pr := evE_call (evEs_two w26 w27) (price_ok n (hps.fig _) (hps.fig _) (hps.nine _ _ h1 h2 hne))
    have m1 := (evE_bin (C := evCall tab' (n + 1)) (evE_lit (v := .int 2)) (evE_var v28)).trans (two_mul' _)
    have m2 := (evE_bin (evE_lit (v := .int 1)) m1).trans (b_sub _ _)
    have m3 := (evE_bin m2 pr).trans (price_sgn d.2.2 h3 _ d.1 d.2.1)
    have hz : [AV.int (d.1 : Int), AV.int (d.2.1 : Int), AV.int (sgn (d.1, d.2.1, d.2.2, D (pc ps d.1) (pc ps d.2.1)))].length ≤ sizeLine := small_le (by decide : 3 ≤ 100)
    rw [qE15, evEs_cons (evE_var v26) (evEs_cons (evE_var v27) (evEs_cons m3 evEs_nil)), Option.bind_some, if_pos hz]
    rfl

theorem foldA_flat {α : Type} {f : AV → Option (List AV)} {a : α → AV} {b : α → List AV} : ∀ ks : List α, (∀ k ∈ ks, f (a k) = some (b k)) → foldA f (ks.map a) = some (ks.flatMap b)
  | [], _ => rfl
  | k :: ks, h => by
    rw [List.map_cons, qFA, h k List.mem_cons_self, Option.bind_some, foldA_flat ks fun j hj => h j (List.mem_cons_of_mem _ hj), List.flatMap_cons]
    rfl
theorem law_e13 (n : Nat) (hn : 3 ≤ n) (hp : Pu ρ) {es : List Ed} (h12 : valAt ρ 12 = some (Es es)) (h0 : 0 < es.length) (h6 : es.length ≤ 6) (hE : EdOK es) :
    evE (evCall tab' (n + 1)) (.flat 26 (.range (.lit (.int (4)))) (.call 21 (.cons (.var 12) (.cons (.list (.cons (.var 26) .nil)) (.cons (.lit (.int (0))) .nil))))) ρ = some (iL (roundsAll es)) := by
  have hI : evI (evCall tab' (n + 1)) (.range (.lit (.int (4)))) ρ = some ((List.range 4).map fun (i : Nat) => AV.int i) := by
    rw [qI2, evE_lit, Option.bind_some]; exact rangeV_small 4 (by decide)
  have hlen : (roundsAll es).length ≤ 5184 := by
    have h1 := flat_len (fun u => roundsF 4 es [u] 0) 1296 (List.range 4) fun u _ => Nat.le_trans (roundsF_len es h0 4 [u] 0) (Nat.pow_le_pow_left h6 4)
    rw [List.length_range] at h1
    exact h1
  rw [qE20, hI, Option.bind_some, foldA_flat (b := fun u => (roundsF 4 es [u] 0).map .int) (List.range 4) fun u hu => ?_]
  · have hm : ((List.range 4).flatMap fun u => (roundsF 4 es [u] 0).map AV.int) = (roundsAll es).map .int := by
      unfold roundsAll
      rw [List.map_flatMap]
    rw [hm, Option.bind_some, if_pos (by rw [List.length_map, sizeLine_eq]; (first | lia | omega))]
  · have hu4 : u < 4 := List.mem_range.mp hu
    have hz : [AV.int (u : Int)].length ≤ sizeLine := small_le (by decide : 1 ≤ 100)
    have v26 : valAt (ρ.set 26 (.val (.int u))) 26 = some (.int u) := va_self hp (by decide)
    have v12 : valAt (ρ.set 26 (.val (.int u))) 12 = some (Es es) := by rw [va_ne (by decide)]; exact h12
    have hc := rounds_ok h0 h6 hE 3 n [u] 0 (by simp) (fun a ha => by simp at ha; subst ha; exact hu4) (by simp) rfl hn
    rw [evE_call (evEs_cons (evE_var v12) (evEs_cons (evE_list (evEs_one (evE_var v26)) hz) (evEs_cons evE_lit evEs_nil))) hc]
    rfl
end
end Mine

namespace Mine

theorem cutP_fig : ∀ (o x : List Nat), Fig x → (∀ p ∈ cutP x o, Fig p) ∧ Fig (cutR x o)
  | [], x, h => ⟨fun p hp => (by cases hp), h⟩
  | s :: o, x, h => by
    have ih := cutP_fig o (x.drop s) (h.drop s)
    refine ⟨fun p hp => ?_, ih.2⟩
    rcases List.mem_cons.mp hp with rfl | q
    · exact h.take s
    · exact ih.1 p q
theorem cutP_sum : ∀ (o x : List Nat), ((cutP x o).map (·.length)).sum + (cutR x o).length = x.length
  | [], x => by simp [cutP, cutR]
  | s :: o, x => by
    have ih := cutP_sum o (x.drop s)
    show (x.take s).length + ((cutP (x.drop s) o).map (·.length)).sum + (cutR (x.drop s) o).length = x.length
    rw [Nat.add_assoc, ih, ← List.length_append, List.take_append_drop]
theorem pieces_fig {x o : List Nat} (h : Fig x) : ∀ p ∈ pieces x o, Fig p := by
  intro p hp
  unfold pieces at hp
  rcases List.mem_append.mp hp with q | q
  · rcases List.mem_append.mp q with q | q
    · split at q
      · simp at q; subst q; exact fun a ha => (by cases ha)
      · cases q
    · exact (cutP_fig o x h).1 p q
  · simp at q; subst q; exact (cutP_fig o x h).2
theorem pieces_sum (x o : List Nat) : ((pieces x o).map (·.length)).sum = x.length := by
  have h := cutP_sum o x
  unfold pieces
  rw [List.map_append, List.map_append, List.sum_append, List.sum_append]
  have h0 : (((if o.length = 2 then [[]] else []) : List (List Nat)).map (·.length)).sum = 0 := by split <;> rfl
  rw [h0]
  simp only [List.map_cons, List.map_nil, List.sum_cons, List.sum_nil]
  (first | lia | omega)
theorem pieces_ok {x o : List Nat} (hx : Fig x) (h9 : x.length = 9) (ho : o.length = 2 ∨ o.length = 3) : PsOK (pieces x o) := by
  have hl := pieces_len (x := x) ho
  have hs := pieces_sum x o
  have hf := pieces_fig (o := o) hx
  generalize pieces x o = ps at *
  refine ⟨hl, fun i => ?_, fun i j hi hj hij => ?_⟩
  · unfold pc
    rw [List.getD_eq_getElem?_getD]
    cases e : ps[i]? with
    | none => exact fun a ha => (by cases ha)
    | some p => exact hf p (List.mem_of_getElem? e)
  · match ps, hl with
    | [a, b, c, d], _ =>
      simp only [List.map_cons, List.map_nil, List.sum_cons, List.sum_nil] at hs
      have h4 : ∀ k, k < 4 → k = 0 ∨ k = 1 ∨ k = 2 ∨ k = 3 := by (first | lia | omega)
      rcases h4 i hi with rfl | rfl | rfl | rfl <;> rcases h4 j hj with rfl | rfl | rfl | rfl <;> first
        | exact absurd rfl hij
        | (simp only [pc, List.getD_cons_zero, List.getD_cons_succ]; (first | lia | omega))

noncomputable def toldN (a b c m : Nat) : List Nat := match m with | 0 => [a, b, c] | 1 => [a, b, b] | 2 => [a, b] | _ => [a, a, a]
theorem toldN_map (a b c m : Nat) : toldF a b c m = (toldN a b c m).map fun (i : Nat) => (i : Int) := by
  match m with
  | 0 => rfl
  | 1 => rfl
  | 2 => rfl
  | _ + 3 => rfl
theorem toldN_len (a b c m : Nat) : (toldN a b c m).length = 2 ∨ (toldN a b c m).length = 3 := by
  unfold toldN
  split <;> simp

theorem fold_min : ∀ (r : List Int) (a : Int), (r.foldl (fun m b => if b < m then b else m) a ∈ a :: r) ∧ ∀ x ∈ a :: r, r.foldl (fun m b => if b < m then b else m) a ≤ x
  | [], a => ⟨by simp, fun x hx => by simp at hx; rw [hx]; exact Int.le_refl _⟩
  | b :: r, a => by
    rw [List.foldl_cons]
    obtain ⟨h1, h2⟩ := fold_min r (if b < a then b else a)
    refine ⟨?_, fun x hx => ?_⟩
    · rcases List.mem_cons.mp h1 with q | q
      · rw [q]; split <;> simp
      · exact List.mem_cons_of_mem _ (List.mem_cons_of_mem _ q)
    · have h3 := h2 _ List.mem_cons_self
      rcases List.mem_cons.mp hx with rfl | q
      · refine Int.le_trans h3 ?_; split <;> (first | lia | omega)
      · rcases List.mem_cons.mp q with rfl | q
        · refine Int.le_trans h3 ?_; split <;> (first | lia | omega)
        · exact h2 x (List.mem_cons_of_mem _ q)
theorem minI_ok {l : List Int} {m : Int} (h : minI l = some m) : m ∈ l ∧ ∀ r ∈ l, m ≤ r := by
  cases l with
  | nil => cases h
  | cons a r => cases h; exact fold_min r a
theorem minI_some {l : List Int} (h : l ≠ []) : ∃ m, minI l = some m := by
  cases l with
  | nil => exact absurd rfl h
  | cons a r => exact ⟨_, rfl⟩

noncomputable abbrev C30 : Nat → List AV → Option AV := evCall tab' 30
theorem asgT2 {C : Nat → List AV → Option AV} {ρ : Loc} {e : PE} {a b : AV} (h : evE C e ρ = some (.tup [a, b])) (r : PB) : evB C (.cons (.asgT [6, 7] e) r) ρ = evB C r ((ρ.set 6 (.val a)).set 7 (.val b)) := by
  refine evB_next ?_
  rw [qS4, h]; rfl
theorem fmod_nat (a : Int) {b : Int} (hb : 0 < b) : Int.fmod a b = ((Int.fmod a b).toNat : Int) ∧ (Int.fmod a b).toNat < b.toNat := by
  rw [Int.fmod_eq_emod_of_nonneg _ (Int.le_of_lt hb)]
  have h1 := Int.emod_nonneg a (Int.ne_of_gt hb)
  have h2 := Int.emod_lt_of_pos a hb
  constructor
  · exact (Int.toNat_of_nonneg h1).symm
  · exact (Int.toNat_lt_toNat hb).mpr h2

/-- the last two statements -/
theorem law_end {ρ : Loc} {sts : List St4} (hp : Pu ρ) (hE : StOK sts) (h10 : valAt ρ 10 = some (mV (meanF (FW sts)))) (h13 : valAt ρ 13 = some (iL (roundsAll (edges sts)))) :
    ∃ ρ', evB C30 (.cons (.ifs (.not (.var 13)) (.cons (.ret (.cmp .isNone (.var 10) (.lit .none))) .nil) .nil) (.cons (.ret (.and (.cmp .notNone (.var 10) (.lit .none)) (.cmp .eq (.bin .mul (.lit (.int (12))) (.sub (.var 10) (.lit (.int (0))))) (.bin .mul (.bi .minL (.cons (.var 13) .nil)) (.sub (.var 10) (.lit (.int (1)))))))) .nil)) ρ = some (.ret (.bool true), ρ') := by
  obtain ⟨k1, k2⟩ := karp hE
  have hT : evT C30 (.not (.var 13)) ρ = some (roundsAll (edges sts)).isEmpty := by
    unfold evT
    rw [qE5, evE_var h13, Option.bind_some]
    show Option.bind (Option.map _ (some (!((roundsAll (edges sts)).map AV.int).isEmpty))) truth = _
    rw [Option.map_some, Option.bind_some, t_bool, Bool.not_not, List.isEmpty_map]
  by_cases h0 : roundsAll (edges sts) = []
  · have hm := k1 h0
    rw [hm] at h10
    rw [h0] at hT
    have hr : evE C30 (.cmp .isNone (.var 10) (.lit .none)) ρ = some (.bool true) := by
      rw [qE7, evE_var h10, Option.bind_some, evE_lit, Option.bind_some]; rfl
    have hret : evB C30 (.cons (.ret (.cmp .isNone (.var 10) (.lit .none))) .nil) ρ = some (.ret (.bool true), ρ) := by
      refine evB_ret ?_
      rw [qS17]
      simp only [hp.freeze]
      rw [hr]; rfl
    exact ⟨ρ, evB_ret ((evS_if hT).trans ((if_pos rfl).trans hret))⟩
  · obtain ⟨lam, hlam⟩ := minI_some h0
    obtain ⟨hmem, hle⟩ := minI_ok hlam
    obtain ⟨m, hm, heq⟩ := k2 lam hmem hle
    have hq : m.2 ≤ 4 := leastFold_q _ _ (fun m e => by cases e) m hm
    rw [hm] at h10
    have hTf : evT C30 (.not (.var 13)) ρ = some false := by
      rw [hT]
      cases e : roundsAll (edges sts) with
      | nil => exact absurd e h0
      | cons a r => rfl
    rw [evB_next ((evS_if hTf).trans ((if_neg Bool.false_ne_true).trans (by rw [qB1])))]
    have e1 : evE C30 (.cmp .notNone (.var 10) (.lit .none)) ρ = some (.bool true) := by
      rw [qE7, evE_var h10, Option.bind_some, evE_lit, Option.bind_some]; rfl
    have s0 : evE C30 (.sub (.var 10) (.lit (.int (0)))) ρ = some (.int m.1) := (evE_subV (v := pV m) (ba_of h10) evE_lit).trans rfl
    have s1 : evE C30 (.sub (.var 10) (.lit (.int (1)))) ρ = some (.int m.2) := (evE_subV (v := pV m) (ba_of h10) evE_lit).trans rfl
    have mn : evE C30 (.bi .minL (.cons (.var 13) .nil)) ρ = some (.int lam) := by
      rw [evE_bi (evEs_one (evE_var h13))]
      show (ints? ((roundsAll (edges sts)).map .int)).bind _ = _
      rw [ints_map, Option.bind_some, hlam]; rfl
    have a1 := (evE_bin (C := C30) (ρ := ρ) (evE_lit (v := .int 12)) s0).trans (b_mul 12 m.1 (.inl (by decide)))
    have a2 := (evE_bin mn s1).trans (b_mul lam m.2 (.inr (by rw [Int.natAbs_natCast]; exact Nat.lt_of_le_of_lt hq (by decide))))
    have e2 : evE C30 (.cmp .eq (.bin .mul (.lit (.int (12))) (.sub (.var 10) (.lit (.int (0))))) (.bin .mul (.bi .minL (.cons (.var 13) .nil)) (.sub (.var 10) (.lit (.int (1)))))) ρ = some (.bool true) := by
      rw [qE7, a1, Option.bind_some, a2, Option.bind_some, k_eq, heq]
      simp
    have e3 : evE C30 (.and (.cmp .notNone (.var 10) (.lit .none)) (.cmp .eq (.bin .mul (.lit (.int (12))) (.sub (.var 10) (.lit (.int (0))))) (.bin .mul (.bi .minL (.cons (.var 13) .nil)) (.sub (.var 10) (.lit (.int (1))))))) ρ = some (.bool true) := by
      rw [qE3, e1, Option.bind_some, t_bool, Option.bind_some, if_pos rfl, e2]
    refine ⟨ρ, evB_ret ?_⟩
    rw [qS17]
    simp only [hp.freeze]
    rw [e3]; rfl

theorem law_says30 : law_says 30 := fun ns hn => by
  suffices h : ∃ ρ', evB C30 fn_law.body (.val (iL ns) :: List.replicate 30 .no) = some (.ret (.bool true), ρ') by
    obtain ⟨ρ', h⟩ := h
    exact evFn_ret rfl h
  have p0 : Pu (.val (iL ns) :: List.replicate 30 .no) := by
    refine ⟨by simp, fun i sl e => ?_⟩
    cases i with
    | zero => cases e; rfl
    | succ i =>
      rw [List.getElem?_cons_succ] at e
      have hmem := List.mem_of_getElem? e
      rw [(List.mem_replicate.mp hmem).2]; rfl
  have v00 : valAt (.val (iL ns) :: List.replicate 30 .no) 0 = some (iL ns) := rfl
  generalize (.val (iL ns) :: List.replicate 30 .no : Loc) = ρ0 at *
  unfold fn_law
  dsimp only
  -- cells
  rw [p0.asg (law_e1 p0 v00 hn)]
  generalize hcs : (ns.take 60).map (fun i => Int.fmod i 1000000) = cs
  have hcl : cs.length ≤ 60 := by rw [← hcs, List.length_map, List.length_take]; (first | lia | omega)
  have p1 := p0.set 1 (iL cs)
  have v1 : valAt (ρ0.set 1 (.val (iL cs))) 1 = some (iL cs) := va_self p0 (by decide)
  generalize ρ0.set 1 (.val (iL cs)) = ρ1 at *
  -- figures
  obtain ⟨S9, hS9⟩ := sums hcl 9 (by decide)
  rw [p1.asg (law_e2 p1 v1 hS9)]
  have hx : Fig (k9.map fun kf => (Int.fmod (kf.2 + S9 kf.1) 4).toNat) := fun a ha => by
    obtain ⟨kf, _, rfl⟩ := List.mem_map.mp ha
    exact (fmod_nat _ (by decide)).2
  have h9 : (k9.map fun kf => (Int.fmod (kf.2 + S9 kf.1) 4).toNat).length = 9 := by rw [List.length_map]; rfl
  generalize (k9.map fun kf => (Int.fmod (kf.2 + S9 kf.1) 4).toNat) = x at *
  have p2 := p1.set 2 (Fg x)
  have v22 : valAt (ρ1.set 2 (.val (Fg x))) 2 = some (Fg x) := va_self p1 (by decide)
  have v21 : valAt (ρ1.set 2 (.val (Fg x))) 1 = some (iL cs) := by rw [va_ne (by decide)]; exact v1
  generalize ρ1.set 2 (.val (Fg x)) = ρ2 at *
  -- sizes
  obtain ⟨S3, hS3⟩ := sums hcl 3 (by decide)
  rw [p2.asg (law_e3 p2 v21 hS3)]
  obtain ⟨a, b, c, hsz, ha, hb, hc⟩ : ∃ a b c : Nat, (AV.list (k3.map fun kf => .int (Int.fmod (kf.2 + S3 kf.1) 3 + 1))) = iL [(a : Int), (b : Int), (c : Int)] ∧ (0 < a ∧ a < 4) ∧ (0 < b ∧ b < 4) ∧ (0 < c ∧ c < 4) := by
    have f := fun z : Int => fmod_nat z (b := 3) (by decide)
    refine ⟨(Int.fmod (1 + S3 0) 3).toNat + 1, (Int.fmod (2 + S3 1) 3).toNat + 1, (Int.fmod (0 + S3 2) 3).toNat + 1, ?_, ?_, ?_, ?_⟩
    · show AV.list [.int (Int.fmod (1 + S3 0) 3 + 1), .int (Int.fmod (2 + S3 1) 3 + 1), .int (Int.fmod (0 + S3 2) 3 + 1)] = AV.list [.int _, .int _, .int _]
      rw [Int.natCast_add, Int.natCast_add, Int.natCast_add, ← (f _).1, ← (f _).1, ← (f _).1]
      rfl
    · have h3 : _ < 3 := (f (1 + S3 0)).2; (first | lia | omega)
    · have h3 : _ < 3 := (f (2 + S3 1)).2; (first | lia | omega)
    · have h3 : _ < 3 := (f (0 + S3 2)).2; (first | lia | omega)
  rw [hsz]
  have p3 := p2.set 3 (iL [(a : Int), (b : Int), (c : Int)])
  have v33 : valAt (ρ2.set 3 (.val (iL [(a : Int), (b : Int), (c : Int)]))) 3 = some (iL [(a : Int), (b : Int), (c : Int)]) := va_self p2 (by decide)
  have v32 : valAt (ρ2.set 3 (.val (iL [(a : Int), (b : Int), (c : Int)]))) 2 = some (Fg x) := by rw [va_ne (by decide)]; exact v22
  have v31 : valAt (ρ2.set 3 (.val (iL [(a : Int), (b : Int), (c : Int)]))) 1 = some (iL cs) := by rw [va_ne (by decide)]; exact v21
  generalize ρ2.set 3 (.val (iL [(a : Int), (b : Int), (c : Int)])) = ρ3 at *
  -- numbers
  obtain ⟨S6, hS6⟩ := sums hcl 6 (by decide)
  rw [p3.asg (law_e4 p3 v31 hS6)]
  have hml : (k6.map fun kf => kf.2 + S6 kf.1).length = 6 := by rw [List.length_map]; rfl
  generalize (k6.map fun kf => kf.2 + S6 kf.1) = ms at *
  have p4 := p3.set 4 (iL ms)
  have v44 : valAt (ρ3.set 4 (.val (iL ms))) 4 = some (iL ms) := va_self p3 (by decide)
  have v43 : valAt (ρ3.set 4 (.val (iL ms))) 3 = some (iL [(a : Int), (b : Int), (c : Int)]) := by rw [va_ne (by decide)]; exact v33
  have v42 : valAt (ρ3.set 4 (.val (iL ms))) 2 = some (Fg x) := by rw [va_ne (by decide)]; exact v32
  have v41 : valAt (ρ3.set 4 (.val (iL ms))) 1 = some (iL cs) := by rw [va_ne (by decide)]; exact v31
  generalize ρ3.set 4 (.val (iL ms)) = ρ4 at *
  -- drawn
  rw [p4.asg (law_e5 p4 v44 (by (first | lia | omega)))]
  have hdl : (ms.map drOf).length = 6 := by rw [List.length_map, hml]
  have hd : ∀ d ∈ ms.map drOf, DrOK d ∧ d.1 ≠ d.2.1 := fun d hd => by
    obtain ⟨n, _, rfl⟩ := List.mem_map.mp hd
    exact drOf_ok n
  generalize ms.map drOf = ds at *
  have p5 := p4.set 5 (.list (ds.map dV))
  have v55 : valAt (ρ4.set 5 (.val (.list (ds.map dV)))) 5 = some (.list (ds.map dV)) := va_self p4 (by decide)
  have v53 : valAt (ρ4.set 5 (.val (.list (ds.map dV)))) 3 = some (iL [(a : Int), (b : Int), (c : Int)]) := by rw [va_ne (by decide)]; exact v43
  have v52 : valAt (ρ4.set 5 (.val (.list (ds.map dV)))) 2 = some (Fg x) := by rw [va_ne (by decide)]; exact v42
  have v51 : valAt (ρ4.set 5 (.val (.list (ds.map dV)))) 1 = some (iL cs) := by rw [va_ne (by decide)]; exact v41
  generalize ρ4.set 5 (.val (.list (ds.map dV))) = ρ5 at *
  -- rulers
  obtain ⟨m, hm, hmode⟩ : ∃ m : Nat, m < 4 ∧ evE C30 (.bin .mod (.bi .sumL (.cons (.var 1) .nil)) (.lit (.int (4)))) ρ5 = some (.int m) := by
    have f := fmod_nat cs.sum (b := 4) (by decide)
    refine ⟨(Int.fmod cs.sum 4).toNat, f.2, ?_⟩
    rw [← f.1]
    exact (evE_bin ((evE_bi (evEs_one (evE_var v51))).trans (sum_ints cs)) evE_lit).trans (b_mod (by decide))
  have er : evE C30 (.call 13 (.cons (.var 3) (.cons (.bin .mod (.bi .sumL (.cons (.var 1) .nil)) (.lit (.int (4)))) .nil))) ρ5 = some (.tup [iL (rulerF a b c m), iL (toldF a b c m)]) :=
    evE_call (evEs_two (evE_var v53) hmode) (c_rulers 29 a b c m hm)
  rw [asgT2 er]
  have hgi := gi_told (a := (a : Int)) (b := (b : Int)) (c := (c : Int)) (m := m) (by (first | lia | omega)) (by (first | lia | omega)) (by (first | lia | omega)) hm
  rw [toldN_map] at hgi ⊢
  have ho := toldN_len a b c m
  generalize toldN a b c m = o at *
  generalize rulerF (a : Int) (b : Int) (c : Int) m = ruler at *
  have q6 := p5.set 6 (iL ruler)
  have p6 := q6.set 7 (iL (o.map fun (i : Nat) => (i : Int)))
  have v67 : valAt ((ρ5.set 6 (.val (iL ruler))).set 7 (.val (iL (o.map fun (i : Nat) => (i : Int))))) 7 = some (iL (o.map fun (i : Nat) => (i : Int))) := va_self q6 (by decide)
  have v66 : valAt ((ρ5.set 6 (.val (iL ruler))).set 7 (.val (iL (o.map fun (i : Nat) => (i : Int))))) 6 = some (iL ruler) := by rw [va_ne (by decide)]; exact va_self p5 (by decide)
  have v65 : valAt ((ρ5.set 6 (.val (iL ruler))).set 7 (.val (iL (o.map fun (i : Nat) => (i : Int))))) 5 = some (.list (ds.map dV)) := by rw [va_ne (by decide), va_ne (by decide)]; exact v55
  have v62 : valAt ((ρ5.set 6 (.val (iL ruler))).set 7 (.val (iL (o.map fun (i : Nat) => (i : Int))))) 2 = some (Fg x) := by rw [va_ne (by decide), va_ne (by decide)]; exact v52
  generalize (ρ5.set 6 (.val (iL ruler))).set 7 (.val (iL (o.map fun (i : Nat) => (i : Int)))) = ρ6 at *
  -- words
  have hps := pieces_ok hx h9 ho
  have ew := evE_call (C := C30) (evEs_two (law_e7 p6 v62 hx h9) (evE_var v66)) (cut_ok 29 ho hgi)
  rw [p6.asg ew]
  have esh := shared_ok 29 (x := x) ho (by (first | lia | omega))
  generalize pieces x o = ps at *
  have p8 := p6.set 8 (.list (ps.map W))
  have v88 : valAt (ρ6.set 8 (.val (.list (ps.map W)))) 8 = some (.list (ps.map W)) := va_self p6 (by decide)
  have v87 : valAt (ρ6.set 8 (.val (.list (ps.map W)))) 7 = some (iL (o.map fun (i : Nat) => (i : Int))) := by rw [va_ne (by decide)]; exact v67
  have v85 : valAt (ρ6.set 8 (.val (.list (ps.map W)))) 5 = some (.list (ds.map dV)) := by rw [va_ne (by decide)]; exact v65
  have v82 : valAt (ρ6.set 8 (.val (.list (ps.map W)))) 2 = some (Fg x) := by rw [va_ne (by decide)]; exact v62
  generalize ρ6.set 8 (.val (.list (ps.map W))) = ρ8 at *
  -- text
  obtain ⟨d0, dr, hds⟩ : ∃ d0 dr, ds = d0 :: dr := by
    cases ds with
    | nil => cases hdl
    | cons d r => exact ⟨d, r, rfl⟩
  have et : evE C30 (.join (.lit (.str (Str.ofString ","))) (.comp p_law_w7e [26, 27, 28] (.expr (.var 5)) (.lit (.bool true)))) ρ8 = some (.str (tx (textC ds))) := by
    subst hds
    exact law_e8 p8 v85 (fun e he => (hd e he).1) (by (first | lia | omega))
  rw [p8.asg et]
  have p9 := p8.set 9 (.str (tx (textC ds)))
  have v99 : valAt (ρ8.set 9 (.val (.str (tx (textC ds))))) 9 = some (.str (tx (textC ds))) := va_self p8 (by decide)
  have v98 : valAt (ρ8.set 9 (.val (.str (tx (textC ds))))) 8 = some (.list (ps.map W)) := by rw [va_ne (by decide)]; exact v88
  have v97 : valAt (ρ8.set 9 (.val (.str (tx (textC ds))))) 7 = some (iL (o.map fun (i : Nat) => (i : Int))) := by rw [va_ne (by decide)]; exact v87
  have v95 : valAt (ρ8.set 9 (.val (.str (tx (textC ds))))) 5 = some (.list (ds.map dV)) := by rw [va_ne (by decide)]; exact v85
  have v92 : valAt (ρ8.set 9 (.val (.str (tx (textC ds))))) 2 = some (Fg x) := by rw [va_ne (by decide)]; exact v82
  generalize ρ8.set 9 (.val (.str (tx (textC ds)))) = ρ9 at *
  -- mean
  have hst : StOK (ds.map (stOf ps)) := fun e he => by
    obtain ⟨d, hdm, rfl⟩ := List.mem_map.mp he
    exact (hd d hdm).1
  have er1 := evE_call (C := C30) (evEs_one (evE_var v99)) (read_ok 28 (ds := ds) (by rw [hds]; simp) (fun d hdm => (hd d hdm).1) (by (first | lia | omega)))
  have er2 := evE_call (C := C30) (evEs_two er1 (evE_var v98)) (steps_ok 27 hps hd (by (first | lia | omega)))
  have er3 := evE_call (C := C30) (evEs_one er2) (walks_ok 28 hst)
  have er4 := evE_call (C := C30) (evEs_one er3) (mean_ok 28 (F := FW (ds.map (stOf ps))) (FW_len _))
  rw [p9.asg er4]
  have p10 := p9.set 10 (mV (meanF (FW (ds.map (stOf ps)))))
  have v1010 : valAt (ρ9.set 10 (.val (mV (meanF (FW (ds.map (stOf ps))))))) 10 = some (mV (meanF (FW (ds.map (stOf ps))))) := va_self p9 (by decide)
  have v107 : valAt (ρ9.set 10 (.val (mV (meanF (FW (ds.map (stOf ps))))))) 7 = some (iL (o.map fun (i : Nat) => (i : Int))) := by rw [va_ne (by decide)]; exact v97
  have v105 : valAt (ρ9.set 10 (.val (mV (meanF (FW (ds.map (stOf ps))))))) 5 = some (.list (ds.map dV)) := by rw [va_ne (by decide)]; exact v95
  have v102 : valAt (ρ9.set 10 (.val (mV (meanF (FW (ds.map (stOf ps))))))) 2 = some (Fg x) := by rw [va_ne (by decide)]; exact v92
  generalize ρ9.set 10 (.val (mV (meanF (FW (ds.map (stOf ps)))))) = ρ10 at *
  -- shared
  have es := evE_call (C := C30) (evEs_two (evE_var v102) (evE_var v107)) esh
  rw [p10.asg es]
  have p11 := p10.set 11 (.list (ps.map Fg))
  have v1111 : valAt (ρ10.set 11 (.val (.list (ps.map Fg)))) 11 = some (.list (ps.map Fg)) := va_self p10 (by decide)
  have v1110 : valAt (ρ10.set 11 (.val (.list (ps.map Fg)))) 10 = some (mV (meanF (FW (ds.map (stOf ps))))) := by rw [va_ne (by decide)]; exact v1010
  have v115 : valAt (ρ10.set 11 (.val (.list (ps.map Fg)))) 5 = some (.list (ds.map dV)) := by rw [va_ne (by decide)]; exact v105
  generalize ρ10.set 11 (.val (.list (ps.map Fg))) = ρ11 at *
  -- priced
  rw [p11.asg (law_e12 29 p11 hps v115 v1111 hd (by (first | lia | omega)))]
  have hel : (edges (ds.map (stOf ps))).length = 6 := by rw [List.length_map, List.length_map, hdl]
  have p12 := p11.set 12 (Es (edges (ds.map (stOf ps))))
  have v1212 : valAt (ρ11.set 12 (.val (Es (edges (ds.map (stOf ps)))))) 12 = some (Es (edges (ds.map (stOf ps)))) := va_self p11 (by decide)
  have v1210 : valAt (ρ11.set 12 (.val (Es (edges (ds.map (stOf ps)))))) 10 = some (mV (meanF (FW (ds.map (stOf ps))))) := by rw [va_ne (by decide)]; exact v1110
  generalize ρ11.set 12 (.val (Es (edges (ds.map (stOf ps))))) = ρ12 at *
  -- rounds
  rw [p12.asg (law_e13 29 (by decide) p12 v1212 (by (first | lia | omega)) (by (first | lia | omega)) (edges_ok hst))]
  have p13 := p12.set 13 (iL (roundsAll (edges (ds.map (stOf ps)))))
  have v1313 : valAt (ρ12.set 13 (.val (iL (roundsAll (edges (ds.map (stOf ps))))))) 13 = some (iL (roundsAll (edges (ds.map (stOf ps))))) := va_self p12 (by decide)
  have v1310 : valAt (ρ12.set 13 (.val (iL (roundsAll (edges (ds.map (stOf ps))))))) 10 = some (mV (meanF (FW (ds.map (stOf ps))))) := by rw [va_ne (by decide)]; exact v1210
  exact law_end p13 hst v1310 v1313

theorem the_law : PySem.Challenge.rw_tl0024_01.Holds := law_top 30 (by decide) law_says30
end Mine

theorem PySem.Challenge.cw_tl0024_01_holds : PySem.Challenge.rw_tl0024_01.Holds := by
  exact Mine.the_law
