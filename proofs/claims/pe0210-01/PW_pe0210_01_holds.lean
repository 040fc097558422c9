import PyProof.Rows.All
import Wide.All
import OpenK.AllK
import Wide.FinOn
import Lean
import PySem.Challenge.RW_pe0210_01
set_option Elab.async false

set_option maxRecDepth 100000
set_option linter.unusedVariables false
namespace Mine
open PySem PyProof.Rows PySem.W PyProof.V
/-- the written part of the heap behind the top: the names, the defs, their codes, the table -/
noncomputable def stAt (i : Nat) : Option Stmt := PySem.Challenge.pw_pe0210_01.main.body[i]?
noncomputable def fnOf (i : Nat) (pm : Value) (cd : Addr) : Obj := match stAt i with
  | some (.FunctionDef name ps b _ _ _ sc _ _ _) => ⟨.type "function", none, .func { name := name, qualname := name, params := ps, body := .stmts b, scope := sc, globals := 3, closure := [], defaults := .none, kwdefaults := .none, pyModule := pm, code := .ref cd }, #[]⟩
  | _ => ⟨.none, none, .plain, #[]⟩
noncomputable def ent (P : Params) (x : Str) (t : Nat) (v : Value) : DictEntry := { hash := PyData.keyHash P x, key := .str x t, val := v }
noncomputable def mainD (P : Params) : Obj := ⟨.type "dict", none, .dict #[ent P (Str.ofString "__name__") 165 (.str (Str.ofString "law_pe0210_01") 462), ent P (Str.ofString "__doc__") 166 (.none), ent P (Str.ofString "__package__") 167 (.none), ent P (Str.ofString "__loader__") 168 (.builtin "__main__.__loader__#opaque"), ent P (Str.ofString "__spec__") 169 (.none), ent P (Str.ofString "__annotations__") 170 (.ref 6), ent P (Str.ofString "__builtins__") 171 (.ref 4), ent P (Str.ofString "__file__") 173 (.str (Str.ofString "/claim/cut.py") 172), ent P (Str.ofString "__cached__") 174 (.none), ent P (Str.ofString "_DIV_LIMIT") 190 (.int 4000 189), ent P (Str.ofString "_div2n1n") 207 (.ref 21), ent P (Str.ofString "_div3n2n") 221 (.ref 28), ent P (Str.ofString "_int2digits") 232 (.ref 35), ent P (Str.ofString "_digits2int") 243 (.ref 42), ent P (Str.ofString "_divmod_pos") 258 (.ref 49), ent P (Str.ofString "int_divmod") 268 (.ref 56), ent P (Str.ofString "LPAR") 270 (.int 7 269), ent P (Str.ofString "RPAR") 272 (.int 8 271), ent P (Str.ofString "LSQB") 274 (.int 9 273), ent P (Str.ofString "RSQB") 276 (.int 10 275), ent P (Str.ofString "COLON") 278 (.int 11 277), ent P (Str.ofString "COMMA") 280 (.int 12 279), ent P (Str.ofString "SEMI") 282 (.int 13 281), ent P (Str.ofString "PLUS") 284 (.int 14 283), ent P (Str.ofString "MINUS") 286 (.int 15 285), ent P (Str.ofString "STAR") 288 (.int 16 287), ent P (Str.ofString "SLASH") 290 (.int 17 289), ent P (Str.ofString "VBAR") 292 (.int 18 291), ent P (Str.ofString "AMPER") 294 (.int 19 293), ent P (Str.ofString "LESS") 296 (.int 20 295), ent P (Str.ofString "GREATER") 298 (.int 21 297), ent P (Str.ofString "EQUAL") 300 (.int 22 299), ent P (Str.ofString "DOT") 302 (.int 23 301), ent P (Str.ofString "PERCENT") 304 (.int 24 303), ent P (Str.ofString "LBRACE") 306 (.int 25 305), ent P (Str.ofString "RBRACE") 308 (.int 26 307), ent P (Str.ofString "EQEQUAL") 310 (.int 27 309), ent P (Str.ofString "NOTEQUAL") 312 (.int 28 311), ent P (Str.ofString "LESSEQUAL") 314 (.int 29 313), ent P (Str.ofString "GREATEREQUAL") 316 (.int 30 315), ent P (Str.ofString "TILDE") 318 (.int 31 317), ent P (Str.ofString "CIRCUMFLEX") 320 (.int 32 319), ent P (Str.ofString "LEFTSHIFT") 322 (.int 33 321), ent P (Str.ofString "RIGHTSHIFT") 324 (.int 34 323), ent P (Str.ofString "DOUBLESTAR") 326 (.int 35 325), ent P (Str.ofString "PLUSEQUAL") 328 (.int 36 327), ent P (Str.ofString "MINEQUAL") 330 (.int 37 329), ent P (Str.ofString "STAREQUAL") 332 (.int 38 331), ent P (Str.ofString "SLASHEQUAL") 334 (.int 39 333), ent P (Str.ofString "PERCENTEQUAL") 336 (.int 40 335), ent P (Str.ofString "AMPEREQUAL") 338 (.int 41 337), ent P (Str.ofString "VBAREQUAL") 340 (.int 42 339), ent P (Str.ofString "CIRCUMFLEXEQUAL") 342 (.int 43 341), ent P (Str.ofString "LEFTSHIFTEQUAL") 344 (.int 44 343), ent P (Str.ofString "RIGHTSHIFTEQUAL") 346 (.int 45 345), ent P (Str.ofString "DOUBLESTAREQUAL") 348 (.int 46 347), ent P (Str.ofString "DOUBLESLASH") 350 (.int 47 349), ent P (Str.ofString "DOUBLESLASHEQUAL") 352 (.int 48 351), ent P (Str.ofString "AT") 354 (.int 49 353), ent P (Str.ofString "ATEQUAL") 356 (.int 50 355), ent P (Str.ofString "RARROW") 358 (.int 51 357), ent P (Str.ofString "ELLIPSIS") 360 (.int 52 359), ent P (Str.ofString "COLONEQUAL") 362 (.int 53 361), ent P (Str.ofString "EXCLAMATION") 364 (.int 54 363), ent P (Str.ofString "EXACT_TOKEN_TYPES") 461 (.ref 57), ent P (Str.ofString "_law_sign") 470 (.ref 66), ent P (Str.ofString "_law_near") 477 (.ref 73), ent P (Str.ofString "_law_pieces") 483 (.ref 80), ent P (Str.ofString "_law_numbers") 492 (.ref 87), ent P (Str.ofString "_law_sizes") 498 (.ref 92), ent P (Str.ofString "_law_totals") 504 (.ref 97), ent P (Str.ofString "_law_sums") 515 (.ref 104), ent P (Str.ofString "_law_drawn") 530 (.ref 111), ent P (Str.ofString "_law_told") 547 (.ref 118), ent P (Str.ofString "_law_worth") 563 (.ref 125), ent P (Str.ofString "_law_back") 576 (.ref 132), ent P (Str.ofString "law") 582 (.ref 137)] 77, #[]⟩
noncomputable def tabD (P : Params) : Obj := ⟨.type "dict", none, .dict #[ent P (Str.ofString "!") 365 (.int 54 363), ent P (Str.ofString "!=") 367 (.int 28 311), ent P (Str.ofString "%") 369 (.int 24 303), ent P (Str.ofString "%=") 371 (.int 40 335), ent P (Str.ofString "&") 373 (.int 19 293), ent P (Str.ofString "&=") 375 (.int 41 337), ent P (Str.ofString "(") 377 (.int 7 269), ent P (Str.ofString ")") 379 (.int 8 271), ent P (Str.ofString "*") 381 (.int 16 287), ent P (Str.ofString "**") 383 (.int 35 325), ent P (Str.ofString "**=") 385 (.int 46 347), ent P (Str.ofString "*=") 387 (.int 38 331), ent P (Str.ofString "+") 389 (.int 14 283), ent P (Str.ofString "+=") 391 (.int 36 327), ent P (Str.ofString ",") 393 (.int 12 279), ent P (Str.ofString "-") 395 (.int 15 285), ent P (Str.ofString "-=") 397 (.int 37 329), ent P (Str.ofString "->") 399 (.int 51 357), ent P (Str.ofString ".") 401 (.int 23 301), ent P (Str.ofString "...") 403 (.int 52 359), ent P (Str.ofString "/") 405 (.int 17 289), ent P (Str.ofString "//") 407 (.int 47 349), ent P (Str.ofString "//=") 409 (.int 48 351), ent P (Str.ofString "/=") 411 (.int 39 333), ent P (Str.ofString ":") 413 (.int 11 277), ent P (Str.ofString ":=") 415 (.int 53 361), ent P (Str.ofString ";") 417 (.int 13 281), ent P (Str.ofString "<") 419 (.int 20 295), ent P (Str.ofString "<<") 421 (.int 33 321), ent P (Str.ofString "<<=") 423 (.int 44 343), ent P (Str.ofString "<=") 425 (.int 29 313), ent P (Str.ofString "=") 427 (.int 22 299), ent P (Str.ofString "==") 429 (.int 27 309), ent P (Str.ofString ">") 431 (.int 21 297), ent P (Str.ofString ">=") 433 (.int 30 315), ent P (Str.ofString ">>") 434 (.int 34 323), ent P (Str.ofString ">>=") 435 (.int 45 345), ent P (Str.ofString "@") 436 (.int 49 353), ent P (Str.ofString "@=") 437 (.int 50 355), ent P (Str.ofString "[") 438 (.int 9 273), ent P (Str.ofString "]") 439 (.int 10 275), ent P (Str.ofString "^") 440 (.int 32 319), ent P (Str.ofString "^=") 441 (.int 43 341), ent P (Str.ofString "{") 442 (.int 25 305), ent P (Str.ofString "|") 443 (.int 18 291), ent P (Str.ofString "|=") 444 (.int 42 339), ent P (Str.ofString "}") 445 (.int 26 307), ent P (Str.ofString "~") 446 (.int 31 317)] 48, #[]⟩
noncomputable def cod20 : Obj := { cls := Value.type "code", data := Data.fields #[Value.str (Str.ofString "_div2n1n") 191, Value.str (Str.ofString "_div2n1n") 192, Value.str (Str.ofString "/claim/cut.py") 193, Value.int 3 0, Value.int 3 0, Value.int 0 0, Value.int 0 0, Value.int 3 0, Value.ref 15, Value.bool true, Value.int 181 0, Value.ref 16, Value.none, Value.ref 17, Value.ref 18, Value.ref 19, Value.int 205 0, Value.int 3 0, Value.str (Str.ofString "/claim/cut.py") 206] }
noncomputable def cod34 : Obj := { cls := Value.type "code", data := Data.fields #[Value.str (Str.ofString "_int2digits") 222, Value.str (Str.ofString "_int2digits") 223, Value.str (Str.ofString "/claim/cut.py") 224, Value.int 29 0, Value.int 2 0, Value.int 0 0, Value.int 0 0, Value.int 3 0, Value.ref 29, Value.bool true, Value.int 181 0, Value.ref 30, Value.none, Value.ref 31, Value.ref 32, Value.ref 33, Value.int 230 0, Value.int 29 0, Value.str (Str.ofString "/claim/cut.py") 231] }
noncomputable def cod41 : Obj := { cls := Value.type "code", data := Data.fields #[Value.str (Str.ofString "_digits2int") 233, Value.str (Str.ofString "_digits2int") 234, Value.str (Str.ofString "/claim/cut.py") 235, Value.int 45 0, Value.int 2 0, Value.int 0 0, Value.int 0 0, Value.int 3 0, Value.ref 36, Value.bool true, Value.int 181 0, Value.ref 37, Value.none, Value.ref 38, Value.ref 39, Value.ref 40, Value.int 241 0, Value.int 45 0, Value.str (Str.ofString "/claim/cut.py") 242] }
noncomputable def cod48 : Obj := { cls := Value.type "code", data := Data.fields #[Value.str (Str.ofString "_divmod_pos") 244, Value.str (Str.ofString "_divmod_pos") 245, Value.str (Str.ofString "/claim/cut.py") 246, Value.int 54 0, Value.int 2 0, Value.int 0 0, Value.int 0 0, Value.int 3 0, Value.ref 43, Value.bool true, Value.int 181 0, Value.ref 44, Value.none, Value.ref 45, Value.ref 46, Value.ref 47, Value.int 256 0, Value.int 54 0, Value.str (Str.ofString "/claim/cut.py") 257] }
noncomputable def cod55 : Obj := { cls := Value.type "code", data := Data.fields #[Value.str (Str.ofString "int_divmod") 259, Value.str (Str.ofString "int_divmod") 260, Value.str (Str.ofString "/claim/cut.py") 261, Value.int 65 0, Value.int 2 0, Value.int 0 0, Value.int 0 0, Value.int 3 0, Value.ref 50, Value.bool true, Value.int 181 0, Value.ref 51, Value.none, Value.ref 52, Value.ref 53, Value.ref 54, Value.int 266 0, Value.int 65 0, Value.str (Str.ofString "/claim/cut.py") 267] }
noncomputable def cod65 : Obj := { cls := Value.type "code", data := Data.fields #[Value.str (Str.ofString "_law_sign") 464, Value.str (Str.ofString "_law_sign") 465, Value.str (Str.ofString "/claim/cut.py") 466, Value.int 126 0, Value.int 1 0, Value.int 0 0, Value.int 0 0, Value.int 3 0, Value.ref 60, Value.bool true, Value.int 181 0, Value.ref 61, Value.none, Value.ref 62, Value.ref 63, Value.ref 64, Value.int 468 0, Value.int 126 0, Value.str (Str.ofString "/claim/cut.py") 469] }
noncomputable def cod72 : Obj := { cls := Value.type "code", data := Data.fields #[Value.str (Str.ofString "_law_near") 471, Value.str (Str.ofString "_law_near") 472, Value.str (Str.ofString "/claim/cut.py") 473, Value.int 132 0, Value.int 1 0, Value.int 0 0, Value.int 0 0, Value.int 3 0, Value.ref 67, Value.bool true, Value.int 181 0, Value.ref 68, Value.none, Value.ref 69, Value.ref 70, Value.ref 71, Value.int 475 0, Value.int 132 0, Value.str (Str.ofString "/claim/cut.py") 476] }
noncomputable def cod79 : Obj := { cls := Value.type "code", data := Data.fields #[Value.str (Str.ofString "_law_pieces") 478, Value.str (Str.ofString "_law_pieces") 479, Value.str (Str.ofString "/claim/cut.py") 480, Value.int 134 0, Value.int 0 0, Value.int 0 0, Value.int 0 0, Value.int 3 0, Value.ref 74, Value.bool true, Value.int 181 0, Value.ref 75, Value.none, Value.ref 76, Value.ref 77, Value.ref 78, Value.int 481 0, Value.int 134 0, Value.str (Str.ofString "/claim/cut.py") 482] }
noncomputable def cod86 : Obj := { cls := Value.type "code", data := Data.fields #[Value.str (Str.ofString "_law_numbers") 484, Value.str (Str.ofString "_law_numbers") 485, Value.str (Str.ofString "/claim/cut.py") 486, Value.int 136 0, Value.int 1 0, Value.int 0 0, Value.int 0 0, Value.int 3 0, Value.ref 81, Value.bool true, Value.int 181 0, Value.ref 82, Value.none, Value.ref 83, Value.ref 84, Value.ref 85, Value.int 490 0, Value.int 136 0, Value.str (Str.ofString "/claim/cut.py") 491] }
noncomputable def cod91 : Obj := { cls := Value.type "code", data := Data.fields #[Value.str (Str.ofString "_law_sizes") 493, Value.str (Str.ofString "_law_sizes") 494, Value.str (Str.ofString "/claim/cut.py") 495, Value.int 141 0, Value.int 3 0, Value.int 0 0, Value.int 0 0, Value.int 3 0, Value.ref 88, Value.bool true, Value.int 181 0, Value.ref 89, Value.none, Value.none, Value.none, Value.ref 90, Value.int 496 0, Value.int 141 0, Value.str (Str.ofString "/claim/cut.py") 497] }
noncomputable def cod96 : Obj := { cls := Value.type "code", data := Data.fields #[Value.str (Str.ofString "_law_totals") 499, Value.str (Str.ofString "_law_totals") 500, Value.str (Str.ofString "/claim/cut.py") 501, Value.int 143 0, Value.int 2 0, Value.int 0 0, Value.int 0 0, Value.int 3 0, Value.ref 93, Value.bool true, Value.int 181 0, Value.ref 94, Value.none, Value.none, Value.none, Value.ref 95, Value.int 502 0, Value.int 143 0, Value.str (Str.ofString "/claim/cut.py") 503] }
noncomputable def cod103 : Obj := { cls := Value.type "code", data := Data.fields #[Value.str (Str.ofString "_law_sums") 505, Value.str (Str.ofString "_law_sums") 506, Value.str (Str.ofString "/claim/cut.py") 507, Value.int 158 0, Value.int 1 0, Value.int 0 0, Value.int 0 0, Value.int 3 0, Value.ref 98, Value.bool true, Value.int 181 0, Value.ref 99, Value.none, Value.ref 100, Value.ref 101, Value.ref 102, Value.int 513 0, Value.int 158 0, Value.str (Str.ofString "/claim/cut.py") 514] }
noncomputable def cod110 : Obj := { cls := Value.type "code", data := Data.fields #[Value.str (Str.ofString "_law_drawn") 516, Value.str (Str.ofString "_law_drawn") 517, Value.str (Str.ofString "/claim/cut.py") 518, Value.int 167 0, Value.int 3 0, Value.int 0 0, Value.int 0 0, Value.int 3 0, Value.ref 105, Value.bool true, Value.int 181 0, Value.ref 106, Value.none, Value.ref 107, Value.ref 108, Value.ref 109, Value.int 528 0, Value.int 167 0, Value.str (Str.ofString "/claim/cut.py") 529] }
noncomputable def cod117 : Obj := { cls := Value.type "code", data := Data.fields #[Value.str (Str.ofString "_law_told") 531, Value.str (Str.ofString "_law_told") 532, Value.str (Str.ofString "/claim/cut.py") 533, Value.int 178 0, Value.int 3 0, Value.int 0 0, Value.int 0 0, Value.int 3 0, Value.ref 112, Value.bool true, Value.int 181 0, Value.ref 113, Value.none, Value.ref 114, Value.ref 115, Value.ref 116, Value.int 545 0, Value.int 178 0, Value.str (Str.ofString "/claim/cut.py") 546] }
noncomputable def cod124 : Obj := { cls := Value.type "code", data := Data.fields #[Value.str (Str.ofString "_law_worth") 548, Value.str (Str.ofString "_law_worth") 549, Value.str (Str.ofString "/claim/cut.py") 550, Value.int 193 0, Value.int 5 0, Value.int 0 0, Value.int 0 0, Value.int 3 0, Value.ref 119, Value.bool true, Value.int 181 0, Value.ref 120, Value.none, Value.ref 121, Value.ref 122, Value.ref 123, Value.int 561 0, Value.int 193 0, Value.str (Str.ofString "/claim/cut.py") 562] }
noncomputable def cod131 : Obj := { cls := Value.type "code", data := Data.fields #[Value.str (Str.ofString "_law_back") 564, Value.str (Str.ofString "_law_back") 565, Value.str (Str.ofString "/claim/cut.py") 566, Value.int 207 0, Value.int 1 0, Value.int 0 0, Value.int 0 0, Value.int 3 0, Value.ref 126, Value.bool true, Value.int 181 0, Value.ref 127, Value.none, Value.ref 128, Value.ref 129, Value.ref 130, Value.int 574 0, Value.int 207 0, Value.str (Str.ofString "/claim/cut.py") 575] }
noncomputable def cod136 : Obj := { cls := Value.type "code", data := Data.fields #[Value.str (Str.ofString "law") 577, Value.str (Str.ofString "law") 578, Value.str (Str.ofString "/claim/cut.py") 579, Value.int 217 0, Value.int 1 0, Value.int 0 0, Value.int 0 0, Value.int 3 0, Value.ref 133, Value.bool true, Value.int 181 0, Value.ref 134, Value.none, Value.none, Value.none, Value.ref 135, Value.int 580 0, Value.int 217 0, Value.str (Str.ofString "/claim/cut.py") 581] }
noncomputable def pmA : Value := .str (Str.ofString "cpy313._pylong") 187
noncomputable def pmB : Value := .str (Str.ofString "law_pe0210_01") 462
noncomputable def KK (P : Params) : Frag := [(3, mainD P), (20, cod20), (21, fnOf 2 pmA 20), (34, cod34), (35, fnOf 4 pmA 34), (41, cod41), (42, fnOf 5 pmA 41), (48, cod48), (49, fnOf 6 pmA 48), (55, cod55), (56, fnOf 7 pmA 55), (57, tabD P), (65, cod65), (66, fnOf 58 pmB 65), (72, cod72), (73, fnOf 59 pmB 72), (79, cod79), (80, fnOf 60 pmB 79), (86, cod86), (87, fnOf 61 pmB 86), (91, cod91), (92, fnOf 62 pmB 91), (96, cod96), (97, fnOf 63 pmB 96), (103, cod103), (104, fnOf 64 pmB 103), (110, cod110), (111, fnOf 65 pmB 110), (117, cod117), (118, fnOf 66 pmB 117), (124, cod124), (125, fnOf 67 pmB 124), (131, cod131), (132, fnOf 68 pmB 131), (136, cod136), (137, fnOf 69 pmB 136)]
noncomputable def KA : List Addr := [3, 20, 21, 34, 35, 41, 42, 48, 49, 55, 56, 57, 65, 66, 72, 73, 79, 80, 86, 87, 91, 92, 96, 97, 103, 104, 110, 111, 117, 118, 124, 125, 131, 132, 136, 137]
theorem ka (P : Params) : KA = (KK P).map (·.1) := by kernel_rfl
end Mine

set_option maxRecDepth 100000
set_option linter.unusedVariables false
namespace Mine
open PySem PyProof.Rows PySem.W PyProof.V
/-- the statements of the text by their place: the head then turns one constant and not the whole text again -/
def st (i : Nat) : Stmt := match PySem.Challenge.pw_pe0210_01.main.body[i]? with
  | some s => s
  | none => .Pass ⟨0, 0, 0, 0⟩
def pwT : Program := { PySem.Challenge.pw_pe0210_01 with main := { PySem.Challenge.pw_pe0210_01.main with body := [st 0, st 1, st 2, st 3, st 4, st 5, st 6, st 7, st 8, st 9, st 10, st 11, st 12, st 13, st 14, st 15, st 16, st 17, st 18, st 19, st 20, st 21, st 22, st 23, st 24, st 25, st 26, st 27, st 28, st 29, st 30, st 31, st 32, st 33, st 34, st 35, st 36, st 37, st 38, st 39, st 40, st 41, st 42, st 43, st 44, st 45, st 46, st 47, st 48, st 49, st 50, st 51, st 52, st 53, st 54, st 55, st 56, st 57, st 58, st 59, st 60, st 61, st 62, st 63, st 64, st 65, st 66, st 67, st 68, st 69] } }
def rwT : OpenLaw := { PySem.Challenge.rw_pe0210_01 with prog := pwT }
theorem rwT_eq : PySem.Challenge.rw_pe0210_01 = rwT := by kernel_rfl
end Mine

set_option linter.unusedVariables false
namespace Mine
open PySem PyProof.Rows PySem.W PyProof.V

theorem turn_lt {n i : Nat} (h : i < n) : n + 1 - (i + 1) < n + 1 - i := Nat.sub_lt_sub_left (Nat.lt_succ_of_lt h) (Nat.lt_succ_self i)
/-- the data that the program's values stand for -/
inductive D where
  | none | bool (b : Bool) | int (i : Int) | str (s : Str)
  | list (l : List D) | tup (l : List D) | dict (l : List (Str × Int))

noncomputable def Nt (a : Addr) : Prop := a ≠ 30 ∧ a ≠ 37
noncomputable def Ext (h h' : Heap) : Prop := ∀ a o, Nt a → h.get? a = some o → h'.get? a = some o
theorem Ext.refl (h : Heap) : Ext h h := fun _ _ _ e => e
theorem Ext.trans {a b c : Heap} (x : Ext a b) (y : Ext b c) : Ext a c := fun p o n e => y p o n (x p o n e)
theorem Ext.of_keep {h h' : Heap} (k : ∀ b o, h.get? b = some o → h'.get? b = some o) : Ext h h' := fun a o _ e => k a o e

section
variable (prog : Program) (w : World)
mutual
inductive Rep (P : Addr → Prop) (h : Heap) : Value → D → Prop
  | none : Rep P h .none .none
  | bool {b} : Rep P h (.bool b) (.bool b)
  | int {i t} : Rep P h (.int i t) (.int i)
  | str {x t} : Rep P h (.str x t) (.str x)
  | list {a vs ds} (p : P a) (n : Nt a) (l : h.IsList a (List.toArray vs)) (r : RepL P h vs ds) : Rep P h (.ref a) (.list ds)
  | tup {a vs ds} (p : P a) (n : Nt a) (l : h.IsTuple a (List.toArray vs)) (r : RepL P h vs ds) : Rep P h (.ref a) (.tup ds)
  | dict {a c} (p : P a) (n : Nt a) (l : StrTab prog w h a (kdpD c)) : Rep P h (.ref a) (.dict c)
inductive RepL (P : Addr → Prop) (h : Heap) : List Value → List D → Prop
  | nil : RepL P h [] []
  | cons {v vs d ds} (r : Rep P h v d) (rs : RepL P h vs ds) : RepL P h (v :: vs) (d :: ds)
end
end

section
variable {prog : Program} {w : World} {P Q : Addr → Prop} {h h' : Heap}

/-- an object of fields: an iterator, a code, a range .. -/
noncomputable def Fld (o : Obj) : Prop := ∃ vs, o.data = .fields vs
theorem strTab_data {h : Heap} {a : Addr} {o : Obj} {c} (x : StrTab prog w h a c) (e : h.get? a = some o) : ¬ Fld o := by
  obtain ⟨_, kvs, hd, _⟩ := x
  obtain ⟨o', ho, hh⟩ := Heap.dictOf_iff.mp hd
  rw [e] at ho; cases ho
  rintro ⟨vs, hv⟩
  obtain ⟨_, _, h1, _⟩ := hh
  simp_all
theorem lt_of_get {h : Heap} {a : Addr} {o : Obj} (e : h.get? a = some o) : a < h.objs.size := Heap.lt_size e

theorem dictOf_at {knd : KeyKind prog w Str} {a : Addr} {kvs} (x : h.DictOf knd a kvs) : ∃ o, h.get? a = some o := by
  obtain ⟨o, ho, _⟩ := Heap.dictOf_iff.mp x
  exact ⟨o, ho⟩

theorem strTab_at {a : Addr} {c} (x : StrTab prog w h a c) : ∃ o, h.get? a = some o := by
  obtain ⟨_, kvs, hd, _⟩ := x
  exact dictOf_at hd

theorem strTab_keep1 {a : Addr} {c} (x : StrTab prog w h a c) (k : ∀ o, h.get? a = some o → h'.get? a = some o) : StrTab prog w h' a c := by
  obtain ⟨lo, kvs, hd, hf⟩ := x
  obtain ⟨o, ho, hh⟩ := Heap.dictOf_iff.mp hd
  exact ⟨lo, kvs, Heap.dictOf_iff.mpr ⟨o, k o ho, hh⟩, hf⟩

theorem Fld.seq {o : Obj} {x : Array Value} {n : Nat} (h : o.data = .seq x n) : ¬ Fld o := fun ⟨_, z⟩ => by rw [h] at z; cases z
theorem monoK_all (k : ∀ a o, P a → Nt a → h.get? a = some o → ¬ Fld o → Q a ∧ h'.get? a = some o) : (∀ v d, Rep prog w P h v d → Rep prog w Q h' v d) ∧ ∀ v d, RepL prog w P h v d → RepL prog w Q h' v d :=
  have kk : ∀ {a : Addr} {x : Array Value} {n : Nat} {o : Obj}, P a → Nt a → h.get? a = some o → o.data = .seq x n → Q a ∧ h'.get? a = some o := fun p n e hq => k _ _ p n e (Fld.seq hq)
  have f := @Rep.rec prog w P h (fun v d _ => Rep prog w Q h' v d) (fun v d _ => RepL prog w Q h' v d) .none .bool .int .str
    (fun p n l _ ih => let ⟨_, e, hc, q, hq⟩ := l; let x := kk p n e hq; .list x.1 n ⟨_, x.2, hc, q, hq⟩ ih) (fun p n l _ ih => let ⟨_, e, hc, q, hq⟩ := l; let x := kk p n e hq; .tup x.1 n ⟨_, x.2, hc, q, hq⟩ ih)
    (fun p n l => let ⟨o, e⟩ := strTab_at l; .dict (k _ o p n e (strTab_data l e)).1 n (strTab_keep1 l fun o e => (k _ o p n e (strTab_data l e)).2)) .nil (fun _ _ r rs => .cons r rs)
  ⟨fun _ _ r => f r, fun _ _ r => RepL.rec (motive_1 := fun _ _ _ => True) (motive_2 := fun v d _ => RepL prog w Q h' v d) trivial trivial trivial trivial (fun _ _ _ _ _ => trivial) (fun _ _ _ _ _ => trivial) (fun _ _ _ => trivial) .nil (fun r _ _ rs => .cons (f r) rs) r⟩
theorem Rep.monoK {v : Value} {d : D} (r : Rep prog w P h v d) (k : ∀ a o, P a → Nt a → h.get? a = some o → ¬ Fld o → Q a ∧ h'.get? a = some o) : Rep prog w Q h' v d := (monoK_all k).1 v d r
theorem RepL.monoK {v : List Value} {d : List D} (r : RepL prog w P h v d) (k : ∀ a o, P a → Nt a → h.get? a = some o → ¬ Fld o → Q a ∧ h'.get? a = some o) : RepL prog w Q h' v d := (monoK_all k).2 v d r
theorem Rep.mono {v : Value} {d : D} (r : Rep prog w P h v d) (k : ∀ a o, P a → Nt a → h.get? a = some o → Q a ∧ h'.get? a = some o) : Rep prog w Q h' v d := r.monoK fun a o p n e _ => k a o p n e
theorem RepL.mono {v : List Value} {d : List D} (r : RepL prog w P h v d) (k : ∀ a o, P a → Nt a → h.get? a = some o → Q a ∧ h'.get? a = some o) : RepL prog w Q h' v d := r.monoK fun a o p n e _ => k a o p n e

theorem Rep.ext {v : Value} {d : D} (r : Rep prog w P h v d) (x : Ext h h') : Rep prog w P h' v d := r.mono fun a o p n e => ⟨p, x a o n e⟩
theorem RepL.ext {v : List Value} {d : List D} (r : RepL prog w P h v d) (x : Ext h h') : RepL prog w P h' v d := r.mono fun a o p n e => ⟨p, x a o n e⟩
theorem Rep.weak {v : Value} {d : D} (r : Rep prog w P h v d) (k : ∀ a, P a → Q a) : Rep prog w Q h v d := r.mono fun a o p _ e => ⟨k a p, e⟩
theorem RepL.weak {v : List Value} {d : List D} (r : RepL prog w P h v d) (k : ∀ a, P a → Q a) : RepL prog w Q h v d := r.mono fun a o p _ e => ⟨k a p, e⟩
/-- what is represented stands in the heap -/
theorem Rep.dom {v : Value} {d : D} (r : Rep prog w P h v d) : Rep prog w (fun a => P a ∧ ∃ o, h.get? a = some o) h v d := r.mono fun a o p _ e => ⟨⟨p, o, e⟩, e⟩
theorem RepL.dom {v : List Value} {d : List D} (r : RepL prog w P h v d) : RepL prog w (fun a => P a ∧ ∃ o, h.get? a = some o) h v d := r.mono fun a o p _ e => ⟨⟨p, o, e⟩, e⟩
theorem RepL.ind {M : List Value → List D → Prop} (h0 : M [] []) (h1 : ∀ {v vs d ds}, Rep prog w P h v d → RepL prog w P h vs ds → M vs ds → M (v :: vs) (d :: ds)) {v : List Value} {d : List D} (r : RepL prog w P h v d) : M v d :=
  RepL.rec (motive_1 := fun _ _ _ => True) (motive_2 := fun v d _ => M v d) trivial trivial trivial trivial (fun _ _ _ _ _ => trivial) (fun _ _ _ _ _ => trivial) (fun _ _ _ => trivial) h0 (fun r rs _ x => h1 r rs x) r
theorem RepL.length {v : List Value} {d : List D} (r : RepL prog w P h v d) : v.length = d.length := r.ind (M := fun v d => v.length = d.length) rfl fun _ _ x => congrArg Nat.succ x
theorem RepL.nth {v : List Value} {d : List D} (r : RepL prog w P h v d) : ∀ (i : Nat) y x, v[i]? = some y → d[i]? = some x → Rep prog w P h y x :=
  r.ind (M := fun v d => ∀ (i : Nat) y x, v[i]? = some y → d[i]? = some x → Rep prog w P h y x) (fun _ _ _ e => by simp at e) fun r _ x i => match i with
    | 0 => fun _ _ e e' => Option.some.inj e ▸ Option.some.inj e' ▸ r
    | i + 1 => x i
theorem RepL.get {v : List Value} {d : List D} (r : RepL prog w P h v d) {i : Nat} {x : D} (e : d[i]? = some x) : ∃ y, v[i]? = some y ∧ Rep prog w P h y x :=
  have hl : i < v.length := r.length ▸ (List.getElem?_eq_some_iff.mp e).1
  ⟨_, List.getElem?_eq_getElem hl, r.nth _ _ _ (List.getElem?_eq_getElem hl) e⟩
theorem RepL.append {v v' : List Value} {d d' : List D} (r : RepL prog w P h v d) (r' : RepL prog w P h v' d') : RepL prog w P h (v ++ v') (d ++ d') := r.ind (M := fun v d => RepL prog w P h (v ++ v') (d ++ d')) r' fun r _ x => .cons r x
theorem RepL.get' {v : List Value} {d : List D} (r : RepL prog w P h v d) {i : Nat} {y : Value} (e : v[i]? = some y) : ∃ x, d[i]? = some x ∧ Rep prog w P h y x :=
  have hl : i < d.length := r.length ▸ (List.getElem?_eq_some_iff.mp e).1
  ⟨_, List.getElem?_eq_getElem hl, r.nth _ _ _ e (List.getElem?_eq_getElem hl)⟩
variable {v : Value}
theorem Rep.inv_list {ds : List D} (r : Rep prog w P h v (.list ds)) : ∃ a vs, v = .ref a ∧ P a ∧ Nt a ∧ h.IsList a (List.toArray vs) ∧ RepL prog w P h vs ds := by
  cases r with | list p n l r => exact ⟨_, _, rfl, p, n, l, r⟩
theorem Rep.inv_tup {ds : List D} (r : Rep prog w P h v (.tup ds)) : ∃ a vs, v = .ref a ∧ P a ∧ Nt a ∧ h.IsTuple a (List.toArray vs) ∧ RepL prog w P h vs ds := by
  cases r with | tup p n l r => exact ⟨_, _, rfl, p, n, l, r⟩
theorem Rep.inv_dict {l : List (Str × Int)} (r : Rep prog w P h v (.dict l)) : ∃ a, v = .ref a ∧ P a ∧ Nt a ∧ StrTab prog w h a (kdpD l) := by
  cases r with | dict p n l => exact ⟨_, rfl, p, n, l⟩
theorem Rep.inv_int {i : Int} (r : Rep prog w P h v (.int i)) : ∃ t, v = .int i t := by cases r; exact ⟨_, rfl⟩
theorem Rep.inv_str {x : Str} (r : Rep prog w P h v (.str x)) : ∃ t, v = .str x t := by cases r; exact ⟨_, rfl⟩
end
end Mine

set_option linter.unusedVariables false
namespace Mine
open PySem PyProof.Rows PySem.W PyProof.V

/-- a table of nested code: empty, or the one nested def's code stands in it -/
noncomputable def TabOk (h : Heap) (P : Addr) (line col : Nat) (q : Str) : Prop :=
  h.get? P = some (tabObj #[]) ∨ ∃ c, h.get? P = some (tabObj #[rawInt line, rawInt col, .ref c]) ∧ h.CodeRec (.ref c) q ∧ Nt c
/-- the ground: all of g stands, the two tables are in order -/
structure GH (g h : Heap) : Prop where
  keep : ∀ a o, g.get? a = some o → h.get? a = some o
  t30 : TabOk h 30 32 4 "_int2digits.<locals>.inner"
  t37 : TabOk h 37 47 4 "_digits2int.<locals>.inner"

structure Step (g : Heap) (s s' : Shared) : Prop where
  ext : Ext s.heap s'.heap
  gh : GH g s'.heap
  gens : s'.gens = s.gens
  os : s'.os = s.os

theorem TabOk.mono {h h' : Heap} {P line col q} (t : TabOk h P line col q) (hP : ∀ o, h.get? P = some o → h'.get? P = some o) (k : ∀ c o, Nt c → h.get? c = some o → (∃ vs, o.data = .fields vs ∧ ∃ q t, vs[1]? = some (.str q t)) → h'.get? c = some o) : TabOk h' P line col q := by
  rcases t with t | ⟨c, t, ⟨c', o, vs, tk, e, ho, hd, hv⟩, n⟩
  · exact .inl (hP _ t)
  · cases e
    exact .inr ⟨c, hP _ t, ⟨c, o, vs, tk, rfl, k c o n ho ⟨vs, hd, _, _, hv⟩, hd, hv⟩, n⟩
theorem TabOk.at {h : Heap} {P line col q} (t : TabOk h P line col q) : ∃ ps, h.get? P = some (tabObj ps) := by
  rcases t with t | ⟨c, t, _⟩
  · exact ⟨_, t⟩
  · exact ⟨_, t⟩

section
variable {g : Heap}
theorem GH.mono {h h' : Heap} (x : GH g h) (k : ∀ b o, h.get? b = some o → h'.get? b = some o) : GH g h' :=
  ⟨fun a o e => k _ _ (x.keep a o e), x.t30.mono (k _) fun c o _ e _ => k c o e, x.t37.mono (k _) fun c o _ e _ => k c o e⟩
theorem GH.nt {h : Heap} (x : GH g h) {a : Addr} (e : h.get? a = none) : Nt a := by
  obtain ⟨_, e1⟩ := x.t30.at
  obtain ⟨_, e2⟩ := x.t37.at
  exact ⟨fun q => (by rw [q, e1] at e; cases e), fun q => (by rw [q, e2] at e; cases e)⟩
theorem GH.nt_cls {h : Heap} (x : GH g h) {a : Addr} {o : Obj} (e : h.get? a = some o) (hc : o.cls ≠ .none) : Nt a := by
  obtain ⟨_, e1⟩ := x.t30.at
  obtain ⟨_, e2⟩ := x.t37.at
  exact ⟨fun q => (by rw [q, e1] at e; cases e; exact hc rfl), fun q => (by rw [q, e2] at e; cases e; exact hc rfl)⟩
theorem GH.nt_data {h : Heap} (x : GH g h) {a : Addr} {o : Obj} (e : h.get? a = some o) (hc : ∀ vs, o.data ≠ .fields vs) : Nt a := by
  obtain ⟨_, e1⟩ := x.t30.at
  obtain ⟨_, e2⟩ := x.t37.at
  exact ⟨fun q => (by rw [q, e1] at e; cases e; exact hc _ rfl), fun q => (by rw [q, e2] at e; cases e; exact hc _ rfl)⟩
/-- no code object -/
noncomputable def NoCode (o : Obj) : Prop := ∀ vs, o.data = .fields vs → ∀ q t, vs[1]? ≠ some (Value.str q t)
theorem noCode_of {o : Obj} (h : ¬ Fld o) : NoCode o := fun vs e => absurd ⟨vs, e⟩ h
/-- one object is changed, which is no table and no code and does not stand in g -/
theorem GH.extBut {h h' : Heap} {a : Addr} {o : Obj} (x : GH g h) (hs : Heap.ExtBut a h h') (ho : h.get? a = some o) (n : Nt a) (hc : NoCode o) (hg : g.get? a = none) : GH g h' := by
  refine ⟨fun b o' e => hs b o' (fun q => ?_) (x.keep b o' e), x.t30.mono (fun o' e => hs _ o' (Ne.symm n.1) e) ?_, x.t37.mono (fun o' e => hs _ o' (Ne.symm n.2) e) ?_⟩
  · subst q; rw [hg] at e; cases e
  all_goals
    intro c o' _ e hv
    refine hs c o' (fun q => ?_) e
    subst q; rw [ho] at e; cases e
    obtain ⟨vs, hv, q, t, hq⟩ := hv
    exact hc vs hv q t hq
theorem GH.sameBut {h h' : Heap} {a : Addr} {o : Obj} (x : GH g h) (hs : Heap.SameBut a h h') (ho : h.get? a = some o) (hc : ∀ vs, o.data ≠ .fields vs) (hg : g.get? a = none) : GH g h' :=
  x.extBut hs.extBut ho (x.nt_data ho hc) (noCode_of fun ⟨vs, e⟩ => hc vs e) hg

theorem Step.refl {s : Shared} (x : GH g s.heap) : Step g s s := ⟨.refl _, x, rfl, rfl⟩
theorem Step.trans {s s' s'' : Shared} (x : Step g s s') (y : Step g s' s'') : Step g s s'' := ⟨x.ext.trans y.ext, y.gh, y.gens.trans x.gens, y.os.trans x.os⟩
theorem Step.of_keep {s : Shared} {h' : Heap} {tk : Nat} (x : GH g s.heap) (k : ∀ b o, s.heap.get? b = some o → h'.get? b = some o) : Step g s { s with heap := h', toks := tk } := ⟨.of_keep k, x.mono k, rfl, rfl⟩
theorem Step.toks {s : Shared} {tk : Nat} (x : GH g s.heap) : Step g s { s with toks := tk } := ⟨.refl _, x, rfl, rfl⟩
end

noncomputable def Rm (A : Around) (k : Nat) : Prop := A.handled = none ∧ A.depth + k < recursionLimit ∧ A.units + 20 * k + 100 < cLine
theorem Rm.le {A : Around} {k j : Nat} (x : Rm A k) (h : j ≤ k) : Rm A j := ⟨x.1, by have := x.2.1; lia, by have := x.2.2; lia⟩
theorem Rm.deeper {A : Around} {k : Nat} {env : Env} (x : Rm A (k + 1)) : Rm (A.deeper env) k :=
  ⟨x.1, by have := x.2.1; show A.depth + 1 + k < _; lia, by have := x.2.2; show A.units + 3 + 20 * k + 100 < _; lia⟩
theorem Rm.in1 {A : Around} {k : Nat} (x : Rm A (k + 1)) : Rm A.in1 k :=
  ⟨x.1, by have := x.2.1; show A.depth + k < _; lia, by have := x.2.2; show A.units + 1 + 20 * k + 100 < _; lia⟩

/-- what a name is bound to: a datum; or a list, a dict of the frame's own, which it may change -/
inductive B where
  | val (d : D) | own (a : Addr) (ds : List D) | ownd (a : Addr) (c : List (Str × Int))
noncomputable abbrev Rho := List (Str × B)
noncomputable def B.at : B → List Addr
  | .val _ => [] | .own a _ => [a] | .ownd a _ => [a]
noncomputable def owns (ρ : Rho) : List Addr := ρ.flatMap fun p => p.2.at
noncomputable def Rho.set : Rho → Str → B → Rho
  | [], x, b => [(x, b)]
  | (y, c) :: r, x, b => if x = y then (x, b) :: r else (y, c) :: Rho.set r x b

/-- where a frame runs -/
structure Cx where
  prog : Program
  w : World
  g : Heap
  os : OsState
  mg : Str → Option Value
  mb : Str → Option Value
  A : Around
  env : Env
  own : Bool
  k : Nat
  ex : List Addr := []
noncomputable def Cx.mcs (c : Cx) : List Addr := (if c.own then c.env.cells.map (·.2) else []) ++ c.ex
noncomputable def Cx.mu (c : Cx) (ρ : Rho) : List Addr := c.env.locals :: (c.mcs ++ owns ρ)
noncomputable abbrev Cx.ok (c : Cx) (F : Addr → Prop) (ρ : Rho) : Addr → Prop := fun a => a ∉ c.mu ρ ∧ F a
theorem ok_eq {c : Cx} {F : Addr → Prop} {ρ ρ' : Rho} (h : c.mu ρ = c.mu ρ') : c.ok F ρ = c.ok F ρ' := by unfold Cx.ok; rw [h]
noncomputable abbrev Cx.M (c : Cx) : Model := model c.prog c.w
noncomputable abbrev Cx.Rep (c : Cx) := Mine.Rep c.prog c.w
noncomputable abbrev Cx.RepL (c : Cx) := Mine.RepL c.prog c.w

noncomputable def RepB (c : Cx) (P : Addr → Prop) (h : Heap) (v : Value) : B → Prop
  | .val d => c.Rep P h v d
  | .own a ds => v = .ref a ∧ ∃ vs, h.PlainList a (List.toArray vs) ∧ c.RepL P h vs ds
  | .ownd a l => v = .ref a ∧ ∃ o kvs, h.get? a = some o ∧ o.IsDictOf (strKind c.prog c.w) kvs ∧ FlatPairs PyData.str kvs (kdpD l) ∧ (a == sysModules) = false

structure St (c : Cx) (F : Addr → Prop) (h₀ : Heap) (ρ : Rho) (s : Shared) : Prop where
  gh : GH c.g s.heap
  ext : Ext h₀ s.heap
  gens : s.gens = #[]
  os : s.os = c.os
  rm : Rm c.A c.k
  lim : c.g.NoLimit
  kf : c.env.scope.kind = .function
  gn : c.g.Ns c.env.globals c.mg
  bn : c.g.Ns c.env.builtins c.mb
  fF : ∀ a, h₀.get? a = none → F a
  fr : ∃ m, s.heap.Ns c.env.locals m ∧ ∀ x b, ρ.lookup x = some b → c.env.kindOf x = some .local → ∃ v, m x = some v ∧ RepB c (c.ok F ρ) s.heap v b
  ce : ∀ x b, ρ.lookup x = some b → c.env.kindOf x ≠ some .local → ∃ q v, c.env.cells.lookup x = some q ∧ s.heap.IsCell q (some v) ∧ RepB c (c.ok F ρ) s.heap v b
  cs : ∀ x q, c.env.cells.lookup x = some q → Nt q ∧ ∃ v, s.heap.IsCell q v
  nd : (c.mu ρ).Nodup
  ex : ∀ a ∈ c.mu ρ, Nt a ∧ h₀.get? a = none ∧ c.g.get? a = none ∧ ∃ o, s.heap.get? a = some o

section
variable {c : Cx} {F : Addr → Prop} {h₀ : Heap} {ρ : Rho} {s s' : Shared}

theorem RepB.mono {P Q : Addr → Prop} {h h' : Heap} {v : Value} {b : B} (r : RepB c P h v b) (k : ∀ a o, P a → Nt a → h.get? a = some o → Q a ∧ h'.get? a = some o)
    (k2 : ∀ a ∈ b.at, ∀ o, h.get? a = some o → h'.get? a = some o) : RepB c Q h' v b := by
  cases b with
  | val d => exact Rep.mono r k
  | own a ds =>
    obtain ⟨rfl, vs, hp, r⟩ := r
    exact ⟨rfl, vs, hp.at fun o e => k2 a (.head _) o e, RepL.mono r k⟩
  | ownd a l =>
    obtain ⟨rfl, o, kvs, ho, r⟩ := r
    exact ⟨rfl, o, kvs, k2 a (.head _) o ho, r⟩

theorem mem_owns {ρ : Rho} {x : Str} {b : B} (e : ρ.lookup x = some b) : ∀ a ∈ b.at, a ∈ owns ρ := fun a ha => List.mem_flatMap.mpr ⟨(x, b), mem_of_lookup e, ha⟩
theorem St.own_mu (S : St c F h₀ ρ s) {x : Str} {b : B} (e : ρ.lookup x = some b) : ∀ a ∈ b.at, a ∈ c.mu ρ := fun a ha => .tail _ (List.mem_append_right _ (mem_owns e a ha))

theorem St.step (S : St c F h₀ ρ s) (T : Step c.g s s') : St c F h₀ ρ s' := by
  have hb : ∀ {x b v}, ρ.lookup x = some b → RepB c (c.ok F ρ) s.heap v b → RepB c (c.ok F ρ) s'.heap v b := fun e r =>
    r.mono (fun a o p n e => ⟨p, T.ext a o n e⟩) fun a ha o e' => T.ext a o (S.ex a (S.own_mu e a ha)).1 e'
  refine ⟨T.gh, S.ext.trans T.ext, T.gens.trans S.gens, T.os.trans S.os, S.rm, S.lim, S.kf, S.gn, S.bn, S.fF, ?_, fun x b e hk => ?_, fun x q e => ?_, S.nd, fun a ha => ?_⟩
  · obtain ⟨m, hm, hv⟩ := S.fr
    refine ⟨m, hm.at' fun o e => T.ext _ o (S.ex _ (.head _)).1 e, fun x b e hk => ?_⟩
    obtain ⟨v, h1, h2⟩ := hv x b e hk
    exact ⟨v, h1, hb e h2⟩
  · obtain ⟨q, v, h1, ⟨o, h2, h3⟩, h4⟩ := S.ce x b e hk
    exact ⟨q, v, h1, ⟨o, T.ext _ _ (S.cs x q h1).1 h2, h3⟩, hb e h4⟩
  · obtain ⟨n, v, o, h2, h3⟩ := S.cs x q e
    exact ⟨n, v, o, T.ext _ _ n h2, h3⟩
  · obtain ⟨h1, h2, h3, o, h4⟩ := S.ex a ha
    exact ⟨h1, h2, h3, o, T.ext _ _ h1 h4⟩

theorem St.fresh (S : St c F h₀ ρ s) {a : Addr} (e : s.heap.get? a = none) : a ∉ c.mu ρ ∧ F a := by
  refine ⟨fun h => ?_, S.fF a ?_⟩
  · obtain ⟨_, _, _, o, h4⟩ := S.ex a h
    rw [h4] at e; cases e
  · cases q : h₀.get? a with
    | none => rfl
    | some o => have := S.ext a o (S.gh.nt e) q; rw [this] at e; cases e
theorem St.gfresh (S : St c F h₀ ρ s) {a : Addr} (e : s.heap.get? a = none) : h₀.get? a = none ∧ c.g.get? a = none := by
  constructor
  · cases q : h₀.get? a with
    | none => rfl
    | some o => have := S.ext a o (S.gh.nt e) q; rw [this] at e; cases e
  · cases q : c.g.get? a with
    | none => rfl
    | some o => have := S.gh.keep a o q; rw [this] at e; cases e
end
end Mine

set_option linter.unusedVariables false
namespace Mine
open PySem PyProof.Rows PySem.W PyProof.V

/-- what is known of a datum's objects: strong (none that the frame may change), weak, nothing -/
inductive Md where | s | w | n
noncomputable def Cx.pr (c : Cx) (ρ : Rho) (F : Addr → Prop) : Md → Addr → Prop
  | .s, a => a ∉ c.mu ρ ∧ F a
  | .w, a => F a
  | .n, _ => True

noncomputable abbrev Nv : Value → Shared → Prop := fun _ _ => False
theorem nvE {E : Value → Shared → Prop} : ∀ x s, Nv x s → E x s := fun _ _ x => x.elim
theorem idE {E : Value → Shared → Prop} : ∀ x s, E x s → E x s := fun _ _ x => x

/-- e is worth d. m: the datum's objects are none of those the frame may change -/
structure Ev (m : Md) (c : Cx) (ρ : Rho) (e : Expr) (d : D) : Prop where
  out : ∀ F h₀ s, St c F h₀ ρ s →
    wpAny c.M c.A (eval e c.env) (fun v s' => Step c.g s s' ∧ c.Rep (c.pr ρ F m) s'.heap v d) Nv s
structure EvL (m : Md) (c : Cx) (ρ : Rho) (pos : Pos) (es : List Expr) (ds : List D) : Prop where
  out : ∀ F h₀ s, St c F h₀ ρ s →
    wpAny c.M c.A (spliced (backTo pos (starEach es c.env))) (fun vs s' => Step c.g s s' ∧ c.RepL (c.pr ρ F m) s'.heap vs ds) Nv s
structure ET (c : Cx) (ρ : Rho) (e : Expr) (b : Bool) : Prop where
  out : ∀ F h₀ s, St c F h₀ ρ s →
    wpAny c.M c.A (isTrue e c.env (eval e c.env)) (fun r s' => Step c.g s s' ∧ r = b) Nv s
  
structure BinOK (m : Md) (c : Cx) (ρ : Rho) (op : Operator) (d1 d2 d : D) : Prop where
  out : ∀ F h₀ s v1 v2, St c F h₀ ρ s → c.Rep (c.pr ρ F m) s.heap v1 d1 → c.Rep (c.pr ρ F m) s.heap v2 d2 →
    wpAny c.M c.A (binaryOp op v1 v2) (fun v s' => Step c.g s s' ∧ c.Rep (c.pr ρ F m) s'.heap v d) Nv s
structure AugOK (m : Md) (c : Cx) (ρ : Rho) (op : Operator) (d1 d2 d : D) : Prop where
  out : ∀ F h₀ s v1 v2, St c F h₀ ρ s → c.Rep (c.pr ρ F m) s.heap v1 d1 → c.Rep (c.pr ρ F m) s.heap v2 d2 →
    wpAny c.M c.A (inplaceOp op v1 v2) (fun v s' => Step c.g s s' ∧ c.Rep (c.pr ρ F m) s'.heap v d) Nv s
structure CmpOK (m : Md) (c : Cx) (ρ : Rho) (op : CmpOp) (d1 d2 : D) (b : Bool) : Prop where
  out : ∀ F h₀ s v1 v2, St c F h₀ ρ s → c.Rep (c.pr ρ F m) s.heap v1 d1 → c.Rep (c.pr ρ F m) s.heap v2 d2 →
    wpAny c.M c.A (compareOp op v1 v2) (fun v s' => Step c.g s s' ∧ v = .bool b) Nv s
  
mutual
noncomputable def flat : D → Bool
  | .list _ => false | .tup _ => false | .dict _ => false | _ => true
end
theorem Rep.up {prog : Program} {w : World} {P Q : Addr → Prop} {h : Heap} {v : Value} {d : D} (r : Rep prog w P h v d) (f : flat d = true) : Rep prog w Q h v d := by
  cases r with
  | none => exact .none
  | bool => exact .bool
  | int => exact .int
  | str => exact .str
  | list => exact absurd (show false = true from f) Bool.false_ne_true
  | tup => exact absurd (show false = true from f) Bool.false_ne_true
  | dict => exact absurd (show false = true from f) Bool.false_ne_true
theorem RepL.up {prog : Program} {w : World} {P Q : Addr → Prop} {h : Heap} {v : List Value} {d : List D} (r : RepL prog w P h v d) (f : d.all flat = true) : RepL prog w Q h v d := by
  induction d generalizing v with
  | nil => cases r; exact .nil
  | cons a l ih =>
    have g := Bool.and_eq_true_iff.mp (show (flat a && l.all flat) = true from f)
    cases r with
    | cons r rs => exact .cons (r.up g.1) (ih rs g.2)

section
variable {m : Md} {c : Cx} {ρ : Rho} {F : Addr → Prop} {h₀ : Heap} {s s' : Shared} {e e1 e2 e3 : Expr} {d d1 d2 : D} {pos px : Pos} {x : Str} {b b1 b2 : Bool} {k : Nat}

theorem pr_true {a : Addr} : c.pr ρ F .s a ↔ (a ∉ c.mu ρ ∧ F a) := Iff.rfl
theorem pr_false {a : Addr} : c.pr ρ F .w a ↔ F a := Iff.rfl
theorem pr_of {a : Addr} (h : a ∉ c.mu ρ ∧ F a) : c.pr ρ F m a := by cases m <;> first | exact h | exact h.2 | trivial
theorem St.prf (S : St c F h₀ ρ s) {a : Addr} (e : s.heap.get? a = none) : c.pr ρ F m a := pr_of (S.fresh e)
theorem Rep.strong {h : Heap} {v : Value} (r : c.Rep (c.ok F ρ) h v d) : c.Rep (c.pr ρ F m) h v d := Rep.weak r fun a => pr_of

theorem Ev.down (h : Ev .s c ρ e d) : Ev m c ρ e d := ⟨fun F h₀ s S => wpAny_mono ((h).out F h₀ s S) (fun v s' x => ⟨x.1, x.2.weak fun a p => pr_of (pr_true.mp p)⟩) fun _ _ x => x⟩
theorem Ev.up {m' : Md} (h : Ev m' c ρ e d) (f : flat d = true) : Ev m c ρ e d := ⟨fun F h₀ s S => wpAny_mono ((h).out F h₀ s S) (fun v s' x => ⟨x.1, x.2.up f⟩) fun _ _ x => x⟩
theorem Ev.no (h : Ev m c ρ e d) : Ev .n c ρ e d := ⟨fun F h₀ s S => wpAny_mono ((h).out F h₀ s S) (fun v s' x => ⟨x.1, x.2.weak fun a p => trivial⟩) fun _ _ x => x⟩
theorem Ev.eq (h : Ev m c ρ e d1) (q : d1 = d2) : Ev m c ρ e d2 := q ▸ h

theorem Ev.int {i : Int} : Ev m c ρ (.Constant (.int i) k pos) (.int i) := ⟨fun F h₀ s S => wpAny_Constant_int ⟨.toks S.gh, .int⟩⟩
theorem Ev.str {x : Str} : Ev m c ρ (.Constant (.str x) k pos) (.str x) := ⟨fun F h₀ s S => Calls.Constant_str ⟨.toks S.gh, .str⟩⟩
theorem Ev.bool {b : Bool} : Ev m c ρ (.Constant (.bool b) k pos) (.bool b) := ⟨fun F h₀ s S => Constant_bool ⟨.refl S.gh, .bool⟩⟩
theorem Ev.none : Ev m c ρ (.Constant .none k pos) .none := ⟨fun F h₀ s S => Constant_none ⟨.refl S.gh, .none⟩⟩

/-- how a bound name is read -/
theorem St.load (S : St c F h₀ ρ s) {b : B} (e : ρ.lookup x = some b) (hk : c.env.kindOf x = some .local ∨ c.env.kindOf x = some .cell ∨ c.env.kindOf x = some .free)
    (hn : (x == ("__classdict__" : Str)) = false) {Q : Value → Shared → Prop} (h : ∀ v, RepB c (c.ok F ρ) s.heap v b → Q v s) {E : Value → Shared → Prop} : wpAny c.M c.A (loadName c.env x) Q E s := by
  by_cases hl : c.env.kindOf x = some .local
  · obtain ⟨m, hm, hv⟩ := S.fr
    obtain ⟨v, h1, h2⟩ := hv x b e hl
    exact wpAny_loadName_local S.kf hl hm h1 (h v h2)
  · obtain ⟨q, v, h1, h2, h3⟩ := S.ce x b e hl
    rcases hk with hk | hk | hk
    · exact absurd hk hl
    · exact wpAny_loadName_cell S.kf hk h1 h2 (h v h3)
    · exact wpAny_loadName_free S.kf hk h1 h2 (h v h3) hn
noncomputable def isBound (env : Env) (x : Str) : Bool := decide (env.kindOf x = some .local ∨ env.kindOf x = some .cell ∨ env.kindOf x = some .free) && !(x == ("__classdict__" : Str)) && !(x == ("__debug__" : Str))
theorem isBound_kind {env : Env} (h : isBound env x = true) : (env.kindOf x = some .local ∨ env.kindOf x = some .cell ∨ env.kindOf x = some .free) ∧ (x == ("__classdict__" : Str)) = false ∧ (x == ("__debug__" : Str)) = false := by
  unfold isBound at h
  simp only [Bool.and_eq_true, Bool.not_eq_true'] at h
  exact ⟨of_decide_eq_true h.1.1, h.1.2, h.2⟩
theorem Ev.name (e : ρ.lookup x = some (.val d)) (hk : isBound c.env x = true) : Ev m c ρ (.Name x px) d := ⟨fun F h₀ s S =>
  wpAny_Name (S.load e (isBound_kind hk).1 (isBound_kind hk).2.1 fun v r => ⟨.refl S.gh, Rep.strong r⟩) (isBound_kind hk).2.2⟩
theorem Ev.nameOwn {a : Addr} {ds : List D} (e : ρ.lookup x = some (.own a ds)) (hk : isBound c.env x = true) : Ev .w c ρ (.Name x px) (.list ds) := ⟨fun F h₀ s S =>
  wpAny_Name (S.load e (isBound_kind hk).1 (isBound_kind hk).2.1 fun v r => by
    obtain ⟨rfl, vs, hp, r⟩ := r
    have hmu : a ∈ c.mu ρ := S.own_mu e a (.head _)
    exact ⟨.refl S.gh, .list (pr_false.mpr (S.fF a (S.ex a hmu).2.1)) (S.ex a hmu).1 hp.isList (RepL.weak r fun a p => pr_false.mpr p.2)⟩) (isBound_kind hk).2.2⟩
theorem Ev.nameOwnd {a : Addr} {l : List (Str × Int)} (e : ρ.lookup x = some (.ownd a l)) (hk : isBound c.env x = true) : Ev .w c ρ (.Name x px) (.dict l) := ⟨fun F h₀ s S =>
  wpAny_Name (S.load e (isBound_kind hk).1 (isBound_kind hk).2.1 fun v r => by
    obtain ⟨rfl, o, kvs, ho, hd, hf, hs⟩ := r
    have hmu : a ∈ c.mu ρ := S.own_mu e a (.head _)
    exact ⟨.refl S.gh, .dict (pr_false.mpr (S.fF a (S.ex a hmu).2.1)) (S.ex a hmu).1 (TabAt.ofObj hs ho hd hf)⟩) (isBound_kind hk).2.2⟩

theorem Ev.bin {op : Operator} (h1 : Ev m c ρ e1 d1) (h2 : Ev m c ρ e2 d2) (hop : BinOK m c ρ op d1 d2 d) : Ev m c ρ (.BinOp e1 op e2 pos) d := ⟨fun F h₀ s S =>
  wpAny_BinOp (wpAny_mono ((h1).out F h₀ s S) (fun v1 s1 x1 => wpAny_mono ((h2).out F h₀ s1 (S.step x1.1)) (fun v2 s2 x2 =>
    wpAny_mono ((hop).out F h₀ s2 v1 v2 (S.step (x1.1.trans x2.1)) (x1.2.ext x2.1.ext) x2.2) (fun v s3 x3 => ⟨x1.1.trans (x2.1.trans x3.1), x3.2⟩) fun _ _ x => x) fun _ _ x => x) fun _ _ x => x)⟩
theorem Ev.cmp {op : CmpOp} (h1 : Ev m c ρ e1 d1) (h2 : Ev m c ρ e2 d2) (hop : CmpOK m c ρ op d1 d2 b) (hm : behindInMarks op e2 = false) : Ev .s c ρ (.Compare e1 [op] [e2] pos) (.bool b) := ⟨fun F h₀ s S =>
  wpAny_Compare1 (wpAny_mono ((h1).out F h₀ s S) (fun v1 s1 x1 => wpAny_mono ((h2).out F h₀ s1 (S.step x1.1)) (fun v2 s2 x2 =>
    wpAny_mono ((hop).out F h₀ s2 v1 v2 (S.step (x1.1.trans x2.1)) (x1.2.ext x2.1.ext) x2.2) (fun v s3 x3 => ⟨x1.1.trans (x2.1.trans x3.1), x3.2 ▸ .bool⟩) fun _ _ x => x) fun _ _ x => x) fun _ _ x => x) hm⟩
theorem ET.cmp {op : CmpOp} (h1 : Ev m c ρ e1 d1) (h2 : Ev m c ρ e2 d2) (hop : CmpOK m c ρ op d1 d2 b) (hm : behindInMarks op e2 = false) : ET c ρ (.Compare e1 [op] [e2] pos) b := ⟨fun F h₀ s S =>
  wpAny_isTrue_Compare1 (wpAny_mono ((h1).out F h₀ s S) (fun v1 s1 x1 => wpAny_mono ((h2).out F h₀ s1 (S.step x1.1)) (fun v2 s2 x2 =>
    wpAny_mono ((hop).out F h₀ s2 v1 v2 (S.step (x1.1.trans x2.1)) (x1.2.ext x2.1.ext) x2.2) (fun v s3 x3 => x3.2 ▸ wpAny_truthy_bool ⟨x1.1.trans (x2.1.trans x3.1), rfl⟩) fun _ _ x => x) fun _ _ x => x) fun _ _ x => x) hm⟩
theorem ET.and (h1 : ET c ρ e1 b1) (h2 : b1 = true → ET c ρ e2 b2) : ET c ρ (.BoolOp .And [e1, e2] pos) (b1 && b2) := ⟨fun F h₀ s S => by
  refine isTrue_and (wpAny_mono ((h1).out F h₀ s S) (fun r s1 x1 => ?_) fun _ _ x => x)
  obtain ⟨t1, rfl⟩ := x1
  cases r with
  | false => exact ⟨t1, rfl⟩
  | true => exact isTrue_and (wpAny_mono ((h2 rfl).out F h₀ s1 (S.step t1)) (fun r s2 x2 => by
      obtain ⟨t2, rfl⟩ := x2
      cases r with
      | false => exact ⟨t1.trans t2, rfl⟩
      | true => exact isTrue_and_nil ⟨t1.trans t2, rfl⟩) fun _ _ x => x)⟩
theorem ET.or (h1 : ET c ρ e1 b1) (h2 : b1 = false → ET c ρ e2 b2) : ET c ρ (.BoolOp .Or [e1, e2] pos) (b1 || b2) := ⟨fun F h₀ s S => by
  refine isTrue_or (wpAny_mono ((h1).out F h₀ s S) (fun r s1 x1 => ?_) fun _ _ x => x)
  obtain ⟨t1, rfl⟩ := x1
  cases r with
  | true => exact ⟨t1, rfl⟩
  | false => exact isTrue_or (wpAny_mono ((h2 rfl).out F h₀ s1 (S.step t1)) (fun r s2 x2 => by
      obtain ⟨t2, rfl⟩ := x2
      cases r with
      | true => exact ⟨t1.trans t2, rfl⟩
      | false => exact isTrue_or_nil ⟨t1.trans t2, rfl⟩) fun _ _ x => x)⟩
theorem ET.eq (h : ET c ρ e b1) (q : b1 = b2) : ET c ρ e b2 := q ▸ h
theorem Ev.ifexp (h : ET c ρ e b) (h1 : b = true → Ev m c ρ e1 d) (h2 : b = false → Ev m c ρ e2 d) : Ev m c ρ (.IfExp e e1 e2 pos) d := ⟨fun F h₀ s S => by
  refine IfExp_ (wpAny_mono ((h).out F h₀ s S) (fun r s1 x1 => ?_) fun _ _ x => x)
  obtain ⟨t1, rfl⟩ := x1
  cases r with
  | true => exact wpAny_mono ((h1 rfl).out F h₀ s1 (S.step t1)) (fun v s2 x => ⟨t1.trans x.1, x.2⟩) fun _ _ x => x
  | false => exact wpAny_mono ((h2 rfl).out F h₀ s1 (S.step t1)) (fun v s2 x => ⟨t1.trans x.1, x.2⟩) fun _ _ x => x⟩
theorem Ev.ifexp' (h : ET c ρ e b) (h1 : Ev m c ρ e1 d1) (h2 : Ev m c ρ e2 d2) : Ev m c ρ (.IfExp e e1 e2 pos) (if b then d1 else d2) :=
  Ev.ifexp h (fun q => by rw [if_pos q]; exact h1) (fun q => by rw [if_neg (by rw [q]; simp)]; exact h2)

/-! arithmetic -/
theorem BinOK.add {i j : Int} : BinOK m c ρ .Add (.int i) (.int j) (.int (i + j)) := ⟨fun F h₀ s v1 v2 S r1 r2 => by
  obtain ⟨t1, rfl⟩ := r1.inv_int; obtain ⟨t2, rfl⟩ := r2.inv_int; exact add_int ⟨.toks S.gh, .int⟩⟩
theorem BinOK.sub {i j : Int} : BinOK m c ρ .Sub (.int i) (.int j) (.int (i - j)) := ⟨fun F h₀ s v1 v2 S r1 r2 => by
  obtain ⟨t1, rfl⟩ := r1.inv_int; obtain ⟨t2, rfl⟩ := r2.inv_int; exact sub_int ⟨.toks S.gh, .int⟩⟩
theorem BinOK.mul {i j : Int} (hm : IntMulOk i j) : BinOK m c ρ .Mult (.int i) (.int j) (.int (i * j)) := ⟨fun F h₀ s v1 v2 S r1 r2 => by
  obtain ⟨t1, rfl⟩ := r1.inv_int; obtain ⟨t2, rfl⟩ := r2.inv_int; exact mul_int ⟨.toks S.gh, .int⟩ hm⟩
theorem BinOK.fdiv {i j : Int} (h0 : j ≠ 0) (hj : j.natAbs < 1073741824) : BinOK m c ρ .FloorDiv (.int i) (.int j) (.int (i.fdiv j)) := ⟨fun F h₀ s v1 v2 S r1 r2 => by
  obtain ⟨t1, rfl⟩ := r1.inv_int; obtain ⟨t2, rfl⟩ := r2.inv_int; exact floordiv_int h0 ⟨.toks S.gh, .int⟩ (.inl (PyProof.noPylong_small hj))⟩
theorem BinOK.fmod {i j : Int} (h0 : j ≠ 0) : BinOK m c ρ .Mod (.int i) (.int j) (.int (i.fmod j)) := ⟨fun F h₀ s v1 v2 S r1 r2 => by
  obtain ⟨t1, rfl⟩ := r1.inv_int; obtain ⟨t2, rfl⟩ := r2.inv_int; exact mod_int h0 ⟨.toks S.gh, .int⟩⟩
theorem BinOK.pow {i j : Int} (h0 : 0 ≤ j) (h1 : j ≤ 1000000) (h2 : i.natAbs < 2 ^ 64) : BinOK m c ρ .Pow (.int i) (.int j) (.int (i ^ j.toNat)) := ⟨fun F h₀ s v1 v2 S r1 r2 => by
  obtain ⟨t1, rfl⟩ := r1.inv_int; obtain ⟨t2, rfl⟩ := r2.inv_int; exact pow_int_small h0 h1 h2 ⟨.toks S.gh, .int⟩⟩
theorem BinOK.shr {i j : Int} (h0 : 0 ≤ j) : BinOK m c ρ .RShift (.int i) (.int j) (.int (i.fdiv (2 ^ j.toNat))) := ⟨fun F h₀ s v1 v2 S r1 r2 => by
  obtain ⟨t1, rfl⟩ := r1.inv_int; obtain ⟨t2, rfl⟩ := r2.inv_int; exact rshift_int h0 ⟨.toks S.gh, .int⟩⟩
theorem BinOK.shl {i j : Int} (h0 : 0 ≤ j) (hz : (Builtin.Int.intBits i : Int) + j ≤ 2 ^ 27) : BinOK m c ρ .LShift (.int i) (.int j) (.int (i * 2 ^ j.toNat)) := ⟨fun F h₀ s v1 v2 S r1 r2 => by
  obtain ⟨t1, rfl⟩ := r1.inv_int; obtain ⟨t2, rfl⟩ := r2.inv_int; exact lshift_int h0 hz ⟨.toks S.gh, .int⟩⟩
theorem BinOK.xor {i j : Int} : BinOK m c ρ .BitXor (.int i) (.int j) (.int (Builtin.bitXor i j)) := ⟨fun F h₀ s v1 v2 S r1 r2 => by
  obtain ⟨t1, rfl⟩ := r1.inv_int; obtain ⟨t2, rfl⟩ := r2.inv_int; exact xor_int ⟨.toks S.gh, .int⟩⟩
theorem BinOK.addStr {x y : Str} (hz : x.length + y.length ≤ sizeLine) : BinOK m c ρ .Add (.str x) (.str y) (.str (x ++ y)) := ⟨fun F h₀ s v1 v2 S r1 r2 => by
  obtain ⟨t1, rfl⟩ := r1.inv_str; obtain ⟨t2, rfl⟩ := r2.inv_str; exact add_str (fun _ _ => ⟨.toks S.gh, .str⟩) hz⟩
theorem CmpOK.eqI {i j : Int} : CmpOK m c ρ .Eq (.int i) (.int j) (decide (i = j)) := ⟨fun F h₀ s v1 v2 S r1 r2 => by
  obtain ⟨t1, rfl⟩ := r1.inv_int; obtain ⟨t2, rfl⟩ := r2.inv_int; exact eq_int ⟨.refl S.gh, by by_cases q : i = j <;> simp [q]⟩⟩
theorem CmpOK.leI {i j : Int} : CmpOK m c ρ .LtE (.int i) (.int j) (decide (i ≤ j)) := ⟨fun F h₀ s v1 v2 S r1 r2 => by
  obtain ⟨t1, rfl⟩ := r1.inv_int; obtain ⟨t2, rfl⟩ := r2.inv_int; exact le_int ⟨.refl S.gh, rfl⟩⟩
theorem CmpOK.ltI {i j : Int} : CmpOK m c ρ .Lt (.int i) (.int j) (decide (i < j)) := ⟨fun F h₀ s v1 v2 S r1 r2 => by
  obtain ⟨t1, rfl⟩ := r1.inv_int; obtain ⟨t2, rfl⟩ := r2.inv_int; exact lt_int ⟨.refl S.gh, rfl⟩⟩
theorem CmpOK.geI {i j : Int} : CmpOK m c ρ .GtE (.int i) (.int j) (decide (j ≤ i)) := ⟨fun F h₀ s v1 v2 S r1 r2 => by
  obtain ⟨t1, rfl⟩ := r1.inv_int; obtain ⟨t2, rfl⟩ := r2.inv_int; exact ge_int ⟨.refl S.gh, rfl⟩⟩
theorem CmpOK.neS {x y : Str} : CmpOK m c ρ .NotEq (.str x) (.str y) (x != y) := ⟨fun F h₀ s v1 v2 S r1 r2 => by
  obtain ⟨t1, rfl⟩ := r1.inv_str; obtain ⟨t2, rfl⟩ := r2.inv_str; exact ne_str ⟨.refl S.gh, rfl⟩⟩
theorem CmpOK.inD {x : Str} {l : List (Str × Int)} : CmpOK m c ρ .In (.str x) (.dict l) (kdpHas l x) := ⟨fun F h₀ s v1 v2 S r1 r2 => by
  obtain ⟨t1, rfl⟩ := r1.inv_str
  obtain ⟨a, rfl, p, n, l⟩ := r2.inv_dict
  exact in_strTab l ⟨.toks S.gh, by rw [kdpD_isSome]⟩⟩
theorem Ev.neg {i : Int} (h : Ev m c ρ e (.int i)) : Ev m c ρ (.UnaryOp .USub e pos) (.int (-i)) := ⟨fun F h₀ s S =>
  UnaryOp_ (wpAny_mono ((h).out F h₀ s S) (fun v s1 x => by
    obtain ⟨t, r⟩ := x
    obtain ⟨t1, rfl⟩ := r.inv_int; exact neg_int ⟨t.trans (.toks t.gh), .int⟩) fun _ _ x => x)⟩
theorem Ev.inv {i : Int} (h : Ev m c ρ e (.int i)) : Ev m c ρ (.UnaryOp .Invert e pos) (.int (Builtin.bitNot i)) := ⟨fun F h₀ s S =>
  UnaryOp_ (wpAny_mono ((h).out F h₀ s S) (fun v s1 x => by
    obtain ⟨t, r⟩ := x
    obtain ⟨t1, rfl⟩ := r.inv_int; exact invert_int ⟨t.trans (.toks t.gh), .int⟩) fun _ _ x => x)⟩
end
end Mine

set_option linter.unusedVariables false
namespace Mine
open PySem PyProof.Rows PySem.W PyProof.V

theorem Rho.lookup_set (x y : Str) (b : B) : ∀ ρ : Rho, (ρ.set x b).lookup y = if y = x then some b else ρ.lookup y
  | [] => by
    show List.lookup y [(x, b)] = _
    by_cases h : y = x
    · subst h; simp
    · rw [if_neg h]; simp [List.lookup_cons, beq_eq_false_iff_ne.mpr h]
  | (z, q) :: r => by
    unfold Rho.set
    by_cases hz : x = z
    · rw [if_pos hz]; subst hz
      by_cases h : y = x
      · subst h; simp
      · rw [if_neg h]; simp [List.lookup_cons, beq_eq_false_iff_ne.mpr h]
    · rw [if_neg hz, List.lookup_cons, List.lookup_cons]
      by_cases h : y = z
      · subst h; simp [Ne.symm hz]
      · simp only [beq_eq_false_iff_ne.mpr h]
        exact Rho.lookup_set x y b r

theorem owns_cons (p : Str × B) (ρ : Rho) : owns (p :: ρ) = p.2.at ++ owns ρ := by simp [owns]
theorem mem_owns_set {x : Str} {b : B} {a : Addr} : ∀ {ρ : Rho}, a ∈ owns (ρ.set x b) → a ∈ owns ρ ∨ a ∈ b.at
  | [], h => by
    have : a ∈ owns [(x, b)] := h
    rw [owns_cons] at this
    rcases List.mem_append.mp this with h | h
    · exact .inr h
    · simp [owns] at h
  | (z, q) :: r, h => by
    unfold Rho.set at h
    by_cases hz : x = z
    · rw [if_pos hz, owns_cons] at h
      rw [owns_cons]
      rcases List.mem_append.mp h with h | h
      · exact .inr h
      · exact .inl (List.mem_append_right _ h)
    · rw [if_neg hz, owns_cons] at h
      rw [owns_cons]
      rcases List.mem_append.mp h with h | h
      · exact .inl (List.mem_append_left _ h)
      · exact (mem_owns_set h).imp (List.mem_append_right _) id
theorem B.at_nodup (b : B) : b.at.Nodup := by cases b <;> simp [B.at]
theorem nodup_owns_set {x : Str} {b : B} : ∀ {ρ : Rho}, (owns ρ).Nodup → (∀ a ∈ b.at, a ∉ owns ρ) → (owns (ρ.set x b)).Nodup
  | [], _, _ => by show (owns [(x, b)]).Nodup; rw [owns_cons]; simp [owns, B.at_nodup]
  | (z, q) :: r, h, hn => by
    rw [owns_cons] at h hn
    have h' := List.nodup_append.mp h
    unfold Rho.set
    by_cases hz : x = z
    · rw [if_pos hz, owns_cons]
      exact List.nodup_append.mpr ⟨b.at_nodup, h'.2.1, fun a ha y hy e => hn a ha (List.mem_append_right _ (e ▸ hy))⟩
    · rw [if_neg hz, owns_cons]
      refine List.nodup_append.mpr ⟨h'.1, nodup_owns_set h'.2.1 fun a ha hm => hn a ha (List.mem_append_right _ hm), fun a ha y hy e => ?_⟩
      rcases mem_owns_set hy with hy | hy
      · exact h'.2.2 a ha y hy e
      · exact hn y hy (List.mem_append_left _ (e ▸ ha))
theorem owns_set_same {x : Str} {b b' : B} : ∀ {ρ : Rho}, ρ.lookup x = some b → b'.at = b.at → owns (ρ.set x b') = owns ρ
  | [], h, _ => by simp at h
  | (z, q) :: r, h, e => by
    unfold Rho.set
    by_cases hz : x = z
    · subst hz
      have : q = b := by simpa using h
      subst this
      rw [if_pos rfl, owns_cons, owns_cons]; simp [e]
    · rw [if_neg hz, owns_cons, owns_cons]
      rw [List.lookup_cons, beq_eq_false_iff_ne.mpr hz] at h
      rw [owns_set_same h e]

section
variable {m : Bool} {c : Cx} {ρ : Rho} {F : Addr → Prop} {h₀ : Heap} {s s2 : Shared} {x : Str} {b : B} {v : Value}

theorem mem_mu {a : Addr} : a ∈ c.mu ρ ↔ a = c.env.locals ∨ a ∈ c.mcs ∨ a ∈ owns ρ := by simp [Cx.mu]
theorem mu_set {a : Addr} (h : a ∈ c.mu (ρ.set x b)) : a ∈ c.mu ρ ∨ a ∈ b.at := by
  rcases mem_mu.mp h with h | h | h
  · exact .inl (mem_mu.mpr (.inl h))
  · exact .inl (mem_mu.mpr (.inr (.inl h)))
  · exact (mem_owns_set h).imp (fun h => mem_mu.mpr (.inr (.inr h))) id

theorem cells_inj {cs : List (Str × Addr)} (hn : (cs.map (·.2)).Nodup) {y : Str} {q : Addr} (h1 : cs.lookup x = some q) (h2 : cs.lookup y = some q) : x = y := by
  have m1 := mem_of_lookup h1
  have m2 := mem_of_lookup h2
  exact name_of_addr (by rw [List.nodup_iff_pairwise_ne, List.pairwise_map] at hn; exact hn) m1 m2

noncomputable def canStore (c : Cx) (x : Str) : Bool := match c.env.kindOf x with
  | some .local => true
  | some .cell => c.own && (c.env.cells.lookup x).isSome
  | _ => false

/-- the store of a name -/
theorem St.putK (S : St c F h₀ ρ s) (T : Step c.g s s2) (hk : canStore c x = true) (rb : RepB c (c.ok F (ρ.set x b)) s2.heap v b)
    (hb : ∀ a ∈ b.at, s.heap.get? a = none ∧ ∃ o, s2.heap.get? a = some o) {E : Value → Shared → Prop} {Q : Unit → Shared → Prop}
    (hQ : ∀ s', St c F h₀ (ρ.set x b) s' → (∃ q, (q = c.env.locals ∨ (c.own = true ∧ q ∈ c.env.cells.map (·.2))) ∧ ∀ a o, a ≠ q → s2.heap.get? a = some o → s'.heap.get? a = some o) → Q () s') :
    wpAny c.M c.A (storeName c.env x v) Q E s2 := by
  have S2 := S.step T
  have nd : (c.mu (ρ.set x b)).Nodup := by
    have h1 := S.nd
    unfold Cx.mu at h1 ⊢
    rw [List.nodup_cons] at h1 ⊢
    have h2 := List.nodup_append.mp h1.2
    have hf : ∀ a ∈ b.at, a ∉ c.mu ρ := fun a ha hm => by
      obtain ⟨_, _, _, o, e⟩ := S.ex a hm
      rw [(hb a ha).1] at e; cases e
    refine ⟨fun hm => ?_, List.nodup_append.mpr ⟨h2.1, nodup_owns_set h2.2.1 fun a ha hm => hf a ha (mem_mu.mpr (.inr (.inr hm))), fun a ha y hy e => ?_⟩⟩
    · rcases List.mem_append.mp hm with hm | hm
      · exact h1.1 (List.mem_append_left _ hm)
      · rcases mem_owns_set hm with hm | hm
        · exact h1.1 (List.mem_append_right _ hm)
        · exact hf _ hm (mem_mu.mpr (.inl rfl))
    · rcases mem_owns_set hy with hy | hy
      · exact h2.2.2 a ha y hy e
      · exact hf y hy (mem_mu.mpr (.inr (.inl (e ▸ ha))))
  have ex : ∀ a ∈ c.mu (ρ.set x b), Nt a ∧ h₀.get? a = none ∧ c.g.get? a = none ∧ ∃ o, s2.heap.get? a = some o := fun a ha => by
    rcases mu_set ha with ha | ha
    · exact S2.ex a ha
    · obtain ⟨h1, h2⟩ := hb a ha
      exact ⟨S.gh.nt h1, (S.gfresh h1).1, (S.gfresh h1).2, h2⟩
  -- the others, at the new heap, away from what the frame may change now
  have old : ∀ {y b' v'}, ρ.lookup y = some b' → RepB c (c.ok F ρ) s.heap v' b' → RepB c (c.ok F (ρ.set x b)) s2.heap v' b' := fun e r =>
    r.mono (fun a o p n e' => ⟨⟨fun hm => (by
      rcases mu_set hm with hm | hm
      · exact p.1 hm
      · rw [(hb a hm).1] at e'; cases e'), p.2⟩, T.ext a o n e'⟩) fun a ha o e' => T.ext a o (S.ex a (S.own_mu e a ha)).1 e'
  -- one object of the frame's is changed
  have go : ∀ {q : Addr} {h' : Heap} {tk : Nat} {o : Obj}, q ∈ c.env.locals :: c.mcs → s2.heap.get? q = some o → (∀ vs, o.data ≠ .fields vs) → Heap.SameBut q s2.heap h' → (∃ o', h'.get? q = some o') →
      (∃ m, h'.Ns c.env.locals m ∧ ∀ y b', (ρ.set x b).lookup y = some b' → c.env.kindOf y = some .local → ∃ v', m y = some v' ∧ RepB c (c.ok F (ρ.set x b)) s2.heap v' b') →
      (∀ y b', (ρ.set x b).lookup y = some b' → c.env.kindOf y ≠ some .local → ∃ q' v', c.env.cells.lookup y = some q' ∧ h'.IsCell q' (some v') ∧ RepB c (c.ok F (ρ.set x b)) s2.heap v' b') →
      (∀ y q', c.env.cells.lookup y = some q' → ∃ v', h'.IsCell q' v') →
      St c F h₀ (ρ.set x b) { s2 with heap := h', toks := tk } := fun {q h' tk o} hq ho hd hs ho' hfr hce hcs => by
    have hqm : q ∈ c.mu (ρ.set x b) := mem_mu.mpr (by rcases List.mem_cons.mp hq with h | h; exact .inl h; exact .inr (.inl h))
    have hqo : q ∉ owns (ρ.set x b) := fun hm => by
      have h1 := nd
      unfold Cx.mu at h1
      rw [List.nodup_cons] at h1
      rcases List.mem_cons.mp hq with h | h
      · subst h; exact h1.1 (List.mem_append_right _ hm)
      · exact (List.nodup_append.mp h1.2).2.2 q h q hm rfl
    have up : ∀ {y b' v'}, (ρ.set x b).lookup y = some b' → RepB c (c.ok F (ρ.set x b)) s2.heap v' b' → RepB c (c.ok F (ρ.set x b)) h' v' b' := fun e r =>
      r.mono (fun a o p n e' => ⟨p, (hs.2 a fun z => p.1 (z ▸ hqm)).trans e'⟩) fun a ha o e' => (hs.2 a fun z => hqo (z ▸ mem_owns e a ha)).trans e'
    refine ⟨S2.gh.sameBut hs ho hd (ex q hqm).2.2.1, fun a o' n e' => (hs.2 a fun z => ?_).trans (S2.ext a o' n e'), S2.gens, S2.os, S.rm, S.lim, S.kf, S.gn, S.bn, S.fF, ?_, ?_, ?_, nd, ?_⟩
    · rw [z, (ex q hqm).2.1] at e'; cases e'
    · obtain ⟨m, hm, hv⟩ := hfr
      exact ⟨m, hm, fun y b' e hk => let ⟨v', h1, h2⟩ := hv y b' e hk; ⟨v', h1, up e h2⟩⟩
    · intro y b' e hk
      obtain ⟨q', v', h1, h2, h3⟩ := hce y b' e hk
      exact ⟨q', v', h1, h2, up e h3⟩
    · intro y q' e
      exact ⟨(S.cs y q' e).1, hcs y q' e⟩
    · intro a ha
      obtain ⟨h1, h2, h3, o', h4⟩ := ex a ha
      refine ⟨h1, h2, h3, ?_⟩
      by_cases hz : a = q
      · exact hz ▸ ho'
      · exact ⟨o', (hs.2 a hz).trans h4⟩
  unfold canStore at hk
  by_cases hl : c.env.kindOf x = some .local
  · obtain ⟨m, hm, hv⟩ := S.fr
    have hm2 : s2.heap.Ns c.env.locals m := hm.at' fun o e => T.ext _ o (S.ex _ (.head _)).1 e
    obtain ⟨oL, es, ep, hoL, hdL, _⟩ := id hm2
    refine wpAny_storeName_local hl hm2 (fun h' hn hs => hQ _ (go (.head _) hoL (fun vs e => by rw [hdL] at e; cases e) hs (let ⟨o, _, _, e, _⟩ := hn; ⟨o, e⟩) ⟨_, hn, ?_⟩ ?_ ?_) ⟨_, .inl rfl, fun a o hne e => (hs.2 a hne).trans e⟩) (by rw [S.kf]; rfl)
    · intro y b' e hky
      rw [Rho.lookup_set] at e
      by_cases hy : y = x
      · rw [if_pos hy] at e; cases e
        exact ⟨v, by rw [if_pos hy], rb⟩
      · rw [if_neg hy] at e
        obtain ⟨v', h1, h2⟩ := hv y b' e hky
        exact ⟨v', by rw [if_neg hy]; exact h1, old e h2⟩
    · intro y b' e hky
      rw [Rho.lookup_set] at e
      by_cases hy : y = x
      · rw [hy] at hky; exact absurd hl hky
      · rw [if_neg hy] at e
        obtain ⟨q, v', h1, h2, h3⟩ := S.ce y b' e hky
        obtain ⟨o, e2, e3⟩ := h2
        refine ⟨q, v', h1, ⟨o, (hs.2 q fun z => ?_).trans (T.ext q o (S.cs y q h1).1 e2), e3⟩, old e h3⟩
        have e4 := T.ext q o (S.cs y q h1).1 e2
        rw [z, hoL] at e4; cases e4; rw [hdL] at e3; cases e3
    · intro y q e
      obtain ⟨n, v', o, e2, e3⟩ := S.cs y q e
      have e4 := T.ext q o n e2
      refine ⟨v', o, (hs.2 q fun z => ?_).trans e4, e3⟩
      rw [z, hoL] at e4; cases e4; rw [hdL] at e3; cases e3
  · by_cases hc : c.env.kindOf x = some .cell
    · rw [hc] at hk
      simp only [Bool.and_eq_true] at hk
      obtain ⟨hown, hs1⟩ := hk
      obtain ⟨q, hq⟩ := Option.isSome_iff_exists.mp hs1
      have hmc : c.mcs = c.env.cells.map (·.2) ++ c.ex := by unfold Cx.mcs; rw [if_pos hown]
      have hn2 : (c.env.cells.map (·.2)).Nodup := by
        have h1 := S.nd
        unfold Cx.mu at h1
        have h2 := (List.nodup_append.mp (List.nodup_cons.mp h1).2).1
        rw [hmc] at h2
        exact (List.nodup_append.mp h2).1
      have hqm : q ∈ c.mcs := by rw [hmc]; exact List.mem_append_left _ <| List.mem_map.mpr ⟨(x, q), mem_of_lookup hq, rfl⟩
      have hqL : q ≠ c.env.locals := fun z => by
        have h1 := S.nd
        unfold Cx.mu at h1
        exact (List.nodup_cons.mp h1).1 (z ▸ List.mem_append_left _ hqm)
      obtain ⟨n, v₀, o, e2, e3⟩ := S2.cs x q hq
      refine wpAny_storeName_cell S.kf hc hq ⟨o, e2, e3⟩ fun h' hcl hs => hQ _ (go (.tail _ hqm) e2 (fun vs e => by rw [e3] at e; cases e) hs (let ⟨o, e, _⟩ := hcl; ⟨o, e⟩) ?_ ?_ ?_) ⟨_, .inr ⟨hown, List.mem_map.mpr ⟨(x, q), mem_of_lookup hq, rfl⟩⟩, fun a o hne e => (hs.2 a hne).trans e⟩
      · obtain ⟨m, hm, hv⟩ := S.fr
        refine ⟨m, (hm.at' fun o e => T.ext _ o (S.ex _ (.head _)).1 e).sameBut hs (Ne.symm hqL), fun y b' e hky => ?_⟩
        rw [Rho.lookup_set] at e
        by_cases hy : y = x
        · rw [hy, hc] at hky; cases hky
        · rw [if_neg hy] at e
          obtain ⟨v', h1, h2⟩ := hv y b' e hky
          exact ⟨v', h1, old e h2⟩
      · intro y b' e hky
        rw [Rho.lookup_set] at e
        by_cases hy : y = x
        · rw [if_pos hy] at e; cases e
          exact ⟨q, v, hy ▸ hq, hcl, rb⟩
        · rw [if_neg hy] at e
          obtain ⟨q', v', h1, ⟨o', e2', e3'⟩, h3⟩ := S.ce y b' e hky
          exact ⟨q', v', h1, ⟨o', (hs.2 q' fun z => hy (cells_inj hn2 h1 (z ▸ hq))).trans (T.ext q' o' (S.cs y q' h1).1 e2'), e3'⟩, old e h3⟩
      · intro y q' e
        by_cases hy : q' = q
        · exact ⟨_, hy ▸ hcl⟩
        · obtain ⟨n', v', o', e2', e3'⟩ := S2.cs y q' e
          exact ⟨v', o', (hs.2 q' hy).trans e2', e3'⟩
    · exfalso
      split at hk <;> simp_all
theorem St.put (S : St c F h₀ ρ s) (T : Step c.g s s2) (hk : canStore c x = true) (rb : RepB c (c.ok F (ρ.set x b)) s2.heap v b)
    (hb : ∀ a ∈ b.at, s.heap.get? a = none ∧ ∃ o, s2.heap.get? a = some o) {E : Value → Shared → Prop} {Q : Unit → Shared → Prop} (hQ : ∀ s', St c F h₀ (ρ.set x b) s' → Q () s') :
    wpAny c.M c.A (storeName c.env x v) Q E s2 := S.putK T hk rb hb fun s' S' _ => hQ s' S'
end
end Mine

set_option linter.unusedVariables false
namespace Mine
open PySem PyProof.Rows PySem.W PyProof.V

noncomputable def Post (c : Cx) (F : Addr → Prop) (h₀ : Heap) (N : Rho → Prop) (R : D → Prop) (fl : Flow) (s' : Shared) : Prop := match fl with
  | .next => ∃ ρ', N ρ' ∧ St c F h₀ ρ' s'
  | .ret v => ∃ d, R d ∧ c.Rep F s'.heap v d ∧ Ext h₀ s'.heap ∧ GH c.g s'.heap ∧ s'.gens = #[] ∧ s'.os = c.os
  | _ => False
structure Ex (c : Cx) (ρ : Rho) (ss : List Stmt) (N : Rho → Prop) (R : D → Prop) : Prop where
  out : ∀ F h₀ s, St c F h₀ ρ s → wpAny c.M c.A (execs ss c.env) (Post c F h₀ N R) Nv s
structure Ex1 (c : Cx) (ρ : Rho) (st : Stmt) (N : Rho → Prop) (R : D → Prop) : Prop where
  out : ∀ F h₀ s, St c F h₀ ρ s → wpAny c.M c.A (exec st c.env) (Post c F h₀ N R) Nv s
  
section
variable {m : Md} {c : Cx} {ρ : Rho} {F : Addr → Prop} {h₀ : Heap} {s s' : Shared} {e e1 e2 e3 : Expr} {d d1 d2 : D} {ds : List D} {pos px : Pos} {x : Str} {b : Bool} {rest body els : List Stmt} {st : Stmt} {N N' : Rho → Prop} {R : D → Prop}

theorem Ex.nil (h : N ρ) : Ex c ρ [] N R := ⟨fun F h₀ s S => wpAny_execs_nil ⟨ρ, h, S⟩⟩
theorem Ex.cons (h : Ex1 c ρ st N' R) (k : ∀ ρ', N' ρ' → Ex c ρ' rest N R) : Ex c ρ (st :: rest) N R := ⟨fun F h₀ s S =>
  wpAny_execs_cons (wpAny_mono ((h).out F h₀ s S) (fun fl s' p => by
    cases fl with
    | next => obtain ⟨ρ', h1, h2⟩ := p; exact (k ρ' h1).out F h₀ s' h2
    | ret v => exact p
    | brk => exact p
    | cont => exact p) idE)⟩
theorem Ex.mono (h : Ex c ρ body N' R) (k : ∀ ρ', N' ρ' → N ρ') : Ex c ρ body N R := ⟨fun F h₀ s S => wpAny_mono ((h).out F h₀ s S) (fun fl s' p => by
    cases fl with
    | next => obtain ⟨ρ', h1, h2⟩ := p; exact ⟨ρ', k ρ' h1, h2⟩
    | ret v => exact p
    | brk => exact p
    | cont => exact p) idE⟩

theorem mu_val {a : Addr} {y : Str} (h : a ∈ c.mu (ρ.set y (.val d))) : a ∈ c.mu ρ := (mu_set h).resolve_right (by simp [B.at])

theorem Ex.assign (h : Ev .s c ρ e d) (hk : canStore c x = true) (hs : swapsWith e (some (.Name x px)) pos.line c.env = pure false) (k : Ex c (ρ.set x (.val d)) rest N R) :
    Ex c ρ (.Assign [.Name x px] e pos :: rest) N R := ⟨fun F h₀ s S =>
  wpAny_execs_cons (wpAny_Assign_Name (wpAny_mono ((h).out F h₀ s S) (fun v s1 x1 =>
    S.put x1.1 (b := .val d) hk (Rep.weak x1.2 fun a p => ⟨fun hm => (pr_true.mp p).1 (mu_val hm), (pr_true.mp p).2⟩) (fun a ha => by simp [B.at] at ha) fun s' S' => (k).out F h₀ s' S') idE) hs)⟩

/-- a fresh object -/
theorem push_step {g : Heap} {s : Shared} (o : Obj) (x : GH g s.heap) : Step g s { s with heap := s.heap.push o } := .of_keep (tk := s.toks) x fun b o' e => Heap.get?_push_of_some _ e
theorem size_none {h : Heap} : h.get? h.objs.size = none := Heap.get?_none_of_le (Nat.le_refl _)

noncomputable def noStar (e : Expr) : Bool := !(Nat.beq e.ctorIdx 22)
theorem star_cons {es : List Expr} {env : Env} (h : noStar e = true) : backTo pos (starEach (e :: es) env) = (false, eval e env) :: backTo pos (starEach es env) := by
  cases e <;> first | rfl | exact Bool.noConfusion h
theorem EvL.nil : EvL m c ρ pos [] [] := ⟨fun F h₀ s S => Calls.spliced_nil ⟨.refl S.gh, .nil⟩⟩
theorem EvL.cons {es : List Expr} (h : Ev m c ρ e d) (hs : EvL m c ρ pos es ds) (n : noStar e = true) : EvL m c ρ pos (e :: es) (d :: ds) := ⟨fun F h₀ s S => by
  rw [star_cons n]
  exact Calls.spliced_cons (wpAny_mono ((h).out F h₀ s S) (fun v s1 x1 => wpAny_mono ((hs).out F h₀ s1 (S.step x1.1)) (fun vs s2 x2 => ⟨x1.1.trans x2.1, .cons (x1.2.ext x2.1.ext) x2.2⟩) idE) idE)⟩
theorem EvL.down {es : List Expr} (h : EvL .s c ρ pos es ds) : EvL m c ρ pos es ds := ⟨fun F h₀ s S => wpAny_mono ((h).out F h₀ s S) (fun v s' x => ⟨x.1, x.2.weak fun a p => pr_of (pr_true.mp p)⟩) idE⟩
theorem EvL.up {es : List Expr} {m' : Md} (h : EvL m' c ρ pos es ds) (f : ds.all flat = true) : EvL m c ρ pos es ds := ⟨fun F h₀ s S => wpAny_mono ((h).out F h₀ s S) (fun v s' x => ⟨x.1, x.2.up f⟩) idE⟩

theorem newList_ {vs : List Value} {Q : Value → Shared → Prop} {E : Value → Shared → Prop} (h : Q (.ref s.heap.objs.size) { s with heap := s.heap.push { cls := .type "list", data := .seq vs.toArray } }) (hz : vs.length ≤ sizeLine) :
    wpAny c.M c.A (newList vs) Q E s := wpAny_newObj_type h (by show vs.toArray.size ≤ sizeLine; rw [List.size_toArray]; exact hz)
theorem newTuple_ {vs : List Value} {Q : Value → Shared → Prop} {E : Value → Shared → Prop} (h : Q (.ref s.heap.objs.size) { s with heap := s.heap.push { cls := .type "tuple", data := .seq vs.toArray } }) (hz : vs.length ≤ sizeLine) :
    wpAny c.M c.A (newTuple vs) Q E s := wpAny_newObj_type h (by show vs.toArray.size ≤ sizeLine; rw [List.size_toArray]; exact hz)
theorem rep_newList {P : Addr → Prop} {vs : List Value} {n : Nat} (S : GH c.g s.heap) (p : P s.heap.objs.size) (r : c.RepL P s.heap vs ds) :
    c.Rep P (s.heap.push { cls := .type "list", data := .seq vs.toArray n }) (.ref s.heap.objs.size) (.list ds) :=
  .list p (S.nt size_none) ⟨_, Heap.get?_push_size _ rfl, rfl, n, rfl⟩ (r.mono fun a o p _ e => ⟨p, Heap.get?_push_of_some _ e⟩)
theorem rep_newTup {P : Addr → Prop} {vs : List Value} {n : Nat} (S : GH c.g s.heap) (p : P s.heap.objs.size) (r : c.RepL P s.heap vs ds) :
    c.Rep P (s.heap.push { cls := .type "tuple", data := .seq vs.toArray n }) (.ref s.heap.objs.size) (.tup ds) :=
  .tup p (S.nt size_none) ⟨_, Heap.get?_push_size _ rfl, rfl, n, rfl⟩ (r.mono fun a o p _ e => ⟨p, Heap.get?_push_of_some _ e⟩)

theorem Ev.list {es : List Expr} (h : EvL m c ρ pos es ds) (hz : ds.length ≤ sizeLine) : Ev m c ρ (.List es pos) (.list ds) := ⟨fun F h₀ s S =>
  List_ (wpAny_mono ((h).out F h₀ s S) (fun vs s1 x => newList_ ⟨x.1.trans (push_step _ x.1.gh), rep_newList x.1.gh ((S.step x.1).prf size_none) x.2⟩ (by rw [x.2.length]; exact hz)) idE)⟩
theorem Ev.tup {es : List Expr} {k : Nat} (h : EvL m c ρ pos es ds) (hz : ds.length ≤ sizeLine) : Ev m c ρ (.Tuple es k pos) (.tup ds) := ⟨fun F h₀ s S =>
  Tuple_ (wpAny_mono ((h).out F h₀ s S) (fun vs s1 x => newTuple_ ⟨x.1.trans (push_step _ x.1.gh), rep_newTup x.1.gh ((S.step x.1).prf size_none) x.2⟩ (by rw [x.2.length]; exact hz)) idE)⟩

/-- a list of the frame's own -/
theorem Ex.assignOwn {es : List Expr} {pl : Pos} (h : EvL .s c ρ pl es ds) (hz : ds.length ≤ sizeLine) (hk : canStore c x = true) (k : ∀ a, Ex c (ρ.set x (.own a ds)) rest N R)
    (hs : swapsWith (.List es pl) (some (.Name x px)) pos.line c.env = pure false := by rfl) :
    Ex c ρ (.Assign [.Name x px] (.List es pl) pos :: rest) N R := ⟨fun F h₀ s S =>
  wpAny_execs_cons (wpAny_Assign_Name (List_ (wpAny_mono ((h).out F h₀ s S) (fun vs s1 x1 => newList_ (by
    have S1 := S.step x1.1
    refine S1.put (b := .own s1.heap.objs.size ds) (push_step _ x1.1.gh) hk ⟨rfl, vs, ⟨0, Heap.get?_push_size _ rfl⟩, ?_⟩ ?_ fun s' S' => (k _).out F h₀ s' S'
    · exact RepL.mono x1.2 fun a o p _ e => ⟨⟨fun hm => (by
        rcases mu_set hm with hm | hm
        · exact (pr_true.mp p).1 hm
        · have : a = s1.heap.objs.size := by simpa [B.at] using hm
          rw [this, size_none] at e; cases e), (pr_true.mp p).2⟩, Heap.get?_push_of_some _ e⟩
    · intro a ha
      have : a = s1.heap.objs.size := by simpa [B.at] using ha
      subst this
      exact ⟨size_none, _, Heap.get?_push_size _ rfl⟩) (by rw [x1.2.length]; exact hz)) idE)) hs)⟩

theorem Ex.ret (h : Ev .w c ρ e d) (hR : R d) : Ex c ρ (.Return (some e) pos :: rest) N R := ⟨fun F h₀ s S =>
  wpAny_execs_cons (wpAny_Return_some (wpAny_mono ((h).out F h₀ s S) (fun v s1 x => ⟨d, hR, x.2.weak fun a p => pr_false.mp p, S.ext.trans x.1.ext, x.1.gh, x.1.gens.trans S.gens, x.1.os.trans S.os⟩) idE))⟩
theorem Ex.if_ (h : ET c ρ e b) (h1 : b = true → Ex c ρ body N' R) (h2 : b = false → Ex c ρ els N' R) (k : ∀ ρ', N' ρ' → Ex c ρ' rest N R) : Ex c ρ (.If e body els pos :: rest) N R :=
  Ex.cons (N' := N') ⟨fun F h₀ s S => wpAny_If (wpAny_mono ((h).out F h₀ s S) (fun r s1 x => by
    obtain ⟨t, rfl⟩ := x
    cases r with
    | true => exact (h1 rfl).out F h₀ s1 (S.step t)
    | false => exact (h2 rfl).out F h₀ s1 (S.step t)) idE)⟩ k
/-- the body leaves the function -/
theorem Ex.ifRet (h : ET c ρ e b) (h1 : b = true → Ex c ρ body (fun _ => False) R) (h2 : b = false → Ex c ρ rest N R) : Ex c ρ (.If e body [] pos :: rest) N R := ⟨fun F h₀ s S =>
  wpAny_execs_cons (wpAny_If (wpAny_mono ((h).out F h₀ s S) (fun r s1 x => by
    obtain ⟨t, rfl⟩ := x
    cases r with
    | true => exact wpAny_mono ((h1 rfl).out F h₀ s1 (S.step t)) (fun fl s' p => by
        cases fl with
        | next => obtain ⟨_, h, _⟩ := p; exact h.elim
        | ret v => exact p
        | brk => exact p
        | cont => exact p) idE
    | false => exact wpAny_execs_nil ((h2 rfl).out F h₀ s1 (S.step t))) idE))⟩
theorem Ex.aug {op : Operator} (h1 : ρ.lookup x = some (.val d1)) (hb : isBound c.env x = true) (h2 : Ev .s c ρ e d2) (hop : AugOK .s c ρ op d1 d2 d) (hk : canStore c x = true) (k : Ex c (ρ.set x (.val d)) rest N R) :
    Ex c ρ (.AugAssign (.Name x px) op e pos :: rest) N R := ⟨fun F h₀ s S =>
  wpAny_execs_cons (wpAny_AugAssign_Name (S.load h1 (isBound_kind hb).1 (isBound_kind hb).2.1 fun v r => wpAny_mono ((h2).out F h₀ s S) (fun v2 s2 x2 =>
    wpAny_mono ((hop).out F h₀ s2 v v2 (S.step x2.1) (Rep.ext (Rep.strong r) x2.1.ext) x2.2) (fun v3 s3 x3 => S.put (x2.1.trans x3.1) (b := .val d) hk
      (Rep.weak x3.2 fun a p => ⟨fun hm => (pr_true.mp p).1 (mu_val hm), (pr_true.mp p).2⟩) (fun a ha => by simp [B.at] at ha) fun s' S' => (k).out F h₀ s' S') idE) idE))⟩
theorem AugOK.add {i j : Int} : AugOK m c ρ .Add (.int i) (.int j) (.int (i + j)) := ⟨fun F h₀ s v1 v2 S r1 r2 => by
  obtain ⟨t1, rfl⟩ := r1.inv_int; obtain ⟨t2, rfl⟩ := r2.inv_int; exact iadd_int ⟨.toks S.gh, .int⟩⟩
theorem AugOK.mul {i j : Int} (hm : IntMulOk i j) : AugOK m c ρ .Mult (.int i) (.int j) (.int (i * j)) := ⟨fun F h₀ s v1 v2 S r1 r2 => by
  obtain ⟨t1, rfl⟩ := r1.inv_int; obtain ⟨t2, rfl⟩ := r2.inv_int; exact imul_int ⟨.toks S.gh, .int⟩ hm⟩
end
end Mine

set_option linter.unusedVariables false
namespace Mine
open PySem PyProof.Rows PySem.W PyProof.V

section
variable {m : Md} {c : Cx} {ρ : Rho} {F : Addr → Prop} {h₀ h₁ : Heap} {s s' : Shared} {e e1 e2 e3 it test : Expr} {d d1 d2 : D} {ds ds' : List D} {pos px : Pos} {x : Str} {b : Bool} {rest body els : List Stmt} {st : Stmt} {N N' : Rho → Prop} {R : D → Prop}

/-- all that the frame may not change -/
noncomputable abbrev Cx.hid (c : Cx) (ρ : Rho) (s : Shared) : Heap := hideAll s.heap (c.mu ρ)
theorem hid_get {a : Addr} {o : Obj} (e : s.heap.get? a = some o) (n : a ∉ c.mu ρ) : (c.hid ρ s).get? a = some o := hideAll_get _ e n
theorem hid_of {a : Addr} {o : Obj} (e : (c.hid ρ s).get? a = some o) : s.heap.get? a = some o := of_hideAll _ e
theorem St.framed (S : St c F h₀ ρ s) : St c F (c.hid ρ s) ρ s where
  gh := S.gh
  ext := fun a o _ e => hid_of e
  gens := S.gens
  os := S.os
  rm := S.rm
  lim := S.lim
  kf := S.kf
  gn := S.gn
  bn := S.bn
  fF := fun a e => by
    by_cases h : a ∈ c.mu ρ
    · exact S.fF a (S.ex a h).2.1
    · cases q : s.heap.get? a with
      | none => exact (S.fresh q).2
      | some o => rw [hid_get q h] at e; cases e
  fr := S.fr
  ce := S.ce
  cs := S.cs
  nd := S.nd
  ex := fun a h => ⟨(S.ex a h).1, hideAll_none _ h, (S.ex a h).2.2⟩
theorem St.hidExt (S : St c F h₀ ρ s) : Ext h₀ (c.hid ρ s) := fun a o n e => hid_get (S.ext a o n e) fun h => by rw [(S.ex a h).2.1] at e; cases e
theorem St.unframe (S : St c F h₁ ρ s) (x : Ext h₀ h₁) (f : ∀ a, h₀.get? a = none → F a) : St c F h₀ ρ s where
  gh := S.gh
  ext := x.trans S.ext
  gens := S.gens
  os := S.os
  rm := S.rm
  lim := S.lim
  kf := S.kf
  gn := S.gn
  bn := S.bn
  fF := f
  fr := S.fr
  ce := S.ce
  cs := S.cs
  nd := S.nd
  ex := fun a h => by
    refine ⟨(S.ex a h).1, ?_, (S.ex a h).2.2⟩
    cases q : h₀.get? a with
    | none => rfl
    | some o => have := x a o (S.ex a h).1 q; rw [(S.ex a h).2.1] at this; cases this
theorem Post.unframe {fl : Flow} (p : Post c F h₁ N R fl s) (x : Ext h₀ h₁) (f : ∀ a, h₀.get? a = none → F a) : Post c F h₀ N R fl s := by
  cases fl with
  | next => obtain ⟨ρ', h1, h2⟩ := p; exact ⟨ρ', h1, h2.unframe x f⟩
  | ret v => obtain ⟨d, h1, h2, h3, h4⟩ := p; exact ⟨d, h1, h2, x.trans h3, h4⟩
  | brk => exact p
  | cont => exact p

/-- an object of fields, no code, not the frame's, is changed -/
theorem St.other (S : St c F h₀ ρ s) {I : Addr} {o : Obj} {h' : Heap} {tk : Nat} (hI : I ∉ c.mu ρ) (n : Nt I) (ho : s.heap.get? I = some o) (hf : Fld o) (hc : NoCode o) (h0 : h₀.get? I = none) (hg : c.g.get? I = none)
    (hs : ∀ b o, b ∉ [I] → s.heap.get? b = some o → h'.get? b = some o) : St c F h₀ ρ { s with heap := h', toks := tk } := by
  have hs' : Heap.ExtBut I s.heap h' := fun b o hb e => hs b o (by simpa using hb) e
  have ne : ∀ {a o'}, s.heap.get? a = some o' → ¬ Fld o' → a ≠ I := fun e hn q => by rw [q, ho] at e; cases e; exact hn hf
  have up : ∀ {y b' v'}, ρ.lookup y = some b' → RepB c (c.ok F ρ) s.heap v' b' → RepB c (c.ok F ρ) h' v' b' := fun {y b' v'} e r => by
    cases b' with
    | val d => exact Rep.monoK r fun a o p n e hn => ⟨p, hs' a o (ne e hn) e⟩
    | own a ds =>
      obtain ⟨rfl, vs, ⟨k, hp⟩, r⟩ := r
      exact ⟨rfl, vs, ⟨k, hs' _ _ (ne hp (fun ⟨_, z⟩ => by cases z)) hp⟩, RepL.monoK r fun a o p n e hn => ⟨p, hs' a o (ne e hn) e⟩⟩
    | ownd a l =>
      obtain ⟨rfl, o', kvs, ho', hd, r⟩ := r
      exact ⟨rfl, o', kvs, hs' _ _ (ne ho' (fun ⟨vs, z⟩ => by obtain ⟨_, _, _, h1, _⟩ := hd; rw [h1] at z; cases z)) ho', hd, r⟩
  refine ⟨S.gh.extBut hs' ho n hc hg, fun a o' n' e => hs' a o' (fun q => by rw [q, h0] at e; cases e) (S.ext a o' n' e), S.gens, S.os, S.rm, S.lim, S.kf, S.gn, S.bn, S.fF, ?_, ?_, ?_, S.nd, ?_⟩
  · obtain ⟨m, ⟨oL, es, ep, hL, hd, r⟩, hv⟩ := S.fr
    exact ⟨m, ⟨oL, es, ep, hs' _ _ (ne hL (fun ⟨_, z⟩ => by rw [hd] at z; cases z)) hL, hd, r⟩, fun y b' e hk => let ⟨v', h1, h2⟩ := hv y b' e hk; ⟨v', h1, up e h2⟩⟩
  · intro y b' e hk
    obtain ⟨q, v', h1, ⟨o', h2, h3⟩, h4⟩ := S.ce y b' e hk
    exact ⟨q, v', h1, ⟨o', hs' _ _ (ne h2 (fun ⟨_, z⟩ => by rw [h3] at z; cases z)) h2, h3⟩, up e h4⟩
  · intro y q e
    obtain ⟨n', v', o', h2, h3⟩ := S.cs y q e
    exact ⟨n', v', o', hs' _ _ (ne h2 (fun ⟨_, z⟩ => by rw [h3] at z; cases z)) h2, h3⟩
  · intro a ha
    obtain ⟨h1, h2, h3, o', h4⟩ := S.ex a ha
    exact ⟨h1, h2, h3, o', hs' _ _ (fun q => hI (q ▸ ha)) h4⟩

/-- an iterator over ds -/
noncomputable def Itr (c : Cx) (F : Addr → Prop) (h₀ : Heap) (ρ : Rho) (s : Shared) (I : Addr) (ds : List D) : Prop :=
  (∃ fp P Sx, Walks c.prog c.w c.A I fp [I] ds.length P Sx ∧ Sx 0 s.heap ∧ (∀ b ∈ fp, b ∉ c.mu ρ ∧ Nt b) ∧ (∀ i h, Sx i h → ∀ b ∈ fp, ∃ o, h.get? b = some o) ∧
    (∀ i h, Sx i h → ∃ o, h.get? I = some o ∧ Fld o ∧ NoCode o ∧ (∃ T, o.cls = .type T ∧ (T = "list_iterator" ∨ T = "tuple_iterator" ∨ T = "range_iterator" ∨ T = "list_reverseiterator"))) ∧
    (∀ j v, P j v → ∃ d, ds[j]? = some d ∧ c.Rep (c.ok F ρ) s.heap v d)) ∧
  I ∉ c.mu ρ ∧ Nt I ∧ h₀.get? I = none ∧ c.g.get? I = none
structure EvI (c : Cx) (ρ : Rho) (e : Expr) (ds : List D) : Prop where
  out : ∀ F h₀ s, St c F h₀ ρ s →
    wpAny c.M c.A (eval e c.env) (fun v s1 => wpAny c.M c.A (pyIter v) (fun i s2 => ∃ I, i = .ref I ∧ Step c.g s s2 ∧ Itr c F h₀ ρ s2 I ds) Nv s1) Nv s
  
/-- the items that a walk gives -/
noncomputable def PHas (c : Cx) (F : Addr → Prop) (ρ : Rho) (P : Nat → Value → Prop) (ds : List D) (h : Heap) : Prop := ∀ j v, P j v → ∃ d, ds[j]? = some d ∧ c.Rep (c.ok F ρ) h v d
theorem PHas.keep {P : Nat → Value → Prop} {ρ' : Rho} {h h' : Heap} (x : PHas c F ρ P ds h) (k : ∀ a o, h.get? a = some o → ¬ Fld o → Nt a → a ∉ c.mu ρ → a ∉ c.mu ρ' ∧ h'.get? a = some o) : PHas c F ρ' P ds h' := fun j v hv =>
  let ⟨d, h1, h2⟩ := x j v hv
  ⟨d, h1, Rep.monoK h2 fun a o p n e hn => let q := k a o e hn n p.1; ⟨⟨q.1, p.2⟩, q.2⟩⟩
theorem for_go {target : Expr} {tset : Rho → Prop} {J : Addr} {v : Value} {K3 : Flow → Shared → Prop} {E : Value → Shared → Prop} (htg : wpAny c.M c.A (letOwnedTupleGo target (.ref J) v) (fun _ s1 => wpAny c.M c.A (assign target c.env v) (fun _ s2 => ∃ ρ'', tset ρ'' ∧ St c F h₀ ρ'' s2) Nv s1) Nv s)
    (hb : ∀ ρ2 s2, tset ρ2 → St c F h₀ ρ2 s2 → wpAny c.M c.A (execs body c.env) K3 E s2) :
    wpAny c.M c.A (letOwnedTupleGo target (.ref J) v) (fun _ s1 => wpAny c.M c.A (assign target c.env v) (fun _ s2 => wpAny c.M c.A (execs body c.env) K3 E s2) E s1) E s :=
  wpAny_mono htg (fun _ s1 h1 => wpAny_mono h1 (fun _ s2 h2 => h2.elim fun ρ2 x => hb ρ2 s2 x.1 x.2) nvE) nvE
noncomputable def FInv (c : Cx) (F : Addr → Prop) (h₀ : Heap) (P : Nat → Value → Prop) (Sx : Nat → Heap → Prop) (fp : List Addr) (J : Addr) (ds : List D) (I : Nat → Rho → Prop) (n : Nat) (s' : Shared) : Prop :=
  ∃ i ρ', n = ds.length + 1 - i ∧ i ≤ ds.length ∧ I i ρ' ∧ St c F h₀ ρ' s' ∧ Sx i s'.heap ∧ (∀ b ∈ J :: fp, b ∉ c.mu ρ') ∧ PHas c F ρ' P ds s'.heap
theorem for_body {K3 : Flow → Shared → Prop} {E : Value → Shared → Prop} {P : Nat → Value → Prop} {fp : List Addr} {N' : Rho → Prop} {Kp : Heap → Prop} {s1 : Shared} {ρ1 : Rho} (S1 : St c F h₀ ρ1 s1) (hK1 : Kp s1.heap) (hfp : ∀ b ∈ fp, b ∉ c.mu ρ1 ∧ Nt b ∧ ∃ o, s1.heap.get? b = some o)
    (hP1 : PHas c F ρ1 P ds s1.heap) (hK : ∀ h', (∀ b ∈ fp, ∀ o, s1.heap.get? b = some o → h'.get? b = some o) → Kp h') {ρ2 : Rho} {s2 : Shared} (S2 : St c F (c.hid ρ1 s1) ρ2 s2) (hb : Ex c ρ2 body N' R)
    (hn : ∀ ρ3 s3, N' ρ3 → St c F h₀ ρ3 s3 → Kp s3.heap → (∀ b ∈ fp, b ∉ c.mu ρ3) → PHas c F ρ3 P ds s3.heap → K3 .next s3) (hr : ∀ v s3, Post c F h₀ N' R (.ret v) s3 → K3 (.ret v) s3) :
    wpAny c.M c.A (execs body c.env) K3 E s2 := by
  refine wpAny_mono (hb.out F _ s2 S2) (fun fl s3 p => ?_) nvE
  cases fl with
  | next =>
    obtain ⟨ρ3, hI3, S3⟩ := p
    have kp : ∀ a o, Nt a → s1.heap.get? a = some o → a ∉ c.mu ρ1 → a ∉ c.mu ρ3 ∧ s3.heap.get? a = some o := fun a o n e hn =>
      have h1 : (c.hid ρ1 s1).get? a = some o := hid_get e hn
      ⟨fun hm => (by have := (S3.ex a hm).2.1.symm.trans h1; cases this), S3.ext a o n h1⟩
    exact hn ρ3 s3 hI3 (S3.unframe S1.hidExt S1.fF) (hK _ fun b hb o e => (kp b o (hfp b hb).2.1 e (hfp b hb).1).2) (fun b hb => (hfp b hb).2.2.elim fun o e => (kp b o (hfp b hb).2.1 e (hfp b hb).1).1) (hP1.keep fun a o e _ n h => kp a o n e h)
  | ret v => exact hr v s3 (Post.unframe (N := N') (h₁ := c.hid ρ1 s1) p S1.hidExt S1.fF)
  | brk => exact False.elim p
  | cont => exact False.elim p
theorem for_core {RR : Result → Shared → Prop} {target : Expr} {tset : Rho → D → Rho → Prop} {J : Addr} (S : St c F h₀ ρ s) (hI : Itr c F h₀ ρ s J ds)
    (htg : ∀ F h₀ s ρ' v d I o, St c F h₀ ρ' s → c.Rep (c.ok F ρ') s.heap v d → s.heap.get? I = some o → Fld o → (∃ T, o.cls = .type T ∧ (T = "list_iterator" ∨ T = "tuple_iterator" ∨ T = "range_iterator" ∨ T = "list_reverseiterator")) →
      d ∈ ds → wpAny c.M c.A (letOwnedTupleGo target (.ref I) v) (fun _ s1 => wpAny c.M c.A (assign target c.env v) (fun _ s2 => ∃ ρ'', tset ρ' d ρ'' ∧ St c F h₀ ρ'' s2) Nv s1) Nv s)
    (I : Nat → Rho → Prop) (h0 : I 0 ρ) (step : ∀ i d ρ' ρ'', ds[i]? = some d → I i ρ' → tset ρ' d ρ'' → Ex c ρ'' body (I (i + 1)) R)
    (hret : ∀ v s3 N', Post c F h₀ N' R (.ret v) s3 → RR (.ok (.ret v)) s3) (hdone : ∀ ρ' s', I ds.length ρ' → St c F h₀ ρ' s' → RR (.ok .next) s') : codeAny c.M c.A (.forLoop target (.ref J) body [] c.env) RR s := by
  obtain ⟨⟨fp, P, Sx, W, hx0, hfp, hfe, hob, hP⟩, hJ, nJ, hJ0, hJg⟩ := hI
  refine codeAny_forLoop_any (FInv c F h₀ P Sx fp J ds I) ?_ (ds.length + 1) ⟨0, ρ, rfl, Nat.zero_le _, h0, S, hx0, List.forall_mem_cons.mpr ⟨hJ, fun b hb => (hfp b hb).1⟩, hP⟩
  rintro n s' ⟨i, ρ', rfl, hi, hI, S', hx, hfp', hP'⟩
  obtain ⟨oJ, hoJ, hfJ, hcJ, _⟩ := hob i _ hx
  have hJ' := hfp' J (.head _)
  by_cases hlt : i < ds.length
  · refine W.item i s' _ _ hlt hx fun v h' tk hv hx' hk => ?_
    have S1 : St c F h₀ ρ' { s' with heap := h', toks := tk } := S'.other hJ' nJ hoJ hfJ hcJ hJ0 hJg hk
    have hP1 : PHas c F ρ' P ds h' := hP'.keep fun a o e hn _ h => ⟨h, hk a o (fun q => by rw [List.mem_singleton.mp q, hoJ] at e; cases e; exact hn hfJ) e⟩
    obtain ⟨o1, ho1, hf1, _, hT1⟩ := hob _ _ hx'
    obtain ⟨d, hd, hr⟩ := hP1 i v hv
    refine for_go (htg F _ _ ρ' v d J o1 S1.framed hr ho1 hf1 hT1 (List.mem_of_getElem? hd)) fun ρ2 s2 ht S2 => for_body (fp := J :: fp) (Kp := Sx (i + 1)) S1 hx' (List.forall_mem_cons.mpr ⟨⟨hJ', nJ, o1, ho1⟩, fun b hb => ⟨hfp' b (.tail _ hb), (hfp b hb).2, hfe _ _ hx' b hb⟩⟩) hP1
      (fun h2 k => W.frame _ _ _ hx' fun b hb => k b (.tail _ hb)) S2 (step i d ρ' ρ2 hd hI ht) (fun ρ3 s3 hI3 S3 k3 f3 p3 => ⟨ds.length + 1 - (i + 1), turn_lt hlt, i + 1, ρ3, rfl, hlt, hI3, S3, k3, f3, p3⟩) fun v s3 p => hret v s3 _ p
  · obtain rfl : i = ds.length := Nat.le_antisymm hi (Nat.not_lt.mp hlt)
    exact W.done s' _ _ hx fun h' tk hk => wpAny_execs_nil (hdone ρ' _ hI (S'.other hJ' nJ hoJ hfJ hcJ hJ0 hJg hk))

/-- a loop, its target's store given -/
theorem for_loop {target : Expr} {tset : Rho → D → Rho → Prop} (hi : EvI c ρ it ds)
    (htg : ∀ F h₀ s ρ' v d I o, St c F h₀ ρ' s → c.Rep (c.ok F ρ') s.heap v d → s.heap.get? I = some o → Fld o → (∃ T, o.cls = .type T ∧ (T = "list_iterator" ∨ T = "tuple_iterator" ∨ T = "range_iterator" ∨ T = "list_reverseiterator")) →
      d ∈ ds → wpAny c.M c.A (letOwnedTupleGo target (.ref I) v) (fun _ s1 => wpAny c.M c.A (assign target c.env v) (fun _ s2 => ∃ ρ'', tset ρ' d ρ'' ∧ St c F h₀ ρ'' s2) Nv s1) Nv s)
    (I : Nat → Rho → Prop) (h0 : I 0 ρ) (step : ∀ i d ρ' ρ'', ds[i]? = some d → I i ρ' → tset ρ' d ρ'' → Ex c ρ'' body (I (i + 1)) R)
    (k : ∀ ρ', I ds.length ρ' → Ex c ρ' rest N R) (hfold : ∀ v, foldedSetIterable it c.env v = pure v) : Ex c ρ (.For target it body [] pos :: rest) N R := by
  refine Ex.cons (N' := I ds.length) ⟨fun F h₀ s S => ?_⟩ k
  rw [arm_exec_For]
  refine wpAny_bind (wpAny_standAt (wpAny_bind (wpAny_mono ((hi).out F h₀ s S) (fun v s1 h1 => ?_) idE)))
  refine wpAny_bind (wpAny_of_eq (hfold v) (wpAny_bind (wpAny_standAt (wpAny_bind (wpAny_holding (wpAny_mono h1 (fun i s2 h2 => ?_) idE))))))
  obtain ⟨J, rfl, T, hI⟩ := h2
  exact wpAny_runOwn (for_core (S.step T) hI htg I h0 step (fun v s3 N' p => p) fun ρ' s' h S' => ⟨ρ', h, S'⟩)

theorem letOwned_name {I v : Value} : letOwnedTupleGo (.Name x px) I v = pure () := rfl
theorem Ex.for_ (hi : EvI c ρ it ds) (hk : canStore c x = true) (I : Nat → Rho → Prop) (h0 : I 0 ρ) (step : ∀ i d ρ', ds[i]? = some d → I i ρ' → Ex c (ρ'.set x (.val d)) body (I (i + 1)) R)
    (k : ∀ ρ', I ds.length ρ' → Ex c ρ' rest N R) (hfold : ∀ v, foldedSetIterable it c.env v = pure v := by intro _; rfl) : Ex c ρ (.For (.Name x px) it body [] pos :: rest) N R :=
  for_loop (tset := fun ρ' d ρ'' => ρ'' = ρ'.set x (.val d)) hi (fun F h₀ s ρ' v d J o S r _ _ _ _ => by
    rw [letOwned_name]
    refine wpAny_pure (assign_Name (S.put (.refl S.gh) (b := .val d) hk (Rep.weak r fun a p => ⟨fun hm => p.1 (mu_val hm), p.2⟩) (fun a ha => by simp [B.at] at ha) fun s' S' => ⟨_, rfl, S'⟩))) I h0
    (fun i d ρ' ρ'' h1 h2 h3 => h3 ▸ step i d ρ' h1 h2) k hfold

theorem Ex.while_ (I : Nat → Rho → Prop) (n : Nat) (h0 : I n ρ)
    (step : ∀ n ρ', I n ρ' → ∃ b, ET c ρ' test b ∧ (b = true → Ex c ρ' body (fun ρ'' => ∃ n', n' < n ∧ I n' ρ'') R) ∧ (b = false → Ex c ρ' rest N R)) : Ex c ρ (.While test body [] pos :: rest) N R := ⟨fun F h₀ s S => by
  refine wpAny_execs_cons (wpAny_While ?_)
  refine codeAny_whileLoop (fun n s' => ∃ ρ', I n ρ' ∧ St c F h₀ ρ' s') ?_ n ⟨ρ, h0, S⟩
  rintro n s' ⟨ρ', hI, S'⟩
  obtain ⟨b, ht, h1, h2⟩ := step n ρ' hI
  refine wpAny_mono ((ht).out F h₀ s' S') (fun r s2 x => ?_) nvE
  obtain ⟨t, rfl⟩ := x
  cases r with
  | true =>
    refine wpAny_mono ((h1 rfl).out F h₀ s2 (S'.step t)) (fun fl s3 p => ?_) nvE
    cases fl with
    | next => obtain ⟨ρ2, ⟨n', h3, h4⟩, S2⟩ := p; exact ⟨n', h3, ρ2, h4, S2⟩
    | ret v => exact p
    | brk => exact False.elim p
    | cont => exact False.elim p
  | false => exact wpAny_execs_nil ((h2 rfl).out F h₀ s2 (S'.step t))⟩
end
end Mine

set_option linter.unusedVariables false
namespace Mine
open PySem PyProof.Rows PySem.W PyProof.V

section
variable {m : Md} {c : Cx} {ρ : Rho} {F : Addr → Prop} {h₀ h₁ : Heap} {s s' : Shared} {e e1 e2 e3 it test : Expr} {d d1 d2 : D} {ds ds' : List D} {pos px : Pos} {x y : Str} {b : Bool} {rest body els : List Stmt} {st : Stmt} {N N' : Rho → Prop} {R : D → Prop} {es : List Expr}

theorem RepB.isRef {P : Addr → Prop} {h : Heap} {v : Value} {b : B} {a : Addr} (e : b.at = [a]) (r : RepB c P h v b) : v = .ref a := by
  cases b with
  | val d => simp [B.at] at e
  | own a' ds => simp only [B.at, List.cons.injEq, and_true] at e; exact e ▸ r.1
  | ownd a' l => simp only [B.at, List.cons.injEq, and_true] at e; exact e ▸ r.1
/-- how a name's object stands -/
theorem St.bAt (S : St c F h₀ ρ s) {b : B} (hl : ρ.lookup x = some b) : ∃ v, RepB c (c.ok F ρ) s.heap v b := by
  by_cases hk : c.env.kindOf x = some .local
  · obtain ⟨m, _, hv⟩ := S.fr
    obtain ⟨v, _, h2⟩ := hv x _ hl hk
    exact ⟨v, h2⟩
  · obtain ⟨q, v, _, _, h2⟩ := S.ce x _ hl hk
    exact ⟨v, h2⟩
theorem RepB.obj {P : Addr → Prop} {h : Heap} {v : Value} {b : B} {a : Addr} (e : b.at = [a]) (r : RepB c P h v b) : ∃ o, h.get? a = some o ∧ (∀ vs, o.data ≠ .fields vs) ∧ ∀ v, o.data ≠ .cell v := by
  cases b with
  | val d => simp [B.at] at e
  | own a' ds =>
    simp only [B.at, List.cons.injEq, and_true] at e
    subst e
    obtain ⟨_, vs, ⟨k, hp⟩, _⟩ := r
    exact ⟨_, hp, nofun, nofun⟩
  | ownd a' l =>
    simp only [B.at, List.cons.injEq, and_true] at e
    subst e
    obtain ⟨_, o, kvs, ho, hd, _⟩ := r
    obtain ⟨es, ep, _, h, _⟩ := hd
    exact ⟨o, ho, (fun vs e => by rw [h] at e; cases e), (fun vs e => by rw [h] at e; cases e)⟩
theorem own_inj {ρ : Rho} {x y : Str} {b b' : B} {a : Addr} (hn : (owns ρ).Nodup) (h1 : ρ.lookup y = some b') (h2 : ρ.lookup x = some b) (m1 : a ∈ b'.at) (m2 : a ∈ b.at) : y = x := by
  induction ρ with
  | nil => simp at h1
  | cons p r ih =>
    obtain ⟨z, q⟩ := p
    rw [owns_cons] at hn
    have hn' := List.nodup_append.mp hn
    rw [List.lookup_cons] at h1 h2
    by_cases hy : y = z
    · by_cases hx : x = z
      · rw [hy, hx]
      · exfalso
        simp only [hy, beq_self_eq_true] at h1
        simp only [beq_eq_false_iff_ne.mpr hx] at h2
        cases h1
        exact hn'.2.2 a m1 a (mem_owns h2 a m2) rfl
    · by_cases hx : x = z
      · exfalso
        simp only [hx, beq_self_eq_true] at h2
        simp only [beq_eq_false_iff_ne.mpr hy] at h1
        cases h2
        exact hn'.2.2 a m2 a (mem_owns h1 a m1) rfl
      · simp only [beq_eq_false_iff_ne.mpr hx] at h2
        simp only [beq_eq_false_iff_ne.mpr hy] at h1
        exact ih hn'.2.1 h1 h2
/-- an object of the frame's own is changed, all else stands -/
theorem St.stepB (S : St c F h₀ ρ s) {a : Addr} {b b' : B} (hl : ρ.lookup x = some b) (hba : b.at = [a]) (hba' : b'.at = [a]) (hk : ∀ z o, z ≠ a → Nt z → s.heap.get? z = some o → s'.heap.get? z = some o) (G : GH c.g s'.heap)
    (hgens : s'.gens = s.gens) (hos : s'.os = s.os) (ho' : ∃ o', s'.heap.get? a = some o') (hr : RepB c (fun z => z ∉ c.mu ρ ∧ F z) s'.heap (.ref a) b') : St c F h₀ (ρ.set x b') s' := by
  have ho : owns (ρ.set x b') = owns ρ := owns_set_same hl (hba'.trans hba.symm)
  have hmu : c.mu (ρ.set x b') = c.mu ρ := by unfold Cx.mu; rw [ho]
  have hab : a ∈ b.at := by rw [hba]; exact .head _
  have ham : a ∈ c.mu ρ := S.own_mu hl a hab
  have hao : a ∈ owns ρ := mem_owns hl a hab
  have hn := S.nd
  unfold Cx.mu at hn
  have hn1 := List.nodup_cons.mp hn
  have hn2 := List.nodup_append.mp hn1.2
  have haL : a ≠ c.env.locals := fun q => hn1.1 (q ▸ List.mem_append_right _ hao)
  obtain ⟨o₀, hobj, hf, hc⟩ := (S.bAt hl).elim fun _ r => r.obj hba
  have cl : ∀ {y q v'}, c.env.cells.lookup y = some q → s.heap.IsCell q v' → s'.heap.IsCell q v' := fun h1 ⟨o, h2, h3⟩ => ⟨o, hk _ _ (fun q => by rw [q, hobj] at h2; cases h2; exact hc _ h3) (S.cs _ _ h1).1 h2, h3⟩
  have up : ∀ {y b₂ v'}, (ρ.set x b').lookup y = some b₂ → (∀ b₃, ρ.lookup y = some b₃ → RepB c (c.ok F ρ) s.heap v' b₃) → RepB c (fun z => z ∉ c.mu (ρ.set x b') ∧ F z) s'.heap v' b₂ := fun {y b₂ v'} e h1 => by
    rw [hmu]
    rw [Rho.lookup_set] at e
    by_cases hy : y = x
    · rw [if_pos hy] at e; cases e
      subst hy
      rw [(h1 b hl).isRef hba]; exact hr
    · rw [if_neg hy] at e
      refine RepB.mono (h1 _ e) (fun a' o p n e => ⟨p, hk a' o (fun q => p.1 (q ▸ ham)) n e⟩) fun a' ha' o e' => hk a' o (fun q => ?_) (S.ex a' (S.own_mu e a' ha')).1 e'
      subst q
      exact hy (own_inj hn2.2.1 e hl ha' hab)
  have old : ∀ {y b₂}, (ρ.set x b').lookup y = some b₂ → ∃ b₃, ρ.lookup y = some b₃ := fun {y b₂} e => by
    rw [Rho.lookup_set] at e
    by_cases hy : y = x
    · exact ⟨b, hy ▸ hl⟩
    · rw [if_neg hy] at e; exact ⟨_, e⟩
  refine ⟨G, fun a' o n e => hk a' o (fun q => ?_) n (S.ext a' o n e), hgens.trans S.gens, hos.trans S.os, S.rm, S.lim, S.kf, S.gn, S.bn, S.fF, ?_, ?_, ?_, hmu ▸ S.nd, ?_⟩
  · rw [q, (S.ex a ham).2.1] at e; cases e
  · obtain ⟨m, hm, hv⟩ := S.fr
    refine ⟨m, hm.at' fun o e => hk _ o (Ne.symm haL) (S.ex _ (.head _)).1 e, fun y b₂ e hky => ?_⟩
    obtain ⟨b₃, e'⟩ := old e
    obtain ⟨v, h1, h2⟩ := hv y _ e' hky
    exact ⟨v, h1, up e fun b₄ e4 => by rw [e'] at e4; cases e4; exact h2⟩
  · intro y b₂ e hky
    obtain ⟨b₃, e'⟩ := old e
    obtain ⟨q, v, h1, h2, h3⟩ := S.ce y _ e' hky
    exact ⟨q, v, h1, cl h1 h2, up e fun b₄ e4 => by rw [e'] at e4; cases e4; exact h3⟩
  · intro y q e
    obtain ⟨n, v, h2⟩ := S.cs y q e
    exact ⟨n, v, cl e h2⟩
  · intro a' ha'
    rw [hmu] at ha'
    obtain ⟨h1, h2, h3, o, h4⟩ := S.ex a' ha'
    refine ⟨h1, h2, h3, ?_⟩
    by_cases q : a' = a
    · exact q ▸ ho'
    · exact ⟨o, hk a' o q h1 h4⟩
/-- the same, in the heap alone -/
theorem St.mutateB (S : St c F h₀ ρ s) {a : Addr} {b b' : B} {h' : Heap} {tk : Nat} (hl : ρ.lookup x = some b) (hba : b.at = [a]) (hba' : b'.at = [a]) (hs : Heap.SameBut a s.heap h')
    (ho' : ∃ o', h'.get? a = some o') (hr : RepB c (fun z => z ∉ c.mu ρ ∧ F z) h' (.ref a) b') : St c F h₀ (ρ.set x b') { s with heap := h', toks := tk } := by
  obtain ⟨o₀, hobj, hf, hc⟩ := (S.bAt hl).elim fun _ r => r.obj hba
  have ham : a ∈ c.mu ρ := S.own_mu hl a (by rw [hba]; exact .head _)
  exact S.stepB (s' := { s with heap := h', toks := tk }) hl hba hba' (fun z o hz _ e => (hs.2 z hz).trans e) (S.gh.sameBut hs hobj hf (S.ex a ham).2.2.1) rfl rfl ho' hr
/-- a list of the frame's own is changed -/
theorem St.mutate (S : St c F h₀ ρ s) {a : Addr} {vs' : List Value} {h' : Heap} {tk : Nat} (hl : ρ.lookup x = some (.own a ds)) (hs : Heap.SameBut a s.heap h') (hp : h'.PlainList a vs'.toArray)
    (r : c.RepL (c.ok F ρ) s.heap vs' ds') : St c F h₀ (ρ.set x (.own a ds')) { s with heap := h', toks := tk } := by
  have ham : a ∈ c.mu ρ := S.own_mu hl a (.head _)
  exact S.mutateB hl rfl rfl hs (let ⟨_, e⟩ := hp; ⟨_, e⟩) ⟨rfl, vs', hp, RepL.mono r fun a' o p _ e => ⟨p, (hs.2 a' fun q => p.1 (q ▸ ham)).trans e⟩⟩

theorem Ex.append {a : Addr} {pa pc : Pos} (h1 : ρ.lookup x = some (.own a ds)) (hb : isBound c.env x = true) (h2 : Ev .s c ρ e d) (hz : ds.length ≤ sizeLine) (hn : noStar e = true) (hline : (pa.endLine == pc.line) = true)
    (k : Ex c (ρ.set x (.own a (ds ++ [d]))) rest N R) (hi : interactive c.env = false := by rfl) (hbase : attributeBase (.Name x px) "append" c.env (eval (.Name x px) c.env) = eval (.Name x px) c.env := by rfl) :
    Ex c ρ (.Expr (.Call (.Attribute (.Name x px) "append" pa) [e] [] pc) pos :: rest) N R := ⟨fun F h₀ s S => by
  have ht : backTo pc (starEach [e] c.env) = [(false, eval e c.env)] := star_cons hn
  refine wpAny_execs_cons (wpAny_Expr (wpAny_Call_append hbase (by rw [ht]; rfl) hline ht (wpAny_Name (S.load h1 (isBound_kind hb).1 (isBound_kind hb).2.1 fun v r => ?_) (isBound_kind hb).2.2)) hi rfl)
  obtain ⟨rfl, vs, ⟨n, hp⟩, r⟩ := r
  refine ⟨a, _, rfl, ⟨_, n, hp, rfl, rfl, rfl⟩, wpAny_mono ((h2).out F h₀ s S) (fun v s1 x1 => ?_) idE⟩
  have S1 := S.step x1.1
  have ha := (S.ex a (S.own_mu h1 a (.head _))).1
  refine wpAny_list_append_plain (items := vs.toArray) ⟨n, x1.1.ext _ _ ha hp⟩ (fun h' hp' hs' => ?_) (by rw [List.size_toArray, r.length]; exact hz)
  exact (k).out F h₀ _ (S1.mutate (tk := s1.toks) (vs' := vs ++ [v]) h1 hs' (by simpa using hp') ((r.ext x1.1.ext).append (.cons (x1.2.weak fun a p => pr_true.mp p) .nil)))⟩

/-! names of the module -/
theorem St.global (S : St c F h₀ ρ s) {v : Value} (hk : c.env.kindOf x = some .globalImplicit) (hv : c.mg x = some v) (hd : (x == ("__debug__" : Str)) = false) {Q : Value → Shared → Prop} {E : Value → Shared → Prop} (h : Q v s) :
    wpAny c.M c.A (eval (.Name x px) c.env) Q E s := Calls.Name_function_global S.kf hk (Calls.loadGlobal_global (S.gn.keeps S.gh.keep) hv h) hd
theorem St.builtin (S : St c F h₀ ρ s) {v : Value} (hk : c.env.kindOf x = some .globalImplicit) (hm : c.mg x = none) (hv : c.mb x = some v) (hd : (x == ("__debug__" : Str)) = false) {Q : Value → Shared → Prop} {E : Value → Shared → Prop} (h : Q v s) :
    wpAny c.M c.A (eval (.Name x px) c.env) Q E s := Calls.Name_function_global S.kf hk (Calls.loadGlobal_builtin (S.gn.keeps S.gh.keep) hm (S.bn.keeps S.gh.keep) hv h) hd
theorem Ev.global {v : Value} (hk : c.env.kindOf x = some .globalImplicit) (hv : c.mg x = some v) (hd : (x == ("__debug__" : Str)) = false) (r : c.Rep (fun _ => True) c.g v d) :
    Ev .n c ρ (.Name x px) d := ⟨fun F h₀ s S => S.global hk hv hd ⟨.refl S.gh, Rep.mono r fun a o _ _ e => ⟨trivial, S.gh.keep a o e⟩⟩⟩
end
end Mine

set_option linter.unusedVariables false
namespace Mine
open PySem PyProof.Rows PySem.W PyProof.V

/-- what a def of the module's gives back -/
noncomputable def Fn (prog : Program) (w : World) (g : Heap) (os : OsState) (f : Addr) (k : Nat) (args : List D) (d : D) : Prop := ∀ A s vals F, Rm A k → s.gens = #[] → s.os = os → GH g s.heap → RepL prog w F s.heap vals args →
  (∀ a, s.heap.get? a = none → F a) → wpAny (model prog w) A (call (.ref f) vals) (fun v s' => Step g s s' ∧ Rep prog w F s'.heap v d) Nv s

theorem bindL_skip {ko : Str → Option NameKind} {x : Str} : ∀ {binds : List (Str × Value)} {m : Str → Option Value}, x ∉ binds.map (·.1) → bindL ko binds m x = m x
  | [], m, _ => rfl
  | (n, v) :: r, m, h => by
    simp only [List.map_cons, List.mem_cons, not_or] at h
    unfold bindL
    rw [bindL_skip h.2]
    split
    · exact if_neg h.1
    · rfl
theorem bindL_get {ko : Str → Option NameKind} {x : Str} {v : Value} : ∀ {binds : List (Str × Value)} {m : Str → Option Value}, (binds.map (·.1)).Nodup → (x, v) ∈ binds → ko x = some .local → bindL ko binds m x = some v
  | (n, u) :: r, m, hn, hm, hk => by
    simp only [List.map_cons, List.nodup_cons] at hn
    unfold bindL
    rcases List.mem_cons.mp hm with e | hm
    · cases e
      rw [bindL_skip hn.1, if_pos hk, if_pos rfl]
    · exact bindL_get hn.2 hm hk
theorem bindC_skip {ko : Str → Option NameKind} {x : Str} : ∀ {binds : List (Str × Value)} {m : Str → Option Value}, x ∉ binds.map (·.1) → bindC ko binds m x = m x
  | [], m, _ => rfl
  | (n, v) :: r, m, h => by
    simp only [List.map_cons, List.mem_cons, not_or] at h
    unfold bindC
    rw [bindC_skip h.2]
    split
    · rfl
    · exact if_neg h.1
theorem bindC_get {ko : Str → Option NameKind} {x : Str} {v : Value} : ∀ {binds : List (Str × Value)} {m : Str → Option Value}, (binds.map (·.1)).Nodup → (x, v) ∈ binds → ko x ≠ some .local → bindC ko binds m x = some v
  | (n, u) :: r, m, hn, hm, hk => by
    simp only [List.map_cons, List.nodup_cons] at hn
    unfold bindC
    rcases List.mem_cons.mp hm with e | hm
    · cases e
      rw [bindC_skip hn.1, if_neg hk, if_pos rfl]
    · exact bindC_get hn.2 hm hk
theorem zip_lookup {prog : Program} {w : World} {P : Addr → Prop} {h : Heap} {x : Str} {b : B} : ∀ {names : List Str} {vals : List Value} {args : List D}, RepL prog w P h vals args → (names.zip (args.map B.val)).lookup x = some b →
    ∃ v d, b = .val d ∧ (x, v) ∈ names.zip vals ∧ Rep prog w P h v d
  | [], _, _, _, e => by simp at e
  | n :: ns, _, _, .nil, e => by simp at e
  | n :: ns, _, _, .cons (v := v) (d := d) r rs, e => by
    simp only [List.map_cons, List.zip_cons_cons, List.lookup_cons] at e
    by_cases hx : x = n
    · simp only [hx, beq_self_eq_true] at e
      cases e
      exact ⟨v, d, rfl, by rw [hx]; exact .head _, r⟩
    · simp only [beq_eq_false_iff_ne.mpr hx] at e
      obtain ⟨v', d', h1, h2, h3⟩ := zip_lookup rs e
      exact ⟨v', d', h1, .tail _ h2, h3⟩
theorem owns_zip : ∀ (names : List Str) (args : List D), owns (names.zip (args.map B.val)) = []
  | [], _ => by simp [owns]
  | _ :: _, [] => by simp [owns]
  | n :: ns, d :: ds => by
    simp only [List.map_cons, List.zip_cons_cons]
    rw [owns_cons, owns_zip ns ds]; rfl

/-- the frame of a call -/
noncomputable def frameOf (prog : Program) (w : World) (g : Heap) (os : OsState) (mg mb : Str → Option Value) (fd : FuncData) (f : Addr) (k : Nat) (A : Around) (L : Addr) : Cx :=
  { prog, w, g, os, mg, mb, A := A.deeper (callEnvC fd L f), env := callEnvC fd L f, own := true, k }

noncomputable def fdOk (fd : FuncData) (names : List Str) : Bool :=
  fd.closure.isEmpty && fd.scope.kind == .function && !fd.scope.isCoroutine && !fd.scope.isGenerator && decide names.Nodup && decide ((cellsFrom 0 fd.scope.names []).map (·.1)).Nodup &&
  names.all fun x => fd.scope.names.lookup x == some .local || fd.scope.names.lookup x == some .cell

section
variable {fd : FuncData} {n0 n1 n2 n3 n4 : Str}
theorem len_succ {vals : List Value} {n : Nat} (e : vals.length = n + 1) : ∃ v t, vals = v :: t ∧ t.length = n := by
  cases vals with
  | nil => cases e
  | cons v t => exact ⟨v, t, rfl, Nat.succ.inj e⟩
theorem len_zero {vals : List Value} (e : vals.length = 0) : vals = [] := List.eq_nil_of_length_eq_zero e
theorem bind0 (h : bindArgs fd ⟨[], []⟩ = pure []) : ∀ vals : List Value, vals.length = ([] : List Str).length → bindArgs fd ⟨vals, []⟩ = pure (([] : List Str).zip vals) := fun vals e => by
  obtain rfl := len_zero e
  exact h
theorem bind1 (h : ∀ v0, bindArgs fd ⟨[v0], []⟩ = pure [(n0, v0)]) : ∀ vals : List Value, vals.length = [n0].length → bindArgs fd ⟨vals, []⟩ = pure ([n0].zip vals) := fun vals e => by
  obtain ⟨v0, t1, rfl, e1⟩ := len_succ e
  obtain rfl := len_zero e1
  exact h v0
theorem bind2 (h : ∀ v0 v1, bindArgs fd ⟨[v0, v1], []⟩ = pure [(n0, v0), (n1, v1)]) : ∀ vals : List Value, vals.length = [n0, n1].length → bindArgs fd ⟨vals, []⟩ = pure ([n0, n1].zip vals) := fun vals e => by
  obtain ⟨v0, t1, rfl, e1⟩ := len_succ e
  obtain ⟨v1, t2, rfl, e2⟩ := len_succ e1
  obtain rfl := len_zero e2
  exact h v0 v1
theorem bind3 (h : ∀ v0 v1 v2, bindArgs fd ⟨[v0, v1, v2], []⟩ = pure [(n0, v0), (n1, v1), (n2, v2)]) : ∀ vals : List Value, vals.length = [n0, n1, n2].length → bindArgs fd ⟨vals, []⟩ = pure ([n0, n1, n2].zip vals) := fun vals e => by
  obtain ⟨v0, t1, rfl, e1⟩ := len_succ e
  obtain ⟨v1, t2, rfl, e2⟩ := len_succ e1
  obtain ⟨v2, t3, rfl, e3⟩ := len_succ e2
  obtain rfl := len_zero e3
  exact h v0 v1 v2
theorem bind5 (h : ∀ v0 v1 v2 v3 v4, bindArgs fd ⟨[v0, v1, v2, v3, v4], []⟩ = pure [(n0, v0), (n1, v1), (n2, v2), (n3, v3), (n4, v4)]) : ∀ vals : List Value, vals.length = [n0, n1, n2, n3, n4].length → bindArgs fd ⟨vals, []⟩ = pure ([n0, n1, n2, n3, n4].zip vals) := fun vals e => by
  obtain ⟨v0, t1, rfl, e1⟩ := len_succ e
  obtain ⟨v1, t2, rfl, e2⟩ := len_succ e1
  obtain ⟨v2, t3, rfl, e3⟩ := len_succ e2
  obtain ⟨v3, t4, rfl, e4⟩ := len_succ e3
  obtain ⟨v4, t5, rfl, e5⟩ := len_succ e4
  obtain rfl := len_zero e5
  exact h v0 v1 v2 v3 v4
end
theorem Fn.intro {prog : Program} {w : World} {g : Heap} {os : OsState} {mg mb : Str → Option Value} {f : Addr} {o : Obj} {fd : FuncData} {body : List Stmt} {names : List Str} {args : List D} {d : D} {k : Nat}
    (ho : g.get? f = some o) (hd : o.data = .func fd) (hb : fd.body = .stmts body) (hcode : g.CodeRec fd.code fd.qualname) (hlim : g.NoLimit) (hok : fdOk fd names = true) (hlen : names.length = args.length)
    (hbind : ∀ vals : List Value, vals.length = names.length → bindArgs fd ⟨vals, []⟩ = pure (names.zip vals)) (hgn : g.Ns fd.globals mg) (hbn : g.Ns fd.builtins mb)
    (h : ∀ A L, Ex (frameOf prog w g os mg mb fd f k A L) (names.zip (args.map B.val)) body (fun _ => d = .none) (fun d' => d' = d)) : Fn prog w g os f (k + 1) args d := by
  intro A s vals F rm hg hos G r fF
  unfold fdOk at hok
  simp only [Bool.and_eq_true, List.isEmpty_iff, beq_iff_eq, Bool.not_eq_true', decide_eq_true_eq, List.all_eq_true, Bool.or_eq_true] at hok
  obtain ⟨⟨⟨⟨⟨⟨hcl, hkf⟩, hco⟩, hgen⟩, hnd⟩, hcn⟩, hkn⟩ := hok
  have hvl : vals.length = names.length := by rw [r.length, hlen]
  have hzk : (names.zip vals).map (·.1) = names := by rw [List.map_fst_zip (by lia)]
  have hkind : ∀ x ∈ names.zip vals, fd.scope.names.lookup x.1 = some .local ∨ (fd.scope.names.lookup x.1 = some .cell ∧ ((cellsFrom (s.heap.objs.size + 1) fd.scope.names []).lookup x.1).isSome = true) := fun x hx =>
    kindsX (binds := names.zip vals) (List.all_eq_true.mpr fun y hy => by
      have := hkn y.1 (hzk ▸ List.mem_map_of_mem hy)
      simpa using this) _ x hx
  refine wpAny_call (codeAny_call_cells (by have := rm.2.1; lia) (G.keep _ _ ho) hd (hlim.keeps G.keep) (hcode.keeps G.keep) hb (hbind vals hvl) hcl hkind (fun s₁ X => ?_) hco hgen hkf)
  obtain ⟨⟨h1, tk, rfl⟩, hns, hkeep, hfresh⟩ := X.toInCall
  have hcn' : ((cellsFrom (s.heap.objs.size + 1) fd.scope.names []).map (·.1)).Nodup := cellsFrom_names fd.scope.names 0 (s.heap.objs.size + 1) [] [] rfl ▸ hcn
  have fr : ∀ a, s.heap.objs.size ≤ a → s.heap.get? a = none := fun a ha => Heap.get?_none_of_le ha
  have G1 : GH g h1 := G.mono hkeep
  have ncel : ∀ n q, (n, q) ∈ (callEnvC fd s.heap.objs.size f).cells → s.heap.objs.size ≤ q := fun n q hm => Nat.le_of_lt (X.above n q hm)
  have hmu : ∀ a, a ∈ (frameOf prog w g os mg mb fd f k A s.heap.objs.size).mu (names.zip (args.map B.val)) → s.heap.objs.size ≤ a ∧ ∃ o, h1.get? a = some o := fun a ha => by
    rcases mem_mu.mp ha with e | e | e
    · rw [e]
      obtain ⟨o, _, _, e2, _⟩ := hns
      exact ⟨Nat.le_refl _, o, e2⟩
    · unfold Cx.mcs frameOf at e
      rw [if_pos rfl, List.append_nil] at e
      obtain ⟨⟨n, q⟩, hm, rfl⟩ := List.mem_map.mp e
      obtain ⟨o, e2, _⟩ := X.cell n q (lookup_of_mem_nodup hcn' hm)
      exact ⟨ncel n q hm, o, e2⟩
    · rw [owns_zip] at e; cases e
  have gn : ∀ a, s.heap.objs.size ≤ a → g.get? a = none := fun a ha => by
    cases q : g.get? a with
    | none => rfl
    | some o => have := G.keep a o q; rw [fr a ha] at this; cases this
  have rr : RepL prog w (fun a => a ∉ (frameOf prog w g os mg mb fd f k A s.heap.objs.size).mu (names.zip (args.map B.val)) ∧ F a) h1 vals args := r.mono fun a o p n e => ⟨⟨fun hm => (by
    have := (hmu a hm).1; rw [fr a this] at e; cases e), p⟩, hkeep a o e⟩
  have S : St (frameOf prog w g os mg mb fd f k A s.heap.objs.size) F s.heap (names.zip (args.map B.val)) { s with heap := h1, toks := tk } := by
    refine ⟨G1, .of_keep hkeep, hg, hos, rm.deeper, hlim, hkf, hgn, hbn, fF, ⟨_, hns, fun x b e hk => ?_⟩, fun x b e hk => ?_, fun x q e => ?_, ?_, fun a ha => ?_⟩
    · obtain ⟨v, d', rfl, hm, hr⟩ := zip_lookup rr e
      exact ⟨v, bindL_get (hzk.symm ▸ hnd) hm hk, hr⟩
    · obtain ⟨v, d', rfl, hm, hr⟩ := zip_lookup rr e
      have hc : (callEnvC fd s.heap.objs.size f).kindOf x ≠ some .local := hk
      rcases hkind _ hm with hl | ⟨_, hs⟩
      · exact absurd hl hk
      · obtain ⟨q, hq⟩ := Option.isSome_iff_exists.mp hs
        have := X.cell x q hq
        rw [bindC_get (hzk.symm ▸ hnd) hm hc] at this
        exact ⟨q, v, hq, this, hr⟩
    · exact ⟨G.nt (fr q (ncel x q (mem_of_lookup e))), _, X.cell x q e⟩
    · unfold Cx.mu
      rw [owns_zip, List.append_nil, List.nodup_cons]
      have e : (frameOf prog w g os mg mb fd f k A s.heap.objs.size).mcs = (callEnvC fd s.heap.objs.size f).cells.map (·.2) := List.append_nil _
      rw [e]
      refine ⟨fun hm => ?_, ?_⟩
      · obtain ⟨⟨n, q⟩, hm, e⟩ := List.mem_map.mp hm
        have := X.above n q hm
        have e' : q = (callEnvC fd s.heap.objs.size f).locals := e
        exact Nat.lt_irrefl _ (e' ▸ this)
      · rw [List.nodup_iff_pairwise_ne, List.pairwise_map]; exact X.apart
    · have := hmu a ha
      exact ⟨G.nt (fr a this.1), fr a this.1, gn a this.1, this.2⟩
  refine wpAny_mono ((h A s.heap.objs.size).out F s.heap _ S) (fun fl s' p => ?_) nvE
  cases fl with
  | next => obtain ⟨ρ', hd', S'⟩ := p; exact ⟨⟨S'.ext, S'.gh, S'.gens.trans hg.symm, S'.os.trans hos.symm⟩, by rw [hd']; exact .none⟩
  | ret v => obtain ⟨d', rfl, h1, h2, h3, h4, h5⟩ := p; exact ⟨⟨h2, h3, h4.trans hg.symm, h5.trans hos.symm⟩, h1⟩
  | brk => exact False.elim p
  | cont => exact False.elim p

theorem Fn.le {prog : Program} {w : World} {g : Heap} {os : OsState} {f : Addr} {k j : Nat} {args : List D} {d : D} (h : Fn prog w g os f k args d) (hk : k ≤ j) : Fn prog w g os f j args d :=
  fun A s vals F rm => h A s vals F (rm.le hk)

section
variable {m : Md} {c : Cx} {ρ : Rho} {F : Addr → Prop} {h₀ h₁ : Heap} {s s' : Shared} {e e1 e2 e3 it test : Expr} {d d1 d2 : D} {ds ds' : List D} {pos px : Pos} {x y : Str} {es : List Expr}

theorem St.prfresh (S : St c F h₀ ρ s) : ∀ a, s.heap.get? a = none → c.pr ρ F m a := fun a e => S.prf e
theorem Ev.call {f : Addr} {k : Nat} {o : Obj} {fd : FuncData} (hx : c.env.kindOf x = some .globalImplicit) (hd : (x == ("__debug__" : Str)) = false) (hv : c.mg x = some (.ref f)) (ho : c.g.get? f = some o) (hfd : o.data = .func fd)
    (hs : EvL m c ρ pos (e :: es) ds) (hn : noStar e = true) (hf : Fn c.prog c.w c.g c.os f k ds d) (hk : k ≤ c.k) : Ev m c ρ (.Call (.Name x px) (e :: es) [] pos) d := ⟨fun F h₀ s S => by
  refine wpAny_Call_NameR (S.global hx hv hd ?_)
  refine Calls.callWith_function (o := o) (fd := fd) ?_
  have ht := (hs).out F h₀ s S
  rw [star_cons hn] at ht ⊢
  refine Calls.evalArgs_plain (wpAny_mono ht (fun vs s1 x => ⟨⟨x.1.gh.keep _ _ ho, hfd⟩, ?_⟩) idE)
  have S1 := S.step x.1
  exact wpAny_mono (hf c.A s1 vs _ (S.rm.le hk) S1.gens S1.os S1.gh x.2 S1.prfresh) (fun v s2 x2 => ⟨x.1.trans x2.1, x2.2⟩) idE⟩
theorem Ev.call0 {f : Addr} {k : Nat} {o : Obj} {fd : FuncData} (hx : c.env.kindOf x = some .globalImplicit) (hd : (x == ("__debug__" : Str)) = false) (hv : c.mg x = some (.ref f)) (ho : c.g.get? f = some o) (hfd : o.data = .func fd)
    (hf : Fn c.prog c.w c.g c.os f k [] d) (hk : k ≤ c.k) : Ev m c ρ (.Call (.Name x px) [] [] pos) d := ⟨fun F h₀ s S => by
  refine wpAny_Call_NameR (S.global hx hv hd ?_)
  refine Calls.callWith_function (o := o) (fd := fd) ?_
  refine evalArgs_nil3 ⟨⟨S.gh.keep _ _ ho, hfd⟩, ?_⟩
  exact hf c.A s [] _ (S.rm.le hk) S.gens S.os S.gh .nil S.prfresh⟩
end
end Mine

set_option linter.unusedVariables false
namespace Mine
open PySem PyProof.Rows PySem.W PyProof.V

/-- a slice's bound -/
structure EvP (m : Md) (c : Cx) (ρ : Rho) (x : Option Expr) (p : Option Int) : Prop where
  out : ∀ F h₀ s, St c F h₀ ρ s → wpAny c.M c.A (evalPart x c.env) (fun v s' => Step c.g s s' ∧ IsPart v p) Nv s
structure BuOK (m : Md) (c : Cx) (ρ : Rho) (id : String) (ds : List D) (d : D) : Prop where
  out : ∀ F h₀ s vals, St c F h₀ ρ s → c.RepL (c.pr ρ F m) s.heap vals ds → wpAny c.M c.A (call (.builtin id) vals) (fun v s' => Step c.g s s' ∧ c.Rep (c.pr ρ F m) s'.heap v d) Nv s

noncomputable def pickD (ds : List D) (lo hi st : Option Int) : List D := (sliceRange (sliceBounds lo hi st ds.length).1 (sliceBounds lo hi st ds.length).2.1 (sliceBounds lo hi st ds.length).2.2).filterMap (ds[·]?)

theorem RepL.pick {prog : Program} {w : World} {P : Addr → Prop} {h : Heap} {vs : List Value} {ds : List D} (r : RepL prog w P h vs ds) : ∀ js : List Nat, RepL prog w P h (js.filterMap (vs[·]?)) (js.filterMap (ds[·]?))
  | [] => .nil
  | j :: js => by
    have ih := RepL.pick r js
    cases hn : ds[j]? with
    | some d =>
      obtain ⟨v, hv, hr⟩ := r.get hn
      simp only [List.filterMap_cons, hn, hv]
      exact .cons hr ih
    | none =>
      have hv : vs[j]? = none := by
        rw [List.getElem?_eq_none_iff] at hn ⊢
        rw [r.length]; exact hn
      simp only [List.filterMap_cons, hn, hv]
      exact ih
theorem RepL.pickD {prog : Program} {w : World} {P : Addr → Prop} {h : Heap} {vs : List Value} {ds : List D} (r : RepL prog w P h vs ds) (lo hi st : Option Int) : RepL prog w P h (slicePick vs.toArray lo hi st).toList (pickD ds lo hi st) := by
  have e : (slicePick vs.toArray lo hi st).toList = (sliceRange (sliceBounds lo hi st ds.length).1 (sliceBounds lo hi st ds.length).2.1 (sliceBounds lo hi st ds.length).2.2).filterMap (vs[·]?) := by
    simp [slicePick, r.length]
  rw [e]
  exact r.pick _

section
variable {prog : Program} {w : World} {P : Addr → Prop} {h : Heap} {v : Value}
theorem RepL.inv1 {vs : List Value} {d : D} (r : RepL prog w P h vs [d]) : ∃ v, vs = [v] ∧ Rep prog w P h v d := by
  cases r with | cons r rs => cases rs; exact ⟨_, rfl, r⟩
theorem RepL.inv2 {vs : List Value} {d d' : D} (r : RepL prog w P h vs [d, d']) : ∃ v v', vs = [v, v'] ∧ Rep prog w P h v d ∧ Rep prog w P h v' d' := by
  cases r with | cons r rs => obtain ⟨v', rfl, r'⟩ := rs.inv1; exact ⟨_, _, rfl, r, r'⟩
end

section
variable {m : Md} {c : Cx} {ρ : Rho} {F : Addr → Prop} {h₀ h₁ : Heap} {s s' : Shared} {e e1 e2 e3 it test : Expr} {d d1 d2 : D} {ds ds' : List D} {pos px : Pos} {x y : Str} {b : Bool} {es : List Expr} {lo hi stp : Option Int} {l u st : Option Expr} {i j : Int}

theorem EvP.none : EvP m c ρ none none := ⟨fun F h₀ s S => wpAny_pure ⟨.refl S.gh, .none⟩⟩
theorem EvP.some (h : Ev m c ρ e (.int i)) : EvP m c ρ (some e) (some i) := ⟨fun F h₀ s S => wpAny_mono (h.out F h₀ s S) (fun v s1 x => by
  obtain ⟨t, r⟩ := x; obtain ⟨u, rfl⟩ := r.inv_int; exact ⟨t, .int _ _⟩) idE⟩

theorem subs_none (o i : Value) : subscripted (.Slice l u none pos) false o i = operate [i, o] (getItem o i) := rfl
theorem subs_some (o i : Value) : subscripted (.Slice l u (some e) pos) false o i = operate [o, i] (getItem o i) := rfl
noncomputable def noSlice (e : Expr) : Bool := !(Nat.beq e.ctorIdx 26)
theorem subs_item (h : noSlice e = true) (o i : Value) : subscripted e false o i = operate [o, i] (getItem o i) := by
  cases e <;> first | rfl | exact Bool.noConfusion h
theorem subs_slice (o i : Value) : ∃ ops, subscripted (.Slice l u st pos) false o i = operate ops (getItem o i) := by
  cases st with
  | none => exact ⟨_, subs_none o i⟩
  | some e => exact ⟨_, subs_some o i⟩

theorem Ev.item (h1 : Ev m c ρ e1 (.list ds)) (h2 : Ev m c ρ e2 (.int i)) (h0 : 0 ≤ i) (hx : ds[i.toNat]? = some d) (hz : i < 2 ^ 63) (hn : noSlice e2 = true) : Ev m c ρ (.Subscript e1 e2 pos) d :=
  ⟨fun F h₀ s S => Subscript_ (wpAny_mono (h1.out F h₀ s S) (fun v1 s1 x1 => wpAny_mono (h2.out F h₀ s1 (S.step x1.1)) (fun v2 s2 x2 => by
    obtain ⟨t1, r1⟩ := x1
    obtain ⟨t2, r2⟩ := x2
    obtain ⟨u, rfl⟩ := r2.inv_int
    obtain ⟨a, its, rfl, p, n, hl, r⟩ := (r1.ext t2.ext).inv_list
    · obtain ⟨v, hv, hr⟩ := r.get hx
      exact tail_any hl.typeIs slot_list_getitem.lookup (wpAny_getItem_list hl h0 hz (by simpa using hv) ⟨t1.trans t2, hr⟩) (subs_item hn _ _)) idE) idE)⟩
theorem Ev.itemStr {x : Str} (h1 : Ev m c ρ e1 (.str x)) (h2 : Ev m c ρ e2 (.int i)) (h0 : 0 ≤ i) (hx : i < x.length) (hz : i < 2 ^ 63) (hn : noSlice e2 = true) : Ev m c ρ (.Subscript e1 e2 pos) (.str (Txt.item x i)) :=
  ⟨fun F h₀ s S => Subscript_ (wpAny_mono (h1.out F h₀ s S) (fun v1 s1 x1 => wpAny_mono (h2.out F h₀ s1 (S.step x1.1)) (fun v2 s2 x2 => by
    obtain ⟨t1, r1⟩ := x1
    obtain ⟨t2, r2⟩ := x2
    obtain ⟨t, rfl⟩ := r2.inv_int
    obtain ⟨u, rfl⟩ := r1.inv_str
    have hI : ItemOn (model c.prog c.w) c.A Nv (.str x u) (.int i t) (fun v s' => Step c.g s s' ∧ c.Rep (c.pr ρ F m) s'.heap v (.str (Txt.item x i))) s2 :=
      SB.item (by unfold fitsSsize; simp; lia) (charAt_isSome (by lia) hx) ⟨t1.trans (t2.trans (.toks t2.gh)), .str⟩
    obtain ⟨T, id, hl, hT, hg⟩ := hI
    exact tail_any hT hl hg (subs_item hn _ _)) idE) idE)⟩
theorem Ev.itemDict {x : Str} {l : List (Str × Int)} {m' : Md} (h1 : Ev m' c ρ e1 (.dict l)) (h2 : Ev m c ρ e2 (.str x)) (hx : kdpHas l x = true) (hn : noSlice e2 = true) : Ev m c ρ (.Subscript e1 e2 pos) (.int (kdpLook l x 0)) :=
  ⟨fun F h₀ s S => Subscript_ (wpAny_mono (h1.out F h₀ s S) (fun v1 s1 x1 => wpAny_mono (h2.out F h₀ s1 (S.step x1.1)) (fun v2 s2 x2 => by
    obtain ⟨t1, r1⟩ := x1
    obtain ⟨t2, r2⟩ := x2
    obtain ⟨u, rfl⟩ := r2.inv_str
    obtain ⟨a, rfl, p, n, hl⟩ := (r1.ext t2.ext).inv_dict
    · obtain ⟨lo, kvs, hd, hf⟩ := id hl
      obtain ⟨v, hv, hfl⟩ := hf.of_lookup same_str (kdpD_item hx)
      refine tail_any hd.typeIs slot_dict_getitem.lookup (wpAny_getItem_of (strKind_is _ _ _ _) hd.mapOf hv ?_) (subs_item hn _ _)
      obtain ⟨t, rfl⟩ := hfl.int_inv
      exact ⟨t1.trans (t2.trans (.toks t2.gh)), .int⟩) idE) idE)⟩

theorem Ev.slice_parts {Q : Value → Shared → Prop} (S : St c F h₀ ρ s) (hl : EvP m c ρ l lo) (hu : EvP m c ρ u hi) (hs : EvP m c ρ st stp)
    (h : ∀ vl vu vs s3, Step c.g s s3 → IsPart vl lo → IsPart vu hi → IsPart vs stp → Q (.ref s3.heap.objs.size) { s3 with heap := s3.heap.push { cls := .type "slice", data := .fields #[vl, vu, vs] } }) :
    wpAny c.M c.A (eval (.Slice l u st pos) c.env) Q Nv s :=
  wpAny_Slice (wpAny_mono (hl.out F h₀ s S) (fun vl s1 x1 => wpAny_mono (hu.out F h₀ s1 (S.step x1.1)) (fun vu s2 x2 => wpAny_mono (hs.out F h₀ s2 (S.step (x1.1.trans x2.1))) (fun vs s3 x3 =>
    h vl vu vs s3 (x1.1.trans (x2.1.trans x3.1)) x1.2 x2.2 x3.2) idE) idE) idE)

theorem Ev.sliceL {ps : Pos} (h1 : Ev m c ρ e1 (.list ds)) (hl : EvP m c ρ l lo) (hu : EvP m c ρ u hi) (hs : EvP m c ρ st stp) (h0 : stp ≠ some 0) (hz : ds.length ≤ sizeLine) :
    Ev m c ρ (.Subscript e1 (.Slice l u st ps) pos) (.list (pickD ds lo hi stp)) :=
  ⟨fun F h₀ s S => Subscript_ (wpAny_mono (h1.out F h₀ s S) (fun v1 s1 x1 => Ev.slice_parts (S.step x1.1) hl hu hs fun vl vu vs s3 t3 p1 p2 p3 => by
    have S3 := S.step (x1.1.trans t3)
    obtain ⟨a, its, rfl, p, n, hl, r⟩ := (x1.2.ext t3.ext).inv_list
    obtain ⟨ops, ho⟩ := subs_slice (l := l) (u := u) (st := st) (pos := ps) (.ref a) (.ref s3.heap.objs.size)
    have T4 := push_step { cls := .type "slice", data := .fields #[vl, vu, vs] } t3.gh
    have S4 := S3.step T4
    refine tail_any (Heap.IsList.typeIs (s := { s3 with heap := s3.heap.push { cls := .type "slice", data := .fields #[vl, vu, vs] } }) (hl.push _)) list_getitem_lookup
      (wpAny_getItem_list_slice (hl.push _) (Heap.IsSliceOf.new ..) p1 p2 p3 h0 ?_ (by rw [List.size_toArray, r.length]; exact hz)) ho
    refine ⟨x1.1.trans (t3.trans (T4.trans (push_step _ T4.gh))), ?_⟩
    have := rep_newList (c := c) (s := { s3 with heap := s3.heap.push { cls := .type "slice", data := .fields #[vl, vu, vs] } }) (n := 0) T4.gh (S4.prf (m := m) size_none) ((r.pickD lo hi stp).mono fun a o p n e => ⟨p, Heap.get?_push_of_some _ e⟩)
    simpa using this) idE)⟩

theorem Ev.sliceS {ps : Pos} {x : Str} (h1 : Ev m c ρ e1 (.str x)) (hl : EvP m c ρ l (some i)) (hu : EvP m c ρ u (some j)) (hz : x.length ≤ sizeLine) :
    Ev m c ρ (.Subscript e1 (.Slice l u Option.none ps) pos) (.str (Txt.slice x (some i) (some j))) :=
  ⟨fun F h₀ s S => Subscript_ (wpAny_mono (h1.out F h₀ s S) (fun v1 s1 x1 => Ev.slice_parts (S.step x1.1) hl hu (m := m) (st := Option.none) (stp := Option.none) EvP.none fun vl vu vs s3 t3 p1 p2 p3 => by
    obtain ⟨t, rfl⟩ := x1.2.inv_str
    cases p1
    cases p2
    cases p3
    have hI : ∀ ui uj : Tok, ItemOn (model c.prog c.w) c.A Nv (.str x t) (.ref s3.heap.objs.size) (fun v s' => Step c.g s s' ∧ c.Rep (c.pr ρ F m) s'.heap v (.str (Txt.slice x (some i) (some j))))
        { s3 with heap := s3.heap.push { cls := .type "slice", data := .fields #[.int i ui, .int j uj, .none] } } := fun ui uj =>
      SBH.sliceItem_ss (P := fun h => ∀ b o, s3.heap.get? b = some o → h.get? b = some o) (fun h o hk b o' e => Heap.get?_push_of_some _ (hk b o' e)) (fun _ _ x => x) (fun h' t' k hk => ⟨x1.1.trans (t3.trans (.of_keep t3.gh hk)), .str⟩) hz
    obtain ⟨T, id, hl, hT, hg⟩ := hI _ _
    exact tail_any hT hl hg (subs_none _ _)) idE)⟩

theorem BinOK.addL (hz : ds.length + ds'.length ≤ sizeLine) : BinOK m c ρ .Add (.list ds) (.list ds') (.list (ds ++ ds')) := ⟨fun F h₀ s v1 v2 S r1 r2 => by
  obtain ⟨a, vs, rfl, p, n, hl, r⟩ := r1.inv_list
  obtain ⟨b, ws, rfl, p', n', hb, r'⟩ := r2.inv_list
  obtain ⟨⟨cls, dd, data, sl⟩, ho, hc, k, hd⟩ := id hl
  obtain ⟨⟨cls2, dd2, data2, sl2⟩, ho2, hc2, k2, hd2⟩ := id hb
  simp only at hc hd hc2 hd2
  subst hc hd hc2 hd2
  have e : vs.toArray ++ ws.toArray = (vs ++ ws).toArray := by simp
  refine concat_meets ⟨_, ho, rfl⟩ ⟨_, ho2, rfl⟩ noFill_list_add seq_list_add PySem.F.slot_list_add PySem.F.entry_list_add (PySem.F.args_list_add_2 _ _) (list_addW a b vs.toArray ws.toArray k k2 dd dd2 sl sl2 (by simpa [r.length, r'.length] using hz)) ⟨ho, ho2, ?_⟩
  rw [e]
  exact ⟨push_step _ S.gh, rep_newList S.gh (S.prf size_none) (r.append r')⟩⟩

/-! built-in functions -/
theorem Ev.callB {id : String} (hx : c.env.kindOf x = some .globalImplicit) (hd : (x == ("__debug__" : Str)) = false) (hm : c.mg x = Option.none) (hv : c.mb x = some (.builtin id))
    (hs : EvL m c ρ pos (e :: es) ds) (hn : noStar e = true) (hn2 : es.all noStar = true) (hb : BuOK m c ρ id ds d) : Ev m c ρ (.Call (.Name x px) (e :: es) [] pos) d := ⟨fun F h₀ s S => by
  refine wpAny_Call_NameR (S.builtin hx hm hv hd ?_)
  have ht := hs.out F h₀ s S
  have hall : ∀ es : List Expr, es.all noStar = true → (backTo pos (starEach es c.env)).any (·.1) = false := fun es => by
    induction es with
    | nil => intro _; rfl
    | cons e es ih =>
      intro h
      rw [List.all_cons, Bool.and_eq_true] at h
      rw [star_cons h.1, List.any_cons, ih h.2]; rfl
  have hpl := hall (e :: es) (by rw [List.all_cons, hn, hn2]; rfl)
  rw [star_cons hn] at ht hpl ⊢
  refine Calls.callWith_builtin hpl (Calls.evalArgs_plain (wpAny_mono ht (fun vs s1 x => ?_) idE))
  exact wpAny_mono (hb.out F h₀ s1 vs (S.step x.1) x.2) (fun v s2 x2 => ⟨x.1.trans x2.1, x2.2⟩) idE⟩
theorem BuOK.lenS {x : Str} (hz : x.length ≤ sizeLine) : BuOK m c ρ "len" [.str x] (.int x.length) := ⟨fun F h₀ s vals S r => by
  obtain ⟨v, rfl, r1⟩ := r.inv1
  obtain ⟨t, rfl⟩ := r1.inv_str
  exact len_str (by rw [sizeLine_eq] at hz; lia) ⟨.toks S.gh, .int⟩⟩
theorem BuOK.lenL (hz : ds.length ≤ sizeLine) : BuOK m c ρ "len" [.list ds] (.int ds.length) := ⟨fun F h₀ s vals S r => by
  obtain ⟨v, rfl, r1⟩ := r.inv1
  obtain ⟨a, vs, rfl, p, n, hl, r⟩ := r1.inv_list
  have e : (List.toArray vs).size = ds.length := by rw [List.size_toArray, r.length]
  exact len_list hl (by rw [e]; rw [sizeLine_eq] at hz; lia) (by rw [e]; exact ⟨.toks S.gh, .int⟩)⟩
theorem BuOK.divmod (h0 : j ≠ 0) (hz : j.natAbs.log2 < 9000) : BuOK m c ρ "divmod" [.int i, .int j] (.tup [.int (i.fdiv j), .int (i.fmod j)]) := ⟨fun F h₀ s vals S r => by
  obtain ⟨v, v', rfl, r1, r'⟩ := r.inv2
  obtain ⟨t, rfl⟩ := r1.inv_int
  obtain ⟨t', rfl⟩ := r'.inv_int
  refine divmod_int h0 ⟨.of_keep (tk := s.toks + 1 + 1) S.gh fun b o e => Heap.get?_push_of_some _ e, ?_⟩ (.inl (PyProof.noPylong_of_log2 hz))
  exact rep_newTup (vs := [.int (i.fdiv j) s.toks, .int (i.fmod j) (s.toks + 1)]) S.gh (S.prf size_none) (.cons .int (.cons .int .nil))⟩
theorem intsAre {prog : Program} {w : World} {P : Addr → Prop} {h : Heap} : ∀ {vs : List Value} {ns : List Int}, RepL prog w P h vs (ns.map D.int) → IntsAre vs ns
  | [], [], _ => .nil
  | _, n :: ns, .cons r rs => by obtain ⟨t, rfl⟩ := r.inv_int; exact .cons n t (intsAre rs)
theorem BuOK.sum {ns : List Int} : BuOK m c ρ "sum" [.list (ns.map D.int)] (.int ns.sum) := ⟨fun F h₀ s vals S r => by
  obtain ⟨v, rfl, r1⟩ := r.inv1
  obtain ⟨a, vs, rfl, p, n, hl, r⟩ := r1.inv_list
  have hi := intsAre r
  obtain ⟨xs, hxs⟩ := (hi.allInts).items
  have hxs' : List.toArray vs = intItems xs := hxs
  rw [hxs'] at hl
  refine sum_intListG S.rm.1 hl fun h' tk t' hk => ⟨.of_keep S.gh hk, ?_⟩
  have e : preSum (numAt xs) xs.size = ns.sum := by
    rw [preSum_eq, List.take_of_length_le (by simp), ← nums_intItems, ← hxs', show (List.toArray vs).toList = vs from rfl, hi.numsOf]
  rw [e]; exact .int⟩
end
end Mine

set_option linter.unusedVariables false
namespace Mine
open PySem PyProof.Rows PySem.W PyProof.V

section
variable {m : Md} {c : Cx} {ρ : Rho} {F : Addr → Prop} {h₀ h₁ : Heap} {s s' : Shared} {e e1 e2 e3 it test : Expr} {d d1 d2 : D} {ds ds' : List D} {pos px : Pos} {x y : Str} {b : Bool} {es : List Expr} {i j : Int}

theorem listIter_ok {h : Heap} {I a : Addr} {k : Nat} (q : h.IsListIter I a k) : ∃ o, h.get? I = some o ∧ Fld o ∧ NoCode o ∧ (∃ T, o.cls = .type T ∧ (T = "list_iterator" ∨ T = "tuple_iterator" ∨ T = "range_iterator" ∨ T = "list_reverseiterator")) := by
  obtain ⟨o, e, hc, hd⟩ := q
  refine ⟨o, e, ⟨_, hd⟩, fun vs hv q t hq => ?_, _, hc, .inl rfl⟩
  rw [hd] at hv; cases hv; simp at hq
theorem tupIter_ok {h : Heap} {I a : Addr} {k : Nat} (q : h.IsTupleIter I a k) : ∃ o, h.get? I = some o ∧ Fld o ∧ NoCode o ∧ (∃ T, o.cls = .type T ∧ (T = "list_iterator" ∨ T = "tuple_iterator" ∨ T = "range_iterator" ∨ T = "list_reverseiterator")) := by
  obtain ⟨o, e, hc, hd⟩ := q
  refine ⟨o, e, ⟨_, hd⟩, fun vs hv q t hq => ?_, _, hc, .inr (.inl rfl)⟩
  rw [hd] at hv; cases hv; simp at hq
theorem rangeIter_ok {h : Heap} {I : Addr} {a b k : Int} (q : IsRangeIter h I a b k) : ∃ o, h.get? I = some o ∧ Fld o ∧ NoCode o ∧ (∃ T, o.cls = .type T ∧ (T = "list_iterator" ∨ T = "tuple_iterator" ∨ T = "range_iterator" ∨ T = "list_reverseiterator")) := by
  refine ⟨_, q, ⟨_, rfl⟩, fun vs hv q t hq => ?_, _, rfl, .inr (.inr (.inl rfl))⟩
  cases hv; simp [rawInt] at hq
theorem revIter_ok {h : Heap} {I a : Addr} {k : Int} (q : h.IsRevIter I a k) : ∃ o, h.get? I = some o ∧ Fld o ∧ NoCode o ∧ (∃ T, o.cls = .type T ∧ (T = "list_iterator" ∨ T = "tuple_iterator" ∨ T = "range_iterator" ∨ T = "list_reverseiterator")) := by
  obtain ⟨o, e, hc, hd⟩ := q
  refine ⟨o, e, ⟨_, hd⟩, fun vs hv q t hq => ?_, _, hc, .inr (.inr (.inr rfl))⟩
  rw [hd] at hv; cases hv; simp [rawInt] at hq

/-- a new iterator over a list that stands -/
theorem Itr.list (S : St c F h₀ ρ s) {a : Addr} {vs : List Value} (p : a ∉ c.mu ρ ∧ F a) (n : Nt a) (hl : s.heap.IsList a vs.toArray) (r : c.RepL (c.pr ρ F .s) s.heap vs ds) :
    Itr c F h₀ ρ { s with heap := s.heap.push { cls := .type "list_iterator", data := .fields #[.ref a, .int 0 0] } } s.heap.objs.size ds := by
  have hne : a ≠ s.heap.objs.size := by obtain ⟨o, ho, _⟩ := hl; exact Nat.ne_of_lt (Heap.lt_size ho)
  have hI := S.fresh (a := s.heap.objs.size) size_none
  have e : (List.toArray vs).size = ds.length := by rw [List.size_toArray, r.length]
  refine ⟨⟨_, _, _, e ▸ Walks.list S.rm.1 s.heap.objs.size a hne (List.toArray vs), ⟨⟨_, Heap.get?_push_size _ rfl, rfl, rfl⟩, hl.push _⟩, fun b hb => ?_, fun i h q b hb => ?_, fun i h q => listIter_ok q.1, fun k v hv => ?_⟩, hI.1, S.gh.nt size_none, S.gfresh size_none⟩
  · rcases List.mem_cons.mp hb with rfl | hb
    · exact ⟨hI.1, S.gh.nt size_none⟩
    · have : b = a := by simpa using hb
      exact this ▸ ⟨p.1, n⟩
  · rcases List.mem_cons.mp hb with rfl | hb
    · obtain ⟨o, e, _⟩ := q.1; exact ⟨o, e⟩
    · have : b = a := by simpa using hb
      obtain ⟨o, e, _⟩ := q.2; exact ⟨o, this ▸ e⟩
  · have hv' : vs[k]? = some v := by simpa using hv
    obtain ⟨d, h1, h2⟩ := r.get' hv'
    exact ⟨d, h1, h2.mono fun a o p _ e => ⟨p, Heap.get?_push_of_some _ e⟩⟩
theorem EvI.list (h : Ev .s c ρ e (.list ds)) : EvI c ρ e ds := ⟨fun F h₀ s S => wpAny_mono (h.out F h₀ s S) (fun v s1 x => by
  obtain ⟨a, vs, rfl, p, n, hl, r⟩ := x.2.inv_list
  exact wpAny_pyIter_list hl ⟨_, rfl, x.1.trans (push_step _ x.1.gh), Itr.list (S.step x.1) p n hl r⟩) idE⟩
theorem EvI.tup (h : Ev .s c ρ e (.tup ds)) : EvI c ρ e ds := ⟨fun F h₀ s S => wpAny_mono (h.out F h₀ s S) (fun v s1 x => by
  obtain ⟨a, vs, rfl, p, n, hl, r⟩ := x.2.inv_tup
  have S1 := S.step x.1
  refine wpAny_pyIter_tuple hl ⟨_, rfl, x.1.trans (push_step _ x.1.gh), ?_⟩
  have hne : a ≠ s1.heap.objs.size := by obtain ⟨o, ho, _⟩ := hl; exact Nat.ne_of_lt (Heap.lt_size ho)
  have hI := S1.fresh (a := s1.heap.objs.size) size_none
  have e : (List.toArray vs).size = ds.length := by rw [List.size_toArray, r.length]
  refine ⟨⟨_, _, _, e ▸ Walks.tuple S1.rm.1 s1.heap.objs.size a hne (List.toArray vs), ⟨⟨_, Heap.get?_push_size _ rfl, rfl, rfl⟩, hl.push _⟩, fun b hb => ?_, fun i h q b hb => ?_, fun i h q => tupIter_ok q.1, fun k v hv => ?_⟩, hI.1, S1.gh.nt size_none, S1.gfresh size_none⟩
  · rcases List.mem_cons.mp hb with rfl | hb
    · exact ⟨hI.1, S1.gh.nt size_none⟩
    · have : b = a := by simpa using hb
      exact this ▸ ⟨p.1, n⟩
  · rcases List.mem_cons.mp hb with rfl | hb
    · obtain ⟨o, e, _⟩ := q.1; exact ⟨o, e⟩
    · have : b = a := by simpa using hb
      obtain ⟨o, e, _⟩ := q.2; exact ⟨o, this ▸ e⟩
  · have hv' : vs[k]? = some v := by simpa using hv
    obtain ⟨d, h1, h2⟩ := r.get' hv'
    exact ⟨d, h1, h2.mono fun a o p _ e => ⟨p, Heap.get?_push_of_some _ e⟩⟩) idE⟩

theorem Itr.range (S : St c F h₀ ρ s) (a k : Int) (n : Nat) (hd : ∀ i, i < n → ds[i]? = some (.int (a + i * k))) (hn : ds.length = n) :
    Itr c F h₀ ρ { s with heap := s.heap.push { cls := .type "range_iterator", data := .fields #[rawInt a, rawInt n, rawInt k] } } s.heap.objs.size ds := by
  subst hn
  have hI := S.fresh (a := s.heap.objs.size) size_none
  refine ⟨⟨_, _, _, (Walks.range S.rm.1 s.heap.objs.size a k _).bound, ?_, fun b hb => ?_, fun i h q b hb => ?_, fun i h q => rangeIter_ok q, fun i v hv => ?_⟩, hI.1, S.gh.nt size_none, S.gfresh size_none⟩
  · show Heap.get? _ _ = some _
    rw [Heap.get?_push_size _ rfl]
    simp
  · have : b = s.heap.objs.size := by simpa using hb
    exact this ▸ ⟨hI.1, S.gh.nt size_none⟩
  · have : b = s.heap.objs.size := by simpa using hb
    exact ⟨_, this ▸ q⟩
  · obtain ⟨h1, t, rfl⟩ := hv
    exact ⟨_, hd i h1, .int⟩

noncomputable def upto (n : Int) : List D := (List.range n.toNat).map fun k => D.int (k : Nat)
noncomputable def downto (n : Int) : List D := (List.range n.toNat).map fun k => D.int (n - 1 - (k : Nat))
theorem call_range {Q : Value → Shared → Prop} (S : St c F h₀ ρ s) (hx : c.env.kindOf x = some .globalImplicit) (hd : (x == ("__debug__" : Str)) = false) (hm : c.mg x = Option.none) (hv : c.mb x = some (.type "range"))
    (h : Ev m c ρ e (.int i)) (hn : noStar e = true) (hQ : ∀ s1 t0 t1 t2, Step c.g s s1 → Q (.ref s1.heap.objs.size) { s1 with heap := s1.heap.push { cls := .type "range", data := .fields #[.int 0 t0, .int i t1, .int 1 t2] }, toks := s1.toks + 1 + 1 }) :
    wpAny c.M c.A (eval (.Call (.Name x px) [e] [] pos) c.env) Q Nv s := by
  refine wpAny_Call_NameR (S.builtin hx hm hv hd ?_)
  rw [star_cons hn]
  refine PySem.callWith_type rfl (Calls.evalArgs_plain (Calls.spliced_cons (wpAny_mono (h.out F h₀ s S) (fun v s1 x => Calls.spliced_nil ?_) idE)))
  obtain ⟨t, rfl⟩ := x.2.inv_int
  exact call_range_1 (hQ _ _ _ _ x.1)
theorem EvI.range (hx : c.env.kindOf x = some .globalImplicit) (hd : (x == ("__debug__" : Str)) = false) (hm : c.mg x = Option.none) (hv : c.mb x = some (.type "range"))
    (h : Ev m c ρ e (.int i)) (hn : noStar e = true) (hlo : -(2 ^ 62) ≤ i) (hhi : i < 2 ^ 62) : EvI c ρ (.Call (.Name x px) [e] [] pos) (upto i) := ⟨fun F h₀ s S => by
  refine call_range S hx hd hm hv h hn fun s1 t0 t1 t2 T => ?_
  have S1 := S.step T
  have T2 : Step c.g s1 { s1 with heap := s1.heap.push { cls := .type "range", data := .fields #[.int 0 t0, .int i t1, .int 1 t2] }, toks := s1.toks + 1 + 1 } := .of_keep S1.gh fun b o e => Heap.get?_push_of_some _ e
  have S2 := S1.step T2
  refine wpAny_pyIter_range (IsRange.new ..) (small_one (by decide) (by decide) hlo hhi) ⟨_, rfl, T.trans (T2.trans (push_step _ T2.gh)), ?_⟩
  have hsz : Builtin.Range.rangeSize 0 i 1 = (i.toNat : Int) := by rw [rangeSize_one]; split <;> lia
  rw [hsz]
  refine Itr.range S2 0 1 i.toNat (fun k hk => ?_) (by simp [upto])
  unfold upto
  simp [hk]⟩

theorem range_slice_neg {r sl : Addr} {t0 t1 t2 tz : Tok} {E : Value → Shared → Prop} {Q : Value → Shared → Prop} (hr : IsRange s.heap r 0 i 1 t0 t1 t2)
    (hsl : s.heap.get? sl = some { cls := .type "slice", data := .fields #[.none, .none, .int (-1) tz] }) (h0 : 0 ≤ i) (hhi : i < 2 ^ 62)
    (h : ∀ u0 u1 u2 tk, Q (.ref s.heap.objs.size) { s with heap := s.heap.push { cls := .type "range", data := .fields #[.int (i - 1) u0, .int (-1) u1, .int (-1) u2] }, toks := tk }) :
    wpAny c.M c.A (getItem (.ref r) (.ref sl)) Q E s := by
  have hT : s.TypeIs (.ref r) "range" := ⟨_, hr, rfl⟩
  refine getItem_slot hT (by decide) PySem.F.slot_range_getitem (wpAny_call_entry PySem.F.slot_range_getitem hT PySem.F.entry_range_getitem ?_ (PySem.F.args_range_getitem_2 _ _))
  unfold Builtin.«range.__getitem__»
  refine wpAny_bind (wpAny_of_eq (a := (Value.ref r, [Value.ref sl])) rfl ?_)
  dsimp only
  refine wpAny_bind ?_
  unfold Builtin.Range.rangeFields
  refine wpAny_bind (wpAny_field hr rfl (x := .int 0 t0) rfl (wpAny_bind (wpAny_pure (wpAny_bind (wpAny_field hr rfl (x := .int i t1) rfl (wpAny_bind (wpAny_pure (wpAny_bind (wpAny_field hr rfl (x := .int 1 t2) rfl (wpAny_bind (wpAny_pure (wpAny_pure ?_)))))))))))) 
  dsimp only
  refine wpAny_bind (wpAny_typeOf (T := "slice") ⟨_, hsl, rfl⟩ ?_)
  rw [if_pos (by decide)]
  refine wpAny_bind ?_
  unfold Builtin.Slice.sliceFields
  refine wpAny_bind (wpAny_field hsl rfl (x := .none) rfl (wpAny_bind (wpAny_field hsl rfl (x := .none) rfl (wpAny_bind (wpAny_field hsl rfl (x := .int (-1) tz) rfl (wpAny_pure ?_))))))
  dsimp only
  refine wpAny_bind ?_
  unfold Builtin.Slice.slicePartIndex
  rw [if_neg (show ¬ ((Value.int (-1) tz == Value.none) = true) from Bool.false_ne_true)]
  refine wpAny_bind (wpAny_specialOf (typeIs_int _ _ _) PySem.F.slot_int_index.lookup ?_)
  rw [if_neg (by decide)]
  refine wpAny_bind (wpAny_of_eq (a := (-1 : Int)) rfl (wpAny_pure ?_))
  dsimp only [Option.getD]
  rw [if_neg (by decide), if_pos (by decide)]
  refine wpAny_bind (wpAny_pure (wpAny_bind (wpAny_pure ?_)))
  have hsz : Builtin.Range.rangeSize 0 i 1 = i := by rw [rangeSize_one]; split <;> lia
  rw [hsz]
  have ha : Builtin.Slice.sliceAdjust none none (-1) i = (i - 1, -1) := by unfold Builtin.Slice.sliceAdjust; simp
  rw [ha]
  refine wpAny_bind (wpAny_roomForPylong (.inl (PyProof.noPylong_small (by decide))) ?_)
  have grown : ∀ {j : Int} {Q' : Value → Shared → Prop} {E' : Value → Shared → Prop} {s' : Shared}, j.natAbs < 2 ^ 63 → Q' (.int j s'.toks) { s' with toks := s'.toks + 1 } → wpAny c.M c.A.in1 (mkIntGrown j) Q' E' s' := fun {j Q' E' s'} hj hq => by
    unfold mkIntGrown
    rw [if_neg]
    · exact wpAny_mkInt hq
    · have h27 : bitsLine = 134217728 := by decide
      rw [h27]
      by_cases hz : j.natAbs = 0
      · rw [hz]; decide
      · have := (Nat.log2_lt hz).mpr hj
        lia
  refine wpAny_bind (grown (by show (0 + (i - 1) * 1).natAbs < _; lia) (wpAny_bind (grown (by show (0 + (-1 : Int) * 1).natAbs < _; decide) (wpAny_bind (grown (by decide) ?_)))))
  refine wpAny_bind (wpAny_newObj_type ?_)
  have e1 : 0 + (i - 1, (-1 : Int)).1 * 1 = i - 1 := by show 0 + (i - 1) * 1 = i - 1; lia
  rw [e1]
  exact wpAny_pure ⟨_, rfl, h _ _ _ _⟩

theorem EvI.rangeRev {ps pc : Pos} (hx : c.env.kindOf x = some .globalImplicit) (hd : (x == ("__debug__" : Str)) = false) (hm : c.mg x = Option.none) (hv : c.mb x = some (.type "range"))
    (h : Ev m c ρ e (.int i)) (hn : noStar e = true) (h0 : 0 ≤ i) (hhi : i < 2 ^ 62) (h2 : Ev m c ρ e2 (.int (-1))) : EvI c ρ (.Subscript (.Call (.Name x px) [e] [] pc) (.Slice Option.none Option.none (some e2) ps) pos) (downto i) := ⟨fun F h₀ s S => by
  refine Subscript_ (call_range S hx hd hm hv h hn fun s1 t0 t1 t2 T => ?_)
  have S1 := S.step T
  have T2 : Step c.g s1 { s1 with heap := s1.heap.push { cls := .type "range", data := .fields #[.int 0 t0, .int i t1, .int 1 t2] }, toks := s1.toks + 1 + 1 } := .of_keep S1.gh fun b o e => Heap.get?_push_of_some _ e
  have S2 := S1.step T2
  refine Ev.slice_parts S2 (m := m) EvP.none EvP.none (EvP.some h2) fun vl vu vs s3 T3 p1 p2 p3 => ?_
  cases p1
  cases p2
  cases p3
  rename_i tz
  have S3 := S2.step T3
  have nr : Nt s1.heap.objs.size := S1.gh.nt size_none
  have hr : IsRange s3.heap s1.heap.objs.size 0 i 1 t0 t1 t2 := T3.ext _ _ nr (Heap.get?_push_size _ rfl)
  have T4 : Step c.g s3 { s3 with heap := s3.heap.push { cls := .type "slice", data := .fields #[.none, .none, .int (-1) tz] } } := push_step _ T3.gh
  have S4 := S3.step T4
  refine tail_any (T := "range") ⟨_, Heap.get?_push_of_some _ hr, rfl⟩ PySem.F.slot_range_getitem.lookup (range_slice_neg (Heap.get?_push_of_some _ hr) (Heap.get?_push_size _ rfl) h0 hhi fun u0 u1 u2 tk => ?_) (subs_some _ _)
  have T5 : Step c.g { s3 with heap := s3.heap.push { cls := .type "slice", data := .fields #[.none, .none, .int (-1) tz] } } { s3 with heap := (s3.heap.push { cls := .type "slice", data := .fields #[.none, .none, .int (-1) tz] }).push { cls := .type "range", data := .fields #[.int (i - 1) u0, .int (-1) u1, .int (-1) u2] }, toks := tk } :=
    .of_keep T4.gh fun b o e => Heap.get?_push_of_some _ e
  have S5 := S4.step T5
  have hsz : Builtin.Range.rangeSize (i - 1) (-1) (-1) = (i.toNat : Int) := by
    unfold Builtin.Range.rangeSize
    rw [if_neg (by decide)]
    split
    · rw [show (- -1 : Int) = 1 by decide, Int.ediv_one]; lia
    · lia
  have hsm : Builtin.Range.small (i - 1) (-1) (-1) = true := by
    unfold Builtin.Range.small
    rw [hsz]
    unfold Builtin.Range.rangeFitsLong
    simp
    lia
  refine wpAny_pyIter_range (IsRange.new ..) hsm ⟨_, rfl, T.trans (T2.trans (T3.trans (T4.trans (T5.trans (push_step _ T5.gh))))), ?_⟩
  rw [hsz]
  refine Itr.range S5 (i - 1) (-1) i.toNat (fun k hk => ?_) (by simp [downto])
  unfold downto
  simp [hk]
  lia⟩
end
end Mine

set_option linter.unusedVariables false
namespace Mine
open PySem PyProof.Rows PySem.W PyProof.V

section
variable {m : Md} {c : Cx} {ρ ρ2 : Rho} {F : Addr → Prop} {h₀ h₁ : Heap} {s s' : Shared} {e e1 e2 e3 it test : Expr} {d d1 d2 : D} {ds ds' : List D} {pos px py pt : Pos} {x y : Str} {b : Bool} {es : List Expr} {i j : Int} {rest body : List Stmt} {N : Rho → Prop} {R : D → Prop}

theorem mu_eq (h : owns ρ2 = owns ρ) : c.mu ρ2 = c.mu ρ := by unfold Cx.mu; rw [h]
/-- names may be forgotten -/
theorem St.forget (S : St c F h₀ ρ s) (ho : owns ρ2 = owns ρ) (h : ∀ y b, ρ2.lookup y = some b → ρ.lookup y = some b) : St c F h₀ ρ2 s where
  gh := S.gh
  ext := S.ext
  gens := S.gens
  os := S.os
  rm := S.rm
  lim := S.lim
  kf := S.kf
  gn := S.gn
  bn := S.bn
  fF := S.fF
  fr := let ⟨m, hm, hv⟩ := S.fr; ⟨m, hm, fun y b e hk => by rw [ok_eq (mu_eq ho)]; exact hv y b (h y b e) hk⟩
  ce := fun y b e hk => by rw [ok_eq (mu_eq ho)]; exact S.ce y b (h y b e) hk
  cs := S.cs
  nd := by rw [mu_eq ho]; exact S.nd
  ex := by rw [mu_eq ho]; exact S.ex

/-- an object of c.ex, no object of fields, no cell, no dict, is changed -/
theorem St.touch (S : St c F h₀ ρ s) {a : Addr} {o : Obj} {h' : Heap} {tk : Nat} (ha : a ∈ c.ex) (ho : s.heap.get? a = some o) (hd : ∀ vs, o.data ≠ .fields vs) (hc : ∀ v, o.data ≠ .cell v) (hs : Heap.SameBut a s.heap h') (ho' : ∃ o', h'.get? a = some o') :
    St c F h₀ ρ { s with heap := h', toks := tk } := by
  have ham : a ∈ c.mcs := by unfold Cx.mcs; exact List.mem_append_right _ ha
  have hmu : a ∈ c.mu ρ := mem_mu.mpr (.inr (.inl ham))
  have hao : a ∉ owns ρ := fun h => by
    have h1 := S.nd
    unfold Cx.mu at h1
    exact (List.nodup_append.mp (List.nodup_cons.mp h1).2).2.2 a ham a h rfl
  have haL : a ≠ c.env.locals := fun z => by
    have h1 := S.nd
    unfold Cx.mu at h1
    exact (List.nodup_cons.mp h1).1 (z ▸ List.mem_append_left _ ham)
  have up : ∀ {y b' v'}, ρ.lookup y = some b' → RepB c (c.ok F ρ) s.heap v' b' → RepB c (c.ok F ρ) h' v' b' := fun e r =>
    r.mono (fun a' o p n e' => ⟨p, (hs.2 a' fun z => p.1 (z ▸ hmu)).trans e'⟩) fun a' ha' o e' => (hs.2 a' fun z => hao (z ▸ mem_owns e a' ha')).trans e'
  refine ⟨S.gh.sameBut hs ho hd (S.ex a hmu).2.2.1, fun a' o' n e' => (hs.2 a' fun z => ?_).trans (S.ext a' o' n e'), S.gens, S.os, S.rm, S.lim, S.kf, S.gn, S.bn, S.fF, ?_, ?_, ?_, S.nd, ?_⟩
  · rw [z, (S.ex a hmu).2.1] at e'; cases e'
  · obtain ⟨m, ⟨oL, es, ep, hL, hdL, r⟩, hv⟩ := S.fr
    exact ⟨m, ⟨oL, es, ep, (hs.2 _ fun z => haL z.symm).trans hL, hdL, r⟩, fun y b' e hk => let ⟨v', h1, h2⟩ := hv y b' e hk; ⟨v', h1, up e h2⟩⟩
  · intro y b' e hk
    obtain ⟨q, v', h1, ⟨o', h2, h3⟩, h4⟩ := S.ce y b' e hk
    exact ⟨q, v', h1, ⟨o', (hs.2 _ fun z => by rw [z, ho] at h2; cases h2; exact hc _ h3).trans h2, h3⟩, up e h4⟩
  · intro y q e
    obtain ⟨n', v', o', h2, h3⟩ := S.cs y q e
    exact ⟨n', v', o', (hs.2 _ fun z => by rw [z, ho] at h2; cases h2; exact hc _ h3).trans h2, h3⟩
  · intro a' ha'
    obtain ⟨h1, h2, h3, o', h4⟩ := S.ex a' ha'
    refine ⟨h1, h2, h3, ?_⟩
    by_cases q : a' = a
    · exact q ▸ ho'
    · exact ⟨o', (hs.2 a' q).trans h4⟩

theorem EvI.rev (hx : c.env.kindOf x = some .globalImplicit) (hd : (x == ("__debug__" : Str)) = false) (hm : c.mg x = Option.none) (hv : c.mb x = some (.type "reversed"))
    (h : Ev .s c ρ e (.list ds)) (hn : noStar e = true) : EvI c ρ (.Call (.Name x px) [e] [] pos) ds.reverse := ⟨fun F h₀ s S => by
  refine wpAny_Call_NameR (S.builtin hx hm hv hd ?_)
  rw [star_cons hn]
  refine PySem.callWith_type rfl (Calls.evalArgs_plain (Calls.spliced_cons (wpAny_mono (h.out F h₀ s S) (fun v s1 x => Calls.spliced_nil ?_) idE)))
  obtain ⟨a, vs, rfl, p, n, hl, r⟩ := x.2.inv_list
  have S1 := S.step x.1
  refine call_reversed_list hl ?_
  have hq : (s1.heap.push (revObj a (((List.toArray vs).size : Int) - 1))).IsRevIter s1.heap.objs.size a (((List.toArray vs).size : Int) - 1) := ⟨_, Heap.get?_push_size _ rfl, rfl, rfl⟩
  refine wpAny_pyIter_revIter (s := { s1 with heap := s1.heap.push (revObj a (((List.toArray vs).size : Int) - 1)) }) hq ⟨_, rfl, x.1.trans (push_step _ x.1.gh), ?_⟩
  have hne : a ≠ s1.heap.objs.size := by obtain ⟨o, ho, _⟩ := hl; exact Nat.ne_of_lt (Heap.lt_size ho)
  have hI := S1.fresh (a := s1.heap.objs.size) size_none
  have e : (List.toArray vs).size = ds.reverse.length := by rw [List.size_toArray, List.length_reverse, r.length]
  refine ⟨⟨_, _, _, e ▸ (Walks.listRev S1.rm.1 s1.heap.objs.size a hne (List.toArray vs)).bound, ⟨Nat.zero_le _, by simpa [r.length] using hq, hl.push _⟩, fun b hb => ?_, fun i h q b hb => ?_, fun i h q => revIter_ok q.2.1, fun k v hv => ?_⟩, hI.1, S1.gh.nt size_none, S1.gfresh size_none⟩
  · rcases List.mem_cons.mp hb with rfl | hb
    · exact ⟨hI.1, S1.gh.nt size_none⟩
    · have : b = a := by simpa using hb
      exact this ▸ ⟨p.1, n⟩
  · rcases List.mem_cons.mp hb with rfl | hb
    · obtain ⟨o, e, _⟩ := q.2.1; exact ⟨o, e⟩
    · have : b = a := by simpa using hb
      obtain ⟨o, e, _⟩ := q.2.2; exact ⟨o, this ▸ e⟩
  · obtain ⟨hk, hv⟩ := hv
    rw [List.length_reverse] at hk hv
    have hv' : vs[ds.length - 1 - k]? = some v := by simpa using hv
    obtain ⟨d, h1, h2⟩ := r.get' hv'
    exact ⟨d, by rw [List.getElem?_reverse hk]; exact h1, h2.mono fun a o p _ e => ⟨p, Heap.get?_push_of_some _ e⟩⟩⟩

/-- a pair is unpacked -/
theorem St.unpack2 {k : Nat} (S : St c F h₀ ρ s) {v : Value} (r : c.Rep (c.ok F ρ) s.heap v (.tup [d1, d2])) (hx : canStore c x = true) (hy : canStore c y = true) {Q : Unit → Shared → Prop} {E : Value → Shared → Prop}
    (hQ : ∀ s', St c F h₀ ((ρ.set x (.val d1)).set y (.val d2)) s' → Q () s') : wpAny c.M c.A (assign (.Tuple [.Name x px, .Name y py] k pt) c.env v) Q E s := by
  obtain ⟨a, vs, rfl, p, n, hl, rr⟩ := r.inv_tup
  obtain ⟨v1, v2, rfl, r1, r2⟩ := rr.inv2
  refine wpAny_assign_Tuple S.rm.1 hl rfl rfl fun h' hE => ?_
  have T : Step c.g s { s with heap := h' } := .of_keep (tk := s.toks) S.gh fun b o e => hE b o (fun q => by rw [q, size_none] at e; cases e) e
  show wpAny c.M c.A (holding [v2] (assign (.Name x px) c.env v1) >>= fun _ => assignInOrder [assign (.Name y py) c.env] [v2]) Q E _
  have S0 := S.step T
  have hE0 := S0.hidExt
  refine wpAny_bind (wpAny_holding (assign_Name (S0.framed.put (.refl T.gh) (b := .val d1) hx (Rep.mono r1 fun a o p n e => ⟨⟨fun hm => p.1 (mu_val hm), p.2⟩, T.ext a o n e⟩) (fun a ha => by simp [B.at] at ha) fun s1 S1 => ?_)))
  show wpAny c.M c.A (holding [] (assign (.Name y py) c.env v2) >>= fun _ => pure ()) Q E _
  have r2' : c.Rep (c.ok F ((ρ.set x (.val d1)).set y (.val d2))) s1.heap v2 d2 := Rep.mono r2 fun a o p n e => by
    have e1 := hid_get (c := c) (ρ := ρ) (s := { s with heap := h' }) (T.ext a o n e) p.1
    exact ⟨⟨fun hm => p.1 (mu_val (mu_val hm)), p.2⟩, S1.ext a o n e1⟩
  refine wpAny_bind (wpAny_holding (assign_Name (S1.put (.refl S1.gh) (b := .val d2) hy r2' (fun a ha => by simp [B.at] at ha) fun s2 S2 => wpAny_pure (hQ s2 (S2.unframe hE0 S.fF)))))

theorem Ex.unpack2 {k : Nat} (h : Ev .s c ρ e (.tup [d1, d2])) (hx : canStore c x = true) (hy : canStore c y = true) (kk : Ex c ((ρ.set x (.val d1)).set y (.val d2)) rest N R)
    (hs : swapsWithSole [.Tuple [.Name x px, .Name y py] k pt] e pos.line c.env = pure false := by rfl) (hw : swappedStores [.Tuple [.Name x px, .Name y py] k pt] e c.env = pure none := by rfl) :
    Ex c ρ (.Assign [.Tuple [.Name x px, .Name y py] k pt] e pos :: rest) N R := ⟨fun F h₀ s S =>
  wpAny_execs_cons (Assign_Tuple (wpAny_mono (h.out F h₀ s S) (fun v s1 x1 => (S.step x1.1).unpack2 x1.2 hx hy fun s2 S2 => kk.out F h₀ s2 S2) idE) hs hw)⟩

theorem letOwned_tuple {k : Nat} {E : Value → Shared → Prop} {I : Addr} {o : Obj} {v : Value} {Q : Unit → Shared → Prop} {es : List Expr} (ho : s.heap.get? I = some o) (hf : Fld o)
    (hT : ∃ T, o.cls = .type T ∧ (T = "list_iterator" ∨ T = "tuple_iterator" ∨ T = "range_iterator" ∨ T = "list_reverseiterator")) (h : Q () s) : wpAny c.M c.A (letOwnedTupleGo (.Tuple es k pt) (.ref I) v) Q E s := by
  obtain ⟨T, hc, hT⟩ := hT
  obtain ⟨vs, hd⟩ := hf
  cases v with
  | ref a =>
    unfold letOwnedTupleGo
    refine wpAny_bind (wpAny_load ho ?_)
    rw [hc, hd]
    dsimp only
    have hn : (["enumerate", "zip", "dict_itemiterator", "dict_reverseitemiterator", "odict_iterator", "itertools.zip_longest", "itertools.pairwise"].contains T && vs[0]? == some (rawInt a)) = false := by
      have : ["enumerate", "zip", "dict_itemiterator", "dict_reverseitemiterator", "odict_iterator", "itertools.zip_longest", "itertools.pairwise"].contains T = false := by
        rcases hT with rfl | rfl | rfl | rfl <;> decide +kernel
      rw [this]; rfl
    rw [if_neg (by rw [hn]; exact Bool.false_ne_true)]
    exact wpAny_pure h
  | _ => exact wpAny_pure h
theorem Ex.for2 {k : Nat} {f g : D → D} (hi : EvI c ρ it ds) (hx : canStore c x = true) (hy : canStore c y = true) (hds : ∀ d ∈ ds, d = .tup [f d, g d]) (I : Nat → Rho → Prop) (h0 : I 0 ρ)
    (step : ∀ i d ρ', ds[i]? = some d → I i ρ' → Ex c ((ρ'.set x (.val (f d))).set y (.val (g d))) body (I (i + 1)) R)
    (kk : ∀ ρ', I ds.length ρ' → Ex c ρ' rest N R) (hfold : ∀ v, foldedSetIterable it c.env v = pure v := by intro _; rfl) : Ex c ρ (.For (.Tuple [.Name x px, .Name y py] k pt) it body [] pos :: rest) N R :=
  for_loop (tset := fun ρ' d ρ'' => ρ'' = (ρ'.set x (.val (f d))).set y (.val (g d))) hi (fun F h₀ s ρ' v d J o S r ho hf hT hm => by
    refine letOwned_tuple ho hf hT (S.unpack2 (d1 := f d) (d2 := g d) (by rw [← hds d hm]; exact r) hx hy fun s2 S2 => ⟨_, rfl, S2⟩)) I h0
    (fun i d ρ' ρ'' h1 h2 h3 => h3 ▸ step i d ρ' h1 h2) kk hfold
end
end Mine

set_option linter.unusedVariables false
namespace Mine
open PySem PyProof.Rows PySem.W PyProof.V

/-- the frame of a comprehension: its locals at C, its list at Dd -/
noncomputable def Cx.comp (c : Cx) (scope : Scope) (cl : List (Str × Addr)) (C Dd : Addr) : Cx := { c with env := compEnvC scope cl C c.env, own := false, ex := [Dd] }

/-- the tests of a comprehension's clause -/
structure ETs (c : Cx) (ρ : Rho) (ifs : List Expr) (b : Bool) : Prop where
  out : ∀ F h₀ s, St c F h₀ ρ s → wpAny c.M c.A (forIn ifs true fun t r => if r = true then do let ok ← isTrue t c.env (eval t c.env); pure (ForInStep.yield ok) else pure (ForInStep.yield r)) (fun r s' => Step c.g s s' ∧ r = b) Nv s

section
variable {m : Md} {c : Cx} {ρ ρ2 : Rho} {F : Addr → Prop} {h₀ h₁ : Heap} {s s' : Shared} {e e1 e2 e3 it test elt : Expr} {d d1 d2 : D} {ds ds' out : List D} {pos px py pt : Pos} {x y : Str} {b : Bool} {es ifs : List Expr} {i j : Int} {Dd J : Addr} {p : D → Bool} {f : D → D}

theorem ETs.nil : ETs c ρ [] true := ⟨fun F h₀ s S => by rw [List.forIn_nil]; exact wpAny_pure ⟨.refl S.gh, rfl⟩⟩
theorem ETs.one (h : ET c ρ test b) : ETs c ρ [test] b := ⟨fun F h₀ s S => by
  rw [List.forIn_cons, if_pos rfl]
  refine wpAny_bind (wpAny_bind (wpAny_mono (h.out F h₀ s S) (fun r s1 x => wpAny_pure ?_) idE))
  dsimp only
  rw [List.forIn_nil]
  exact wpAny_pure x⟩

/-- the list that is made -/
noncomputable def Acc (c : Cx) (F : Addr → Prop) (ρ : Rho) (Dd : Addr) (out : List D) (s : Shared) : Prop := ∃ vs, s.heap.PlainList Dd (List.toArray vs) ∧ c.RepL (c.ok F ρ) s.heap vs out
theorem Acc.step {g : Heap} (x : Acc c F ρ Dd out s) (T : Step g s s') (n : Nt Dd) : Acc c F ρ Dd out s' := by
  obtain ⟨vs, ⟨k, hp⟩, r⟩ := x
  exact ⟨vs, ⟨k, T.ext _ _ n hp⟩, r.ext T.ext⟩
theorem mu_set_val : c.mu (ρ.set x (.val d)) = c.mu ρ ∨ ∃ a, a ∈ owns ρ := by
  by_cases h : owns ρ = []
  · refine .inl (mu_eq ?_)
    have : ∀ a, a ∉ owns (ρ.set x (.val d)) := fun a ha => by
      rcases mem_owns_set ha with h1 | h1
      · rw [h] at h1; cases h1
      · simp [B.at] at h1
    rw [h]
    exact List.eq_nil_iff_forall_not_mem.mpr this
  · exact .inr (List.exists_mem_of_ne_nil _ h)

theorem Acc.keep (x : Acc c F ρ Dd out s) (n : Nt Dd) (k : ∀ a o, s.heap.get? a = some o → ¬ Fld o → Nt a → a ∉ c.mu ρ ∨ a = Dd → s'.heap.get? a = some o) : Acc c F ρ Dd out s' := by
  obtain ⟨vs, ⟨kk, hp⟩, r⟩ := x
  exact ⟨vs, ⟨kk, k _ _ hp (fun ⟨_, z⟩ => by cases z) n (.inr rfl)⟩, RepL.monoK r fun a o p n e hn => ⟨p, k a o e hn n (.inl p.1)⟩⟩
theorem Acc.len (x : Acc c F ρ Dd out s) : ∃ vs, s.heap.PlainList Dd (List.toArray vs) ∧ vs.length = out.length ∧ c.RepL (c.ok F ρ) s.heap vs out := by
  obtain ⟨vs, hp, r⟩ := x
  exact ⟨vs, hp, r.length, r⟩
noncomputable def ErrK (c : Cx) (R : Result → Shared → Prop) := notedBy c.M c.A c.env fun e s' => R (.error e) s'
noncomputable def TurnA (c : Cx) (Dd : Addr) (R : Result → Shared → Prop) (Q : Shared → Prop) (x : Value) (s₄ : Shared) : Prop := wpAny c.M c.A (call (.builtin "list.append") [.ref Dd, x]) (fun _ s₅ => Q s₅) (ErrK c R) s₄
noncomputable def TurnE (c : Cx) (elt : Expr) (Dd : Addr) (R : Result → Shared → Prop) (Q : Shared → Prop) (ok : Bool) (s₃ : Shared) : Prop := if ok = true then wpAny c.M c.A (eval elt c.env) (TurnA c Dd R Q) (ErrK c R) s₃ else Q s₃
noncomputable def TurnT (c : Cx) (ifs : List Expr) (elt : Expr) (Dd : Addr) (R : Result → Shared → Prop) (Q : Shared → Prop) (s₂ : Shared) : Prop :=
  wpAny c.M c.A (forIn ifs true fun t r => if r = true then do let ok ← isTrue t c.env (eval t c.env); pure (ForInStep.yield ok) else pure (ForInStep.yield r)) (TurnE c elt Dd R Q) (ErrK c R) s₂
noncomputable def TurnV (c : Cx) (x : Str) (px : Pos) (ifs : List Expr) (elt : Expr) (Dd : Addr) (R : Result → Shared → Prop) (Q : Shared → Prop) (v : Value) (s₁ : Shared) : Prop := wpAny c.M c.A (assign (.Name x px) c.env v) (fun _ s₂ => TurnT c ifs elt Dd R Q s₂) (ErrK c R) s₁

theorem mu_set_own (how : owns ρ = []) : owns (ρ.set x (.val d)) = [] := List.eq_nil_iff_forall_not_mem.mpr fun a ha => by
  rcases mem_owns_set ha with h1 | h1
  · rw [how] at h1; cases h1
  · simp [B.at] at h1

theorem turn_app {R : Result → Shared → Prop} {Q : Shared → Prop} {K : Heap → Prop} (hex : c.ex = [Dd]) (hmu : c.mu ρ2 = c.mu ρ) (hDm : Dd ∈ c.mu ρ) {s4 : Shared} {v4 : Value} (S4 : St c F h₀ ρ2 s4) (ha : Acc c F ρ Dd out s4) (hK4 : K s4.heap)
    (hK : ∀ h h', K h → (∀ a o, a ∉ c.mu ρ → Nt a → h.get? a = some o → h'.get? a = some o) → K h') (r4 : c.Rep (c.ok F ρ) s4.heap v4 d) (hz : out.length ≤ sizeLine)
    (hQ : ∀ s5, St c F h₀ ρ2 s5 → K s5.heap → Acc c F ρ Dd (out ++ [d]) s5 → Q s5) : TurnA c Dd R Q v4 s4 := by
  obtain ⟨vs, ⟨k, hp4⟩, hl, ra⟩ := ha.len
  refine wpAny_list_append_plain (items := List.toArray vs) ⟨k, hp4⟩ (fun h5 hp5 hs5 => ?_) (by rw [List.size_toArray, hl]; exact hz)
  have nD : ∀ a, a ∉ c.mu ρ → a ≠ Dd := fun a h z => h (z ▸ hDm)
  refine hQ _ (S4.touch (by rw [hex]; simp) hp4 (fun _ z => by cases z) (fun _ z => by cases z) hs5 (let ⟨_, e⟩ := hp5; ⟨_, e⟩)) (hK _ _ hK4 fun a o h _ e => (hs5.2 a (nD a h)).trans e) ⟨vs ++ [v4], by simpa using hp5, ?_⟩
  exact RepL.mono (ra.append (.cons r4 .nil)) fun a o q n e => ⟨q, (hs5.2 a (nD a q.1)).trans e⟩

theorem turn_val {R : Result → Shared → Prop} {Q : Shared → Prop} {K : Heap → Prop} {s1 : Shared} {v : Value} (S1 : St c F h₀ ρ s1) (hex : c.ex = [Dd]) (hown : c.own = false) (how : owns ρ = []) (hx : canStore c x = true) (hxn : ρ.lookup x = none)
    (htest : ETs c (ρ.set x (.val d)) ifs (p d)) (helt : p d = true → Ev .s c (ρ.set x (.val d)) elt (f d)) (hz : out.length ≤ sizeLine) (ha1 : Acc c F ρ Dd out s1) (hK1 : K s1.heap)
    (hK : ∀ h h', K h → (∀ a o, a ∉ c.mu ρ → Nt a → h.get? a = some o → h'.get? a = some o) → K h') (hr : c.Rep (c.ok F ρ) s1.heap v d)
    (hQ : ∀ s5, St c F h₀ ρ s5 → K s5.heap → Acc c F ρ Dd (out ++ ([d].filter p).map f) s5 → Q s5) : TurnV c x px ifs elt Dd R Q v s1 := by
  have hDm : Dd ∈ c.mu ρ := mem_mu.mpr (.inr (.inl (by unfold Cx.mcs; rw [hex]; simp)))
  have hDn : Nt Dd := (S1.ex Dd hDm).1
  have hos : owns (ρ.set x (.val d)) = [] := mu_set_own how
  have hms : c.mu (ρ.set x (.val d)) = c.mu ρ := mu_eq (hos.trans how.symm)
  have forget : ∀ {s}, St c F h₀ (ρ.set x (.val d)) s → St c F h₀ ρ s := fun S => S.forget (how.trans hos.symm) fun y b e => by
    rw [Rho.lookup_set]
    by_cases hy : y = x
    · rw [hy, hxn] at e; cases e
    · rw [if_neg hy]; exact e
  refine assign_Name (S1.putK (.refl S1.gh) (b := .val d) hx (by rw [ok_eq hms]; exact hr) (fun a ha => by simp [B.at] at ha) fun s2 S2 hK' => ?_)
  obtain ⟨q, hq, hK'⟩ := hK'
  have hqL : q = c.env.locals := hq.resolve_right (by rw [hown]; simp)
  have hqm : q ∈ c.mu ρ := hqL ▸ List.mem_cons_self
  have hDq : Dd ≠ q := fun z => by
    have h1 := S1.nd
    unfold Cx.mu Cx.mcs at h1
    rw [hex, hown] at h1
    rw [hqL] at z
    simp [z] at h1
  have ha2 : Acc c F ρ Dd out s2 := ha1.keep hDn fun a o e _ _ h => hK' a o (fun z => h.elim (fun h => h (z ▸ hqm)) fun h => hDq (h.symm.trans z)) e
  have hK2 := hK _ _ hK1 fun a o h _ e => hK' a o (fun z => h (z ▸ hqm)) e
  refine wpAny_mono (htest.out F h₀ s2 S2) (fun ok s3 x3 => ?_) nvE
  obtain ⟨t3, rfl⟩ := x3
  have S3 := S2.step t3
  have hK3 := hK _ _ hK2 fun a o _ n e => t3.ext a o n e
  have ha3 := ha2.step t3 hDn
  unfold TurnE
  cases hp : p d with
  | false =>
    rw [if_neg (by simp)]
    refine hQ _ (forget S3) hK3 ?_
    rw [List.filter_cons_of_neg (by rw [hp]; simp), List.filter_nil, List.map_nil, List.append_nil]; exact ha3
  | true =>
    rw [if_pos rfl]
    refine wpAny_mono ((helt hp).out F h₀ s3 S3) (fun v4 s4 x4 => ?_) nvE
    obtain ⟨t4, r4⟩ := x4
    refine turn_app hex hms hDm (S3.step t4) (ha3.step t4 hDn) (hK _ _ hK3 fun a o _ n e => t4.ext a o n e) hK (r4.weak fun a q => by have q' := pr_true.mp q; rw [hms] at q'; exact q') hz fun s5 S5 k5 a5 => hQ _ (forget S5) k5 ?_
    rw [List.filter_cons_of_pos hp, List.filter_nil]; exact a5

noncomputable def TInv (c : Cx) (F : Addr → Prop) (h₀ : Heap) (ρ : Rho) (Dd : Addr) (P : Nat → Value → Prop) (Sx : Nat → Heap → Prop) (ds : List D) (ot : Nat → List D) (n : Nat) (s' : Shared) : Prop :=
  ∃ i, n = ds.length + 1 - i ∧ i ≤ ds.length ∧ St c F h₀ ρ s' ∧ Sx i s'.heap ∧ Acc c F ρ Dd (ot i) s' ∧ PHas c F ρ P ds s'.heap

noncomputable def Turn (c : Cx) (x : Str) (px : Pos) (ifs : List Expr) (elt : Expr) (Dd J : Addr) (R : Result → Shared → Prop) (I : Nat → Shared → Prop) (n : Nat) (s : Shared) : Prop :=
  wpAny c.M c.A (pyNext (.ref J)) (fun r s₁ => match r with
    | none => R (.ok .next) s₁
    | some v => TurnV c x px ifs elt Dd R (fun s₃ => ∃ m, m < n ∧ I m s₃) v s₁) (ErrK c R) s

/-- the turns of a clause that gives items -/
theorem emit_turns {R : Result → Shared → Prop} (S : St c F h₀ ρ s) (hex : c.ex = [Dd]) (hown : c.own = false) (how : owns ρ = []) (ha : Acc c F ρ Dd out s) (hI : Itr c F h₀ ρ s J ds) (hx : canStore c x = true) (hxn : ρ.lookup x = none)
    (htest : ∀ d ∈ ds, ETs c (ρ.set x (.val d)) ifs (p d)) (helt : ∀ d ∈ ds, p d = true → Ev .s c (ρ.set x (.val d)) elt (f d)) (hz : out.length + ds.length ≤ sizeLine)
    (hR : ∀ s', St c F h₀ ρ s' → Acc c F ρ Dd (out ++ (ds.filter p).map f) s' → R (.ok .next) s') :
    ∃ I : Nat → Shared → Prop, I (ds.length + 1) s ∧ ∀ n s, I n s → Turn c x px ifs elt Dd J R I n s := by
  obtain ⟨⟨fp, P, Sx, W, hx0, hfp, hfe, hob, hP⟩, hJ, nJ, hJ0, hJg⟩ := hI
  refine ⟨TInv c F h₀ ρ Dd P Sx ds fun i => out ++ ((ds.take i).filter p).map f, ⟨0, rfl, Nat.zero_le _, S, hx0, by simpa using ha, hP⟩, ?_⟩
  rintro n s' ⟨i, rfl, hi, S', hx', ha', hP'⟩
  obtain ⟨oJ, hoJ, hfJ, hcJ, _⟩ := hob i _ hx'
  have hDn : Nt Dd := (S'.ex Dd (mem_mu.mpr (.inr (.inl (by unfold Cx.mcs; rw [hex]; simp))))).1
  have hne : ∀ a o, s'.heap.get? a = some o → ¬ Fld o → a ∉ [J] := fun a o e hn q => by
    rw [List.mem_singleton.mp q, hoJ] at e; cases e; exact hn hfJ
  by_cases hlt : i < ds.length
  · refine W.item i s' _ _ hlt hx' fun v h' tk hv hx1 hk => ?_
    have hP1 : PHas c F ρ P ds h' := hP'.keep fun a o e hn _ h => ⟨h, hk a o (hne a o e hn) e⟩
    have ha1 : Acc c F ρ Dd (out ++ ((ds.take i).filter p).map f) { s' with heap := h', toks := tk } := ha'.keep hDn fun a o e hn _ _ => hk a o (hne a o e hn) e
    obtain ⟨d, hd, hr⟩ := hP1 i v hv
    have hdm : d ∈ ds := List.mem_of_getElem? hd
    refine turn_val (K := fun h => Sx (i + 1) h ∧ PHas c F ρ P ds h) (S'.other hJ nJ hoJ hfJ hcJ hJ0 hJg hk) hex hown how hx hxn (htest d hdm) (helt d hdm) ?_ ha1 ⟨hx1, hP1⟩ (fun h h' k kp => ⟨W.frame _ _ _ k.1 fun b hb o e => kp b o (hfp b hb).1 (hfp b hb).2 e, k.2.keep fun a o e _ n h => ⟨h, kp a o h n e⟩⟩) hr fun s5 S5 K5 A5 => ⟨ds.length + 1 - (i + 1), turn_lt hlt, i + 1, rfl, hlt, S5, K5.1, ?_, K5.2⟩
    · have h2 : ((ds.take i).filter p).length ≤ (ds.take i).length := List.length_filter_le _ _
      rw [List.length_take] at h2
      rw [List.length_append, List.length_map]
      lia
    · show Acc c F ρ Dd (out ++ ((ds.take (i + 1)).filter p).map f) s5
      rw [List.take_add_one, hd, List.filter_append, List.map_append, ← List.append_assoc]
      exact A5
  · obtain rfl : i = ds.length := Nat.le_antisymm hi (Nat.not_lt.mp hlt)
    refine W.done s' _ _ hx' fun h' tk hk => hR _ (S'.other hJ nJ hoJ hfJ hcJ hJ0 hJg hk) ?_
    replace ha' : Acc c F ρ Dd (out ++ ((ds.take ds.length).filter p).map f) s' := ha'
    rw [List.take_length] at ha'
    exact ha'.keep hDn fun a o e hn _ _ => hk a o (hne a o e hn) e
end
end Mine

set_option linter.unusedVariables false
namespace Mine
open PySem PyProof.Rows PySem.W PyProof.V

/-- a comprehension's block fits the frame: cl its closure, fr what it sees of the frame's names -/
structure CompOK (c : Cx) (ρ : Rho) (scope : Scope) (cl : List (Str × Addr)) (fr : Rho) : Prop where
  clos : closureFor scope c.env = pure cl
  cell : ∀ y ∈ scope.names, y.2 ≠ .cell
  kind : scope.kind = .function
  names : ∀ y ∈ scope.names, y.2 = .local → scope.names.lookup y.1 = some .local
  frv : ∀ q ∈ fr, ρ.lookup q.1 = some q.2 ∧ q.2.at = [] ∧ (c.env.kindOf q.1 = some .cell ∨ c.env.kindOf q.1 = some .free) ∧ ((relabel scope c.env).names.lookup q.1 = some .cell ∨ (relabel scope c.env).names.lookup q.1 = some .free) ∧ cl.lookup q.1 = c.env.cells.lookup q.1
  cls : ∀ q ∈ cl, c.env.cells.lookup q.1 = some q.2

section
variable {m : Md} {c : Cx} {ρ ρ2 fr : Rho} {F : Addr → Prop} {h₀ h₁ : Heap} {s s1 s' : Shared} {e e1 e2 e3 it test elt : Expr} {d d1 d2 : D} {ds ds' out : List D} {pos px py pt : Pos} {x y : Str} {b : Bool} {es ifs : List Expr} {i j : Int} {C Dd J : Addr} {p : D → Bool} {f : D → D}
  {scope : Scope} {cl : List (Str × Addr)} {rest : List Stmt} {N : Rho → Prop} {R : D → Prop} {rs : List Comprehension}

theorem CompOK.owns (K : CompOK c ρ scope cl fr) : owns fr = [] := by
  refine List.eq_nil_iff_forall_not_mem.mpr fun a ha => ?_
  obtain ⟨q, hq, h⟩ := List.mem_flatMap.mp ha
  rw [(K.frv q hq).2.1] at h; cases h
theorem CompOK.mu (K : CompOK c ρ scope cl fr) : (c.comp scope cl C Dd).mu fr = [C, Dd] := by
  unfold Cx.mu; rw [K.owns]; rfl

/-- the state that a comprehension's block starts in -/
theorem St.comp (S : St c F h₀ ρ s) (K : CompOK c ρ scope cl fr) (T : Step c.g s s1) {m' : Str → Option Value} (hn : s1.heap.Ns C m') (hC : s.heap.get? C = none) (hD : s.heap.get? Dd = none) (hCD : C ≠ Dd) (hDo : ∃ o, s1.heap.get? Dd = some o) :
    St (c.comp scope cl C Dd) (c.ok F ρ) s.heap fr s1 := by
  have S1 := S.step T
  have kl : ∀ {y b}, fr.lookup y = some b → (relabel scope c.env).names.lookup y ≠ some .local := fun e q => by
    have h := (K.frv _ (mem_of_lookup e)).2.2.2.1
    rw [q] at h
    rcases h with h | h <;> cases h
  refine ⟨T.gh, T.ext, S1.gens, S1.os, S.rm, S.lim, K.kind, S.gn, S.bn, fun a e => S.fresh e, ⟨m', hn, fun y b e hk => absurd hk (kl e)⟩, fun y b e hk => ?_, fun y q e => ?_, ?_, fun a ha => ?_⟩
  · obtain ⟨h1, h2, h3, h4, h5⟩ := K.frv _ (mem_of_lookup e)
    have hkl : c.env.kindOf y ≠ some .local := fun z => by
      simp only at h3
      rw [z] at h3
      rcases h3 with h3 | h3 <;> cases h3
    obtain ⟨q, v, g1, ⟨o, g2, g3⟩, g4⟩ := S.ce y b h1 hkl
    refine ⟨q, v, h5.trans g1, ⟨o, T.ext q o (S.cs y q g1).1 g2, g3⟩, ?_⟩
    unfold Cx.ok; rw [K.mu]
    refine RepB.mono g4 (fun a o p n e' => ⟨⟨fun hm => ?_, p⟩, T.ext a o n e'⟩) fun a ha => by rw [h2] at ha; cases ha
    rcases List.mem_cons.mp hm with z | hm
    · rw [z, hC] at e'; cases e'
    · have z : a = Dd := by simpa using hm
      rw [z, hD] at e'; cases e'
  · have e' := K.cls _ (mem_of_lookup e)
    obtain ⟨n, v, o, g2, g3⟩ := S.cs y q e'
    exact ⟨n, v, o, T.ext q o n g2, g3⟩
  · rw [K.mu]; simp [hCD]
  · rw [K.mu] at ha
    rcases List.mem_cons.mp ha with z | hm
    · rw [z]; exact ⟨S.gh.nt hC, hC, (S.gfresh hC).2, let ⟨o, _, _, e, _⟩ := hn; ⟨o, e⟩⟩
    · have z : a = Dd := by simpa using hm
      rw [z]; exact ⟨S.gh.nt hD, hD, (S.gfresh hD).2, hDo⟩

theorem comp_core {use : Option (Value → Sem Unit)} {Q : Value → Shared → Prop} (S : St c F h₀ ρ s) (K : CompOK c ρ scope cl fr) (hi : EvI c ρ it ds) (hfold : ∀ v, foldedSetIterable it c.env v = pure v)
    (hloop : ∀ C Dd J s4, s.heap.get? C = none → s.heap.get? Dd = none → C ≠ Dd → St (c.comp scope cl C Dd) (c.ok F ρ) s.heap fr s4 → Acc (c.comp scope cl C Dd) (c.ok F ρ) fr Dd [] s4 →
      Itr (c.comp scope cl C Dd) (c.ok F ρ) s.heap fr s4 J ds → codeAny c.M c.A (.compLoop (.ListComp elt (⟨.Name x px, it, ifs, 0⟩ :: rs) scope pos) 0 (.ref J) (.ref Dd) (compEnvC scope cl C c.env)) (compPost c.M c.A Nv use Q (.ref Dd) C) s4) :
    wpAny c.M c.A (comprehension (.ListComp elt (⟨.Name x px, it, ifs, 0⟩ :: rs) scope pos) scope c.env py (newList []) false (eval it c.env) use) Q Nv s := by
  refine wpAny_comprehension_free rfl hfold K.clos K.kind K.names ?_
  refine wpAny_mono (hi.out F _ s S.framed) (fun v s1 h1 => wpAny_mono h1 (fun i s2 h2 => ?_) idE) idE
  obtain ⟨J, rfl, T, ⟨fp, P, Sx, W, hx0, hfp, hfe, hob, hP⟩, hJ, nJ, hJ0, hJg⟩ := h2
  have hJs : s.heap.get? J = none := by
    cases q : s.heap.get? J with
    | none => rfl
    | some o => rw [hid_get q hJ] at hJ0; cases hJ0
  refine wpAny_newObj_type (wpAny_newFunctionEnv K.cell (by intro y hy; simp at hy) (fun h₁ hns₁ hsb₁ => ?_) K.kind)
  dsimp only at hns₁ hsb₁ ⊢
  generalize hH : s2.heap.push { cls := .type "list", dict := none, data := .seq ([] : List Value).toArray } = H2 at hns₁ hsb₁ ⊢
  have hC : H2.objs.size = s2.heap.objs.size + 1 := by rw [← hH, Heap.size_push]
  have hDC : s2.heap.objs.size ≠ H2.objs.size := by rw [hC]; exact Nat.ne_of_lt (Nat.lt_succ_self _)
  have below : ∀ b, b < s2.heap.objs.size → b ≠ H2.objs.size ∧ b ≠ s2.heap.objs.size := fun b hb => ⟨by rw [hC]; exact Nat.ne_of_lt (Nat.lt_succ_of_lt hb), Nat.ne_of_lt hb⟩
  have keep : ∀ b o, s2.heap.get? b = some o → h₁.get? b = some o := fun b o e => by
    exact hsb₁.extBut b o (below b (Heap.lt_size e)).1 (Heap.get?_push_of_some _ (hH ▸ Heap.get?_push_of_some _ e))
  have hDo : h₁.get? s2.heap.objs.size = some { cls := .type "list", dict := none, data := .seq ([] : List Value).toArray } := hsb₁.extBut _ _ hDC (Heap.get?_push_of_some _ (hH ▸ Heap.get?_push_size _ rfl))
  have fresh2 : ∀ a, s2.heap.objs.size ≤ a → s2.heap.get? a = none := fun a ha => Heap.get?_none_of_le ha
  have fresh : ∀ a, s2.heap.get? a = none → s.heap.get? a = none := fun a ha => by
    cases q : s.heap.get? a with
    | none => rfl
    | some o => have := T.ext a o (T.gh.nt ha) q; rw [this] at ha; cases ha
  have T4 : Step c.g s2 { s2 with heap := h₁, toks := s2.toks + ([] : List (Str × Value)).length } := .of_keep T.gh keep
  have hCf : s.heap.get? H2.objs.size = none := fresh _ (fresh2 _ (by rw [hC]; exact Nat.le_succ _))
  have hDf : s.heap.get? s2.heap.objs.size = none := fresh _ (fresh2 _ (Nat.le_refl _))
  have S4 : St (c.comp scope cl H2.objs.size s2.heap.objs.size) (c.ok F ρ) s.heap fr { s2 with heap := h₁, toks := s2.toks + ([] : List (Str × Value)).length } :=
    S.comp K (T.trans T4) hns₁ hCf hDf (Ne.symm hDC) ⟨_, hDo⟩
  have hac : Acc (c.comp scope cl H2.objs.size s2.heap.objs.size) (c.ok F ρ) fr s2.heap.objs.size [] { s2 with heap := h₁, toks := s2.toks + ([] : List (Str × Value)).length } := ⟨[], ⟨0, hDo⟩, .nil⟩
  have nmu : ∀ a o, s2.heap.get? a = some o → a ∉ (c.comp scope cl H2.objs.size s2.heap.objs.size).mu fr := fun a o e hm => by
    have hb := below a (Heap.lt_size e)
    rw [K.mu] at hm
    rcases List.mem_cons.mp hm with z | hm
    · exact hb.1 z
    · have z : a = s2.heap.objs.size := by simpa using hm
      exact hb.2 z
  have hxf : Sx 0 h₁ := W.frame _ _ _ hx0 fun b _ o e => keep b o e
  have hIt : Itr (c.comp scope cl H2.objs.size s2.heap.objs.size) (c.ok F ρ) s.heap fr { s2 with heap := h₁, toks := s2.toks + ([] : List (Str × Value)).length } J ds := by
    obtain ⟨oJ, hoJ, _⟩ := hob 0 _ hx0
    refine ⟨⟨fp, P, Sx, W, hxf, fun b hb => ?_, hfe, hob, fun k v hv => ?_⟩, nmu J oJ hoJ, nJ, hJs, hJg⟩
    · obtain ⟨o, e⟩ := hfe 0 _ hx0 b hb
      exact ⟨nmu b o e, (hfp b hb).2⟩
    · obtain ⟨d, h1, h2⟩ := hP k v hv
      exact ⟨d, h1, Rep.mono h2 fun a o q n e => ⟨⟨nmu a o e, q⟩, keep a o e⟩⟩
  have loop := hloop _ _ J _ hCf hDf (Ne.symm hDC) S4 hac hIt
  exact codeAny_compStart_list loop (W.self 0 _ _ _ hxf loop)

/-- behind the loop: the list -/
theorem comp_done (S : St c F h₀ ρ s) (K : CompOK c ρ scope cl fr) (hC : s.heap.get? C = none) (hD : s.heap.get? Dd = none) (hCD : C ≠ Dd) (S' : St (c.comp scope cl C Dd) (c.ok F ρ) s.heap fr s') (ha : Acc (c.comp scope cl C Dd) (c.ok F ρ) fr Dd out s') :
    Step c.g s s' ∧ c.Rep (fun a => (a ∉ c.mu ρ ∧ F a) ∧ a ≠ C) s'.heap (.ref Dd) (.list out) ∧ ∃ m o, s'.heap.Ns C m ∧ s'.heap.get? C = some o ∧ (∀ vs, o.data ≠ .fields vs) ∧ (∀ v, o.data ≠ .cell v) := by
  refine ⟨⟨S'.ext, S'.gh, S'.gens.trans S.gens.symm, S'.os.trans S.os.symm⟩, ?_, ?_⟩
  · obtain ⟨vs, hp, r⟩ := ha
    exact .list ⟨S.fresh hD, Ne.symm hCD⟩ (S.gh.nt hD) hp.isList (RepL.weak r fun a q => ⟨q.2, fun z => q.1 (by rw [K.mu, z]; simp)⟩)
  · obtain ⟨m, hm, _⟩ := S'.fr
    obtain ⟨o, es, ep, e1, e2, _⟩ := id hm
    exact ⟨m, o, hm, e1, (fun vs e => by rw [e2] at e; cases e), (fun v e => by rw [e2] at e; cases e)⟩
end
end Mine

set_option linter.unusedVariables false
namespace Mine
open PySem PyProof.Rows PySem.W PyProof.V

section
variable {m : Md} {c : Cx} {ρ ρ2 fr : Rho} {F : Addr → Prop} {h₀ h₁ : Heap} {s s1 s' : Shared} {e e1 e2 e3 it it2 test elt : Expr} {d d1 d2 : D} {ds ds' out : List D} {pos px py pt : Pos} {x y : Str} {b : Bool} {es ifs : List Expr} {i j : Int} {C Dd J : Addr} {p : D → Bool} {f : D → D}
  {scope : Scope} {cl : List (Str × Addr)} {rest : List Stmt} {N : Rho → Prop} {R : D → Prop}

theorem comp_can (hxl : scope.names.lookup x = some .local) : canStore (c.comp scope cl C Dd) x = true := by
  have : (c.comp scope cl C Dd).env.kindOf x = some .local := lookup_relabel_local hxl
  unfold canStore
  rw [this]
theorem step_but (T : Step c.g s s') {o : Obj} {h' : Heap} {tk : Nat} (hC : s.heap.get? C = none) (hg : c.g.get? C = none) (ho : s'.heap.get? C = some o) (hf : ∀ vs, o.data ≠ .fields vs) (hs : Heap.SameBut C s'.heap h') : Step c.g s { s' with heap := h', toks := tk } :=
  ⟨fun a o' n e => (hs.2 a fun z => by rw [z, hC] at e; cases e).trans (T.ext a o' n e), T.gh.sameBut hs ho hf hg, T.gens, T.os⟩

theorem Ev.comp1 (K : CompOK c ρ scope cl fr) (hi : EvI c ρ it ds) (hxl : scope.names.lookup x = some .local) (hxn : fr.lookup x = Option.none)
    (htest : ∀ C Dd, ∀ d ∈ ds, ETs (c.comp scope cl C Dd) (fr.set x (.val d)) ifs (p d))
    (helt : ∀ C Dd, ∀ d ∈ ds, p d = true → Ev .s (c.comp scope cl C Dd) (fr.set x (.val d)) elt (f d))
    (hz : ds.length ≤ sizeLine) (hfold : ∀ v, foldedSetIterable it c.env v = pure v := by intro _; rfl) : Ev m c ρ (.ListComp elt [⟨.Name x px, it, ifs, 0⟩] scope pos) (.list ((ds.filter p).map f)) := ⟨fun F h₀ s S => by
  rw [eval_ListComp]
  refine comp_core (use := Option.none) S K hi hfold fun C Dd J s4 hC hD hCD S4 ha hIt => ?_
  obtain ⟨I, h0, turn⟩ := emit_turns (px := px) (R := compPost c.M c.A Nv Option.none (fun v s' => Step c.g s s' ∧ c.Rep (c.pr ρ F m) s'.heap v (.list ((ds.filter p).map f))) (.ref Dd) C) S4 rfl rfl K.owns ha hIt (comp_can hxl) hxn (htest C Dd) (helt C Dd) (by simpa using hz) fun s' S' ha' => by
    obtain ⟨T, r, m, o, hn, ho, hf, hcl⟩ := comp_done S K hC hD hCD S' ha'
    refine ⟨m, hn, fun h' hs => ⟨step_but (tk := s'.toks) T hC (S.gfresh hC).2 ho hf hs, Rep.mono r fun a o q n e => ⟨pr_of q.1, (hs.2 a q.2).trans e⟩⟩⟩
  exact codeAny_compLoop_tests I turn _ h0⟩

/-- one more object that the frame holds -/
theorem St.addEx (S : St c F h₀ ρ s) (T : Step c.g s s') {o : Obj} (hC : s.heap.get? C = none) (ho : s'.heap.get? C = some o) : St { c with ex := C :: c.ex } F h₀ ρ s' := by
  have S' := S.step T
  have hm : ∀ a, a ∈ ({ c with ex := C :: c.ex } : Cx).mu ρ → a = C ∨ a ∈ c.mu ρ := fun a ha => by
    unfold Cx.mu Cx.mcs at *
    simp only [List.mem_cons, List.mem_append] at ha ⊢
    rcases ha with h | (h | h | h) | h
    · exact .inr (.inl h)
    · exact .inr (.inr (.inl (.inl h)))
    · exact .inl h
    · exact .inr (.inr (.inl (.inr h)))
    · exact .inr (.inr (.inr h))
  have up : ∀ {y b v}, ρ.lookup y = some b → RepB c (c.ok F ρ) s.heap v b → RepB { c with ex := C :: c.ex } (fun a => a ∉ ({ c with ex := C :: c.ex } : Cx).mu ρ ∧ F a) s'.heap v b := fun {y b v} e r => by
    have k1 : ∀ a o, (a ∉ c.mu ρ ∧ F a) → Nt a → s.heap.get? a = some o → (a ∉ ({ c with ex := C :: c.ex } : Cx).mu ρ ∧ F a) ∧ s'.heap.get? a = some o := fun a o q n e => ⟨⟨fun h => (by
      rcases hm a h with z | h
      · rw [z, hC] at e; cases e
      · exact q.1 h), q.2⟩, T.ext a o n e⟩
    have k2 : ∀ a ∈ b.at, ∀ o, s.heap.get? a = some o → s'.heap.get? a = some o := fun a ha o e' => T.ext a o (S.ex a (S.own_mu e a ha)).1 e'
    cases b with
    | val d => exact Rep.mono r k1
    | own a ds =>
      obtain ⟨h1, vs, hp, r⟩ := r
      exact ⟨h1, vs, hp.at fun o e => k2 a (.head _) o e, RepL.mono r k1⟩
    | ownd a l =>
      obtain ⟨h1, o, kvs, ho, r⟩ := r
      exact ⟨h1, o, kvs, k2 a (.head _) o ho, r⟩
  have hCn : C ∉ c.mu ρ := fun h => by obtain ⟨_, _, _, o, e⟩ := S.ex C h; rw [hC] at e; cases e
  refine ⟨S'.gh, S'.ext, S'.gens, S'.os, S'.rm, S'.lim, S'.kf, S'.gn, S'.bn, S'.fF, ?_, fun y b e hk => ?_, S'.cs, ?_, fun a ha => ?_⟩
  · obtain ⟨m, hm', hv⟩ := S.fr
    refine ⟨m, hm'.at' fun o e => T.ext _ o (S.ex _ (.head _)).1 e, fun y b e hk => ?_⟩
    obtain ⟨v, h1, h2⟩ := hv y b e hk
    exact ⟨v, h1, up e h2⟩
  · obtain ⟨q, v, h1, ⟨o, h2, h3⟩, h4⟩ := S.ce y b e hk
    exact ⟨q, v, h1, ⟨o, T.ext _ _ (S.cs y q h1).1 h2, h3⟩, up e h4⟩
  · have h1 := S.nd
    have hp : (({ c with ex := C :: c.ex } : Cx).mu ρ).Perm (C :: c.mu ρ) := by
      unfold Cx.mu Cx.mcs
      simp only [List.append_assoc, List.cons_append]
      exact (List.perm_middle.cons _).trans (List.Perm.swap _ _ _)
    exact hp.nodup_iff.mpr (List.nodup_cons.mpr ⟨hCn, h1⟩)
  · rcases hm a ha with z | h
    · rw [z]; exact ⟨S.gh.nt hC, (S.gfresh hC).1, (S.gfresh hC).2, o, ho⟩
    · exact S'.ex a h
theorem St.dropEx (S : St { c with ex := C :: c.ex } F h₀ ρ s) : St c F h₀ ρ s := by
  have hm : ∀ a, a ∈ c.mu ρ → a ∈ ({ c with ex := C :: c.ex } : Cx).mu ρ := fun a ha => by
    unfold Cx.mu Cx.mcs at *
    simp only [List.mem_cons, List.mem_append] at ha ⊢
    rcases ha with h | (h | h) | h
    · exact .inl h
    · exact .inr (.inl (.inl h))
    · exact .inr (.inl (.inr (.inr h)))
    · exact .inr (.inr h)
  have up : ∀ {b v}, RepB { c with ex := C :: c.ex } (fun a => a ∉ ({ c with ex := C :: c.ex } : Cx).mu ρ ∧ F a) s.heap v b → RepB c (c.ok F ρ) s.heap v b := fun {b v} r => by
    have k1 : ∀ a o, (a ∉ ({ c with ex := C :: c.ex } : Cx).mu ρ ∧ F a) → Nt a → s.heap.get? a = some o → (a ∉ c.mu ρ ∧ F a) ∧ s.heap.get? a = some o := fun a o q n e => ⟨⟨fun h => q.1 (hm a h), q.2⟩, e⟩
    cases b with
    | val d => exact Rep.mono r k1
    | own a ds => obtain ⟨h1, vs, hp, r⟩ := r; exact ⟨h1, vs, hp, RepL.mono r k1⟩
    | ownd a l => exact r
  refine ⟨S.gh, S.ext, S.gens, S.os, S.rm, S.lim, S.kf, S.gn, S.bn, S.fF, ?_, fun y b e hk => ?_, S.cs, ?_, fun a ha => S.ex a (hm a ha)⟩
  · obtain ⟨m, hm', hv⟩ := S.fr
    exact ⟨m, hm', fun y b e hk => let ⟨v, h1, h2⟩ := hv y b e hk; ⟨v, h1, up h2⟩⟩
  · obtain ⟨q, v, h1, h2, h4⟩ := S.ce y b e hk
    exact ⟨q, v, h1, h2, up h4⟩
  · have h1 := S.nd
    have hp : (({ c with ex := C :: c.ex } : Cx).mu ρ).Perm (C :: c.mu ρ) := by
      unfold Cx.mu Cx.mcs
      simp only [List.append_assoc, List.cons_append]
      exact (List.perm_middle.cons _).trans (List.Perm.swap _ _ _)
    exact (List.nodup_cons.mp (hp.nodup_iff.mp h1)).2

/-- the object is changed and let go -/
theorem St.dropTouch (S : St { c with ex := C :: c.ex } F h₀ ρ s) {o : Obj} {h' : Heap} {tk : Nat} (ho : s.heap.get? C = some o) (hd : ∀ vs, o.data ≠ .fields vs) (hc : ∀ v, o.data ≠ .cell v) (hs : Heap.SameBut C s.heap h') : St c F h₀ ρ { s with heap := h', toks := tk } := by
  have hCm : C ∈ ({ c with ex := C :: c.ex } : Cx).mu ρ := by unfold Cx.mu Cx.mcs; simp
  have hnd := S.nd
  have hp : (({ c with ex := C :: c.ex } : Cx).mu ρ).Perm (C :: c.mu ρ) := by
    unfold Cx.mu Cx.mcs
    simp only [List.append_assoc, List.cons_append]
    exact (List.perm_middle.cons _).trans (List.Perm.swap _ _ _)
  have hn2 := List.nodup_cons.mp (hp.nodup_iff.mp hnd)
  have S0 := S.dropEx
  have hCo : C ∉ owns ρ := fun h => hn2.1 (mem_mu.mpr (.inr (.inr h)))
  have hCL : C ≠ c.env.locals := fun h => hn2.1 (mem_mu.mpr (.inl h))
  have up : ∀ {y b v}, ρ.lookup y = some b → RepB { c with ex := C :: c.ex } (fun a => a ∉ ({ c with ex := C :: c.ex } : Cx).mu ρ ∧ F a) s.heap v b → RepB c (c.ok F ρ) h' v b := fun {y b v} e r => by
    have k1 : ∀ a o, (a ∉ ({ c with ex := C :: c.ex } : Cx).mu ρ ∧ F a) → Nt a → s.heap.get? a = some o → (a ∉ c.mu ρ ∧ F a) ∧ h'.get? a = some o := fun a o q n e =>
      ⟨⟨fun h => q.1 (hp.mem_iff.mpr (.tail _ h)), q.2⟩, (hs.2 a fun z => q.1 (z ▸ hCm)).trans e⟩
    have k2 : ∀ a ∈ b.at, ∀ o, s.heap.get? a = some o → h'.get? a = some o := fun a ha o e' => (hs.2 a fun z => hCo (z ▸ mem_owns e a ha)).trans e'
    cases b with
    | val d => exact Rep.mono r k1
    | own a ds =>
      obtain ⟨h1, vs, hp, r⟩ := r
      exact ⟨h1, vs, hp.at fun o e => k2 a (.head _) o e, RepL.mono r k1⟩
    | ownd a l =>
      obtain ⟨h1, o, kvs, ho, r⟩ := r
      exact ⟨h1, o, kvs, k2 a (.head _) o ho, r⟩
  refine ⟨S.gh.sameBut hs ho hd (S.ex C hCm).2.2.1, fun a' o' n e' => (hs.2 a' fun z => ?_).trans (S.ext a' o' n e'), S.gens, S.os, S.rm, S.lim, S.kf, S.gn, S.bn, S.fF, ?_, fun y b e hk => ?_, fun y q e => ?_, hn2.2, fun a ha => ?_⟩
  · rw [z, (S.ex C hCm).2.1] at e'; cases e'
  · obtain ⟨m, hm, hv⟩ := S.fr
    exact ⟨m, hm.sameBut hs (Ne.symm hCL), fun y b e hk => let ⟨v, h1, h2⟩ := hv y b e hk; ⟨v, h1, up e h2⟩⟩
  · obtain ⟨q, v, h1, ⟨o', h2, h3⟩, h4⟩ := S.ce y b e hk
    exact ⟨q, v, h1, ⟨o', (hs.2 _ fun z => by rw [z, ho] at h2; cases h2; exact hc _ h3).trans h2, h3⟩, up e h4⟩
  · obtain ⟨n', v', o', h2, h3⟩ := S.cs y q e
    exact ⟨n', v', o', (hs.2 _ fun z => by rw [z, ho] at h2; cases h2; exact hc _ h3).trans h2, h3⟩
  · obtain ⟨h1, h2, h3, o', h4⟩ := S0.ex a ha
    exact ⟨h1, h2, h3, o', (hs.2 a fun z => hn2.1 (z ▸ ha)).trans h4⟩

theorem comp_store {v : Value} (S : St c F h₀ ρ s) (T : Step c.g s s') (r : c.Rep (fun a => (a ∉ c.mu ρ ∧ F a) ∧ a ≠ C) s'.heap v d) (hC : s.heap.get? C = Option.none) {m' : Str → Option Value} {o : Obj} (hn : s'.heap.Ns C m') (ho : s'.heap.get? C = some o)
    (hd : ∀ vs, o.data ≠ .fields vs) (hc : ∀ v, o.data ≠ .cell v) (hk : canStore c y = true) {Q : Shared → Prop} (hQ : ∀ s2, St c F h₀ (ρ.set y (.val d)) s2 → Q s2) :
    wpAny c.M c.A (assign (.Name y py) c.env v) (fun _ s'' => ∃ m, s''.heap.Ns C m ∧ ∀ h', Heap.SameBut C s''.heap h' → Q { s'' with heap := h' }) Nv s' := by
  have S2 := S.addEx T hC ho
  have hCn : C ∉ c.mu ρ := fun h => by obtain ⟨_, _, _, o, e⟩ := S.ex C h; rw [hC] at e; cases e
  have hp : ∀ ρ, (({ c with ex := C :: c.ex } : Cx).mu ρ).Perm (C :: c.mu ρ) := fun ρ => by
    unfold Cx.mu Cx.mcs
    simp only [List.append_assoc, List.cons_append]
    exact (List.perm_middle.cons _).trans (List.Perm.swap _ _ _)
  refine assign_Name (S2.putK (.refl T.gh) (b := .val d) hk (Rep.weak r fun a q => ⟨fun hm => ?_, q.1.2⟩) (fun a ha => by simp [B.at] at ha) fun s2 S3 hK => ?_)
  · rcases List.mem_cons.mp ((hp ρ).mem_iff.mp (mu_val hm)) with z | h
    · exact q.2 z
    · exact q.1.1 h
  · obtain ⟨q, hq, hK⟩ := hK
    have hCq : C ≠ q := fun z => by
      rcases hq with hq | ⟨ho, hq⟩
      · exact hCn (mem_mu.mpr (.inl (z.trans hq)))
      · refine hCn (mem_mu.mpr (.inr (.inl ?_)))
        unfold Cx.mcs
        have ho' : c.own = true := ho
        rw [if_pos ho', z]
        exact List.mem_append_left _ hq
    obtain ⟨oC, es, ep, e1, r1⟩ := id hn
    refine ⟨m', ⟨oC, es, ep, hK C oC hCq e1, r1⟩, fun h' hs => hQ _ ?_⟩
    exact S3.dropTouch (tk := s2.toks) (hK C o hCq ho) hd hc hs

theorem Ex.assignComp {ps : Pos} (K : CompOK c ρ scope cl fr) (hi : EvI c ρ it ds) (hxl : scope.names.lookup x = some .local) (hxn : fr.lookup x = Option.none)
    (htest : ∀ C Dd, ∀ d ∈ ds, ETs (c.comp scope cl C Dd) (fr.set x (.val d)) ifs (p d))
    (helt : ∀ C Dd, ∀ d ∈ ds, p d = true → Ev .s (c.comp scope cl C Dd) (fr.set x (.val d)) elt (f d))
    (hz : ds.length ≤ sizeLine) (hk : canStore c y = true) (kk : Ex c (ρ.set y (.val (.list ((ds.filter p).map f)))) rest N R)
    (hsw : swapsWith (.ListComp elt [⟨.Name x px, it, ifs, 0⟩] scope pos) (some (.Name y py)) ps.line c.env = pure true) (hfold : ∀ v, foldedSetIterable it c.env v = pure v := by intro _; rfl) :
    Ex c ρ (.Assign [.Name y py] (.ListComp elt [⟨.Name x px, it, ifs, 0⟩] scope pos) ps :: rest) N R := ⟨fun F h₀ s S => by
  refine wpAny_execs_cons ?_
  rw [exec_Assign_Name_used _ _ _ _ hsw]
  refine wpAny_bind (wpAny_standAt (wpAny_bind ?_))
  show wpAny _ c.A (do let _ ← comprehension (.ListComp elt [⟨.Name x px, it, ifs, 0⟩] scope pos) scope c.env _ (newList []) false (eval it c.env) (some (PySem.assign (.Name y py) c.env))) _ _ s
  refine wpAny_bind (wpAny_mono (comp_core (use := some (PySem.assign (.Name y py) c.env)) (Q := fun _ s' => wpAny c.M c.A (execs rest c.env) (Post c F h₀ N R) Nv s') S K hi hfold fun C Dd J s4 hC hD hCD S4 ha hIt => ?_) (fun _ s' hq => wpAny_pure (wpAny_pure hq)) idE)
  obtain ⟨I, h0, turn⟩ := emit_turns (px := px) (R := compPost c.M c.A Nv (some (PySem.assign (.Name y py) c.env)) (fun _ s' => wpAny c.M c.A (execs rest c.env) (Post c F h₀ N R) Nv s') (.ref Dd) C) S4 rfl rfl K.owns ha hIt (comp_can hxl) hxn (htest C Dd) (helt C Dd) (by simpa using hz) fun s' S' ha' => by
    obtain ⟨T, r, m, o, hn, ho, hf, hcl⟩ := comp_done S K hC hD hCD S' ha'
    exact comp_store S T r hC hn ho hf hcl hk fun s2 S2 => kk.out F h₀ s2 S2
  exact codeAny_compLoop_tests I turn _ h0⟩
end
end Mine

set_option linter.unusedVariables false
namespace Mine
open PySem PyProof.Rows PySem.W PyProof.V

section
variable {prog : Program} {w : World} {A : Around} {R : Result → Shared → Prop} {s : Shared}
theorem turn2_0 (elt it1 it2 : Expr) (x y : Str) (px py : Pos) (scope : Scope) (pos : Pos) (it acc : Value) (env : Env) :
    compTurn (.ListComp elt [⟨.Name x px, it1, [], 0⟩, ⟨.Name y py, it2, [], 0⟩] scope pos) 0 it acc env = (standAt it1.pos >>= fun _ => pyNext it >>= fun r => match r with
      | none => pure (.done .next)
      | some v => letOwnedTupleGo (.Name x px) it v >>= fun _ => assign (.Name x px) env v >>= fun _ =>
        (eval it2 env >>= fun xv => standAt it2.pos >>= fun _ => foldedSetIterable it2 env xv >>= fun xv => holding [xv] (pyIter xv) >>= fun j =>
          runOwn (.compStart (.ListComp elt [⟨.Name x px, it1, [], 0⟩, ⟨.Name y py, it2, [], 0⟩] scope pos) 1 j acc env) env >>= fun _ =>
          again (.compLoop (.ListComp elt [⟨.Name x px, it1, [], 0⟩, ⟨.Name y py, it2, [], 0⟩] scope pos) 0 it acc env))) := by
  rfl
theorem turn2_1 (elt it1 it2 : Expr) (x y : Str) (px py : Pos) (scope : Scope) (pos : Pos) (it acc : Value) (env : Env) :
    compTurn (.ListComp elt [⟨.Name x px, it1, [], 0⟩, ⟨.Name y py, it2, [], 0⟩] scope pos) 1 it acc env = (standAt it2.pos >>= fun _ => pyNext it >>= fun r => match r with
      | none => pure (.done .next)
      | some v => letOwnedTupleGo (.Name y py) it v >>= fun _ => assign (.Name y py) env v >>= fun _ =>
        (eval elt env >>= fun x => call (.builtin "list.append") [acc, x] >>= fun _ => pure ()) >>= fun _ =>
          again (.compLoop (.ListComp elt [⟨.Name x px, it1, [], 0⟩, ⟨.Name y py, it2, [], 0⟩] scope pos) 1 it acc env)) := by
  rfl

noncomputable abbrev comp2 (elt it1 it2 : Expr) (x y : Str) (px py : Pos) (scope : Scope) (pos : Pos) : Expr := .ListComp elt [⟨.Name x px, it1, [], 0⟩, ⟨.Name y py, it2, [], 0⟩] scope pos
theorem code_2in {elt it1 it2 : Expr} {x y : Str} {px py : Pos} {scope : Scope} {pos : Pos} {it acc : Value} {env : Env} (I : Nat → Shared → Prop)
    (turn : ∀ n s, I n s → wpAny (model prog w) A (pyNext it) (fun r s₁ => match r with
      | none => R (.ok .next) s₁
      | some v => wpAny (model prog w) A (assign (.Name y py) env v) (fun _ s₂ =>
          wpAny (model prog w) A (forIn [] true fun c r => if r = true then do let ok ← isTrue c env (eval c env); pure (ForInStep.yield ok) else pure (ForInStep.yield r)) (fun ok s₃ =>
            if ok = true then wpAny (model prog w) A (eval elt env) (fun x s₄ =>
              wpAny (model prog w) A (call (.builtin "list.append") [acc, x]) (fun _ s₅ => ∃ m, m < n ∧ I m s₅) (notedBy (model prog w) A env fun e s' => R (.error e) s') s₄) (notedBy (model prog w) A env fun e s' => R (.error e) s') s₃
            else ∃ m, m < n ∧ I m s₃) (notedBy (model prog w) A env fun e s' => R (.error e) s') s₂) (notedBy (model prog w) A env fun e s' => R (.error e) s') s₁) (notedBy (model prog w) A env fun e s' => R (.error e) s') s)
    (n : Nat) (h : I n s) : codeAny (model prog w) A (.compLoop (comp2 elt it1 it2 x y px py scope pos) 1 it acc env) R s := by
  refine codeAny_loop rfl I (fun n s hI => ?_) n h
  show wpAny _ A ((compTurn (comp2 elt it1 it2 x y px py scope pos) 1 it acc env).onRaise (fun x => do noteFrame x env; theTreesLotGoes x)) _ _ s
  refine wpAny_noted ?_
  rw [turn2_1]
  refine wpAny_bind (wpAny_standAt (wpAny_bind (wpAny_mono (turn n s hI) (fun r s₁ h₁ => ?_) fun _ _ h' => h')))
  cases r with
  | none => exact wpAny_pure h₁
  | some v =>
    refine wpAny_bind (wpAny_of_eq letOwned_name ?_)
    refine wpAny_bind (wpAny_mono h₁ (fun _ s₂ h₂ => ?_) fun _ _ h' => h')
    rw [List.forIn_nil] at h₂
    have h₂' : wpAny (model prog w) A (eval elt env) (fun x s₄ => wpAny (model prog w) A (call (.builtin "list.append") [acc, x]) (fun _ s₅ => ∃ m, m < n ∧ I m s₅) (notedBy (model prog w) A env fun e s' => R (.error e) s') s₄) (notedBy (model prog w) A env fun e s' => R (.error e) s') s₂ := fun Γ p hΓ => h₂ Γ p hΓ Γ p hΓ
    exact wpAny_bind (wpAny_bind (wpAny_mono h₂' (fun x s₄ h₄ => wpAny_bind (wpAny_mono h₄ (fun _ s₅ h₅ => wpAny_pure (wpAny_pure ⟨rfl, h₅⟩)) fun _ _ h' => h')) fun _ _ h' => h'))
theorem code_2start {elt it1 it2 : Expr} {x y : Str} {px py : Pos} {scope : Scope} {pos : Pos} {it acc : Value} {env : Env}
    (h0 : codeAny (model prog w) A (.compLoop (comp2 elt it1 it2 x y px py scope pos) 1 it acc env) R s)
    (h : wpAny (model prog w) A (pyIter it) (fun it' s' => codeAny (model prog w) A (.compLoop (comp2 elt it1 it2 x y px py scope pos) 1 it' acc env) R s') (notedBy (model prog w) A env fun x s' => R (.error x) s') s) :
    codeAny (model prog w) A (.compStart (comp2 elt it1 it2 x y px py scope pos) 1 it acc env) R s := by
  refine codeAny_of_tree ?_
  show wpAny _ _ ((compStart (comp2 elt it1 it2 x y px py scope pos) 1 it acc env).onRaise (fun x => do noteFrame x env; standAt theWindowsPlace)) _ _ s
  refine wpAny_notedAt ?_
  unfold compStart
  show wpAny _ _ (ask >>= _) _ _ s
  refine wpAny_bind (wpAny_askSetting (wpAny_ite ?_))
  split
  · first
      | exact wpAny_bind (wpAny_pure (wpAny_pure (And.intro rfl h0)))
      | exact wpAny_pure (And.intro rfl h0)
  · first
      | exact wpAny_bind (wpAny_rule (wpAny_bind (wpAny_standAt (wpAny_bind (wpAny_mono h (fun it' s' h' => wpAny_pure (And.intro rfl h')) idE)))))
      | (refine wpAny_bind (wpAny_rule ?_); show wpAny _ _ (standAt it2.pos >>= _) _ _ s; exact wpAny_bind (wpAny_standAt (wpAny_bind (wpAny_mono h (fun it' s' h' => wpAny_pure (And.intro rfl h')) idE))))
theorem code_2out {elt it1 it2 : Expr} {x y : Str} {px py : Pos} {scope : Scope} {pos : Pos} {it acc : Value} {env : Env} (hfold : ∀ v, foldedSetIterable it2 env v = pure v) (I : Nat → Shared → Prop)
    (turn : ∀ n s, I n s → wpAny (model prog w) A (pyNext it) (fun r s₁ => match r with
      | none => R (.ok .next) s₁
      | some v => wpAny (model prog w) A (assign (.Name x px) env v) (fun _ s₂ =>
          wpAny (model prog w) A (eval it2 env) (fun xv s₃ => wpAny (model prog w) A (pyIter xv) (fun j s₄ =>
            codeAny (model prog w) A (.compStart (comp2 elt it1 it2 x y px py scope pos) 1 j acc env) (fun r s₅ => match r with | .ok _ => ∃ m, m < n ∧ I m s₅ | .error _ => False) s₄) Nv s₃) Nv s₂) Nv s₁) Nv s)
    (n : Nat) (h : I n s) : codeAny (model prog w) A (.compLoop (comp2 elt it1 it2 x y px py scope pos) 0 it acc env) R s := by
  refine codeAny_loop rfl I (fun n s hI => ?_) n h
  show wpAny _ A ((compTurn (comp2 elt it1 it2 x y px py scope pos) 0 it acc env).onRaise (fun x => do noteFrame x env; theTreesLotGoes x)) _ _ s
  refine wpAny_noted ?_
  rw [turn2_0]
  refine wpAny_bind (wpAny_standAt (wpAny_bind (wpAny_mono (turn n s hI) (fun r s₁ h₁ => ?_) nvE)))
  cases r with
  | none => exact wpAny_pure h₁
  | some v =>
    refine wpAny_bind (wpAny_of_eq letOwned_name ?_)
    refine wpAny_bind (wpAny_mono h₁ (fun _ s₂ h₂ => ?_) nvE)
    refine wpAny_bind (wpAny_mono h₂ (fun xv s₃ h₃ => wpAny_bind (wpAny_standAt (wpAny_bind (wpAny_of_eq (hfold xv) (wpAny_bind (wpAny_holding (wpAny_mono h₃ (fun j s₄ h₄ => ?_) nvE))))))) nvE)
    refine wpAny_bind (wpAny_runOwn (codeAny_mono h₄ fun r s₅ h₅ => ?_))
    cases r with
    | ok f => exact wpAny_pure ⟨rfl, h₅⟩
    | error e => exact h₅.elim
end
end Mine

set_option linter.unusedVariables false
namespace Mine
open PySem PyProof.Rows PySem.W PyProof.V

section
variable {m : Md} {c : Cx} {ρ ρ2 fr : Rho} {F : Addr → Prop} {h₀ h₁ : Heap} {s s1 s' : Shared} {e e1 e2 e3 it it2 test elt : Expr} {d d1 d2 : D} {ds ds' out : List D} {pos px py pz pt : Pos} {x y z : Str} {b : Bool} {es ifs : List Expr} {i j : Int} {C Dd J : Addr}
  {g : D → List D} {f : D → D → D} {scope : Scope} {cl : List (Str × Addr)} {rest : List Stmt} {N : Rho → Prop} {R : D → Prop}

noncomputable def RRn (Q : Shared → Prop) (r : Result) (s₅ : Shared) : Prop := match r with | .ok _ => Q s₅ | .error _ => False
theorem nest_in {Q : Shared → Prop} {K : Heap → Prop} {s2 : Shared} {gs : List D} {f : D → D} (S2 : St c F h₀ ρ2 s2) (hex : c.ex = [Dd]) (hown : c.own = false) (how : owns ρ2 = []) (ha2 : Acc c F ρ2 Dd out s2) (hDn : Nt Dd) (hK2 : K s2.heap)
    (hK : ∀ h h', K h → (∀ a o, a ∉ c.mu ρ2 → Nt a → h.get? a = some o → h'.get? a = some o) → K h') (hit : EvI c ρ2 it2 gs) (hy : canStore c y = true) (hyn : ρ2.lookup y = none)
    (helt : ∀ d2 ∈ gs, Ev .s c (ρ2.set y (.val d2)) elt (f d2)) (hz : out.length + gs.length ≤ sizeLine) (hQ : ∀ s5, St c F h₀ ρ2 s5 → K s5.heap → Acc c F ρ2 Dd (out ++ gs.map f) s5 → Q s5) :
    wpAny c.M c.A (eval it2 c.env) (fun xv s₃ => wpAny c.M c.A (pyIter xv) (fun j s₄ => codeAny c.M c.A (.compStart (comp2 elt it it2 x y px py scope pos) 1 j (.ref Dd) c.env) (RRn Q) s₄) Nv s₃) Nv s2 := by
  refine wpAny_mono (hit.out F _ s2 S2.framed) (fun xv s3 h3 => wpAny_mono h3 (fun jv s4 h4 => ?_) nvE) nvE
  obtain ⟨J2, rfl, T, hI2⟩ := h4
  obtain ⟨I2, h02, turn2⟩ := emit_turns (px := py) (ifs := []) (p := fun _ => true) (f := f) (R := RRn Q)
    (S2.framed.step T) hex hown how (ha2.step T hDn) hI2 hy hyn (fun _ _ => ETs.nil) (fun d2 h2 _ => helt d2 h2) hz fun s5 S5 ha5 =>
      hQ s5 (S5.unframe S2.hidExt S2.fF) (hK _ _ hK2 fun a o h n e => S5.ext a o n (hid_get e h)) (by rw [List.filter_eq_self.mpr fun _ _ => rfl] at ha5; exact ha5)
  have loop := code_2in (R := RRn Q) (prog := c.prog) (w := c.w) (A := c.A) (elt := elt) (it1 := it) (it2 := it2) (x := x) (px := px) (scope := scope) (pos := pos) I2 turn2 _ h02
  obtain ⟨⟨fp2, P2, Sx2, W2, hx20, _⟩, _⟩ := hI2
  exact code_2start loop (W2.self 0 _ _ _ hx20 loop)

theorem nest_val {Q : Shared → Prop} {K : Heap → Prop} {s1 : Shared} {v : Value} {gs : List D} {f : D → D} (S1 : St c F h₀ ρ s1) (hex : c.ex = [Dd]) (hown : c.own = false) (how : owns ρ = []) (hx : canStore c x = true) (hxn : ρ.lookup x = none)
    (ha1 : Acc c F ρ Dd out s1) (hK1 : K s1.heap) (hK : ∀ h h', K h → (∀ a o, a ∉ c.mu ρ → Nt a → h.get? a = some o → h'.get? a = some o) → K h') (hr : c.Rep (c.ok F ρ) s1.heap v d)
    (hit : EvI c (ρ.set x (.val d)) it2 gs) (hy : canStore c y = true) (hyn : (ρ.set x (.val d)).lookup y = none)
    (helt : ∀ d2 ∈ gs, Ev .s c ((ρ.set x (.val d)).set y (.val d2)) elt (f d2)) (hz : out.length + gs.length ≤ sizeLine) (hQ : ∀ s5, St c F h₀ ρ s5 → K s5.heap → Acc c F ρ Dd (out ++ gs.map f) s5 → Q s5) :
    wpAny c.M c.A (assign (.Name x px) c.env v) (fun _ s₂ => wpAny c.M c.A (eval it2 c.env) (fun xv s₃ => wpAny c.M c.A (pyIter xv) (fun j s₄ => codeAny c.M c.A (.compStart (comp2 elt it it2 x y px py scope pos) 1 j (.ref Dd) c.env) (RRn Q) s₄) Nv s₃) Nv s₂) Nv s1 := by
  have hDn : Nt Dd := (S1.ex Dd (mem_mu.mpr (.inr (.inl (by unfold Cx.mcs; rw [hex]; simp))))).1
  have hos : owns (ρ.set x (.val d)) = [] := mu_set_own how
  have hms : c.mu (ρ.set x (.val d)) = c.mu ρ := mu_eq (hos.trans how.symm)
  have hac : ∀ {o s}, Acc c F (ρ.set x (.val d)) Dd o s ↔ Acc c F ρ Dd o s := by intro o s; unfold Acc; rw [ok_eq hms]
  refine assign_Name (S1.putK (.refl S1.gh) (b := .val d) hx (by rw [ok_eq hms]; exact hr) (fun a ha => by simp [B.at] at ha) fun s2 S2 hK' => ?_)
  obtain ⟨q, hq, hK'⟩ := hK'
  have hqL : q = c.env.locals := hq.resolve_right (by rw [hown]; simp)
  have hqm : q ∈ c.mu ρ := hqL ▸ List.mem_cons_self
  have hDq : Dd ≠ q := fun z => by
    have h1 := S1.nd
    unfold Cx.mu Cx.mcs at h1
    rw [hex, hown] at h1
    rw [hqL] at z
    simp [z] at h1
  refine nest_in (K := K) S2 hex hown hos (hac.mpr (ha1.keep hDn fun a o e _ _ h => hK' a o (fun z => h.elim (fun h => h (z ▸ hqm)) fun h => hDq (h.symm.trans z)) e)) hDn (hK _ _ hK1 fun a o h _ e => hK' a o (fun z => h (z ▸ hqm)) e) (by rw [hms]; exact hK) hit hy hyn helt hz fun s5 S5 K5 A5 =>
    hQ s5 (S5.forget (how.trans hos.symm) fun y b e => by
      rw [Rho.lookup_set]
      by_cases hy : y = x
      · rw [hy, hxn] at e; cases e
      · rw [if_neg hy]; exact e) K5 (hac.mp A5)

theorem nest_loop {R : Result → Shared → Prop} (S : St c F h₀ ρ s) (hex : c.ex = [Dd]) (hown : c.own = false) (how : owns ρ = []) (ha : Acc c F ρ Dd out s) (hI : Itr c F h₀ ρ s J ds) (hx : canStore c x = true) (hy : canStore c y = true)
    (hxn : ρ.lookup x = none) (hyn : ρ.lookup y = none) (hxy : y ≠ x)
    (hit : ∀ d ∈ ds, EvI c (ρ.set x (.val d)) it2 (g d)) (helt : ∀ d ∈ ds, ∀ d2 ∈ g d, Ev .s c ((ρ.set x (.val d)).set y (.val d2)) elt (f d d2)) (hz : out.length + (ds.flatMap fun d => (g d).map (f d)).length ≤ sizeLine)
    (hfold : ∀ v, foldedSetIterable it2 c.env v = pure v) (hR : ∀ s', St c F h₀ ρ s' → Acc c F ρ Dd (out ++ ds.flatMap fun d => (g d).map (f d)) s' → R (.ok .next) s') :
    codeAny c.M c.A (.compLoop (comp2 elt it it2 x y px py scope pos) 0 (.ref J) (.ref Dd) c.env) R s := by
  obtain ⟨⟨fp, P, Sx, W, hx0, hfp, hfe, hob, hP⟩, hJ, nJ, hJ0, hJg⟩ := hI
  refine code_2out hfold (TInv c F h₀ ρ Dd P Sx ds fun i => out ++ (ds.take i).flatMap fun d => (g d).map (f d)) ?_ (ds.length + 1) ⟨0, rfl, Nat.zero_le _, S, hx0, by simpa using ha, hP⟩
  rintro n s' ⟨i, rfl, hi, S', hx', ha', hP'⟩
  obtain ⟨oJ, hoJ, hfJ, hcJ, _⟩ := hob i _ hx'
  have hDn : Nt Dd := (S'.ex Dd (mem_mu.mpr (.inr (.inl (by unfold Cx.mcs; rw [hex]; simp))))).1
  have hne : ∀ a o, s'.heap.get? a = some o → ¬ Fld o → a ∉ [J] := fun a o e hn q => by
    rw [List.mem_singleton.mp q, hoJ] at e; cases e; exact hn hfJ
  by_cases hlt : i < ds.length
  · refine W.item i s' _ _ hlt hx' fun v h' tk hv hx1 hk => ?_
    have hP1 : PHas c F ρ P ds h' := hP'.keep fun a o e hn _ h => ⟨h, hk a o (hne a o e hn) e⟩
    have ha1 : Acc c F ρ Dd (out ++ (ds.take i).flatMap fun d => (g d).map (f d)) { s' with heap := h', toks := tk } := ha'.keep hDn fun a o e hn _ _ => hk a o (hne a o e hn) e
    obtain ⟨d, hd, hr⟩ := hP1 i v hv
    have hdm : d ∈ ds := List.mem_of_getElem? hd
    have htk : ds.take (i + 1) = ds.take i ++ [d] := by rw [List.take_add_one, hd]; rfl
    refine nest_val (Q := fun s₅ => ∃ m, m < ds.length + 1 - i ∧ TInv c F h₀ ρ Dd P Sx ds (fun i => out ++ (ds.take i).flatMap fun d => (g d).map (f d)) m s₅) (K := fun h => Sx (i + 1) h ∧ PHas c F ρ P ds h) (S'.other hJ nJ hoJ hfJ hcJ hJ0 hJg hk) hex hown how hx hxn ha1 ⟨hx1, hP1⟩ (fun h h' k kp => ⟨W.frame _ _ _ k.1 fun b hb o e => kp b o (hfp b hb).1 (hfp b hb).2 e, k.2.keep fun a o e _ n h => ⟨h, kp a o h n e⟩⟩) hr (hit d hdm) hy (by rw [Rho.lookup_set, if_neg hxy]; exact hyn) (helt d hdm) ?_ fun s5 S5 K5 A5 => ⟨ds.length + 1 - (i + 1), turn_lt hlt, i + 1, rfl, hlt, S5, K5.1, ?_, K5.2⟩
    · have e1 : ds.take (i + 1) ++ ds.drop (i + 1) = ds := List.take_append_drop _ _
      rw [← e1, htk] at hz
      simp only [List.flatMap_append, List.flatMap_cons, List.length_append, List.length_map] at hz ⊢
      lia
    · show Acc c F ρ Dd (out ++ (ds.take (i + 1)).flatMap fun d => (g d).map (f d)) s5
      rw [htk, List.flatMap_append, ← List.append_assoc, List.flatMap_cons, List.flatMap_nil, List.append_nil]
      exact A5
  · obtain rfl : i = ds.length := Nat.le_antisymm hi (Nat.not_lt.mp hlt)
    refine W.done s' _ _ hx' fun h' tk hk => hR _ (S'.other hJ nJ hoJ hfJ hcJ hJ0 hJg hk) ?_
    replace ha' : Acc c F ρ Dd (out ++ (ds.take ds.length).flatMap fun d => (g d).map (f d)) s' := ha'
    rw [List.take_length] at ha'
    exact ha'.keep hDn fun a o e hn _ _ => hk a o (hne a o e hn) e

theorem Ex.assignComp2 {ps : Pos} (K : CompOK c ρ scope cl fr) (hi : EvI c ρ it ds) (hxl : scope.names.lookup x = some .local) (hyl : scope.names.lookup y = some .local) (hxn : fr.lookup x = Option.none) (hyn : fr.lookup y = Option.none) (hxy : y ≠ x)
    (hit : ∀ C Dd, ∀ d ∈ ds, EvI (c.comp scope cl C Dd) (fr.set x (.val d)) it2 (g d)) (helt : ∀ C Dd, ∀ d ∈ ds, ∀ d2 ∈ g d, Ev .s (c.comp scope cl C Dd) ((fr.set x (.val d)).set y (.val d2)) elt (f d d2))
    (hz : (ds.flatMap fun d => (g d).map (f d)).length ≤ sizeLine) (hk : canStore c z = true) (kk : Ex c (ρ.set z (.val (.list (ds.flatMap fun d => (g d).map (f d))))) rest N R)
    (hsw : swapsWith (comp2 elt it it2 x y px py scope pos) (some (.Name z pz)) ps.line c.env = pure true) (hfold : ∀ v, foldedSetIterable it c.env v = pure v := by intro _; rfl)
    (hfold2 : ∀ C v, foldedSetIterable it2 (compEnvC scope cl C c.env) v = pure v := by intro _ _; rfl) :
    Ex c ρ (.Assign [.Name z pz] (comp2 elt it it2 x y px py scope pos) ps :: rest) N R := ⟨fun F h₀ s S => by
  refine wpAny_execs_cons ?_
  rw [exec_Assign_Name_used _ _ _ _ hsw]
  refine wpAny_bind (wpAny_standAt (wpAny_bind ?_))
  show wpAny _ c.A (do let _ ← comprehension (comp2 elt it it2 x y px py scope pos) scope c.env _ (newList []) false (eval it c.env) (some (PySem.assign (.Name z pz) c.env))) _ _ s
  refine wpAny_bind (wpAny_mono (comp_core (use := some (PySem.assign (.Name z pz) c.env)) (Q := fun _ s' => wpAny c.M c.A (execs rest c.env) (Post c F h₀ N R) Nv s') S K hi hfold fun C Dd J s4 hC hD hCD S4 ha hIt => ?_) (fun _ s' hq => wpAny_pure (wpAny_pure hq)) idE)
  refine nest_loop (c := c.comp scope cl C Dd) S4 rfl rfl K.owns ha hIt (comp_can hxl) (comp_can hyl) hxn hyn hxy (hit C Dd) (helt C Dd) (by simpa using hz) (hfold2 C) fun s' S' ha' => ?_
  obtain ⟨T, r, m, o, hn, ho, hf, hcl⟩ := comp_done S K hC hD hCD S' ha'
  exact comp_store S T r hC hn ho hf hcl hk fun s2 S2 => kk.out F h₀ s2 S2⟩
end
end Mine

set_option linter.unusedVariables false
namespace Mine
open PySem PyProof.Rows PySem.W PyProof.V

mutual
noncomputable def toP : D → PyData
  | .none => .none
  | .bool b => .bool b
  | .int i => .int i
  | .str x => .str x
  | .list l => .list (toPs l)
  | .tup l => .tuple (toPs l)
  | .dict _ => .none
noncomputable def toPs : List D → List PyData
  | [] => []
  | d :: ds => toP d :: toPs ds
end
/-- ints, and lists and tuples of such -/
noncomputable def okD : Nat → D → Bool
  | _, .int _ => true
  | n + 1, .tup ds => ds.all (okD n)
  | n + 1, .list ds => ds.all (okD n)
  | _, _ => false
theorem okD_lay : ∀ (n : Nat) (d : D), okD n d = true → (toP d).canLay0 = true ∧ (toP d).depth ≤ n := by
  have all : ∀ (n : Nat), (∀ d, okD n d = true → (toP d).canLay0 = true ∧ (toP d).depth ≤ n) → ∀ ds : List D, (∀ d ∈ ds, okD n d = true) → PyData.canLayAll0 (toPs ds) = true ∧ PyData.depthAll (toPs ds) ≤ n := by
    intro n ih ds
    induction ds with
    | nil => intro _; simp [toPs, PyData.canLayAll0, PyData.depthAll]
    | cons d ds hi =>
      intro h
      have h1 := ih d (h d (.head _))
      have h2 := hi fun e he => h e (.tail _ he)
      simp only [toPs, PyData.canLayAll0, PyData.depthAll, h1.1, h2.1, Bool.and_self, true_and]
      have a1 := h1.2
      have a2 := h2.2
      lia
  intro n
  induction n with
  | zero =>
    intro d h
    cases d <;> simp_all [okD, toP, PyData.canLay0, PyData.depth]
  | succ n ih =>
    intro d h
    cases d with
    | int i => simp [toP, PyData.canLay0, PyData.depth]
    | tup ds =>
      have q := all n ih ds (by simpa [okD] using h)
      have q2 := q.2
      simp only [toP, PyData.canLay0, PyData.depth, q.1, true_and]
      lia
    | list ds =>
      have q := all n ih ds (by simpa [okD] using h)
      have q2 := q.2
      simp only [toP, PyData.canLay0, PyData.depth, q.1, true_and]
      lia
    | _ => simp [okD] at h
section
variable {prog : Program} {w : World} {P : Addr → Prop} {h : Heap}
theorem RepL.readsOf {n : Nat} (ih : ∀ {v : Value} {d : D}, Rep prog w P h v d → okD n d = true → ∃ as, Reads h v (toP d) as) : ∀ {ds : List D} {vs : List Value}, RepL prog w P h vs ds → (∀ d ∈ ds, okD n d = true) → ∃ as, ReadsAll h vs (toPs ds) as := by
  intro ds
  induction ds with
  | nil => intro vs r _; cases r; exact ⟨_, ReadsAll.nil⟩
  | cons d l hi =>
    intro vs r hk
    cases r with
    | cons r rs =>
      obtain ⟨as, q⟩ := ih r (hk _ (.head _))
      obtain ⟨bs, p⟩ := hi rs fun d hm => hk d (.tail _ hm)
      exact ⟨_, ReadsAll.cons q p⟩
theorem okD_all {n : Nat} {ds : List D} (h : ds.all (okD n) = true) : ∀ d ∈ ds, okD n d = true := List.all_eq_true.mp h
theorem Rep.reads : ∀ (n : Nat) {v : Value} {d : D}, Rep prog w P h v d → okD n d = true → ∃ as, Reads h v (toP d) as := by
  intro n
  induction n with
  | zero =>
    intro v d r hk
    cases d with
    | int i => obtain ⟨t, rfl⟩ := r.inv_int; exact ⟨_, Reads.int _ _⟩
    | _ => exact absurd (show false = true from hk) Bool.false_ne_true
  | succ n ih =>
    intro v d r hk
    cases d with
    | int i => obtain ⟨t, rfl⟩ := r.inv_int; exact ⟨_, Reads.int _ _⟩
    | list ds =>
      obtain ⟨a, vs, rfl, _, _, ⟨o, ho, hc, k, hd⟩, rr⟩ := r.inv_list
      obtain ⟨as, q⟩ := RepL.readsOf ih rr (okD_all hk)
      exact ⟨_, reads_list_at ho hc hd (by simpa using q)⟩
    | tup ds =>
      obtain ⟨a, vs, rfl, _, _, ⟨o, ho, hc, k, hd⟩, rr⟩ := r.inv_tup
      obtain ⟨as, q⟩ := RepL.readsOf ih rr (okD_all hk)
      exact ⟨_, reads_tuple_at ho hc hd (by simpa using q)⟩
    | _ => exact absurd (show false = true from hk) Bool.false_ne_true
end

section
variable {m : Md} {c : Cx} {ρ : Rho} {F : Addr → Prop} {h₀ h₁ : Heap} {s s' : Shared} {e e1 e2 e3 it test : Expr} {d d1 d2 : D} {ds ds' : List D} {pos px : Pos} {x y : Str} {b : Bool} {es : List Expr} {i j : Int} {rest : List Stmt} {N : Rho → Prop} {R : D → Prop}

theorem CmpOK.eqD (h : okD 64 d = true) : CmpOK m c ρ .Eq d d true := ⟨fun F h₀ s v1 v2 S r1 r2 => by
  obtain ⟨as, q1⟩ := Rep.reads 64 r1 h
  obtain ⟨bs, q2⟩ := Rep.reads 64 r2 h
  have hl := okD_lay 64 d h
  have hsh : SeqAt.shaped (toP d) = true := by unfold SeqAt.shaped; rw [hl.1]; simp [hl.2]
  refine SeqAt.compareEq_shaped q1 q2 hsh hsh (by have := S.rm.2.2; lia) ⟨.refl S.gh, ?_⟩
  rw [PySem.SeqAt.eqv_refl _ hl.1]⟩
theorem CmpOK.neD (h : okD 64 d = true) : CmpOK m c ρ .NotEq d d false := ⟨fun F h₀ s v1 v2 S r1 r2 => by
  obtain ⟨as, q1⟩ := Rep.reads 64 r1 h
  obtain ⟨bs, q2⟩ := Rep.reads 64 r2 h
  have hl := okD_lay 64 d h
  have hsh : SeqAt.shaped (toP d) = true := by unfold SeqAt.shaped; rw [hl.1]; simp [hl.2]
  refine SeqAt.compareNe_shaped q1 q2 hsh hsh (by have := S.rm.2.2; lia) ⟨.refl S.gh, ?_⟩
  rw [PySem.SeqAt.eqv_refl _ hl.1]; rfl⟩

/-! methods -/
theorem strsAre {prog : Program} {w : World} {P : Addr → Prop} {h : Heap} : ∀ {vs : List Value} {ns : List Str}, RepL prog w P h vs (ns.map D.str) → StrsAre vs ns
  | [], [], _ => .nil
  | _, n :: ns, .cons r rs => by obtain ⟨t, rfl⟩ := r.inv_str; exact .cons n t (strsAre rs)
theorem repStrs {prog : Program} {w : World} {P : Addr → Prop} {h : Heap} : ∀ (l : List (Str × Tok)), RepL prog w P h (strValues l) ((l.map (·.1)).map D.str)
  | [] => .nil
  | (x, t) :: l => .cons .str (repStrs l)
theorem Ev.bits {pa : Pos} (h : Ev m c ρ e (.int i)) (hline : (pa.endLine == pos.line) = true) (hbase : attributeBase e "bit_length" c.env (eval e c.env) = eval e c.env := by rfl) :
    Ev m c ρ (.Call (.Attribute e "bit_length" pa) [] [] pos) (.int (Builtin.Int.intBits i)) := ⟨fun F h₀ s S => by
  refine Call_method0 hbase hline (wpAny_mono (h.out F h₀ s S) (fun v s1 x => ?_) idE)
  obtain ⟨t, rfl⟩ := x.2.inv_int
  refine ⟨"int", _, PySem.F.plainAttrs_int, PySem.F.slot_int_bit_length, PySem.F.type_int_bit_length, typeIs_int _ _ _, (fun _ e => nomatch e), ?_⟩
  exact Calls.callWith_builtin rfl (evalArgs_nil3 (call_int_bit_length ⟨x.1.trans (.toks x.1.gh), .int⟩))⟩
theorem Ev.split {pa : Pos} {x : Str} (h : Ev m c ρ e (.str x)) (hline : (pa.endLine == pos.line) = true) (hz : x.length ≤ sizeLine) (hz2 : (Builtin.Str.spaceWords x (x.length + 1)).length ≤ sizeLine) (hne : (Builtin.Str.spaceWords x (x.length + 1) == [(0, x.length)]) = false) (hbase : attributeBase e "split" c.env (eval e c.env) = eval e c.env := by rfl) :
    Ev m c ρ (.Call (.Attribute e "split" pa) [] [] pos) (.list ((Txt.words x).map D.str)) := ⟨fun F h₀ s S => by
  refine Call_method0 hbase hline (wpAny_mono (h.out F h₀ s S) (fun v s1 x => ?_) idE)
  obtain ⟨t, rfl⟩ := x.2.inv_str
  refine ⟨"str", _, PySem.F.plainAttrs_str, PySem.F.slot_str_split, PySem.F.type_str_split, typeIs_str _ _ _, (fun _ e => nomatch e), ?_⟩
  have S1 := S.step x.1
  refine Calls.callWith_builtin rfl (evalArgs_nil3 (call_meets PySem.F.slot_str_split (typeIs_str _ _ _) PySem.F.entry_str_split (PySem.F.args_str_split_1 _) (meets_str_split_space _ t hz hz2) ?_))
  simp only [hne, Bool.false_eq_true, if_false]
  rw [strsFrom_eq]
  refine ⟨x.1.trans (.of_keep x.1.gh fun b o e => Heap.get?_push_of_some _ e), ?_⟩
  have e : Txt.words _ = (numbered s1.toks (PySem.wordsOf _)).map (·.1) := (((numbered_texts _ _).trans (if_neg (ne_true_of_eq_false hne)).symm)).symm
  rw [e]
  exact rep_newList (c := c) (s := s1) S1.gh (S1.prf size_none) (repStrs _)⟩
theorem Ev.join {pa : Pos} {ns : List Str} {z : Str} (h : Ev m c ρ e (.str z)) (h2 : Ev m c ρ e2 (.list (ns.map D.str))) (hline : (pa.endLine == pos.line) = true) (hn : noStar e2 = true) (hz : (ns.map (·.length)).sum + ns.length * z.length ≤ 16777216)
    (hbase : attributeBase e "join" c.env (eval e c.env) = eval e c.env := by rfl) : Ev m c ρ (.Call (.Attribute e "join" pa) [e2] [] pos) (.str (Txt.join z ns)) := ⟨fun F h₀ s S => by
  refine wpAny_Call_method_lateS hbase (by rw [star_cons hn]; rfl) hline (wpAny_mono (h.out F h₀ s S) (fun v s1 x => ?_) idE)
  obtain ⟨t, rfl⟩ := x.2.inv_str
  have S1 := S.step x.1
  refine ⟨"str", _, PySem.F.plainAttrs_str, PySem.F.slot_str_join, PySem.F.type_str_join, typeIs_str _ _ _, (fun _ e => nomatch e), ?_⟩
  rw [star_cons hn]
  refine Calls.callWith_builtin rfl (Calls.evalArgs_plain (Calls.spliced_cons (wpAny_mono (h2.out F h₀ s1 S1) (fun v2 s2 x2 => Calls.spliced_nil ?_) idE)))
  obtain ⟨a, vs, rfl, p, n, hl, r⟩ := x2.2.inv_list
  exact join_list hl (by simpa using strsAre r) hz fun t' k => ⟨x.1.trans (x2.1.trans (.toks x2.1.gh)), .str⟩⟩

theorem Ex.reverse {a : Addr} {pa pc : Pos} (h1 : ρ.lookup x = some (.own a ds)) (hb : isBound c.env x = true) (hz : ds.length ≤ sizeLine) (hline : (pa.endLine == pc.line) = true)
    (k : Ex c (ρ.set x (.own a ds.reverse)) rest N R) (hi : interactive c.env = false := by rfl) (hbase : attributeBase (.Name x px) "reverse" c.env (eval (.Name x px) c.env) = eval (.Name x px) c.env := by rfl) :
    Ex c ρ (.Expr (.Call (.Attribute (.Name x px) "reverse" pa) [] [] pc) pos :: rest) N R := ⟨fun F h₀ s S => by
  refine wpAny_execs_cons (wpAny_Expr (Call_method0 hbase hline (wpAny_Name (S.load h1 (isBound_kind hb).1 (isBound_kind hb).2.1 fun v r => ?_) (isBound_kind hb).2.2)) hi rfl)
  obtain ⟨rfl, vs, ⟨n, hp⟩, r⟩ := r
  refine ⟨"list", _, PySem.F.plainAttrs_list, PySem.F.slot_list_reverse, PySem.F.type_list_reverse, ⟨_, hp, rfl⟩, (fun a e => by cases e; exact ⟨_, hp, rfl⟩), ?_⟩
  refine Calls.callWith_builtin rfl (evalArgs_nil3 ?_)
  refine call_meets PySem.F.slot_list_reverse ⟨_, hp, rfl⟩ PySem.F.entry_list_reverse (PySem.F.args_list_reverse_1 _) (AutoSeq1.list_reverse_list_0 a (List.toArray vs) n (by rw [List.size_toArray, r.length]; exact hz)) ⟨hp, ?_⟩
  have hrev : c.RepL (c.ok F ρ) s.heap vs.reverse ds.reverse := by
    have : ∀ {vs : List Value} {ds : List D}, c.RepL (c.ok F ρ) s.heap vs ds → c.RepL (c.ok F ρ) s.heap vs.reverse ds.reverse := fun {vs ds} r => by
      induction vs generalizing ds with
      | nil => cases r; exact .nil
      | cons v vs ih =>
        cases r with
        | cons r rs => rw [List.reverse_cons, List.reverse_cons]; exact (ih rs).append (.cons r .nil)
    exact this r
  refine k.out F h₀ _ (S.mutate (tk := s.toks) (vs' := vs.reverse) h1 (Heap.SameBut.update ..) ⟨n, ?_⟩ hrev)
  rw [Heap.get?_update_self _ hp (by rw [mapSeq_reverse]; rfl), mapSeq_reverse]⟩

theorem ET.int (h : Ev m c ρ e (.int i)) (he : ∀ w, isTrue e c.env w = (do let v ← w; standAt e.pos; holding [v] (truthy v)) := by intro _; rfl) : ET c ρ e (decide (i ≠ 0)) := ⟨fun F h₀ s S =>
  isTrue_plain (wpAny_mono (h.out F h₀ s S) (fun v s1 x => by
    obtain ⟨t, rfl⟩ := x.2.inv_int
    refine PySem.P.truthy_int ⟨x.1, ?_⟩
    by_cases q : i = 0 <;> simp [q]) idE) (he _)⟩
theorem ET.list (h : Ev m c ρ e (.list ds)) (hz : ds.length ≤ sizeLine) (he : ∀ w, isTrue e c.env w = (do let v ← w; standAt e.pos; holding [v] (truthy v)) := by intro _; rfl) : ET c ρ e (!ds.isEmpty) := ⟨fun F h₀ s S =>
  isTrue_plain (wpAny_mono (h.out F h₀ s S) (fun v s1 x => by
    obtain ⟨a, vs, rfl, p, n, hl, r⟩ := x.2.inv_list
    refine wpAny_truthy_list hl (by rw [List.size_toArray, r.length]; rw [sizeLine_eq] at hz; lia) ⟨x.1.trans (.toks x.1.gh), ?_⟩
    have := r.length
    cases vs <;> cases ds <;> simp_all) idE) (he _)⟩
end
end Mine

set_option linter.unusedVariables false
namespace Mine
open PySem PyProof.Rows PySem.W PyProof.V

section
variable {m : Md} {c : Cx} {ρ : Rho} {F : Addr → Prop} {h₀ h₁ : Heap} {s s' : Shared} {e e1 e2 e3 it test : Expr} {d d1 d2 : D} {ds ds' : List D} {pos px ps : Pos} {x y : Str} {es : List Expr} {i j : Int} {rest : List Stmt} {N : Rho → Prop} {R : D → Prop}

theorem St.notMods (S : St c F h₀ ρ s) : (s.heap.objs.size == sysModules) = false :=
  beq_eq_false_iff_ne.mpr (Nat.ne_of_gt (modules_low (S.lim.keeps S.gh.keep)))

theorem Ex.assignDict {pl : Pos} (hk : canStore c x = true) (k : ∀ a, Ex c (ρ.set x (.ownd a [])) rest N R) : Ex c ρ (.Assign [.Name x px] (.Dict [] [] pl) pos :: rest) N R := ⟨fun F h₀ s S =>
  wpAny_execs_cons (wpAny_Assign_Name (wpAny_Dict_empty (by
    obtain ⟨o, ho, hd⟩ := Heap.dictOf_iff.mp (Heap.DictOf.new (knd := strKind c.prog c.w) s.heap)
    refine S.put (b := .ownd s.heap.objs.size []) (push_step _ S.gh) hk ⟨rfl, o, [], ho, hd, .nil, S.notMods⟩ ?_ fun s' S' => (k _).out F h₀ s' S'
    intro a ha
    have : a = s.heap.objs.size := by simpa [B.at] using ha
    subst this
    exact ⟨size_none, _, Heap.get?_push_size _ rfl⟩)))⟩

theorem Ex.putDict {a : Addr} {l : List (Str × Int)} {k : Str} (h1 : ρ.lookup x = some (.ownd a l)) (hb : isBound c.env x = true) (hv : Ev m c ρ e (.int i)) (hkey : Ev m c ρ e2 (.str k)) (hz : l.length ≤ sizeLine)
    (kk : Ex c (ρ.set x (.ownd a (kdpPut l k i))) rest N R) (hs : swapsWith e (some (.Subscript (.Name x px) e2 ps)) pos.line c.env = pure false := by rfl) :
    Ex c ρ (.Assign [.Subscript (.Name x px) e2 ps] e pos :: rest) N R := ⟨fun F h₀ s S => by
  refine wpAny_execs_cons (wpAny_Assign_Subscript (wpAny_mono (hv.out F h₀ s S) (fun v s1 x1 => ?_) idE) hs)
  obtain ⟨t, rfl⟩ := x1.2.inv_int
  have S1 := S.step x1.1
  refine wpAny_Name (S1.load h1 (isBound_kind hb).1 (isBound_kind hb).2.1 fun v r => wpAny_mono (hkey.out F h₀ s1 S1) (fun v2 s2 x2 => ?_) idE) (isBound_kind hb).2.2
  obtain ⟨t2, rfl⟩ := x2.2.inv_str
  obtain ⟨rfl, o, kvs, ho, hd, hf, hsm⟩ := r
  have S2 := S1.step x2.1
  have ham : a ∈ c.mu ρ := S.own_mu h1 a (.head _)
  have ho2 := x2.1.ext a o (S.ex a ham).1 ho
  refine wpAny_setItem_pairs (hsz := by rw [← hf.length, kdpD_length]; exact hz) (strKind_is _ _ _ _) (Heap.dictOf_iff.mpr ⟨o, ho2, hd⟩) fun h' hm hs' => ?_
  obtain ⟨o', ho', hd'⟩ := Heap.dictOf_iff.mp hm
  have hdat : ∃ es ep, o.data = .dict es ep := by obtain ⟨es, ep, _, h, _⟩ := hd; exact ⟨es, ep, h⟩
  obtain ⟨es, ep, hde⟩ := hdat
  refine kk.out F h₀ _ (S2.mutateB h1 rfl rfl hs' ⟨o', ho'⟩ ⟨rfl, o', _, ho', hd', ?_, hsm⟩)
  rw [← kdpD_put]
  exact hf.stored same_str k (Flat.int i t)⟩

/-- [e] * n -/
theorem Ev.rep {pl : Pos} (h1 : Ev m c ρ e (.int i)) (h2 : Ev m c ρ e2 (.int j)) (hn : noStar e = true) (h0 : 0 ≤ j) (hz : j ≤ 16777216) : Ev m c ρ (.BinOp (.List [e] pl) .Mult e2 pos) (.list (List.replicate j.toNat (.int i))) := ⟨fun F h₀ s S => by
  refine wpAny_BinOp (List_ (wpAny_mono ((EvL.cons (pos := pl) h1 EvL.nil hn).out F h₀ s S) (fun vs s1 x1 => newList_ (wpAny_mono (h2.out F h₀ _ ((S.step x1.1).step (push_step _ x1.1.gh))) (fun v2 s2 x2 => ?_) idE) (by rw [x1.2.length]; show 1 ≤ sizeLine; decide)) idE))
  obtain ⟨v, rfl, r⟩ := x1.2.inv1
  obtain ⟨t, rfl⟩ := r.inv_int
  obtain ⟨u, rfl⟩ := x2.2.inv_int
  have T2 := x1.1.trans ((push_step _ x1.1.gh).trans x2.1)
  have S2 := S.step T2
  have hl : s2.heap.get? s1.heap.objs.size = some { cls := .type "list", dict := Option.none, data := .seq (List.toArray [Value.int i t]) 0, slots := #[] } := x2.1.ext _ _ (x1.1.gh.nt size_none) (Heap.get?_push_size _ rfl)
  refine wpAny_binaryOp_repeat_ref (T := "list") (U := "int") (by decide) ⟨_, hl, rfl⟩ (fun s' => typeIs_int s' j u) noFill_list_mul PySem.F.fills_int_mul PySem.F.slot_int_rmul repeat_list PySem.F.slot_int_index.lookup
    (call_meets PySem.F.slot_int_rmul (typeIs_int s2 j u) PySem.F.entry_int_rmul (PySem.F.args_int_rmul_2 _ _) (int___rmul___int_list j u s1.heap.objs.size (List.toArray [Value.int i t]) 0)
      ⟨hl, rfl, ⟨_, hl, rfl⟩, call_meets PySem.F.slot_list_mul ⟨_, hl, rfl⟩ PySem.F.entry_list_mul (PySem.F.args_list_mul_2 _ _)
        (AutoListH.list___mul___list_int_3 s1.heap.objs.size (List.toArray [Value.int i t]) 0 j u (by simp [Builtin.List.listFitsIndex]; lia) (by simp; lia) (by simp [Builtin.List.listTooLong, sizeLine]; lia))
        ⟨hl, T2.trans (push_step _ T2.gh), ?_⟩⟩)
  have e : (List.foldl (fun x1 x2 => x1 ++ x2) #[] (List.replicate (if (List.toArray [Value.int i t]).isEmpty = true then 0 else j.toNat) (List.toArray [Value.int i t]))) = (List.replicate j.toNat (Value.int i t)).toArray := by
    rw [listMul_foldl]
    simp
  rw [e]
  refine rep_newList S2.gh (S2.prf size_none) ?_
  have : ∀ n : Nat, c.RepL (c.pr ρ F m) s2.heap (List.replicate n (Value.int i t)) (List.replicate n (D.int i)) := fun n => by
    induction n with
    | zero => exact .nil
    | succ n ih => exact .cons .int ih
  exact this _⟩
end
end Mine

set_option linter.unusedVariables false
namespace Mine
open PySem PyProof.Rows PySem.W PyProof.V
section
variable {m m' : Md} {c : Cx} {ρ : Rho} {e e1 e2 : Expr} {d : D} {ds : List D} {pos px : Pos} {x : Str} {i : Int}
theorem Ev.nameOwnM {a : Addr} (hm : m ≠ .s) (e : ρ.lookup x = some (.own a ds)) (hk : isBound c.env x = true) : Ev m c ρ (.Name x px) (.list ds) := by
  cases m with
  | s => exact absurd rfl hm
  | w => exact Ev.nameOwn e hk
  | n => exact (Ev.nameOwn e hk).no
theorem Ev.itemF (h1 : Ev .n c ρ e1 (.list ds)) (h2 : Ev .n c ρ e2 (.int i)) (h0 : 0 ≤ i) (hx : ds[i.toNat]? = some d) (hz : i < 2 ^ 63) (hn : noSlice e2 = true) (hf : flat d = true) : Ev m c ρ (.Subscript e1 e2 pos) d :=
  (Ev.item h1 h2 h0 hx hz hn).up hf

variable {ext ρ2 : Rho} {N : Rho → Prop} {R : D → Prop} {ss : List Stmt}
theorem lookup_app {y : Str} {b : B} : ∀ {ρ : Rho}, ρ.lookup y = some b → (ρ ++ ext).lookup y = some b
  | (z, q) :: r, h => by
    rw [List.cons_append]
    rw [List.lookup_cons] at h ⊢
    cases hz : y == z with
    | true => rw [hz] at h; exact h
    | false => rw [hz] at h; exact lookup_app h
theorem owns_app (ρ : Rho) : owns (ρ ++ ext) = owns ρ ++ owns ext := by unfold owns; exact List.flatMap_append
/-- the newest names are forgotten -/
theorem Ex.nilF (h : N ρ2) (ho : owns ext = []) : Ex c (ρ2 ++ ext) [] N R := ⟨fun F h₀ s S => wpAny_execs_nil ⟨ρ2, h, S.forget (by rw [owns_app, ho, List.append_nil]) fun y b e => lookup_app e⟩⟩
theorem Ex.forget (h : Ex c ρ2 ss N R) (ho : owns ext = []) : Ex c (ρ2 ++ ext) ss N R := ⟨fun F h₀ s S => h.out F h₀ s (S.forget (by rw [owns_app, ho, List.append_nil]) fun y b e => lookup_app e)⟩
theorem Ev.nameOwndM {a : Addr} {l : List (Str × Int)} (hm : m ≠ .s) (e : ρ.lookup x = some (.ownd a l)) (hk : isBound c.env x = true) : Ev m c ρ (.Name x px) (.dict l) := by
  cases m with
  | s => exact absurd rfl hm
  | w => exact Ev.nameOwnd e hk
  | n => exact (Ev.nameOwnd e hk).no
end
end Mine

set_option linter.unusedVariables false
namespace Mine
open PySem PyProof.Rows PySem.W PyProof.V
section
variable {m m1 m2 : Md} {c : Cx} {ρ ρ2 : Rho} {F : Addr → Prop} {h₀ h₁ : Heap} {s s' : Shared} {e e1 e2 : Expr} {d d1 d2 : D} {ds ds' : List D} {pos px : Pos} {x y : Str} {N : Rho → Prop} {R : D → Prop} {ss rest : List Stmt}
theorem mu_sub (ho : (owns ρ2).Sublist (owns ρ)) : (c.mu ρ2).Sublist (c.mu ρ) := .cons_cons _ ((List.Sublist.refl _).append ho)
/-- names may be forgotten, the frame's own lists too -/
theorem St.forgetS (S : St c F h₀ ρ s) (ho : (owns ρ2).Sublist (owns ρ)) (h : ∀ y b, ρ2.lookup y = some b → ρ.lookup y = some b) : St c F h₀ ρ2 s where
  gh := S.gh
  ext := S.ext
  gens := S.gens
  os := S.os
  rm := S.rm
  lim := S.lim
  kf := S.kf
  gn := S.gn
  bn := S.bn
  fF := S.fF
  fr := let ⟨m, hm, hv⟩ := S.fr; ⟨m, hm, fun y b e hk => let ⟨v, h1, h2⟩ := hv y b (h y b e) hk; ⟨v, h1, RepB.mono h2 (fun a o p _ e => ⟨⟨fun hm => p.1 ((mu_sub ho).subset hm), p.2⟩, e⟩) fun _ _ _ e => e⟩⟩
  ce := fun y b e hk => let ⟨q, v, h1, h2, h3⟩ := S.ce y b (h y b e) hk; ⟨q, v, h1, h2, RepB.mono h3 (fun a o p _ e => ⟨⟨fun hm => p.1 ((mu_sub ho).subset hm), p.2⟩, e⟩) fun _ _ _ e => e⟩
  cs := S.cs
  nd := S.nd.sublist (mu_sub ho)
  ex := fun a ha => S.ex a ((mu_sub ho).subset ha)
theorem Ex.nilH {ext : Rho} (e : ρ = ρ2 ++ ext) (h : N ρ2) : Ex c ρ [] N R := ⟨fun F h₀ s S => by
  subst e
  exact wpAny_execs_nil ⟨ρ2, h, S.forgetS (by rw [owns_app]; exact List.sublist_append_left _ _) fun y b e => lookup_app e⟩⟩
/-- the sum of two lists of flat things is a new list -/
theorem Ev.addFlat (h1 : Ev m1 c ρ e1 (.list ds)) (h2 : Ev m2 c ρ e2 (.list ds')) (f1 : ds.all flat = true) (f2 : ds'.all flat = true) (hz : ds.length + ds'.length ≤ sizeLine) : Ev m c ρ (.BinOp e1 .Add e2 pos) (.list (ds ++ ds')) := ⟨fun F h₀ s S =>
  wpAny_BinOp (wpAny_mono (h1.out F h₀ s S) (fun v1 s1 x1 => wpAny_mono (h2.out F h₀ s1 (S.step x1.1)) (fun v2 s2 x2 => by
    have S2 := S.step (x1.1.trans x2.1)
    obtain ⟨a, vs, rfl, p, n, hl, r⟩ := (x1.2.ext x2.1.ext).inv_list
    obtain ⟨b, ws, rfl, p', n', hb, r'⟩ := x2.2.inv_list
    obtain ⟨⟨cls, dd, data, sl⟩, ho, hc, k, hd⟩ := id hl
    obtain ⟨⟨cls2, dd2, data2, sl2⟩, ho2, hc2, k2, hd2⟩ := id hb
    simp only at hc hd hc2 hd2
    subst hc hd hc2 hd2
    have e : vs.toArray ++ ws.toArray = (vs ++ ws).toArray := by simp
    refine concat_meets ⟨_, ho, rfl⟩ ⟨_, ho2, rfl⟩ noFill_list_add seq_list_add PySem.F.slot_list_add PySem.F.entry_list_add (PySem.F.args_list_add_2 _ _) (list_addW a b vs.toArray ws.toArray k k2 dd dd2 sl sl2 (by simpa [r.length, r'.length] using hz)) ⟨ho, ho2, ?_⟩
    rw [e]
    exact ⟨x1.1.trans (x2.1.trans (push_step _ S2.gh)), rep_newList S2.gh (S2.prf size_none) ((r.up f1).append (r'.up f2))⟩) idE) idE)⟩
theorem flat_ints (l : List Int) : (l.map D.int).all flat = true := by
  rw [List.all_eq_true]
  intro d hd
  obtain ⟨i, _, rfl⟩ := List.mem_map.mp hd
  rfl
end
end Mine

set_option linter.unusedVariables false
set_option maxRecDepth 100000
namespace Mine
open PySem PyProof.Rows PySem.W PyProof.V
section
variable {m m1 m2 : Md} {c : Cx} {ρ ρ2 : Rho} {F : Addr → Prop} {h₀ h₁ : Heap} {s s' : Shared} {e e1 e2 : Expr} {d d1 d2 : D} {ds ds' : List D} {pos px ps : Pos} {x y : Str} {N : Rho → Prop} {R : D → Prop} {ss rest : List Stmt}

/-! the ground is laid anew: all that stands and that the frame does not change -/
theorem GH.sub {g g' h : Heap} (x : GH g' h) (hs : ∀ a o, g.get? a = some o → g'.get? a = some o) : GH g h := ⟨fun a o e => x.keep a o (hs a o e), x.t30, x.t37⟩
noncomputable def Cx.mine (c : Cx) (ρ : Rho) : List Addr := c.env.locals :: (([] ++ c.ex) ++ owns ρ)
noncomputable def Cx.re (c : Cx) (ρ : Rho) (h : Heap) : Cx := { c with own := false, g := hideAll h (30 :: 37 :: c.mine ρ) }
theorem Cx.re_mu (c : Cx) (ρ : Rho) (h : Heap) : (c.re ρ h).mu ρ = c.mine ρ := rfl
theorem Cx.mine_sub (c : Cx) (ρ : Rho) : (c.mine ρ).Sublist (c.mu ρ) := by
  unfold Cx.mine Cx.mu Cx.mcs
  exact .cons_cons _ (((List.nil_sublist _).append (List.Sublist.refl _)).append (List.Sublist.refl _))
theorem St.reSub (S : St c F h₀ ρ s) (n30 : c.g.get? 30 = none) (n37 : c.g.get? 37 = none) : ∀ a o, c.g.get? a = some o → (c.re ρ s.heap).g.get? a = some o := fun a o e =>
  hideAll_get _ (S.gh.keep a o e) fun hm => by
    rcases List.mem_cons.mp hm with q | hm
    · rw [q, n30] at e; cases e
    rcases List.mem_cons.mp hm with q | hm
    · rw [q, n37] at e; cases e
    have := (S.ex a ((c.mine_sub ρ).subset hm)).2.2.1
    rw [this] at e; cases e
theorem St.reg (S : St c F h₀ ρ s) {a : Addr} {o : Obj} (e : s.heap.get? a = some o) (n : Nt a) (hm : a ∉ c.mine ρ) : (c.re ρ s.heap).g.get? a = some o := hideAll_get _ e fun h => by
  rcases List.mem_cons.mp h with q | h
  · exact n.1 q
  rcases List.mem_cons.mp h with q | h
  · exact n.2 q
  exact hm h
theorem St.re (S : St c F h₀ ρ s) (n30 : c.g.get? 30 = none) (n37 : c.g.get? 37 = none) : St (c.re ρ s.heap) F h₀ ρ s where
  gh := ⟨fun a o e => of_hideAll _ e, S.gh.t30, S.gh.t37⟩
  ext := S.ext
  gens := S.gens
  os := S.os
  rm := S.rm
  lim := S.lim.keeps (S.reSub n30 n37)
  kf := S.kf
  gn := S.gn.keeps (S.reSub n30 n37)
  bn := S.bn.keeps (S.reSub n30 n37)
  fF := S.fF
  fr := let ⟨m, hm, hv⟩ := S.fr; ⟨m, hm, fun y b e hk => let ⟨v, h1, h2⟩ := hv y b e hk; ⟨v, h1, RepB.mono (c := c) h2 (fun a o p _ e => ⟨⟨fun hm => p.1 ((c.mine_sub ρ).subset hm), p.2⟩, e⟩) fun _ _ _ e => e⟩⟩
  ce := fun y b e hk => let ⟨q, v, h1, h2, h3⟩ := S.ce y b e hk; ⟨q, v, h1, h2, RepB.mono (c := c) h3 (fun a o p _ e => ⟨⟨fun hm => p.1 ((c.mine_sub ρ).subset hm), p.2⟩, e⟩) fun _ _ _ e => e⟩
  cs := S.cs
  nd := S.nd.sublist (c.mine_sub ρ)
  ex := fun a ha => by
    obtain ⟨h1, h2, h3, h4⟩ := S.ex a ((c.mine_sub ρ).subset ha)
    exact ⟨h1, h2, hideAll_none _ (.tail _ (.tail _ ha)), h4⟩

/-- a callee has changed a list of the frame's -/
theorem St.stepBut (S : St c F h₀ ρ s) {a : Addr} {vs' : List Value} (hl : ρ.lookup x = some (.own a ds)) (hk : ∀ b o, b ≠ a → Nt b → s.heap.get? b = some o → s'.heap.get? b = some o) (G : GH c.g s'.heap)
    (hgens : s'.gens = s.gens) (hos : s'.os = s.os) (hp : s'.heap.PlainList a vs'.toArray) (r : c.RepL (c.ok F ρ) s'.heap vs' ds') : St c F h₀ (ρ.set x (.own a ds')) s' :=
  S.stepB hl rfl rfl hk G hgens hos (let ⟨_, e⟩ := hp; ⟨_, e⟩) ⟨rfl, vs', hp, r⟩

/-- an own list, as it stands -/
theorem St.ownAt (S : St c F h₀ ρ s) {a : Addr} (hl : ρ.lookup x = some (.own a ds)) : ∃ vs, s.heap.PlainList a (List.toArray vs) ∧ c.RepL (c.ok F ρ) s.heap vs ds := by
  by_cases hk : c.env.kindOf x = some .local
  · obtain ⟨m, _, hv⟩ := S.fr
    obtain ⟨v, _, h2⟩ := hv x _ hl hk
    obtain ⟨_, vs, hp, r⟩ := h2
    exact ⟨vs, hp, r⟩
  · obtain ⟨q, v, _, _, h2⟩ := S.ce x _ hl hk
    obtain ⟨_, vs, hp, r⟩ := h2
    exact ⟨vs, hp, r⟩

/-- a new list of flat things becomes the frame's own -/
theorem Ex.assignFresh (he : ∀ F h₀ s, St c F h₀ ρ s → wpAny c.M c.A (eval e c.env) (fun v s' => ∃ a vs, v = .ref a ∧ s.heap.get? a = Option.none ∧ Step c.g s s' ∧ s'.heap.PlainList a (List.toArray vs) ∧ c.RepL (c.pr ρ F .s) s'.heap vs ds) Nv s)
    (hf : ds.all flat = true) (hk : canStore c x = true) (hs : swapsWith e (some (.Name x px)) pos.line c.env = pure false) (k : ∀ a, Ex c (ρ.set x (.own a ds)) rest N R) : Ex c ρ (.Assign [.Name x px] e pos :: rest) N R := ⟨fun F h₀ s S =>
  wpAny_execs_cons (wpAny_Assign_Name (wpAny_mono (he F h₀ s S) (fun v s1 ⟨a, vs, hv, hn, T, hp, r⟩ => by
    subst hv
    refine S.put T (b := .own a ds) hk ⟨rfl, vs, hp, r.up hf⟩ ?_ fun s' S' => (k a).out F h₀ s' S'
    intro a' ha'
    have : a' = a := by simpa [B.at] using ha'
    subst this
    obtain ⟨n, e⟩ := hp
    exact ⟨hn, _, e⟩) idE) hs)⟩
/-- [e] * n as a new list -/
theorem rep_fresh {pl : Pos} {i j : Int} (h1 : Ev m c ρ e (.int i)) (h2 : Ev m c ρ e2 (.int j)) (hn : noStar e = true) (h0 : 0 ≤ j) (hz : j ≤ 16777216) (F : Addr → Prop) (h₀ : Heap) (s : Shared) (S : St c F h₀ ρ s) :
    wpAny c.M c.A (eval (.BinOp (.List [e] pl) .Mult e2 pos) c.env) (fun v s' => ∃ a vs, v = .ref a ∧ s.heap.get? a = Option.none ∧ Step c.g s s' ∧ s'.heap.PlainList a (List.toArray vs) ∧ c.RepL (c.pr ρ F .s) s'.heap vs (List.replicate j.toNat (.int i))) Nv s := by
  refine wpAny_BinOp (List_ (wpAny_mono ((EvL.cons (pos := pl) h1 EvL.nil hn).out F h₀ s S) (fun vs s1 x1 => newList_ (wpAny_mono (h2.out F h₀ _ ((S.step x1.1).step (push_step _ x1.1.gh))) (fun v2 s2 x2 => ?_) idE) (by rw [x1.2.length]; show 1 ≤ sizeLine; decide)) idE))
  obtain ⟨v, rfl, r⟩ := x1.2.inv1
  obtain ⟨t, rfl⟩ := r.inv_int
  obtain ⟨u, rfl⟩ := x2.2.inv_int
  have T2 := x1.1.trans ((push_step _ x1.1.gh).trans x2.1)
  have S2 := S.step T2
  have hl : s2.heap.get? s1.heap.objs.size = some { cls := .type "list", dict := Option.none, data := .seq (List.toArray [Value.int i t]) 0, slots := #[] } := x2.1.ext _ _ (x1.1.gh.nt size_none) (Heap.get?_push_size _ rfl)
  refine wpAny_binaryOp_repeat_ref (T := "list") (U := "int") (by decide) ⟨_, hl, rfl⟩ (fun s' => typeIs_int s' j u) noFill_list_mul PySem.F.fills_int_mul PySem.F.slot_int_rmul repeat_list PySem.F.slot_int_index.lookup
    (call_meets PySem.F.slot_int_rmul (typeIs_int s2 j u) PySem.F.entry_int_rmul (PySem.F.args_int_rmul_2 _ _) (int___rmul___int_list j u s1.heap.objs.size (List.toArray [Value.int i t]) 0)
      ⟨hl, rfl, ⟨_, hl, rfl⟩, call_meets PySem.F.slot_list_mul ⟨_, hl, rfl⟩ PySem.F.entry_list_mul (PySem.F.args_list_mul_2 _ _)
        (AutoListH.list___mul___list_int_3 s1.heap.objs.size (List.toArray [Value.int i t]) 0 j u (by simp [Builtin.List.listFitsIndex]; lia) (by simp; lia) (by simp [Builtin.List.listTooLong, sizeLine]; lia))
        ⟨hl, ?_⟩⟩)
  have e : (List.foldl (fun x1 x2 => x1 ++ x2) #[] (List.replicate (if (List.toArray [Value.int i t]).isEmpty = true then 0 else j.toNat) (List.toArray [Value.int i t]))) = (List.replicate j.toNat (Value.int i t)).toArray := by
    rw [listMul_foldl]
    simp
  rw [e]
  refine ⟨s2.heap.objs.size, List.replicate j.toNat (Value.int i t), rfl, ?_, T2.trans (push_step _ T2.gh), ⟨_, Heap.get?_push_size _ rfl⟩, ?_⟩
  · cases q : s.heap.get? s2.heap.objs.size with
    | none => rfl
    | some o =>
      have := T2.ext _ o (S2.gh.nt size_none) q
      rw [size_none] at this; cases this
  · have : ∀ (h : Heap) (n : Nat), c.RepL (c.pr ρ F .s) h (List.replicate n (Value.int i t)) (List.replicate n (D.int i)) := fun h n => by
      induction n with
      | zero => exact .nil
      | succ n ih => exact .cons .int ih
    exact this _ _

/-- a plain list's item is stored: the list stays plain -/
theorem setItem_plain {prog : Program} {w : World} {A : Around} {E : Value → Shared → Prop} {a : Addr} {vs : List Value} {n : Nat} {k : Int} {t : Tok} {v : Value} {Q : Unit → Shared → Prop}
    (hl : s.heap.get? a = some { cls := .type "list", dict := Option.none, data := .seq (List.toArray vs) n, slots := #[] }) (h0 : 0 ≤ k) (hz : k < 2 ^ 63) (hj : k < vs.length)
    (hQ : ∀ h', h'.PlainList a (List.toArray (vs.set k.toNat v)) → Heap.SameBut a s.heap h' → Q () { s with heap := h' }) : wpAny (model prog w) A (setItem (.ref a) (.int k t) v) Q E s := by
  have hil : s.heap.IsList a (List.toArray vs) := ⟨_, hl, rfl, n, rfl⟩
  have hty := hil.typeIs
  have hfit := fitsIndex_of h0 hz
  unfold setItem
  try with_reducible refine wpAny_holding ?_
  first | refine wpAny_bind (wpAny_pure ?_) | skip
  refine wpAny_bind (wpAny_sequenceKey hty (by decide) ?_)
  refine wpAny_bind (wpAny_callSpecial?_slot (name := Str.ofString "__setitem__") hty slot_list_setitem (wpAny_call_entry slot_list_setitem hty entry_list_setitem ?_ (args_list_setitem _ _ _)))
  show wpAny _ _ (Builtin.List.listSubscript? (.int k t) >>= _) _ _ s
  refine wpAny_bind (wpAny_listSubscript_int hfit ?_)
  clear hz hfit
  obtain ⟨j, rfl⟩ := Int.eq_ofNat_of_zero_le h0
  have hj' : j < vs.length := by lia
  have hat : (List.toArray vs)[j]? = some vs[j] := by simp [hj']
  show wpAny _ _ ((seqItemAt a j >>= fun r => pure (r.map (j, ·))) >>= _) _ _ s
  refine wpAny_bind (wpAny_bind (wpAny_seqItemAt hl rfl (wpAny_pure ?_)))
  rw [hat]
  show wpAny _ _ (setSeqItemAt a j v >>= _) _ _ s
  have hnew : (s.heap.update a (Obj.mapSeq (·.setIfInBounds j v))).PlainList a (List.toArray (vs.set j v)) := by
    refine ⟨n, ?_⟩
    rw [Heap.get?_update_self _ hl rfl]
    simp [Obj.mapSeq]
  refine wpAny_bind (wpAny_setSeqItemAt hl rfl ?_)
  first
    | exact wpAny_bind (wpAny_pure (wpAny_pure ⟨.none, rfl, wpAny_pure (hQ _ hnew (Heap.SameBut.update ..))⟩))
    | exact wpAny_pure ⟨.none, rfl, wpAny_pure (hQ _ hnew (Heap.SameBut.update ..))⟩

theorem RepL.setR {prog : Program} {w : World} {P : Addr → Prop} {h : Heap} {v : Value} {d : D} : ∀ {vs : List Value} {ds : List D} {j : Nat}, RepL prog w P h vs ds → Rep prog w P h v d → RepL prog w P h (vs.set j v) (ds.set j d)
  | _, _, _, .nil, _ => .nil
  | _, _, 0, .cons r rs, q => .cons q rs
  | _, _, j + 1, .cons r rs, q => .cons r (RepL.setR rs q)
/-- a place of an own list is stored -/
theorem St.setItem (S : St c F h₀ ρ s) {a : Addr} {i : Int} (h1 : ρ.lookup x = some (.own a ds)) (hb : isBound c.env x = true) (hv : Ev .s c ρ e d) (hi : Ev m c ρ e2 (.int i)) (h0 : 0 ≤ i) (hlt : i < ds.length) (hz : i < 2 ^ 63)
    (hs : swapsWith e (some (.Subscript (.Name x px) e2 ps)) pos.line c.env = pure false) {Q : Flow → Shared → Prop}
    (hQ : ∀ s', St c F h₀ (ρ.set x (.own a (ds.set i.toNat d))) s' → Q .next s') : wpAny c.M c.A (exec (.Assign [.Subscript (.Name x px) e2 ps] e pos) c.env) Q Nv s := by
  refine wpAny_Assign_Subscript (wpAny_mono (hv.out F h₀ s S) (fun v s1 x1 => ?_) idE) hs
  have S1 := S.step x1.1
  refine wpAny_Name (S1.load h1 (isBound_kind hb).1 (isBound_kind hb).2.1 fun vl r => wpAny_mono (hi.out F h₀ s1 S1) (fun v2 s2 x2 => ?_) idE) (isBound_kind hb).2.2
  obtain ⟨t2, rfl⟩ := x2.2.inv_int
  obtain ⟨rfl, vs, ⟨k, hp⟩, r⟩ := r
  have S2 := S1.step x2.1
  have ham : a ∈ c.mu ρ := S.own_mu h1 a (.head _)
  have hp2 := x2.1.ext a _ (S.ex a ham).1 hp
  have hlen : vs.length = ds.length := r.length
  refine setItem_plain hp2 h0 hz (by lia) fun h' hp' hs' => ?_
  refine hQ _ (S2.mutate (tk := s2.toks) (vs' := vs.set i.toNat v) h1 hs' hp' ?_)
  exact (r.ext x2.1.ext).setR (x1.2.ext x2.1.ext)
end
end Mine

set_option linter.unusedVariables false
set_option maxRecDepth 100000
namespace Mine
open PySem PyProof.Rows PySem.W PyProof.V
section
variable {m m1 m2 : Md} {c : Cx} {ρ ρ2 : Rho} {F : Addr → Prop} {h₀ h₁ : Heap} {s s' : Shared} {e e1 e2 : Expr} {d d1 d2 : D} {ds ds' : List D} {pos px ps : Pos} {x y : Str} {N : Rho → Prop} {R : D → Prop} {ss rest : List Stmt}

/-- a cell of the frame's own, whose name ρ does not tell, is stored -/
theorem St.storeCell (S : St c F h₀ ρ s) {q : Addr} {v : Value} (hk : c.env.kindOf x = some .cell) (hq : c.env.cells.lookup x = some q) (hown : c.own = true) (hx : ρ.lookup x = Option.none) {Q : Unit → Shared → Prop}
    (hQ : ∀ s', St c F h₀ ρ s' → s'.heap.IsCell q (some v) → (∀ a o, a ≠ q → s.heap.get? a = some o → s'.heap.get? a = some o) → Q () s') : wpAny c.M c.A (storeName c.env x v) Q Nv s := by
  have hmc : c.mcs = c.env.cells.map (·.2) ++ c.ex := by unfold Cx.mcs; rw [if_pos hown]
  have hqm : q ∈ c.mcs := by rw [hmc]; exact List.mem_append_left _ <| List.mem_map.mpr ⟨(x, q), mem_of_lookup hq, rfl⟩
  have hmu : q ∈ c.mu ρ := mem_mu.mpr (.inr (.inl hqm))
  have hnd := S.nd
  unfold Cx.mu at hnd
  have hn1 := List.nodup_cons.mp hnd
  have hn2 := List.nodup_append.mp hn1.2
  have hqL : q ≠ c.env.locals := fun z => hn1.1 (z ▸ List.mem_append_left _ hqm)
  have hqo : q ∉ owns ρ := fun h => hn2.2.2 q hqm q h rfl
  have hcn : (c.env.cells.map (·.2)).Nodup := by
    have h2 := hn2.1
    rw [hmc] at h2
    exact (List.nodup_append.mp h2).1
  obtain ⟨n, v₀, o, e2, e3⟩ := S.cs x q hq
  refine wpAny_storeName_cell S.kf hk hq ⟨o, e2, e3⟩ fun h' hcl hs => hQ _ ?_ hcl fun a o' hne e => (hs.2 a hne).trans e
  have up : ∀ {y b' v'}, ρ.lookup y = some b' → RepB c (c.ok F ρ) s.heap v' b' → RepB c (c.ok F ρ) h' v' b' := fun e r =>
    r.mono (fun a' o p n e' => ⟨p, (hs.2 a' fun z => p.1 (z ▸ hmu)).trans e'⟩) fun a' ha' o e' => (hs.2 a' fun z => hqo (z ▸ mem_owns e a' ha')).trans e'
  refine ⟨S.gh.sameBut hs e2 (fun vs e => by rw [e3] at e; cases e) (S.ex q hmu).2.2.1, fun a' o' n e' => (hs.2 a' fun z => ?_).trans (S.ext a' o' n e'), S.gens, S.os, S.rm, S.lim, S.kf, S.gn, S.bn, S.fF, ?_, ?_, ?_, S.nd, ?_⟩
  · rw [z, (S.ex q hmu).2.1] at e'; cases e'
  · obtain ⟨m, hm, hv⟩ := S.fr
    exact ⟨m, hm.sameBut hs (Ne.symm hqL), fun y b' e hk => let ⟨v', h1, h2⟩ := hv y b' e hk; ⟨v', h1, up e h2⟩⟩
  · intro y b' e hky
    obtain ⟨q', v', h1, ⟨o', h2, h3⟩, h4⟩ := S.ce y b' e hky
    refine ⟨q', v', h1, ⟨o', (hs.2 _ fun z => ?_).trans h2, h3⟩, up e h4⟩
    have := cells_inj hcn h1 (z ▸ hq)
    rw [this, hx] at e; cases e
  · intro y q' e
    obtain ⟨n', v', h2⟩ := S.cs y q' e
    by_cases hy : q' = q
    · exact ⟨n', some v, hy ▸ hcl⟩
    · exact ⟨n', v', h2.sameBut hs hy⟩
  · intro a' ha'
    obtain ⟨h1, h2, h3, o', h4⟩ := S.ex a' ha'
    refine ⟨h1, h2, h3, ?_⟩
    by_cases q' : a' = q
    · obtain ⟨o2, e4, _⟩ := hcl; exact ⟨o2, q' ▸ e4⟩
    · exact ⟨o', (hs.2 a' q').trans h4⟩

/-- a nested def is made: its code is new, or stands in the table -/
theorem makeNest {P cc : Addr} {line col : Nat} {name qual qual' : Str} {params : Arguments} {body : List Stmt} {scope : Scope} {clos : List (Str × Addr)} {firstLine : Nat} (hqq : qual' = qual) (S : St c F h₀ ρ s)
    (hT : TabOk s.heap P line col qual) (hG : ∀ h', Heap.ExtBut P s.heap h' → TabOk h' P line col qual → GH c.g h') (hline : pos.line = line) (hcol : pos.col = col)
    (hcl : closureFor scope c.env = pure clos) (hge : c.env.globals = mainGlobals) (hcode : c.env.code = .ref cc) (C : CodeHd c.g cc P)
    (bm : ∃ bm ob, c.mg "__builtins__" = some (.ref bm) ∧ bm ≠ builtinsNs ∧ c.g.get? bm = some ob ∧ ob.cls = .type "module" ∧ ob.dict = some builtinsNs ∧ ob.data = .plain) (hP : ¬ Nt P) :
    wpAny c.M c.A (makeFunction name qual' params (.stmts body) scope c.env [] [] [] pos firstLine) (fun v s' => ∃ f c' ctv doc, v = .ref f ∧ Step c.g s s' ∧ s.heap.get? f = Option.none ∧
      s'.heap.get? f = some (fnMade name qual params body scope clos doc ((c.mg "__name__").getD .none) c' ctv) ∧ s'.heap.CodeRec (.ref c') qual ∧ Nt c') Nv s := by
  subst hqq
  have hgn : s.heap.Ns mainGlobals c.mg := by rw [← hge]; exact S.gn.keeps S.gh.keep
  obtain ⟨ps, hps⟩ := hT.at
  obtain ⟨bm, ob, b1, b2, b3, b4, b5, b6⟩ := bm
  have b3' := S.gh.keep _ _ b3
  have hgP : mainGlobals ≠ P := fun q => by
    obtain ⟨o, es, ep, e, hd, _⟩ := hgn
    rw [q, hps] at e; cases e; cases hd
  have hbP : bm ≠ P := fun q => by rw [q, hps] at b3'; cases b3'; cases b4
  have hbG : bm ≠ mainGlobals := fun q => by
    obtain ⟨o, es, ep, e, hd, _⟩ := hgn
    rw [q, e] at b3'; cases b3'; rw [hd] at b6; cases b6
  have hC := C.keeps S.gh.keep
  have hB : s.heap.BuiltinsAt c.mg P := ⟨bm, ob, b1, b2, hbG, hbP, b3', b4, b5, b6⟩
  have old : ∀ {h' : Heap} {a : Addr}, s.heap.objs.size ≤ a → s.heap.get? a = Option.none := fun ha => Heap.get?_none_of_le ha
  rcases hT with hT | ⟨c', hT, hrec, nc⟩
  · refine makeFunction_K (mg := c.mg) hcl hge hgn hcode hC hT (by exact True.intro) rfl hgP hB fun c' ctv doc h' tk hx hge' hlt hrec htb => ?_
    have nc : Nt c' := S.gh.nt (Heap.get?_none_of_le hge')
    have htb' : h'.get? P = some (tabObj #[rawInt line, rawInt col, .ref c']) := by rw [← hline, ← hcol]; simpa using htb
    have G' := hG h' hx (.inr ⟨c', htb', hrec, nc⟩)
    have hsz : s.heap.objs.size ≤ h'.objs.size := Nat.le_of_lt (Nat.lt_of_le_of_lt hge' hlt)
    refine ⟨h'.objs.size, c', ctv, doc, rfl, ⟨fun a o n e => Heap.get?_push_of_some _ (hx a o (fun q => hP (q ▸ n)) e), G'.mono fun b o e => Heap.get?_push_of_some _ e, rfl, rfl⟩, Heap.get?_none_of_le hsz, Heap.get?_push_size _ rfl, ?_, nc⟩
    obtain ⟨c2, o2, vs, tq, e1, e2, e3, e4⟩ := hrec
    exact ⟨c2, o2, vs, tq, e1, Heap.get?_push_of_some _ e2, e3, e4⟩
  · refine makeFunction_hit (mg := c.mg) (cv := .ref c') hcl hge hgn hcode hC hT ?_ ?_ hB fun ctv doc h' tk hk hsz => ?_
    · simp [TriplesOk, rawInt]
    · simp [codeAmong, rawInt, hline, hcol]
    · refine ⟨h'.objs.size, c', ctv, doc, rfl, ⟨fun a o n e => Heap.get?_push_of_some _ (hk a o e), S.gh.mono fun b o e => Heap.get?_push_of_some _ (hk b o e), rfl, rfl⟩, Heap.get?_none_of_le hsz, Heap.get?_push_size _ rfl, ?_, nc⟩
      obtain ⟨c2, o2, vs, tq, e1, e2, e3, e4⟩ := hrec
      exact ⟨c2, o2, vs, tq, e1, Heap.get?_push_of_some _ (hk _ _ e2), e3, e4⟩
theorem gh30 {g h h' : Heap} (G : GH g h) (n : g.get? 30 = Option.none) (hx : Heap.ExtBut 30 h h') (T : TabOk h' 30 32 4 "_int2digits.<locals>.inner") : GH g h' :=
  ⟨fun a o e => hx a o (fun q => by rw [q, n] at e; cases e) (G.keep a o e), T, G.t37.mono (fun o e => hx 37 o (by decide) e) fun c o nt e _ => hx c o nt.1 e⟩
theorem gh37 {g h h' : Heap} (G : GH g h) (n : g.get? 37 = Option.none) (hx : Heap.ExtBut 37 h h') (T : TabOk h' 37 47 4 "_digits2int.<locals>.inner") : GH g h' :=
  ⟨fun a o e => hx a o (fun q => by rw [q, n] at e; cases e) (G.keep a o e), G.t30.mono (fun o e => hx 30 o (by decide) e) fun c o nt e _ => hx c o nt.2 e, T⟩
end
end Mine

set_option linter.unusedVariables false
set_option maxRecDepth 100000
namespace Mine
open PySem PyProof.Rows PySem.W PyProof.V

/-- the frame of a closure's call: its cells are the maker's -/
noncomputable def frameC (prog : Program) (w : World) (g : Heap) (os : OsState) (mg mb : Str → Option Value) (fd : FuncData) (f : Addr) (k : Nat) (A : Around) (L : Addr) : Cx :=
  { prog, w, g, os, mg, mb, A := A.deeper (callEnv fd L f), env := callEnv fd L f, own := false, k }
noncomputable def scOk (scope : Scope) (names : List Str) : Bool :=
  scope.kind == .function && !scope.isCoroutine && !scope.isGenerator && decide names.Nodup && (scope.names.all fun x => x.2 != .cell) && names.all fun x => scope.names.lookup x == some .local

/-- what the closure has caught -/
structure Cap (prog : Program) (w : World) (g h : Heap) (fd : FuncData) (ρc : Rho) : Prop where
  cap : ∀ x b, ρc.lookup x = some b → fd.scope.names.lookup x ≠ some .local ∧ ∃ q v, fd.closure.lookup x = some q ∧ h.IsCell q (some v) ∧
    ∀ c : Cx, c.prog = prog → c.w = w → RepB c (fun a => a ∉ owns ρc ∧ ∃ o, h.get? a = some o) h v b
  clo : ∀ x q, fd.closure.lookup x = some q → Nt q ∧ ∃ v, h.IsCell q v
  nd : (owns ρc).Nodup
  ex : ∀ a ∈ owns ρc, Nt a ∧ g.get? a = none ∧ ∃ o, h.get? a = some o

theorem mem_lookup_nodup {α : Type} : ∀ {cs : List (Str × α)} {n : Str} {c : α}, (cs.map (·.1)).Nodup → (n, c) ∈ cs → cs.lookup n = some c
  | (y, v) :: r, n, c, hn, hm => by
    rw [List.map_cons, List.nodup_cons] at hn
    by_cases h : n = y
    · subst h
      rcases List.mem_cons.mp hm with e | hm
      · cases e; simp
      · exact absurd (List.mem_map_of_mem (f := (·.1)) hm) hn.1
    · rw [List.lookup_cons, beq_eq_false_iff_ne.mpr h]
      rcases List.mem_cons.mp hm with e | hm
      · cases e; exact absurd rfl h
      · exact mem_lookup_nodup hn.2 hm
theorem zip_nodup_lookup {names : List Str} {vals : List Value} (hn : names.Nodup) (hl : vals.length = names.length) {x : Str} {v : Value} (hm : (x, v) ∈ names.zip vals) : (names.zip vals).reverse.lookup x = some v := by
  have hzk : (names.zip vals).map (·.1) = names := by rw [List.map_fst_zip (by lia)]
  refine mem_lookup_nodup ?_ (List.mem_reverse.mpr hm)
  rw [List.map_reverse, hzk]
  rw [List.nodup_iff_pairwise_ne, List.pairwise_reverse]
  exact (List.nodup_iff_pairwise_ne.mp hn).imp fun h => Ne.symm h
theorem lookup_or {x : Str} {b : B} : ∀ {l r : Rho}, (l ++ r).lookup x = some b → l.lookup x = some b ∨ r.lookup x = some b
  | [], _, e => .inr e
  | (y, c) :: l, r, e => by
    rw [List.cons_append, List.lookup_cons] at e
    rw [List.lookup_cons]
    by_cases h : x = y
    · subst h
      simp only [beq_self_eq_true] at e ⊢
      exact .inl e
    · simp only [beq_eq_false_iff_ne.mpr h] at e ⊢
      exact lookup_or e

section
variable {prog : Program} {w : World} {g : Heap} {os : OsState} {mg mb : Str → Option Value} {f : Addr} {o : Obj} {fd : FuncData} {body : List Stmt} {names : List Str} {args : List D} {d : D} {k : Nat} {ρc : Rho} {A : Around} {s : Shared} {vals : List Value} {F : Addr → Prop} {h1 : Heap} {tk : Nat}

theorem St.ofCall (hlim : g.NoLimit) (hok : scOk fd.scope names = true) (hvl : vals.length = names.length) (hgn : g.Ns fd.globals mg) (hbn : g.Ns fd.builtins mb) (rm : Rm A (k + 1)) (hg : s.gens = #[]) (hos : s.os = os) (G : GH g s.heap)
    (r : RepL prog w F s.heap vals args) (hfl : args.all flat = true) (C : Cap prog w g s.heap fd ρc)
    (hns : h1.Ns s.heap.objs.size (fun x => (names.zip vals).reverse.lookup x)) (hkeep : ∀ b o, s.heap.get? b = some o → h1.get? b = some o) :
    St (frameC prog w g os mg mb fd f k A s.heap.objs.size) (fun _ => True) (hideAll s.heap (owns ρc)) (names.zip (args.map B.val) ++ ρc) { s with heap := h1, toks := tk } := by
  unfold scOk at hok
  simp only [Bool.and_eq_true, beq_iff_eq, Bool.not_eq_true', decide_eq_true_eq, List.all_eq_true] at hok
  obtain ⟨⟨⟨⟨⟨hkf, hco⟩, hgen⟩, hnd⟩, hcell⟩, hkn⟩ := hok
  have ow : owns (names.zip (args.map B.val) ++ ρc) = owns ρc := by rw [owns_app, owns_zip]; rfl
  have hmu : (frameC prog w g os mg mb fd f k A s.heap.objs.size).mu (names.zip (args.map B.val) ++ ρc) = s.heap.objs.size :: owns ρc := by
    unfold Cx.mu; rw [ow]; rfl
  have fr0 : s.heap.get? s.heap.objs.size = none := size_none
  have hLo : s.heap.objs.size ∉ owns ρc := fun h => by
    obtain ⟨_, _, o, e⟩ := C.ex _ h
    rw [fr0] at e; cases e
  have gL : g.get? s.heap.objs.size = none := by
    cases q : g.get? s.heap.objs.size with
    | none => rfl
    | some o => have := G.keep _ o q; rw [fr0] at this; cases this
  refine ⟨G.mono hkeep, fun a o _ e => hkeep a o (of_hideAll _ e), hg, hos, rm.deeper, hlim, hkf, hgn, hbn, fun _ _ => trivial, ⟨_, hns, fun x b e hk => ?_⟩, fun x b e hk => ?_, fun x q e => ?_, ?_, fun a ha => ?_⟩
  · rcases lookup_or e with e | e
    · obtain ⟨v, d', rfl, hm, hr⟩ := zip_lookup r e
      have hfd : flat d' = true := by
        have : B.val d' ∈ args.map B.val := by
          have := mem_of_lookup e
          exact (List.of_mem_zip this).2
        obtain ⟨d2, hd2, e2⟩ := List.mem_map.mp this
        cases e2
        exact List.all_eq_true.mp hfl _ hd2
      exact ⟨v, zip_nodup_lookup hnd hvl hm, (hr.mono (Q := fun _ => True) fun a o p _ e => ⟨trivial, hkeep a o e⟩).up hfd⟩
    · exact absurd hk (C.cap x b e).1
  · rcases lookup_or e with e | e
    · obtain ⟨v, d', rfl, hm, hr⟩ := zip_lookup r e
      have : x ∈ names := (List.of_mem_zip hm).1
      exact absurd (hkn x this) hk
    · obtain ⟨_, q, v, h1', h2, h3⟩ := C.cap x b e
      refine ⟨q, v, h1', h2.keeps hkeep, ?_⟩
      unfold Cx.ok; rw [hmu]
      refine RepB.mono (h3 (frameC prog w g os mg mb fd f k A s.heap.objs.size) rfl rfl) (fun a o p n e' => ⟨⟨fun hm => ?_, trivial⟩, hkeep a o e'⟩) fun a _ o e' => hkeep a o e'
      rcases List.mem_cons.mp hm with q' | hm
      · rw [q', fr0] at e'; cases e'
      · exact p.1 hm
  · obtain ⟨h2, v, h3⟩ := C.clo x q e
    exact ⟨h2, v, h3.keeps hkeep⟩
  · rw [hmu]
    exact List.nodup_cons.mpr ⟨hLo, C.nd⟩
  · rw [hmu] at ha
    rcases List.mem_cons.mp ha with q | ha
    · subst q
      obtain ⟨o, _, _, e, _⟩ := hns
      refine ⟨G.nt fr0, ?_, gL, o, e⟩
      cases q : (hideAll s.heap (owns ρc)).get? s.heap.objs.size with
      | none => rfl
      | some o => have := of_hideAll _ q; rw [fr0] at this; cases this
    · obtain ⟨h2, h3, o, h4⟩ := C.ex a ha
      exact ⟨h2, hideAll_none _ ha, h3, o, hkeep a o h4⟩

/-- a closure that changes nothing and gives back a flat thing -/
theorem FnC.intro (ho : g.get? f = some o) (hd : o.data = .func fd) (hb : fd.body = .stmts body) (hcode : g.CodeRec fd.code fd.qualname) (hlim : g.NoLimit) (hok : scOk fd.scope names = true) (hlen : names.length = args.length)
    (hbind : ∀ vals : List Value, vals.length = names.length → bindArgs fd ⟨vals, []⟩ = pure (names.zip vals)) (hgn : g.Ns fd.globals mg) (hbn : g.Ns fd.builtins mb) (hfl : args.all flat = true) (hfd : flat d = true)
    (hC : ∀ h, GH g h → Cap prog w g h fd ρc) (hρ : owns ρc = [])
    (h : ∀ A L, Ex (frameC prog w g os mg mb fd f k A L) (names.zip (args.map B.val) ++ ρc) body (fun _ => d = .none) (fun d' => d' = d)) : Fn prog w g os f (k + 1) args d := by
  intro A s vals F rm hg hos G r fF
  have hok' := hok
  unfold scOk at hok'
  simp only [Bool.and_eq_true, beq_iff_eq, Bool.not_eq_true', decide_eq_true_eq, List.all_eq_true] at hok'
  obtain ⟨⟨⟨⟨⟨hkf, hco⟩, hgen⟩, hnd⟩, hcell⟩, hkn⟩ := hok'
  have hvl : vals.length = names.length := by rw [r.length, hlen]
  refine wpAny_call (codeAny_call_plain (by have := rm.2.1; lia) (G.keep _ _ ho) hd (hlim.keeps G.keep) (hcode.keeps G.keep) hb (hbind vals hvl) (fun x hx e => ?_) (fun x hx => hkn _ (List.of_mem_zip hx).1) (fun h1 hns hkeep => ?_) hco hgen hkf)
  · have := hcell x hx
    rw [e] at this; simp at this
  have S := St.ofCall (f := f) (tk := s.toks + (names.zip vals).length) hlim hok hvl hgn hbn rm hg hos G r hfl (hC _ G) hns hkeep
  rw [hρ] at S
  refine wpAny_mono ((h A s.heap.objs.size).out _ _ _ S) (fun fl s' p => ?_) nvE
  cases fl with
  | next => obtain ⟨ρ', hd', S'⟩ := p; exact ⟨⟨S'.ext, S'.gh, S'.gens.trans hg.symm, S'.os.trans hos.symm⟩, by rw [hd']; exact .none⟩
  | ret v => obtain ⟨d', rfl, h1, h2, h3, h4, h5⟩ := p; exact ⟨⟨h2, h3, h4.trans hg.symm, h5.trans hos.symm⟩, h1.up hfd⟩
  | brk => exact False.elim p
  | cont => exact False.elim p

/-- an own list of ints -/
noncomputable def OwnL (h : Heap) (al : Addr) (ds : List Int) : Prop := ∃ vs, h.PlainList al (List.toArray vs) ∧ IntsAre vs ds
/-- a closure that stores into a list and gives back None -/
noncomputable def FnM (prog : Program) (w : World) (g : Heap) (os : OsState) (f : Addr) (k : Nat) (al : Addr) (args : List D) (ds ds' : List Int) : Prop := ∀ A s vals F, Rm A k → s.gens = #[] → s.os = os → GH g s.heap → RepL prog w F s.heap vals args →
  OwnL s.heap al ds → wpAny (model prog w) A (call (.ref f) vals) (fun v s' => v = .none ∧ (∀ b o, b ≠ al → Nt b → s.heap.get? b = some o → s'.heap.get? b = some o) ∧ GH g s'.heap ∧ s'.gens = s.gens ∧ s'.os = s.os ∧ OwnL s'.heap al ds') Nv s
structure ExM (c : Cx) (ρ : Rho) (ss : List Stmt) (N : Rho → Prop) : Prop where
  out : ∀ F h₀ s, St c F h₀ ρ s → wpAny c.M c.A (execs ss c.env) (fun fl s' => (fl = .next ∨ fl = .ret .none) ∧ ∃ ρ', N ρ' ∧ St c F h₀ ρ' s') Nv s
theorem repInts {P : Addr → Prop} {h : Heap} : ∀ {vs : List Value} {ns : List Int}, IntsAre vs ns → RepL prog w P h vs (ns.map D.int)
  | _, _, .nil => .nil
  | _, _, .cons n t r => .cons .int (repInts r)

theorem FnM.intro {al : Addr} {ds ds' : List Int} {x : Str} (ho : g.get? f = some o) (hd : o.data = .func fd) (hb : fd.body = .stmts body) (hcode : g.CodeRec fd.code fd.qualname) (hlim : g.NoLimit) (hok : scOk fd.scope names = true) (hlen : names.length = args.length)
    (hbind : ∀ vals : List Value, vals.length = names.length → bindArgs fd ⟨vals, []⟩ = pure (names.zip vals)) (hgn : g.Ns fd.globals mg) (hbn : g.Ns fd.builtins mb) (hfl : args.all flat = true)
    (hC : ∀ h, GH g h → OwnL h al ds → Cap prog w g h fd ρc) (hρ : owns ρc = [al])
    (h : ∀ A L, ExM (frameC prog w g os mg mb fd f k A L) (names.zip (args.map B.val) ++ ρc) body (fun ρ' => ρ'.lookup x = some (.own al (ds'.map D.int)))) : FnM prog w g os f (k + 1) al args ds ds' := by
  intro A s vals F rm hg hos G r hO
  have hok' := hok
  unfold scOk at hok'
  simp only [Bool.and_eq_true, beq_iff_eq, Bool.not_eq_true', decide_eq_true_eq, List.all_eq_true] at hok'
  obtain ⟨⟨⟨⟨⟨hkf, hco⟩, hgen⟩, hnd⟩, hcell⟩, hkn⟩ := hok'
  have hvl : vals.length = names.length := by rw [r.length, hlen]
  refine wpAny_call (codeAny_call_plain (by have := rm.2.1; lia) (G.keep _ _ ho) hd (hlim.keeps G.keep) (hcode.keeps G.keep) hb (hbind vals hvl) (fun x hx e => ?_) (fun x hx => hkn _ (List.of_mem_zip hx).1) (fun h1 hns hkeep => ?_) hco hgen hkf)
  · have := hcell x hx
    rw [e] at this; simp at this
  have S := St.ofCall (f := f) (tk := s.toks + (names.zip vals).length) hlim hok hvl hgn hbn rm hg hos G r hfl (hC _ G hO) hns hkeep
  rw [hρ] at S
  refine wpAny_mono ((h A s.heap.objs.size).out _ _ _ S) (fun fl s' p => ?_) nvE
  obtain ⟨hfl', ρ', hl, S'⟩ := p
  have fin : (∀ b o, b ≠ al → Nt b → s.heap.get? b = some o → s'.heap.get? b = some o) ∧ GH g s'.heap ∧ s'.gens = s.gens ∧ s'.os = s.os ∧ OwnL s'.heap al ds' := by
    refine ⟨fun b o hb n e => S'.ext b o n (hideAll_get _ e (by simpa using hb)), S'.gh, S'.gens.trans hg.symm, S'.os.trans hos.symm, ?_⟩
    obtain ⟨vs, hp, r⟩ := S'.ownAt hl
    exact ⟨vs, hp, intsAre r⟩
  rcases hfl' with rfl | rfl
  · exact ⟨rfl, fin⟩
  · exact ⟨rfl, fin⟩
end

section
variable {m m1 m2 : Md} {c : Cx} {ρ ρ2 : Rho} {F : Addr → Prop} {h₀ h₁ : Heap} {s s' : Shared} {e e1 e2 : Expr} {d d1 d2 : D} {ds ds' : List D} {pos px ps pc : Pos} {x y : Str} {N : Rho → Prop} {R : D → Prop} {ss rest body : List Stmt} {es : List Expr} {b : Bool}

theorem ExM.of (h : Ex c ρ ss N (fun _ => False)) : ExM c ρ ss N := ⟨fun F h₀ s S => wpAny_mono (h.out F h₀ s S) (fun fl s' p => by
  cases fl with
  | next => exact ⟨.inl rfl, p⟩
  | ret v => obtain ⟨d, h, _⟩ := p; exact h.elim
  | brk => exact False.elim p
  | cont => exact False.elim p) idE⟩
/-- the body stores an item and leaves -/
theorem ExM.ifStore {a : Addr} {i : Int} {pr pi : Pos} (h : ET c ρ e b) (h1 : ρ.lookup x = some (.own a ds)) (hb : isBound c.env x = true) (hv : Ev .s c ρ e1 d) (hi : Ev m c ρ e2 (.int i)) (h0 : 0 ≤ i) (hlt : b = true → i < ds.length) (hz : i < 2 ^ 63)
    (hs : swapsWith e1 (some (.Subscript (.Name x px) e2 ps)) pos.line c.env = pure false) (hN : b = true → N (ρ.set x (.own a (ds.set i.toNat d)))) (h2 : b = false → ExM c ρ rest N) :
    ExM c ρ (.If e [.Assign [.Subscript (.Name x px) e2 ps] e1 pos, .Return Option.none pr] [] pi :: rest) N := ⟨fun F h₀ s S =>
  wpAny_execs_cons (wpAny_If (wpAny_mono (h.out F h₀ s S) (fun r s1 x => by
    obtain ⟨t, rfl⟩ := x
    cases r with
    | true => exact wpAny_execs_cons ((S.step t).setItem h1 hb hv hi h0 (hlt rfl) hz hs fun s' S' => wpAny_execs_cons (wpAny_Return_none ⟨.inr rfl, _, hN rfl, S'⟩))
    | false => exact wpAny_execs_nil ((h2 rfl).out F h₀ s1 (S.step t))) idE))⟩

/-- the name of a function that stands in a cell -/
theorem St.fnName (S : St c F h₀ ρ s) {f q : Addr} (hk : c.env.kindOf x = some .cell ∨ c.env.kindOf x = some .free) (hn : (x == ("__classdict__" : Str)) = false) (hd : (x == ("__debug__" : Str)) = false)
    (hl : c.env.cells.lookup x = some q) (hq : c.g.IsCell q (some (.ref f))) {Q : Value → Shared → Prop} {E : Value → Shared → Prop} (h : Q (.ref f) s) : wpAny c.M c.A (eval (.Name x px) c.env) Q E s := by
  have hq' := hq.keeps S.gh.keep
  rcases hk with hk | hk
  · exact wpAny_Name (wpAny_loadName_cell S.kf hk hl hq' h) hd
  · exact wpAny_Name (wpAny_loadName_free S.kf hk hl hq' h hn) hd
theorem Ev.callC {f q : Addr} {k : Nat} {o : Obj} {fd : FuncData} (hk : c.env.kindOf x = some .cell ∨ c.env.kindOf x = some .free) (hn : (x == ("__classdict__" : Str)) = false) (hd : (x == ("__debug__" : Str)) = false)
    (hl : c.env.cells.lookup x = some q) (hq : c.g.IsCell q (some (.ref f))) (ho : c.g.get? f = some o) (hfd : o.data = .func fd)
    (hs : EvL m c ρ pos (e :: es) ds) (hns : noStar e = true) (hf : Fn c.prog c.w c.g c.os f k ds d) (hkk : k ≤ c.k) : Ev m c ρ (.Call (.Name x px) (e :: es) [] pos) d := ⟨fun F h₀ s S => by
  refine wpAny_Call_NameR (S.fnName hk hn hd hl hq ?_)
  refine Calls.callWith_function (o := o) (fd := fd) ?_
  have ht := (hs).out F h₀ s S
  rw [star_cons hns] at ht ⊢
  refine Calls.evalArgs_plain (wpAny_mono ht (fun vs s1 x => ⟨⟨x.1.gh.keep _ _ ho, hfd⟩, ?_⟩) idE)
  have S1 := S.step x.1
  exact wpAny_mono (hf c.A s1 vs _ (S.rm.le hkk) S1.gens S1.os S1.gh x.2 S1.prfresh) (fun v s2 x2 => ⟨x.1.trans x2.1, x2.2⟩) idE⟩
theorem Ex.callM {f q al : Addr} {k : Nat} {o : Obj} {fd : FuncData} {is is' : List Int} {y : Str} (hk : c.env.kindOf x = some .cell ∨ c.env.kindOf x = some .free) (hn : (x == ("__classdict__" : Str)) = false) (hd : (x == ("__debug__" : Str)) = false)
    (hl : c.env.cells.lookup x = some q) (hq : c.g.IsCell q (some (.ref f))) (ho : c.g.get? f = some o) (hfd : o.data = .func fd) (h1 : ρ.lookup y = some (.own al (is.map D.int)))
    (hs : EvL m c ρ pc (e :: es) ds) (hns : noStar e = true) (hf : FnM c.prog c.w c.g c.os f k al ds is is') (hkk : k ≤ c.k) (kk : Ex c (ρ.set y (.own al (is'.map D.int))) rest N R) (hi : interactive c.env = false := by rfl) :
    Ex c ρ (.Expr (.Call (.Name x px) (e :: es) [] pc) pos :: rest) N R := ⟨fun F h₀ s S => by
  refine wpAny_execs_cons (wpAny_Expr ?_ hi rfl)
  refine wpAny_Call_NameR (S.fnName hk hn hd hl hq ?_)
  refine Calls.callWith_function (o := o) (fd := fd) ?_
  have ht := (hs).out F h₀ s S
  rw [star_cons hns] at ht ⊢
  refine Calls.evalArgs_plain (wpAny_mono ht (fun vs s1 x => ⟨⟨x.1.gh.keep _ _ ho, hfd⟩, ?_⟩) idE)
  have S1 := S.step x.1
  have hO : OwnL s1.heap al is := by
    obtain ⟨ws, hp, r⟩ := S1.ownAt h1
    exact ⟨ws, hp, intsAre r⟩
  refine wpAny_mono (hf c.A s1 vs _ (S.rm.le hkk) S1.gens S1.os S1.gh x.2 hO) (fun v s2 x2 => ?_) idE
  obtain ⟨rfl, hk2, G2, hg2, ho2, ws, hp2, hi2⟩ := x2
  exact kk.out F h₀ _ (S1.stepBut h1 hk2 G2 hg2 ho2 hp2 (repInts hi2))⟩
end
end Mine

set_option linter.unusedVariables false
set_option maxRecDepth 100000
namespace Mine
open PySem PyProof.Rows PySem.W PyProof.V
section
variable {c : Cx} {ρ : Rho} {F : Addr → Prop} {h₀ : Heap} {s s' : Shared} {pos : Pos} {x : Str} {N : Rho → Prop} {R : D → Prop} {rest : List Stmt} {q : Addr} {v : Option Value}
theorem St.cellOut (S : St c F h₀ ρ s) (hown : c.own = true) (hq : c.env.cells.lookup x = some q) : q ∉ c.mine ρ := fun hm => by
  have hqm : q ∈ c.env.cells.map (·.2) := List.mem_map.mpr ⟨(x, q), mem_of_lookup hq, rfl⟩
  have hn := S.nd
  unfold Cx.mu Cx.mcs at hn
  rw [if_pos hown, List.nodup_cons] at hn
  have h2 := List.nodup_append.mp hn.2
  have h3 := List.nodup_append.mp h2.1
  rcases List.mem_cons.mp hm with h | h
  · exact hn.1 (h ▸ List.mem_append_left _ (List.mem_append_left _ hqm))
  · rcases List.mem_append.mp h with h | h
    · exact h3.2.2 q hqm q (by simpa using h) rfl
    · exact h2.2.2 q (List.mem_append_left _ hqm) q h rfl
/-- the frame's cells stand in the new ground -/
theorem St.cellG (S : St c F h₀ ρ s) (hown : c.own = true) (hq : c.env.cells.lookup x = some q) (hc : s.heap.IsCell q v) : (c.re ρ s.heap).g.IsCell q v ∧ Nt q := by
  obtain ⟨o, h1, h2⟩ := hc
  have n := (S.cs x q hq).1
  exact ⟨⟨o, S.reg h1 n (S.cellOut hown hq), h2⟩, n⟩
theorem St.ownOut (S : St c F h₀ ρ s) {a : Addr} {ds : List D} (hl : ρ.lookup x = some (.own a ds)) : Nt a ∧ (c.re ρ s.heap).g.get? a = none := by
  have hm : a ∈ owns ρ := mem_owns hl a (.head _)
  have hmine : a ∈ c.mine ρ := .tail _ (List.mem_append_right _ hm)
  exact ⟨(S.ex a ((Cx.mine_sub c ρ).subset hmine)).1, hideAll_none _ (.tail _ (.tail _ hmine))⟩
theorem St.caughtG (S : St c F h₀ ρ s) {P : Addr → Prop} {u : Value} {d : D} (r : c.Rep (fun a => a ∉ c.mu ρ ∧ P a) s.heap u d) : c.Rep (fun _ => True) (c.re ρ s.heap).g u d :=
  Rep.mono r fun a o p nt e => ⟨trivial, S.reg e nt fun h => p.1 ((Cx.mine_sub _ _).subset h)⟩
theorem St.mineObj (S : St c F h₀ ρ s) (hex : c.ex = []) {a : Addr} {o : Obj} (hm : a ∈ c.mine ρ) (hon : ∀ p ∈ ρ, ∀ b l, p.2 ≠ .ownd b l) (e : s.heap.get? a = some o) (hnd : (ρ.map (·.1)).Nodup) : (∃ es ep, o.data = .dict es ep) ∨ ∃ vs n, o.data = .seq vs n := by
  rcases List.mem_cons.mp hm with h | h
  · obtain ⟨m, ⟨o', es, ep, h1, h2, _⟩, _⟩ := S.fr
    subst h
    rw [e] at h1; cases h1
    exact .inl ⟨es, ep, h2⟩
  · rw [hex] at h
    obtain ⟨⟨y, b⟩, hy, ha⟩ := List.mem_flatMap.mp (show a ∈ owns ρ from h)
    cases b with
    | val d => cases ha
    | ownd b l => exact absurd rfl (hon _ hy b l)
    | own b ds =>
      have : a = b := by simpa [B.at] using ha
      subst this
      obtain ⟨vs, ⟨n, hp⟩, _⟩ := S.ownAt (mem_lookup_nodup hnd hy)
      rw [e] at hp; cases hp
      exact .inr ⟨_, _, rfl⟩

noncomputable def noOwnd (ρ : Rho) : Bool := ρ.all fun p => match p.2 with
  | .ownd _ _ => false
  | _ => true
theorem noOwnd_ne {ρ : Rho} (h : noOwnd ρ = true) : ∀ p ∈ ρ, ∀ b l, p.2 ≠ .ownd b l := fun p hp b l e => by
  have := List.all_eq_true.mp h p hp
  rw [e] at this; cases this
/-- a nested def: what comes behind it runs on a ground that holds the new function -/
theorem Ex.nestDef {P cc : Addr} {line col : Nat} {name qual : Str} {params : Arguments} {body : List Stmt} {scope : Scope} {clos : List (Str × Addr)} (hqq : qualnameIn c.env name name = qual)
    (hT : ∀ h, GH c.g h → TabOk h P line col qual) (hG : ∀ h h', GH c.g h → Heap.ExtBut P h h' → TabOk h' P line col qual → GH c.g h') (hline : pos.line = line) (hcol : pos.col = col)
    (hcl : closureFor scope c.env = pure clos) (hge : c.env.globals = mainGlobals) (hcode : c.env.code = .ref cc) (C : CodeHd c.g cc P)
    (bm : ∃ bm ob, c.mg "__builtins__" = some (.ref bm) ∧ bm ≠ builtinsNs ∧ c.g.get? bm = some ob ∧ ob.cls = .type "module" ∧ ob.dict = some builtinsNs ∧ ob.data = .plain) (hP : ¬ Nt P)
    (hd0 : params.defaults = []) (hk0 : params.kw_defaults = []) (ha : annTrees params none c.env = []) (hk : c.env.kindOf name = some .cell) (hq : c.env.cells.lookup name = some q) (hown : c.own = true) (hx : ρ.lookup name = none) (hex : c.ex = [])
    (hon' : noOwnd ρ = true) {ks : List Str} (hks : ρ.map (·.1) = ks) (hnd' : ks.Nodup) (n30 : c.g.get? 30 = none) (n37 : c.g.get? 37 = none)
    (k : ∀ F h₀ s f c' doc ctv, St c F h₀ ρ s → (c.re ρ s.heap).g.get? f = some (fnMade name qual params body scope clos doc ((c.mg "__name__").getD .none) c' ctv) → (c.re ρ s.heap).g.CodeRec (.ref c') qual → (c.re ρ s.heap).g.IsCell q (some (.ref f)) →
      Ex (c.re ρ s.heap) ρ rest (fun _ => False) R) : Ex c ρ (.FunctionDef name params body [] none [] scope none name pos :: rest) N R := ⟨fun F h₀ s S => by
  have hon := noOwnd_ne hon'
  have hnd : (ρ.map (·.1)).Nodup := hks ▸ hnd'
  refine wpAny_execs_cons (nestDef_K hd0 hk0 ha ?_)
  refine wpAny_mono (makeNest (params := params) (body := body) (scope := scope) hqq S (hT _ S.gh) (fun h' => hG _ h' S.gh) hline hcol hcl hge hcode C bm hP) (fun v s1 x => ?_) idE
  obtain ⟨f, c', ctv, doc, rfl, T, hnf, hf, hrec, nc⟩ := x
  have S1 := S.step T
  refine S1.storeCell hk hq hown hx fun s2 S2 hcell hkeep => ?_
  obtain ⟨v1, o1, e3, e4⟩ := (S1.cs name q hq).2
  have hf2 := hkeep f _ (fun z => by rw [← z, hf] at e3; cases e3; cases e4) hf
  obtain ⟨c2, oc, vs, tq, hc2, hoc, hdc, hvc⟩ := hrec
  have hoc2 := hkeep c2 _ (fun z => by rw [← z, hoc] at e3; cases e3; rw [hdc] at e4; cases e4) hoc
  cases hc2
  have hfg := S2.reg hf2 (S.gh.nt hnf) fun hm => by
    rcases S2.mineObj hex hm hon hf2 hnd with ⟨_, _, h⟩ | ⟨_, _, h⟩ <;> cases h
  have hcg := S2.reg hoc2 nc fun hm => by
    rcases S2.mineObj hex hm hon hoc2 hnd with ⟨_, _, h⟩ | ⟨_, _, h⟩ <;> (rw [hdc] at h; cases h)
  have hsub := S2.reSub n30 n37
  refine wpAny_mono ((k F h₀ s2 f c' doc ctv S2 hfg ⟨c', oc, vs, tq, rfl, hcg, hdc, hvc⟩ (S2.cellG hown hq hcell).1).out F h₀ s2 (S2.re n30 n37)) (fun fl s' p => ?_) idE
  cases fl with
  | next => obtain ⟨_, h, _⟩ := p; exact h.elim
  | ret v => obtain ⟨d', h1, h2, h3, h4, h5⟩ := p; exact ⟨d', h1, h2, h3, h4.sub hsub, h5⟩
  | brk => exact False.elim p
  | cont => exact False.elim p⟩
end
end Mine

set_option linter.unusedVariables false
set_option maxRecDepth 100000
namespace Mine
noncomputable section
open PySem PyProof.Rows PySem.W PyProof.V

noncomputable def fnAt (P : Params) (f : Addr) : FuncData := match (KK P).lookup f with
  | some ⟨_, _, .func fd, _⟩ => fd
  | _ => default
noncomputable def bodyAt (P : Params) (f : Addr) : List Stmt := match (fnAt P f).body with
  | .stmts b => b
  | _ => []

structure Gd (w : World) (g : Heap) (mg mb : Str → Option Value) : Prop where
  K : (KK w.params).In g
  gn : g.Ns mainGlobals mg
  bn : g.Ns builtinsNs mb
  lim : g.NoLimit
  bi : ∀ x : Str, x ≠ "__name__" → mb x = bootBuiltins x
  c30 : CodeHd g 34 30
  c37 : CodeHd g 41 37
  n30 : g.get? 30 = none
  n37 : g.get? 37 = none
  bm : ∃ bm ob, mg "__builtins__" = some (.ref bm) ∧ bm ≠ builtinsNs ∧ g.get? bm = some ob ∧ ob.cls = .type "module" ∧ ob.dict = some builtinsNs ∧ ob.data = .plain

noncomputable abbrev pg : Program := PySem.Challenge.rw_pe0210_01.row.prog

section
variable {w : World} {g : Heap} {mg mb : Str → Option Value}
theorem Gd.fn (G : Gd w g mg mb) {f : Addr} (e : (KK w.params).lookup f = some ⟨.type "function", none, .func (fnAt w.params f), #[]⟩) : g.get? f = some ⟨.type "function", none, .func (fnAt w.params f), #[]⟩ := G.K f _ e
theorem Gd.glob (G : Gd w g mg mb) {x : Str} {v : Value} (e : nsIn (KK w.params) mainGlobals x = some (some v)) : mg x = some v := mg_of G.K G.gn e
end

theorem k21 (P : Params) : (KK P).lookup 21 = some ⟨.type "function", none, .func (fnAt P 21), #[]⟩ := by kernel_rfl
theorem c21 (P : Params) : codeIn (KK P) (fnAt P 21).code (fnAt P 21).qualname = true := by kernel_rfl
theorem ok21 (P : Params) : fdOk (fnAt P 21) [Str.ofString "a", Str.ofString "b", Str.ofString "n"] = true := by kernel_rfl
theorem bo21 (P : Params) : (fnAt P 21).body = .stmts (bodyAt P 21) := by kernel_rfl
theorem b21 (P : Params) (v0 v1 v2 : Value) : bindArgs (fnAt P 21) ⟨[v0, v1, v2], []⟩ = pure [(Str.ofString "a", v0), (Str.ofString "b", v1), (Str.ofString "n", v2)] := by kernel_rfl
theorem n21 (P : Params) : nsIn (KK P) mainGlobals (Str.ofString "_div2n1n") = some (some (.ref 21)) := by kernel_rfl
theorem k35 (P : Params) : (KK P).lookup 35 = some ⟨.type "function", none, .func (fnAt P 35), #[]⟩ := by kernel_rfl
theorem c35 (P : Params) : codeIn (KK P) (fnAt P 35).code (fnAt P 35).qualname = true := by kernel_rfl
theorem ok35 (P : Params) : fdOk (fnAt P 35) [Str.ofString "a", Str.ofString "n"] = true := by kernel_rfl
theorem bo35 (P : Params) : (fnAt P 35).body = .stmts (bodyAt P 35) := by kernel_rfl
theorem b35 (P : Params) (v0 v1 : Value) : bindArgs (fnAt P 35) ⟨[v0, v1], []⟩ = pure [(Str.ofString "a", v0), (Str.ofString "n", v1)] := by kernel_rfl
theorem n35 (P : Params) : nsIn (KK P) mainGlobals (Str.ofString "_int2digits") = some (some (.ref 35)) := by kernel_rfl
theorem k42 (P : Params) : (KK P).lookup 42 = some ⟨.type "function", none, .func (fnAt P 42), #[]⟩ := by kernel_rfl
theorem c42 (P : Params) : codeIn (KK P) (fnAt P 42).code (fnAt P 42).qualname = true := by kernel_rfl
theorem ok42 (P : Params) : fdOk (fnAt P 42) [Str.ofString "digits", Str.ofString "n"] = true := by kernel_rfl
theorem bo42 (P : Params) : (fnAt P 42).body = .stmts (bodyAt P 42) := by kernel_rfl
theorem b42 (P : Params) (v0 v1 : Value) : bindArgs (fnAt P 42) ⟨[v0, v1], []⟩ = pure [(Str.ofString "digits", v0), (Str.ofString "n", v1)] := by kernel_rfl
theorem n42 (P : Params) : nsIn (KK P) mainGlobals (Str.ofString "_digits2int") = some (some (.ref 42)) := by kernel_rfl
theorem k49 (P : Params) : (KK P).lookup 49 = some ⟨.type "function", none, .func (fnAt P 49), #[]⟩ := by kernel_rfl
theorem c49 (P : Params) : codeIn (KK P) (fnAt P 49).code (fnAt P 49).qualname = true := by kernel_rfl
theorem ok49 (P : Params) : fdOk (fnAt P 49) [Str.ofString "a", Str.ofString "b"] = true := by kernel_rfl
theorem bo49 (P : Params) : (fnAt P 49).body = .stmts (bodyAt P 49) := by kernel_rfl
theorem b49 (P : Params) (v0 v1 : Value) : bindArgs (fnAt P 49) ⟨[v0, v1], []⟩ = pure [(Str.ofString "a", v0), (Str.ofString "b", v1)] := by kernel_rfl
theorem n49 (P : Params) : nsIn (KK P) mainGlobals (Str.ofString "_divmod_pos") = some (some (.ref 49)) := by kernel_rfl
theorem k56 (P : Params) : (KK P).lookup 56 = some ⟨.type "function", none, .func (fnAt P 56), #[]⟩ := by kernel_rfl
theorem c56 (P : Params) : codeIn (KK P) (fnAt P 56).code (fnAt P 56).qualname = true := by kernel_rfl
theorem ok56 (P : Params) : fdOk (fnAt P 56) [Str.ofString "a", Str.ofString "b"] = true := by kernel_rfl
theorem bo56 (P : Params) : (fnAt P 56).body = .stmts (bodyAt P 56) := by kernel_rfl
theorem b56 (P : Params) (v0 v1 : Value) : bindArgs (fnAt P 56) ⟨[v0, v1], []⟩ = pure [(Str.ofString "a", v0), (Str.ofString "b", v1)] := by kernel_rfl
theorem n56 (P : Params) : nsIn (KK P) mainGlobals (Str.ofString "int_divmod") = some (some (.ref 56)) := by kernel_rfl
theorem k66 (P : Params) : (KK P).lookup 66 = some ⟨.type "function", none, .func (fnAt P 66), #[]⟩ := by kernel_rfl
theorem c66 (P : Params) : codeIn (KK P) (fnAt P 66).code (fnAt P 66).qualname = true := by kernel_rfl
theorem ok66 (P : Params) : fdOk (fnAt P 66) [Str.ofString "x"] = true := by kernel_rfl
theorem bo66 (P : Params) : (fnAt P 66).body = .stmts (bodyAt P 66) := by kernel_rfl
theorem b66 (P : Params) (v0 : Value) : bindArgs (fnAt P 66) ⟨[v0], []⟩ = pure [(Str.ofString "x", v0)] := by kernel_rfl
theorem n66 (P : Params) : nsIn (KK P) mainGlobals (Str.ofString "_law_sign") = some (some (.ref 66)) := by kernel_rfl
theorem k73 (P : Params) : (KK P).lookup 73 = some ⟨.type "function", none, .func (fnAt P 73), #[]⟩ := by kernel_rfl
theorem c73 (P : Params) : codeIn (KK P) (fnAt P 73).code (fnAt P 73).qualname = true := by kernel_rfl
theorem ok73 (P : Params) : fdOk (fnAt P 73) [Str.ofString "x"] = true := by kernel_rfl
theorem bo73 (P : Params) : (fnAt P 73).body = .stmts (bodyAt P 73) := by kernel_rfl
theorem b73 (P : Params) (v0 : Value) : bindArgs (fnAt P 73) ⟨[v0], []⟩ = pure [(Str.ofString "x", v0)] := by kernel_rfl
theorem n73 (P : Params) : nsIn (KK P) mainGlobals (Str.ofString "_law_near") = some (some (.ref 73)) := by kernel_rfl
theorem k80 (P : Params) : (KK P).lookup 80 = some ⟨.type "function", none, .func (fnAt P 80), #[]⟩ := by kernel_rfl
theorem c80 (P : Params) : codeIn (KK P) (fnAt P 80).code (fnAt P 80).qualname = true := by kernel_rfl
theorem ok80 (P : Params) : fdOk (fnAt P 80) [] = true := by kernel_rfl
theorem bo80 (P : Params) : (fnAt P 80).body = .stmts (bodyAt P 80) := by kernel_rfl
theorem b80 (P : Params) : bindArgs (fnAt P 80) ⟨[], []⟩ = pure [] := by kernel_rfl
theorem n80 (P : Params) : nsIn (KK P) mainGlobals (Str.ofString "_law_pieces") = some (some (.ref 80)) := by kernel_rfl
theorem k87 (P : Params) : (KK P).lookup 87 = some ⟨.type "function", none, .func (fnAt P 87), #[]⟩ := by kernel_rfl
theorem c87 (P : Params) : codeIn (KK P) (fnAt P 87).code (fnAt P 87).qualname = true := by kernel_rfl
theorem ok87 (P : Params) : fdOk (fnAt P 87) [Str.ofString "pieces"] = true := by kernel_rfl
theorem bo87 (P : Params) : (fnAt P 87).body = .stmts (bodyAt P 87) := by kernel_rfl
theorem b87 (P : Params) (v0 : Value) : bindArgs (fnAt P 87) ⟨[v0], []⟩ = pure [(Str.ofString "pieces", v0)] := by kernel_rfl
theorem n87 (P : Params) : nsIn (KK P) mainGlobals (Str.ofString "_law_numbers") = some (some (.ref 87)) := by kernel_rfl
theorem k92 (P : Params) : (KK P).lookup 92 = some ⟨.type "function", none, .func (fnAt P 92), #[]⟩ := by kernel_rfl
theorem c92 (P : Params) : codeIn (KK P) (fnAt P 92).code (fnAt P 92).qualname = true := by kernel_rfl
theorem ok92 (P : Params) : fdOk (fnAt P 92) [Str.ofString "text", Str.ofString "i", Str.ofString "numbers"] = true := by kernel_rfl
theorem bo92 (P : Params) : (fnAt P 92).body = .stmts (bodyAt P 92) := by kernel_rfl
theorem b92 (P : Params) (v0 v1 v2 : Value) : bindArgs (fnAt P 92) ⟨[v0, v1, v2], []⟩ = pure [(Str.ofString "text", v0), (Str.ofString "i", v1), (Str.ofString "numbers", v2)] := by kernel_rfl
theorem n92 (P : Params) : nsIn (KK P) mainGlobals (Str.ofString "_law_sizes") = some (some (.ref 92)) := by kernel_rfl
theorem k97 (P : Params) : (KK P).lookup 97 = some ⟨.type "function", none, .func (fnAt P 97), #[]⟩ := by kernel_rfl
theorem c97 (P : Params) : codeIn (KK P) (fnAt P 97).code (fnAt P 97).qualname = true := by kernel_rfl
theorem ok97 (P : Params) : fdOk (fnAt P 97) [Str.ofString "text", Str.ofString "numbers"] = true := by kernel_rfl
theorem bo97 (P : Params) : (fnAt P 97).body = .stmts (bodyAt P 97) := by kernel_rfl
theorem b97 (P : Params) (v0 v1 : Value) : bindArgs (fnAt P 97) ⟨[v0, v1], []⟩ = pure [(Str.ofString "text", v0), (Str.ofString "numbers", v1)] := by kernel_rfl
theorem n97 (P : Params) : nsIn (KK P) mainGlobals (Str.ofString "_law_totals") = some (some (.ref 97)) := by kernel_rfl
theorem k104 (P : Params) : (KK P).lookup 104 = some ⟨.type "function", none, .func (fnAt P 104), #[]⟩ := by kernel_rfl
theorem c104 (P : Params) : codeIn (KK P) (fnAt P 104).code (fnAt P 104).qualname = true := by kernel_rfl
theorem ok104 (P : Params) : fdOk (fnAt P 104) [Str.ofString "text"] = true := by kernel_rfl
theorem bo104 (P : Params) : (fnAt P 104).body = .stmts (bodyAt P 104) := by kernel_rfl
theorem b104 (P : Params) (v0 : Value) : bindArgs (fnAt P 104) ⟨[v0], []⟩ = pure [(Str.ofString "text", v0)] := by kernel_rfl
theorem n104 (P : Params) : nsIn (KK P) mainGlobals (Str.ofString "_law_sums") = some (some (.ref 104)) := by kernel_rfl
theorem k111 (P : Params) : (KK P).lookup 111 = some ⟨.type "function", none, .func (fnAt P 111), #[]⟩ := by kernel_rfl
theorem c111 (P : Params) : codeIn (KK P) (fnAt P 111).code (fnAt P 111).qualname = true := by kernel_rfl
theorem ok111 (P : Params) : fdOk (fnAt P 111) [Str.ofString "script", Str.ofString "text", Str.ofString "numbers"] = true := by kernel_rfl
theorem bo111 (P : Params) : (fnAt P 111).body = .stmts (bodyAt P 111) := by kernel_rfl
theorem b111 (P : Params) (v0 v1 v2 : Value) : bindArgs (fnAt P 111) ⟨[v0, v1, v2], []⟩ = pure [(Str.ofString "script", v0), (Str.ofString "text", v1), (Str.ofString "numbers", v2)] := by kernel_rfl
theorem n111 (P : Params) : nsIn (KK P) mainGlobals (Str.ofString "_law_drawn") = some (some (.ref 111)) := by kernel_rfl
theorem k118 (P : Params) : (KK P).lookup 118 = some ⟨.type "function", none, .func (fnAt P 118), #[]⟩ := by kernel_rfl
theorem c118 (P : Params) : codeIn (KK P) (fnAt P 118).code (fnAt P 118).qualname = true := by kernel_rfl
theorem ok118 (P : Params) : fdOk (fnAt P 118) [Str.ofString "number", Str.ofString "text", Str.ofString "sums"] = true := by kernel_rfl
theorem bo118 (P : Params) : (fnAt P 118).body = .stmts (bodyAt P 118) := by kernel_rfl
theorem b118 (P : Params) (v0 v1 v2 : Value) : bindArgs (fnAt P 118) ⟨[v0, v1, v2], []⟩ = pure [(Str.ofString "number", v0), (Str.ofString "text", v1), (Str.ofString "sums", v2)] := by kernel_rfl
theorem n118 (P : Params) : nsIn (KK P) mainGlobals (Str.ofString "_law_told") = some (some (.ref 118)) := by kernel_rfl
theorem k125 (P : Params) : (KK P).lookup 125 = some ⟨.type "function", none, .func (fnAt P 125), #[]⟩ := by kernel_rfl
theorem c125 (P : Params) : codeIn (KK P) (fnAt P 125).code (fnAt P 125).qualname = true := by kernel_rfl
theorem ok125 (P : Params) : fdOk (fnAt P 125) [Str.ofString "row", Str.ofString "text", Str.ofString "pieces", Str.ofString "numbers", Str.ofString "totals"] = true := by kernel_rfl
theorem bo125 (P : Params) : (fnAt P 125).body = .stmts (bodyAt P 125) := by kernel_rfl
theorem b125 (P : Params) (v0 v1 v2 v3 v4 : Value) : bindArgs (fnAt P 125) ⟨[v0, v1, v2, v3, v4], []⟩ = pure [(Str.ofString "row", v0), (Str.ofString "text", v1), (Str.ofString "pieces", v2), (Str.ofString "numbers", v3), (Str.ofString "totals", v4)] := by kernel_rfl
theorem n125 (P : Params) : nsIn (KK P) mainGlobals (Str.ofString "_law_worth") = some (some (.ref 125)) := by kernel_rfl
theorem k132 (P : Params) : (KK P).lookup 132 = some ⟨.type "function", none, .func (fnAt P 132), #[]⟩ := by kernel_rfl
theorem c132 (P : Params) : codeIn (KK P) (fnAt P 132).code (fnAt P 132).qualname = true := by kernel_rfl
theorem ok132 (P : Params) : fdOk (fnAt P 132) [Str.ofString "sums"] = true := by kernel_rfl
theorem bo132 (P : Params) : (fnAt P 132).body = .stmts (bodyAt P 132) := by kernel_rfl
theorem b132 (P : Params) (v0 : Value) : bindArgs (fnAt P 132) ⟨[v0], []⟩ = pure [(Str.ofString "sums", v0)] := by kernel_rfl
theorem n132 (P : Params) : nsIn (KK P) mainGlobals (Str.ofString "_law_back") = some (some (.ref 132)) := by kernel_rfl
theorem k137 (P : Params) : (KK P).lookup 137 = some ⟨.type "function", none, .func (fnAt P 137), #[]⟩ := by kernel_rfl
theorem c137 (P : Params) : codeIn (KK P) (fnAt P 137).code (fnAt P 137).qualname = true := by kernel_rfl
theorem ok137 (P : Params) : fdOk (fnAt P 137) [Str.ofString "script"] = true := by kernel_rfl
theorem bo137 (P : Params) : (fnAt P 137).body = .stmts (bodyAt P 137) := by kernel_rfl
theorem b137 (P : Params) (v0 : Value) : bindArgs (fnAt P 137) ⟨[v0], []⟩ = pure [(Str.ofString "script", v0)] := by kernel_rfl
theorem n137 (P : Params) : nsIn (KK P) mainGlobals (Str.ofString "law") = some (some (.ref 137)) := by kernel_rfl
theorem nb_range (P : Params) : nsIn (KK P) mainGlobals (Str.ofString "range") = some none := by kernel_rfl
theorem nb_len (P : Params) : nsIn (KK P) mainGlobals (Str.ofString "len") = some none := by kernel_rfl
theorem nb_sum (P : Params) : nsIn (KK P) mainGlobals (Str.ofString "sum") = some none := by kernel_rfl
theorem nb_divmod (P : Params) : nsIn (KK P) mainGlobals (Str.ofString "divmod") = some none := by kernel_rfl
theorem nb_reversed (P : Params) : nsIn (KK P) mainGlobals (Str.ofString "reversed") = some none := by kernel_rfl
theorem nsl (P : Params) : nsIn (KK P) mainGlobals (Str.ofString "_DIV_LIMIT") = some (some (.int 4000 189)) := by kernel_rfl
theorem nst (P : Params) : nsIn (KK P) mainGlobals (Str.ofString "EXACT_TOKEN_TYPES") = some (some (.ref 57)) := by kernel_rfl

section
variable {w : World} {g : Heap} {mg mb : Str → Option Value}
theorem Gd.miss (G : Gd w g mg mb) {x : Str} (e : nsIn (KK w.params) mainGlobals x = some none) : mg x = none := mg_none_of G.K G.gn e
theorem Gd.len (G : Gd w g mg mb) : mb "len" = some (.builtin "len") := (G.bi _ (by decide)).trans boot_len
theorem Gd.range (G : Gd w g mg mb) : mb "range" = some (.type "range") := (G.bi _ (by decide)).trans boot_range
theorem Gd.sum (G : Gd w g mg mb) : mb "sum" = some (.builtin "sum") := (G.bi _ (by decide)).trans boot_sum
theorem Gd.divmod (G : Gd w g mg mb) : mb "divmod" = some (.builtin "divmod") := (G.bi _ (by decide)).trans (by decide +kernel)
theorem sz0 : ([] : List D).length ≤ sizeLine := Nat.zero_le _
theorem sz1 {a : D} : [a].length ≤ sizeLine := by rw [sizeLine_eq]; simp
theorem sz2 {a b : D} : [a, b].length ≤ sizeLine := by rw [sizeLine_eq]; simp
theorem sz3 {a b c : D} : [a, b, c].length ≤ sizeLine := by rw [sizeLine_eq]; simp
theorem Gd.lenS (G : Gd w g mg mb) {m : Md} {c : Cx} {ρ : Rho} {e : Expr} {x : Str} {px pos : Pos} (hmg : c.mg = mg) (hmb : c.mb = mb) (hk : c.env.kindOf (Str.ofString "len") = some .globalImplicit) (h : Ev m c ρ e (.str x)) (hn : noStar e = true) (hz : x.length ≤ sizeLine) :
    Ev m c ρ (.Call (.Name (Str.ofString "len") px) [e] [] pos) (.int x.length) :=
  Ev.callB hk (by decide) (by rw [hmg]; exact G.miss (nb_len _)) (by rw [hmb]; exact G.len) (EvL.cons h EvL.nil hn) hn rfl (BuOK.lenS hz)
theorem Gd.reversed (G : Gd w g mg mb) : mb "reversed" = some (.type "reversed") := (G.bi _ (by decide)).trans (by decide +kernel)
end
end
end Mine

namespace Mine
section
set_option maxRecDepth 100000
set_option linter.unusedVariables false
open PySem PyProof.Rows PySem.W PyProof.V

section
set_option linter.unusedVariables false
set_option maxRecDepth 100000
open PySem PyProof.Rows PySem.W PyProof.V
section
variable {w : World} {g : Heap} {mg mb : Str → Option Value} {os : OsState}

noncomputable def near (x : Int) : Int := (x + 10 ^ 24).fmod (2 * 10 ^ 24) - 10 ^ 24
theorem fn73 (G : Gd w g mg mb) {k : Nat} (x : Int) : Fn pg w g os 73 (k + 1) [.int x] (.int (near x)) := by
  refine Fn.intro (G.fn (k73 _)) rfl (bo73 _) (codeRec_of G.K (c73 _)) G.lim (ok73 _) rfl (bind1 (b73 _)) G.gn G.bn fun A L => ?_
  refine Ex.ret (d := .int (near x)) ?_ rfl
  refine' Ev.eq ?a ?b
  case a => exact Ev.bin (Ev.bin (Ev.bin (Ev.name rfl rfl) (Ev.bin Ev.int Ev.int (BinOK.pow (by decide) (by decide) (by decide))) BinOK.add) (Ev.bin Ev.int (Ev.bin Ev.int Ev.int (BinOK.pow (by decide) (by decide) (by decide))) (BinOK.mul (IntMulOk.of_left (by decide)))) (BinOK.fmod (by decide))) (Ev.bin Ev.int Ev.int (BinOK.pow (by decide) (by decide) (by decide))) BinOK.sub
  case b => rfl

noncomputable def sign (x : Int) : Str := if x.fmod 3 = 0 then Str.ofString "=" else if x.fmod 3 = 1 then Txt.item (Str.ofString "<>*/-.") ((x.fdiv 3).fmod 6) else Txt.item (Str.ofString "()[]:,;+-*/|&<>=.%{}~^@!") ((x.fdiv 3).fmod 24)
theorem fn66 (G : Gd w g mg mb) {k : Nat} (x : Int) : Fn pg w g os 66 (k + 1) [.int x] (.str (sign x)) := by
  refine Fn.intro (G.fn (k66 _)) rfl (bo66 _) (codeRec_of G.K (c66 _)) G.lim (ok66 _) rfl (bind1 (b66 _)) G.gn G.bn fun A L => ?_
  refine' Ex.ifRet ?a ?b ?c
  case a => exact ET.cmp (m := .n) (Ev.bin (Ev.name rfl rfl) Ev.int (BinOK.fmod (by decide))) (Ev.int) CmpOK.eqI rfl
  case b =>
    intro hb
    refine Ex.ret ?_ (d := .str (Str.ofString "=")) ?_
    · exact Ev.str
    · unfold sign; rw [if_pos (by simpa using hb)]
  case c =>
    intro hb
    have hb' : ¬ x.fmod 3 = 0 := by simpa using hb
    have h6 := Int.fmod_nonneg_of_pos (x.fdiv 3) (show (0 : Int) < 6 by decide)
    have h6' := Int.fmod_lt_of_pos (x.fdiv 3) (show (0 : Int) < 6 by decide)
    have h24 := Int.fmod_nonneg_of_pos (x.fdiv 3) (show (0 : Int) < 24 by decide)
    have h24' := Int.fmod_lt_of_pos (x.fdiv 3) (show (0 : Int) < 24 by decide)
    refine' Ex.ifRet ?a ?b ?c
    case a => exact ET.cmp (m := .n) (Ev.bin (Ev.name rfl rfl) Ev.int (BinOK.fmod (by decide))) (Ev.int) CmpOK.eqI rfl
    case b =>
      intro hc
      refine Ex.ret (d := .str (Txt.item (Str.ofString "<>*/-.") ((x.fdiv 3).fmod 6))) ?_ ?_
      · refine' Ev.itemStr ?h1 ?h2 ?h3 ?h4 ?h5 ?h6
        case h1 => exact Ev.str
        case h2 => exact Ev.bin (Ev.bin (Ev.name rfl rfl) Ev.int (BinOK.fdiv (by decide) (by decide))) Ev.int (BinOK.fmod (by decide))
        case h3 => exact h6
        case h4 => exact Int.lt_of_lt_of_le h6' (by decide)
        case h5 => lia
        case h6 => rfl
      · unfold sign; rw [if_neg hb', if_pos (by simpa using hc)]
    case c =>
      intro hc
      refine Ex.ret (d := .str (Txt.item (Str.ofString "()[]:,;+-*/|&<>=.%{}~^@!") ((x.fdiv 3).fmod 24))) ?_ ?_
      · refine' Ev.itemStr ?h1 ?h2 ?h3 ?h4 ?h5 ?h6
        case h1 => exact Ev.str
        case h2 => exact Ev.bin (Ev.bin (Ev.name rfl rfl) Ev.int (BinOK.fdiv (by decide) (by decide))) Ev.int (BinOK.fmod (by decide))
        case h3 => exact h24
        case h4 => exact Int.lt_of_lt_of_le h24' (by decide)
        case h5 => lia
        case h6 => rfl
      · unfold sign; rw [if_neg hb', if_neg (by simpa using hc)]

/-- the plain row of the 48 operators -/
noncomputable def rowText : Str := Str.ofString "( ) [ ] : , ; + - * / | & < > = . % { } == != <= >= ~ ^ << >> ** += -= *= /= %= &= |= ^= <<= >>= **= // //= @ @= -> ... := !"
/-- a text by its code points -/
noncomputable def ch (l : List Nat) : Str := ⟨⟨l⟩⟩
noncomputable def opers : List Str := [ch [40], ch [41], ch [91], ch [93], ch [58], ch [44], ch [59], ch [43], ch [45], ch [42], ch [47], ch [124], ch [38], ch [60], ch [62], ch [61], ch [46], ch [37], ch [123], ch [125], ch [61, 61], ch [33, 61], ch [60, 61], ch [62, 61], ch [126], ch [94], ch [60, 60], ch [62, 62], ch [42, 42], ch [43, 61], ch [45, 61], ch [42, 61], ch [47, 61], ch [37, 61], ch [38, 61], ch [124, 61], ch [94, 61], ch [60, 60, 61], ch [62, 62, 61], ch [42, 42, 61], ch [47, 47], ch [47, 47, 61], ch [64], ch [64, 61], ch [45, 62], ch [46, 46, 46], ch [58, 61], ch [33]]
theorem words_row : Txt.words rowText = opers := by decide +kernel
theorem fn80 (G : Gd w g mg mb) {k : Nat} : Fn pg w g os 80 (k + 1) [] (.list (opers.map D.str)) := by
  refine Fn.intro (G.fn (k80 _)) rfl (bo80 _) (codeRec_of G.K (c80 _)) G.lim (ok80 _) rfl (bind0 (b80 _)) G.gn G.bn fun A L => ?_
  rw [← words_row]
  refine Ex.ret (d := .list ((Txt.words rowText).map D.str)) ?_ rfl
  refine Ev.split (x := rowText) ?_ rfl ?_ ?_ ?_
  · exact Ev.str
  · decide +kernel
  · decide +kernel
  · decide +kernel
end
end

section
set_option linter.unusedVariables false
set_option maxRecDepth 100000
open PySem PyProof.Rows PySem.W PyProof.V
section
variable {w : World} {g : Heap} {mg mb : Str → Option Value} {os : OsState}

/-- the table of the first i operators -/
noncomputable def tabTo : Nat → List (Str × Int)
  | 0 => []
  | i + 1 => kdpPut (tabTo i) (opers.getD i Str.empty) (7 + i)
noncomputable def nums : List (Str × Int) := [(ch [40], 7), (ch [41], 8), (ch [91], 9), (ch [93], 10), (ch [58], 11), (ch [44], 12), (ch [59], 13), (ch [43], 14), (ch [45], 15), (ch [42], 16), (ch [47], 17), (ch [124], 18), (ch [38], 19), (ch [60], 20), (ch [62], 21), (ch [61], 22), (ch [46], 23), (ch [37], 24), (ch [123], 25), (ch [125], 26), (ch [61, 61], 27), (ch [33, 61], 28), (ch [60, 61], 29), (ch [62, 61], 30), (ch [126], 31), (ch [94], 32), (ch [60, 60], 33), (ch [62, 62], 34), (ch [42, 42], 35), (ch [43, 61], 36), (ch [45, 61], 37), (ch [42, 61], 38), (ch [47, 61], 39), (ch [37, 61], 40), (ch [38, 61], 41), (ch [124, 61], 42), (ch [94, 61], 43), (ch [60, 60, 61], 44), (ch [62, 62, 61], 45), (ch [42, 42, 61], 46), (ch [47, 47], 47), (ch [47, 47, 61], 48), (ch [64], 49), (ch [64, 61], 50), (ch [45, 62], 51), (ch [46, 46, 46], 52), (ch [58, 61], 53), (ch [33], 54)]
theorem tab48 : tabTo 48 = nums := by decide +kernel
theorem opers_length : opers.length = 48 := by decide +kernel
theorem tabTo_le (i : Nat) : (tabTo i).length ≤ i := by
  induction i with
  | zero => exact Nat.le_refl _
  | succ i ih =>
    unfold tabTo kdpPut
    split
    · rw [List.length_map]; lia
    · rw [List.length_append]; simp; lia

theorem fn87 (G : Gd w g mg mb) {k : Nat} : Fn pg w g os 87 (k + 1) [.list (opers.map D.str)] (.dict nums) := by
  refine Fn.intro (G.fn (k87 _)) rfl (bo87 _) (codeRec_of G.K (c87 _)) G.lim (ok87 _) rfl (bind1 (b87 _)) G.gn G.bn fun A L => ?_
  rw [← tab48]
  refine Ex.assignDict rfl fun a => ?_
  have hlen : (opers.map D.str).length ≤ sizeLine := by rw [List.length_map, opers_length]; decide
  refine Ex.for_ (ds := upto 48) ?_ rfl (fun i ρ' => ρ' = [(Str.ofString "pieces", B.val (.list (opers.map D.str))), (Str.ofString "numbers", B.ownd a (tabTo i))]) rfl ?_ ?_
  · have : (((opers.map D.str).length : Nat) : Int) = 48 := by rw [List.length_map, opers_length]; rfl
    rw [← this]
    refine EvI.range (m := .n) rfl (by decide) (G.miss (nb_range _)) G.range (Ev.callB rfl (by decide) (G.miss (nb_len _)) G.len (EvL.cons (Ev.name rfl rfl) EvL.nil rfl) rfl rfl (BuOK.lenL hlen)) rfl ?_ ?_
    · rw [this]; decide
    · rw [this]; decide
  · intro i d ρ' hd hI
    subst hI
    have hi : i < 48 := by
      have := (List.getElem?_eq_some_iff.mp hd).1
      simpa [upto] using this
    have hd' : d = .int (i : Int) := by
      unfold upto at hd
      rw [List.getElem?_map] at hd
      have : (List.range (48 : Int).toNat)[i]? = some i := List.getElem?_range (show i < 48 from hi)
      rw [this] at hd
      exact (Option.some.inj hd).symm
    subst hd'
    have hio : i < opers.length := by rw [opers_length]; exact hi
    refine Ex.putDict (m := .n) (k := opers.getD i Str.empty) rfl rfl (i := 7 + (i : Int)) ?_ ?_ ?_ ?_
    · exact Ev.bin Ev.int (Ev.name rfl rfl) BinOK.add
    · refine Ev.item (ds := opers.map D.str) (i := (i : Int)) ?_ ?_ (by lia) ?_ (by lia) rfl
      · exact Ev.name rfl rfl
      · exact Ev.name rfl rfl
      · simp [List.getD, hio]
    · exact Nat.le_trans (tabTo_le i) (by rw [sizeLine_eq]; lia)
    · exact Ex.nilF (ρ2 := [(Str.ofString "pieces", B.val (.list (opers.map D.str))), (Str.ofString "numbers", B.ownd a (tabTo (i + 1)))]) (ext := [(Str.ofString "k", B.val (.int (i : Int)))]) rfl rfl
  · intro ρ' hI
    have : (upto 48).length = 48 := by simp [upto]
    rw [this] at hI
    subst hI
    refine Ex.ret (d := .dict (tabTo 48)) ?_ rfl
    exact Ev.nameOwndM (by intro h; cases h) rfl rfl
end
end

section
set_option linter.unusedVariables false
set_option maxRecDepth 100000
open PySem PyProof.Rows PySem.W PyProof.V
section
variable {w : World} {g : Heap} {mg mb : Str → Option Value} {os : OsState}

/-- an operator of k signs stands at i -/
noncomputable def stands (text : Str) (i k : Int) : Bool := decide (i + k ≤ text.length) && kdpHas nums (Txt.slice text (some i) (some (i + k)))
noncomputable def sizes (text : Str) (i : Int) : List Int := [3, 2, 1].filter (stands text i)

theorem fn92 (G : Gd w g mg mb) {k : Nat} (text : Str) (i : Int) (hz : text.length ≤ sizeLine) : Fn pg w g os 92 (k + 1) [.str text, .int i, .dict nums] (.list ((sizes text i).map D.int)) := by
  refine Fn.intro (G.fn (k92 _)) rfl (bo92 _) (codeRec_of G.K (c92 _)) G.lim (ok92 _) rfl (bind3 (b92 _)) G.gn G.bn fun A L => ?_
  refine Ex.ret (d := .list ((sizes text i).map D.int)) ?_ rfl
  refine' Ev.eq ?a ?b
  case a =>
    refine' Ev.comp1 (fr := [(Str.ofString "text", B.val (.str text)), (Str.ofString "i", B.val (.int i)), (Str.ofString "numbers", B.val (.dict nums))])
      (p := fun d => match d with | .int j => stands text i j | _ => false) (f := fun d => d) (ds := [.int 3, .int 2, .int 1]) ?K ?hi ?hxl ?hxn ?ht ?he ?hz ?hf
    case K =>
      refine ⟨rfl, by decide, rfl, by decide, ?_, ?_⟩
      · intro q hq
        simp only [List.mem_cons, List.not_mem_nil, or_false] at hq
        rcases hq with rfl | rfl | rfl
        · exact ⟨rfl, rfl, .inl rfl, .inl rfl, rfl⟩
        · exact ⟨rfl, rfl, .inl rfl, .inl rfl, rfl⟩
        · exact ⟨rfl, rfl, .inl rfl, .inl rfl, rfl⟩
      · intro q hq
        simp only [List.mem_cons, List.not_mem_nil, or_false] at hq
        rcases hq with rfl | rfl | rfl <;> rfl
    case hi => exact EvI.tup (Ev.tup (EvL.cons Ev.int (EvL.cons Ev.int (EvL.cons Ev.int EvL.nil rfl) rfl) rfl) sz3)
    case hxl => rfl
    case hxn => rfl
    case ht =>
      intro C Dd d hd
      obtain ⟨j, rfl⟩ : ∃ j, d = .int j := by
        simp only [List.mem_cons, List.not_mem_nil, or_false] at hd
        rcases hd with rfl | rfl | rfl <;> exact ⟨_, rfl⟩
      refine ETs.one ?_
      refine' ET.eq ?x ?y
      case x => exact ET.and (ET.cmp (m := .n) (Ev.bin (Ev.name rfl rfl) (Ev.name rfl rfl) BinOK.add) (G.lenS rfl rfl rfl (Ev.name rfl rfl) rfl hz) CmpOK.leI rfl) fun _ => ET.cmp (m := .n) (Ev.sliceS (Ev.name rfl rfl) (EvP.some (Ev.name rfl rfl)) (EvP.some (Ev.bin (Ev.name rfl rfl) (Ev.name rfl rfl) BinOK.add)) hz) (Ev.name rfl rfl) CmpOK.inD rfl
      case y => rfl
    case he =>
      intro C Dd d hd hp
      exact Ev.name rfl rfl
    case hz => decide
    case hf => intro v; rfl
  case b =>
    rw [show ([D.int 3, D.int 2, D.int 1] : List D) = [(3 : Int), 2, 1].map D.int from rfl, List.filter_map, List.map_id']
    rfl
end
end

section
set_option linter.unusedVariables false
set_option maxRecDepth 100000
open PySem PyProof.Rows PyProof.Rows.KTD PySem.W PyProof.V
section
variable {w : World} {g : Heap} {mg mb : Str → Option Value} {os : OsState}

noncomputable def exact : List (Str × Int) := [(ch [33], 54), (ch [33, 61], 28), (ch [37], 24), (ch [37, 61], 40), (ch [38], 19), (ch [38, 61], 41), (ch [40], 7), (ch [41], 8), (ch [42], 16), (ch [42, 42], 35), (ch [42, 42, 61], 46), (ch [42, 61], 38), (ch [43], 14), (ch [43, 61], 36), (ch [44], 12), (ch [45], 15), (ch [45, 61], 37), (ch [45, 62], 51), (ch [46], 23), (ch [46, 46, 46], 52), (ch [47], 17), (ch [47, 47], 47), (ch [47, 47, 61], 48), (ch [47, 61], 39), (ch [58], 11), (ch [58, 61], 53), (ch [59], 13), (ch [60], 20), (ch [60, 60], 33), (ch [60, 60, 61], 44), (ch [60, 61], 29), (ch [61], 22), (ch [61, 61], 27), (ch [62], 21), (ch [62, 61], 30), (ch [62, 62], 34), (ch [62, 62, 61], 45), (ch [64], 49), (ch [64, 61], 50), (ch [91], 9), (ch [93], 10), (ch [94], 32), (ch [94, 61], 43), (ch [123], 25), (ch [124], 18), (ch [124, 61], 42), (ch [125], 26), (ch [126], 31)]

theorem look57 (P : Params) : tabLook flatLooks (fun a => (KK P).lookup a) 57 (exact.map fun p => (p.1, PyData.int p.2)) = true := by kernel_rfl
theorem hash57 (w : World) : hashesOf (fun a => (KK w.params).lookup a) 57 = (exact.map fun p => (p.1, PyData.int p.2)).map fun p => (PySem.strKind pg w).hash p.1 := by kernel_rfl
theorem tab57 (G : Gd w g mg mb) : StrTab pg w g 57 (kdpD exact) := by
  have h := strTab_of_look pg w (get := fun a => (KK w.params).lookup a) (h := g) (fun a o e => G.K a o e) (look57 _) (by decide +kernel) (hash57 w)
  exact h

theorem perm_any {l l' : List (Str × Int)} (h : ∀ p, p ∈ l ↔ p ∈ l') (k : Str) : kdpHas l k = kdpHas l' k := by
  unfold kdpHas
  rw [Bool.eq_iff_iff, List.any_eq_true, List.any_eq_true]
  exact ⟨fun ⟨p, hp, hk⟩ => ⟨p, (h p).mp hp, hk⟩, fun ⟨p, hp, hk⟩ => ⟨p, (h p).mpr hp, hk⟩⟩
theorem exact_sub : ∀ p ∈ exact, p ∈ nums := by decide +kernel
theorem sub_exact : ∀ p ∈ nums, p ∈ exact := by decide +kernel
theorem exact_has (k : Str) : kdpHas exact k = kdpHas nums k := perm_any (fun p => ⟨exact_sub p, sub_exact p⟩) k
theorem nodup_nums : (nums.map (·.1)).Nodup := by decide +kernel
theorem nodup_exact : (exact.map (·.1)).Nodup := by decide +kernel
theorem look_mem {l : List (Str × Int)} (hn : (l.map (·.1)).Nodup) {k : Str} {v d : Int} (h : (k, v) ∈ l) : kdpLook l k d = v := by
  induction l with
  | nil => cases h
  | cons p l ih =>
    unfold kdpLook
    rw [List.find?_cons]
    rw [List.map_cons, List.nodup_cons] at hn
    by_cases e : p.1 = k
    · rw [decide_eq_true e]
      rcases List.mem_cons.mp h with h | h
      · subst h; rfl
      · exact absurd (show p.1 ∈ l.map (·.1) by rw [e]; exact List.mem_map_of_mem (f := (·.1)) h) hn.1
    · rw [decide_eq_false e]
      rcases List.mem_cons.mp h with h | h
      · exact absurd (by rw [← h]) e
      · exact ih hn.2 h
theorem exact_look (k : Str) (d : Int) : kdpLook exact k d = kdpLook nums k d := by
  by_cases h : kdpHas nums k = true
  · unfold kdpHas at h
    rw [List.any_eq_true] at h
    obtain ⟨⟨k', v⟩, hp, hk⟩ := h
    have : k' = k := by simpa using hk
    subst this
    rw [look_mem nodup_nums hp, look_mem nodup_exact (sub_exact _ hp)]
  · have h' : kdpHas exact k ≠ true := by rw [exact_has]; exact h
    have miss : ∀ l : List (Str × Int), kdpHas l k ≠ true → kdpLook l k d = d := by
      intro l hl
      unfold kdpLook
      rw [List.find?_eq_none.mpr]; · rfl
      intro p hp hk
      exact hl (by unfold kdpHas; exact List.any_eq_true.mpr ⟨p, hp, hk⟩)
    rw [miss _ h, miss _ h']
end
end

section
set_option linter.unusedVariables false
set_option maxRecDepth 100000
open PySem PyProof.Rows PySem.W PyProof.V
section
variable {w : World} {g : Heap} {mg mb : Str → Option Value} {os : OsState}

structure Tx (text : Str) : Prop where
  len : text.length ≤ 9
  one : ∀ i : Int, 0 ≤ i → i < text.length → kdpHas nums (Txt.item text i) = true
theorem Tx.size {text : Str} (T : Tx text) : text.length ≤ sizeLine := Nat.le_trans T.len (by rw [sizeLine_eq]; lia)

/-- the number of the sign at i -/
noncomputable def num (text : Str) (i : Int) : Int := kdpLook nums (Txt.item text i) 0
theorem nums_range : ∀ p ∈ nums, 7 ≤ p.2 ∧ p.2 ≤ 54 := by decide +kernel
theorem look_range {k : Str} (h : kdpHas nums k = true) : 7 ≤ kdpLook nums k 0 ∧ kdpLook nums k 0 ≤ 54 := by
  unfold kdpHas at h
  rw [List.any_eq_true] at h
  obtain ⟨⟨k', v⟩, hp, hk⟩ := h
  have : k' = k := by simpa using hk
  subst this
  rw [look_mem nodup_nums hp]
  exact nums_range _ hp
theorem Tx.num {text : Str} (T : Tx text) {i : Int} (h0 : 0 ≤ i) (h1 : i < text.length) : 7 ≤ num text i ∧ num text i ≤ 54 := look_range (T.one i h0 h1)

noncomputable def plus2 (text : Str) (i : Int) (S : List Int) (t : Int) : Int := if stands text i 2 then t + S.getD 1 0 else t
noncomputable def plus3 (text : Str) (i : Int) (S : List Int) (t : Int) : Int := if stands text i 3 then t + S.getD 2 0 else t
noncomputable def sumStep (text : Str) (i : Int) (S : List Int) : Int := plus3 text i S (plus2 text i S (num text i * S.getD 0 0))
noncomputable def sumsTo (text : Str) : Nat → List Int
  | 0 => [1]
  | j + 1 => sumStep text (text.length - 1 - j) (sumsTo text j) :: sumsTo text j
noncomputable def sums (text : Str) : List Int := sumsTo text text.length
theorem sumsTo_length (text : Str) (j : Nat) : (sumsTo text j).length = j + 1 := by
  induction j with
  | zero => rfl
  | succ j ih => unfold sumsTo; rw [List.length_cons, ih]

theorem small_bits {i : Int} (h0 : 0 ≤ i) (h : i ≤ 54) : Builtin.Int.intBits i ≤ 64 := by
  obtain ⟨n, rfl⟩ := Int.eq_ofNat_of_zero_le h0
  have : ∀ n, n < 55 → Builtin.Int.intBits ((n : Nat) : Int) ≤ 64 := by decide +kernel
  exact this n (by lia)

theorem evExact (G : Gd w g mg mb) {c : Cx} {ρ : Rho} {px : Pos} (hp : c.prog = pg) (hw : c.w = w) (hg : c.g = g) (hm : c.mg = mg) (hk : c.env.kindOf (Str.ofString "EXACT_TOKEN_TYPES") = some .globalImplicit) :
    Ev .n c ρ (.Name (Str.ofString "EXACT_TOKEN_TYPES") px) (.dict exact) := by
  refine Ev.global hk (v := .ref 57) (by rw [hm]; exact G.glob (nst _)) (by decide) ?_
  unfold Cx.Rep
  rw [hp, hw, hg]
  exact Rep.dict trivial ⟨by decide, by decide⟩ (tab57 G)

theorem stands_len {text : Str} {i k : Int} (h : stands text i k = true) : i + k ≤ text.length := by
  unfold stands at h
  rw [Bool.and_eq_true] at h
  exact of_decide_eq_true h.1
theorem getD_map {S : List Int} {n : Nat} (h : n < S.length) : (S.map D.int)[n]? = some (.int (S.getD n 0)) := by
  rw [List.getElem?_map, List.getD_eq_getElem?_getD, List.getElem?_eq_getElem h]; rfl
theorem downto_at {n : Nat} {i : Nat} {d : D} (h : (downto (n : Int))[i]? = some d) : i < n ∧ d = .int ((n : Int) - 1 - i) := by
  unfold downto at h
  have hi : i < n := by
    have := (List.getElem?_eq_some_iff.mp h).1
    simpa using this
  refine ⟨hi, ?_⟩
  rw [List.getElem?_map, List.getElem?_range (by simpa using hi)] at h
  exact (Option.some.inj h).symm
theorem upto_at {n : Nat} {i : Nat} {d : D} (h : (upto (n : Int))[i]? = some d) : i < n ∧ d = .int (i : Int) := by
  unfold upto at h
  have hi : i < n := by
    have := (List.getElem?_eq_some_iff.mp h).1
    simpa using this
  refine ⟨hi, ?_⟩
  rw [List.getElem?_map, List.getElem?_range (by simpa using hi)] at h
  exact (Option.some.inj h).symm
theorem downto_len (n : Nat) : (downto (n : Int)).length = n := by simp [downto]
theorem upto_len (n : Nat) : (upto (n : Int)).length = n := by simp [upto]

theorem fn104 (G : Gd w g mg mb) {k : Nat} (text : Str) (T : Tx text) : Fn pg w g os 104 (k + 1) [.str text] (.list ((sums text).map D.int)) := by
  refine Fn.intro (G.fn (k104 _)) rfl (bo104 _) (codeRec_of G.K (c104 _)) G.lim (ok104 _) rfl (bind1 (b104 _)) G.gn G.bn fun A L => ?_
  have hz := T.size
  have hlen := T.len
  refine Ex.assign (d := .list [.int 1]) (Ev.list (EvL.cons Ev.int EvL.nil rfl) sz1) rfl rfl ?_
  refine Ex.for_ (ds := downto (text.length : Int)) ?_ rfl (fun j ρ' => ρ' = [(Str.ofString "text", B.val (.str text)), (Str.ofString "sums", B.val (.list ((sumsTo text j).map D.int)))]) rfl ?_ ?_
  · exact EvI.rangeRev (m := .n) rfl (by decide) (G.miss (nb_range _)) G.range (G.lenS rfl rfl rfl (Ev.name rfl rfl) rfl hz) rfl (by lia) (by lia) (Ev.neg Ev.int)
  · intro j d ρ' hd hI
    subst hI
    obtain ⟨hj, rfl⟩ := downto_at hd
    have hi0 : (0 : Int) ≤ (text.length : Int) - 1 - j := by lia
    have hi1 : (text.length : Int) - 1 - j < text.length := by lia
    have hS := sumsTo_length text j
    have hn := T.num hi0 hi1
    generalize hi : (text.length : Int) - 1 - (j : Int) = i at hi0 hi1 hn
    generalize hS' : sumsTo text j = S at hS
    refine Ex.assign (d := .int (num text i * S.getD 0 0)) ?_ rfl rfl ?_
    · refine Ev.bin (d1 := .int (num text i)) (d2 := .int (S.getD 0 0)) ?_ ?_ (BinOK.mul (IntMulOk.of_left (small_bits (by lia) hn.2)))
      · refine Ev.eq (Ev.itemDict (l := exact) (x := Txt.item text i) (evExact G rfl rfl rfl rfl rfl) ?_ ?_ rfl) ?_
        · exact Ev.itemStr (Ev.name rfl rfl) (Ev.name rfl rfl) hi0 hi1 (by lia) rfl
        · rw [exact_has]; exact T.one i hi0 hi1
        · rw [exact_look]; rfl
      · exact Ev.item (ds := S.map D.int) (i := 0) (Ev.name rfl rfl) (Ev.int) (by decide) (getD_map (by lia)) (by decide) rfl
    refine Ex.for_ (ds := [.int 2, .int 3]) (EvI.tup (Ev.tup (EvL.cons Ev.int (EvL.cons Ev.int EvL.nil rfl) rfl) sz2)) rfl (fun q ρ' => ρ' = [(Str.ofString "text", B.val (.str text)), (Str.ofString "sums", B.val (.list (S.map D.int))), (Str.ofString "i", B.val (.int i)),
      (Str.ofString "total", B.val (.int (if q = 0 then num text i * S.getD 0 0 else if q = 1 then plus2 text i S (num text i * S.getD 0 0) else sumStep text i S)))]) rfl ?_ ?_
    · intro q d ρ' hd hI
      subst hI
      obtain ⟨k', t', hk', rfl, ht', hk0, hk2⟩ : ∃ (k' : Int) (t' : Int), d = .int k' ∧ t' = (if q = 0 then num text i * S.getD 0 0 else if q = 1 then plus2 text i S (num text i * S.getD 0 0) else sumStep text i S) ∧
          (if stands text i k' then t' + S.getD (k' - 1).toNat 0 else t') = (if q + 1 = 0 then num text i * S.getD 0 0 else if q + 1 = 1 then plus2 text i S (num text i * S.getD 0 0) else sumStep text i S) ∧ 2 ≤ k' ∧ k' ≤ 3 := by
        match q, hd with
        | 0, hd => cases hd; exact ⟨2, _, rfl, rfl, rfl, by decide, by decide⟩
        | 1, hd => cases hd; exact ⟨3, _, rfl, rfl, rfl, by decide, by decide⟩
      subst hk'
      rw [← ht']
      generalize (if q = 0 then num text i * S.getD 0 0 else if q = 1 then plus2 text i S (num text i * S.getD 0 0) else sumStep text i S) = t'
      refine Ex.if_ (b := stands text i k') (N' := fun ρ' => ρ' = [(Str.ofString "text", B.val (.str text)), (Str.ofString "sums", B.val (.list (S.map D.int))), (Str.ofString "i", B.val (.int i)),
          (Str.ofString "total", B.val (.int (if stands text i k' then t' + S.getD (k' - 1).toNat 0 else t'))), (Str.ofString "k", B.val (.int k'))]) ?_ ?_ ?_ ?_
      · refine ET.eq (b1 := decide (i + k' ≤ text.length) && kdpHas exact (Txt.slice text (some i) (some (i + k')))) (ET.and ?_ fun _ => ?_) ?_
        · exact ET.cmp (m := .n) (Ev.bin (Ev.name rfl rfl) (Ev.name rfl rfl) BinOK.add) (G.lenS rfl rfl rfl (Ev.name rfl rfl) rfl hz) CmpOK.leI rfl
        · exact ET.cmp (m := .n) (Ev.sliceS (Ev.name rfl rfl) (EvP.some (Ev.name rfl rfl)) (EvP.some (Ev.bin (Ev.name rfl rfl) (Ev.name rfl rfl) BinOK.add)) hz) (evExact G rfl rfl rfl rfl rfl) CmpOK.inD rfl
        · rw [exact_has]; rfl
      · intro hb
        have := stands_len hb
        refine Ex.aug (d1 := .int t') (d2 := .int (S.getD (k' - 1).toNat 0)) (d := .int (t' + S.getD (k' - 1).toNat 0)) rfl rfl ?_ AugOK.add rfl ?_
        · exact Ev.item (ds := S.map D.int) (i := k' - 1) (Ev.name rfl rfl) (Ev.bin (Ev.name rfl rfl) Ev.int BinOK.sub) (by lia) (getD_map (by lia)) (by lia) rfl
        · rw [hb]; exact Ex.nil rfl
      · intro hb
        rw [hb]; exact Ex.nil rfl
      · intro ρ' hN
        subst hN
        exact Ex.nilF (ρ2 := [(Str.ofString "text", B.val (.str text)), (Str.ofString "sums", B.val (.list (S.map D.int))), (Str.ofString "i", B.val (.int i)),
          (Str.ofString "total", B.val (.int (if stands text i k' then t' + S.getD (k' - 1).toNat 0 else t')))]) (ext := [(Str.ofString "k", B.val (.int k'))]) rfl rfl
    · intro ρ' hI
      replace hI : ρ' = [(Str.ofString "text", B.val (.str text)), (Str.ofString "sums", B.val (.list (S.map D.int))), (Str.ofString "i", B.val (.int i)), (Str.ofString "total", B.val (.int (sumStep text i S)))] := hI
      subst hI
      refine Ex.assign (d := .list ((sumsTo text (j + 1)).map D.int)) ?_ rfl rfl ?_
      · refine Ev.eq (d1 := .list ([D.int (sumStep text i S)] ++ S.map D.int)) (Ev.bin (d1 := .list [D.int (sumStep text i S)]) (d2 := .list (S.map D.int)) ?_ ?_ (BinOK.addL ?_)) ?_
        · refine Ev.list (ds := [D.int (sumStep text i S)]) (EvL.cons (Ev.name rfl rfl) EvL.nil rfl) (by rw [sizeLine_eq]; simp)
        · exact Ev.name rfl rfl
        · rw [List.length_map, hS, sizeLine_eq]; simp; lia
        · conv => rhs; unfold sumsTo
          rw [hi, hS']; rfl
      · exact Ex.nilF (ρ2 := [(Str.ofString "text", B.val (.str text)), (Str.ofString "sums", B.val (.list ((sumsTo text (j + 1)).map D.int)))]) (ext := [(Str.ofString "i", B.val (.int i)), (Str.ofString "total", B.val (.int (sumStep text i S)))]) rfl rfl
  · intro ρ' hI
    rw [downto_len] at hI
    subst hI
    exact Ex.ret (d := .list ((sums text).map D.int)) (Ev.name rfl rfl) rfl
end
end

section
set_option linter.unusedVariables false
set_option maxRecDepth 100000
open PySem PyProof.Rows PySem.W PyProof.V
section
variable {w : World} {g : Heap} {mg mb : Str → Option Value} {os : OsState}

/-- all cuts of the text from i on, from the cuts of what comes after -/
noncomputable def cutStep (text : Str) (i : Int) (C : List (List (List Str))) : List (List Str) :=
  (sizes text i).flatMap fun k => (C.getD (k - 1).toNat []).map fun cut => Txt.slice text (some i) (some (i + k)) :: cut
noncomputable def cutsTo (text : Str) : Nat → List (List (List Str))
  | 0 => [[[]]]
  | j + 1 => cutStep text (text.length - 1 - j) (cutsTo text j) :: cutsTo text j
noncomputable def pieceWorth (p : Str) : Int := if p.length = 1 then kdpLook nums p 0 else 1
noncomputable def cutWorth (cut : List Str) : Int := cut.foldl (fun w p => w * pieceWorth p) 1
noncomputable def totals (text : Str) : List Int := (cutsTo text text.length).map fun some => (some.map cutWorth).sum

theorem cutsTo_length (text : Str) (j : Nat) : (cutsTo text j).length = j + 1 := by
  induction j with
  | zero => rfl
  | succ j ih => unfold cutsTo; rw [List.length_cons, ih]
theorem mem_sizes {text : Str} {i k : Int} (h : k ∈ sizes text i) : 1 ≤ k ∧ k ≤ 3 ∧ stands text i k = true := by
  unfold sizes at h
  rw [List.mem_filter] at h
  obtain ⟨h1, h2⟩ := h
  simp only [List.mem_cons, List.not_mem_nil, or_false] at h1
  exact ⟨by lia, by lia, h2⟩
theorem sizes_length (text : Str) (i : Int) : (sizes text i).length ≤ 3 := by
  unfold sizes; exact List.length_filter_le _ _
structure CutOk (j : Nat) (cut : List Str) : Prop where
  len : cut.length ≤ j
  has : ∀ p ∈ cut, kdpHas nums p = true
theorem cuts_ok (text : Str) (j : Nat) : ∀ some ∈ cutsTo text j, some.length ≤ 3 ^ j ∧ ∀ cut ∈ some, CutOk j cut := by
  induction j with
  | zero =>
    intro s hs
    simp only [cutsTo, List.mem_singleton] at hs
    subst hs
    exact ⟨by simp, fun cut hc => by simp at hc; subst hc; exact ⟨by simp, by simp⟩⟩
  | succ j ih =>
    have hpow : 3 ^ (j + 1) = 3 ^ j * 3 := Nat.pow_succ ..
    have hpos : 0 < 3 ^ j := Nat.pow_pos (by decide)
    have hget : ∀ n, ((cutsTo text j).getD n []).length ≤ 3 ^ j ∧ ∀ cut ∈ (cutsTo text j).getD n [], CutOk j cut := by
      intro n
      rw [List.getD_eq_getElem?_getD]
      cases h : (cutsTo text j)[n]? with
      | none => exact ⟨Nat.zero_le _, fun _ h => by cases h⟩
      | some s => exact ih s (List.mem_of_getElem? h)
    intro s hs
    rw [cutsTo, List.mem_cons] at hs
    rcases hs with rfl | hs
    · constructor
      · unfold cutStep
        have hb : ∀ l : List Int, (l.flatMap fun k => ((cutsTo text j).getD (k - 1).toNat []).map fun cut => Txt.slice text (Option.some ((text.length : Int) - 1 - j)) (Option.some ((text.length : Int) - 1 - j + k)) :: cut).length ≤ 3 ^ j * l.length := by
          intro l
          induction l with
          | nil => simp
          | cons k l ihl =>
            rw [List.flatMap_cons, List.length_append, List.length_map, List.length_cons, Nat.mul_succ]
            have := (hget (k - 1).toNat).1
            lia
        refine Nat.le_trans (hb _) ?_
        rw [hpow]
        exact Nat.mul_le_mul_left _ (sizes_length _ _)
      · intro cut hc
        unfold cutStep at hc
        rw [List.mem_flatMap] at hc
        obtain ⟨k, hk, hc⟩ := hc
        rw [List.mem_map] at hc
        obtain ⟨cut', hc', rfl⟩ := hc
        have := (hget _).2 _ hc'
        refine ⟨by rw [List.length_cons]; have := this.len; lia, fun p hp => ?_⟩
        rcases List.mem_cons.mp hp with rfl | hp
        · have := (mem_sizes hk).2.2
          unfold stands at this
          rw [Bool.and_eq_true] at this
          exact this.2
        · exact this.has p hp
    · obtain ⟨h1, h2⟩ := ih s hs
      exact ⟨by lia, fun cut hc => ⟨Nat.le_succ_of_le (h2 cut hc).len, (h2 cut hc).has⟩⟩
end
end

section
set_option linter.unusedVariables false
set_option maxRecDepth 100000
open PySem PyProof.Rows PySem.W PyProof.V
section
variable {w : World} {g : Heap} {mg mb : Str → Option Value} {os : OsState}
theorem Ex.nilG {c : Cx} {ρ ρ2 ext : Rho} {N : Rho → Prop} {R : D → Prop} (e : ρ = ρ2 ++ ext) (h : N ρ2) (ho : owns ext = []) : Ex c ρ [] N R := by subst e; exact Ex.nilF h ho
noncomputable def eCut (cut : List Str) : D := .list (cut.map D.str)
noncomputable def eSome (l : List (List Str)) : D := .list (l.map eCut)
noncomputable def eCuts (C : List (List (List Str))) : D := .list (C.map eSome)
noncomputable def gCut (C : List (List (List Str))) (d : D) : List D := match d with
  | .int k => (C.getD (k - 1).toNat []).map eCut
  | _ => []
noncomputable def fCut (text : Str) (i : Int) (d d2 : D) : D := match d, d2 with
  | .int k, .list l => .list (.str (Txt.slice text (some i) (some (i + k))) :: l)
  | _, _ => .none
theorem eStep (text : Str) (i : Int) (C : List (List (List Str))) : (((sizes text i).map D.int).flatMap fun d => (gCut C d).map (fCut text i d)) = (cutStep text i C).map eCut := by
  unfold cutStep
  rw [List.flatMap_map, List.map_flatMap]
  congr 1
  funext k
  unfold gCut
  rw [List.map_map, List.map_map]
  rfl

theorem nums_len : ∀ p ∈ nums, p.1.length ≤ 3 ∧ 1 ≤ p.1.length := by decide +kernel
theorem piece_len (p : Str) (h : kdpHas nums p = true) : p.length ≤ 3 ∧ 1 ≤ p.length := by
  unfold kdpHas at h
  rw [List.any_eq_true] at h
  obtain ⟨⟨k', v⟩, hp, hk⟩ := h
  have : k' = p := by simpa using hk
  subst this
  exact nums_len _ hp

theorem fn97 (G : Gd w g mg mb) {k : Nat} (text : Str) (T : Tx text) : Fn pg w g os 97 (k + 2) [.str text, .dict nums] (.list ((totals text).map D.int)) := by
  refine Fn.intro (G.fn (k97 _)) rfl (bo97 _) (codeRec_of G.K (c97 _)) G.lim (ok97 _) rfl (bind2 (b97 _)) G.gn G.bn fun A L => ?_
  have hz := T.size
  have hlen := T.len
  refine Ex.assign (d := eCuts (cutsTo text 0)) (by refine' Ev.eq ?a ?b; (case a => exact Ev.list (EvL.cons (Ev.list (EvL.cons (Ev.list EvL.nil sz0) EvL.nil rfl) sz1) EvL.nil rfl) sz1); (case b => rfl)) rfl rfl ?_
  refine Ex.for_ (ds := downto (text.length : Int)) ?_ rfl (fun j ρ' => ρ' = [(Str.ofString "text", B.val (.str text)), (Str.ofString "numbers", B.val (.dict nums)), (Str.ofString "cuts", B.val (eCuts (cutsTo text j)))]) rfl ?_ ?_
  · exact EvI.rangeRev (m := .n) rfl (by decide) (G.miss (nb_range _)) G.range (G.lenS rfl rfl rfl (Ev.name rfl rfl) rfl hz) rfl (by lia) (by lia) (Ev.neg Ev.int)
  · intro j d ρ' hd hI
    subst hI
    obtain ⟨hj, rfl⟩ := downto_at hd
    have hi0 : (0 : Int) ≤ (text.length : Int) - 1 - j := by lia
    have hi1 : (text.length : Int) - 1 - j < text.length := by lia
    have hC := cutsTo_length text j
    have hok := cuts_ok text j
    have hok1 := cuts_ok text (j + 1)
    generalize hi : (text.length : Int) - 1 - (j : Int) = i at hi0 hi1
    have hstep : cutsTo text (j + 1) = cutStep text i (cutsTo text j) :: cutsTo text j := by rw [← hi]; rfl
    generalize hC' : cutsTo text j = C at hC hok hstep
    refine' Ex.assignComp2 (fr := [(Str.ofString "text", B.val (.str text)), (Str.ofString "i", B.val (.int i)), (Str.ofString "cuts", B.val (eCuts C))]) (ds := (sizes text i).map D.int) (g := gCut C) (f := fCut text i) ?K ?hi rfl rfl rfl rfl (by decide) ?hit ?helt ?hz rfl ?kk rfl ?hf1 ?hf2
    case K =>
      refine ⟨rfl, by decide, rfl, by decide, ?_, ?_⟩
      · intro q hq
        simp only [List.mem_cons, List.not_mem_nil, or_false] at hq
        rcases hq with rfl | rfl | rfl
        · exact ⟨rfl, rfl, .inl rfl, .inl rfl, rfl⟩
        · exact ⟨rfl, rfl, .inl rfl, .inl rfl, rfl⟩
        · exact ⟨rfl, rfl, .inl rfl, .inl rfl, rfl⟩
      · intro q hq
        simp only [List.mem_cons, List.not_mem_nil, or_false] at hq
        rcases hq with rfl | rfl | rfl <;> rfl
    case hi => exact EvI.list (Ev.call rfl (by decide) (G.glob (n92 _)) (G.fn (k92 _)) rfl (EvL.cons (Ev.name rfl rfl) (EvL.cons (Ev.name rfl rfl) (EvL.cons (Ev.name rfl rfl) EvL.nil rfl) rfl) rfl) rfl (fn92 G text i hz) (Nat.le_refl _))
    case hit =>
      intro C' Dd d hd
      rw [List.mem_map] at hd
      obtain ⟨k', hk', rfl⟩ := hd
      have hs := mem_sizes hk'
      have hsl := stands_len hs.2.2
      refine EvI.list (Ev.item (ds := C.map eSome) (i := k' - 1) (Ev.name rfl rfl) (Ev.bin (Ev.name rfl rfl) Ev.int BinOK.sub) (by lia) ?_ (by lia) rfl)
      have hlt : (k' - 1).toNat < C.length := by lia
      show _ = some (D.list ((C.getD (k' - 1).toNat []).map eCut))
      rw [List.getElem?_map, List.getD_eq_getElem?_getD, List.getElem?_eq_getElem hlt]; rfl
    case helt =>
      intro C' Dd d hd d2 hd2
      rw [List.mem_map] at hd
      obtain ⟨k', hk', rfl⟩ := hd
      unfold gCut at hd2
      rw [List.mem_map] at hd2
      obtain ⟨cut, hcut, rfl⟩ := hd2
      refine Ev.eq (d1 := .list ([.str (Txt.slice text (some i) (some (i + k')))] ++ cut.map D.str)) (Ev.bin (d1 := .list [.str (Txt.slice text (some i) (some (i + k')))]) (d2 := .list (cut.map D.str)) ?_ (Ev.name rfl rfl) (BinOK.addL ?_)) rfl
      · exact Ev.list (EvL.cons (Ev.sliceS (Ev.name rfl rfl) (EvP.some (Ev.name rfl rfl)) (EvP.some (Ev.bin (Ev.name rfl rfl) (Ev.name rfl rfl) BinOK.add)) hz) EvL.nil rfl) sz1
      · have hc : cut.length ≤ j := by
          rw [List.getD_eq_getElem?_getD] at hcut
          cases h : C[(k' - 1).toNat]? with
          | none => rw [h] at hcut; cases hcut
          | some s => rw [h] at hcut; exact ((hok s (List.mem_of_getElem? h)).2 cut hcut).len
        rw [List.length_map, sizeLine_eq]; simp; lia
    case hz =>
      rw [eStep, List.length_map]
      have h1 := (hok1 (cutStep text i C) (by rw [hstep]; exact List.mem_cons_self ..)).1
      have h2 : 3 ^ (j + 1) ≤ 3 ^ 12 := Nat.pow_le_pow_right (by decide) (by lia)
      rw [sizeLine_eq]
      lia
    case hf1 => intro v; rfl
    case hf2 => intro C' v; rfl
    case kk =>
      rw [eStep]
      refine Ex.assign (d := eCuts (cutsTo text (j + 1))) ?_ rfl rfl ?_
      · refine Ev.eq (d1 := .list ([eSome (cutStep text i C)] ++ C.map eSome)) (Ev.bin (d1 := .list [eSome (cutStep text i C)]) (d2 := .list (C.map eSome)) ?_ (Ev.name rfl rfl) (BinOK.addL ?_)) (by rw [hstep]; rfl)
        · exact Ev.list (ds := [eSome (cutStep text i C)]) (EvL.cons (Ev.name rfl rfl) EvL.nil rfl) (by rw [sizeLine_eq]; simp)
        · rw [List.length_map, hC, sizeLine_eq]; simp; lia
      · exact Ex.nilF (ρ2 := [(Str.ofString "text", B.val (.str text)), (Str.ofString "numbers", B.val (.dict nums)), (Str.ofString "cuts", B.val (eCuts (cutsTo text (j + 1))))])
          (ext := [(Str.ofString "i", B.val (.int i)), (Str.ofString "here", B.val (eSome (cutStep text i C)))]) rfl rfl
  · intro ρ' hI
    rw [downto_len] at hI
    subst hI
    refine Ex.assignOwn (ds := []) EvL.nil (by decide) rfl fun a => ?_
    have hok := cuts_ok text text.length
    have hC := cutsTo_length text text.length
    have htot : totals text = (cutsTo text text.length).map fun some => (some.map cutWorth).sum := rfl
    generalize cutsTo text text.length = C at hok hC htot
    refine Ex.for_ (ds := C.map eSome) (EvI.list (Ev.name rfl rfl)) rfl (fun j ρ' => ρ' = [(Str.ofString "text", B.val (.str text)), (Str.ofString "numbers", B.val (.dict nums)), (Str.ofString "cuts", B.val (eCuts C)),
      (Str.ofString "totals", B.own a (((C.take j).map fun some => (some.map cutWorth).sum).map D.int))]) rfl ?_ ?_
    · intro j d ρ' hd hI
      subst hI
      rw [List.getElem?_map] at hd
      cases hs : C[j]? with
      | none => rw [hs] at hd; cases hd
      | some sm =>
      rw [hs] at hd
      obtain rfl : eSome sm = d := Option.some.inj hd
      have hmem := List.mem_of_getElem? hs
      have hlt : j < C.length := (List.getElem?_eq_some_iff.mp hs).1
      have htake : C.take (j + 1) = C.take j ++ [sm] := by rw [List.take_add_one, hs]; rfl
      have hoks := (hok sm hmem).2
      generalize hds : ((C.take j).map fun some => (some.map cutWorth).sum).map D.int = ds
      have hdl : ds.length ≤ sizeLine := by
        rw [← hds, List.length_map, List.length_map, List.length_take, sizeLine_eq]; lia
      refine Ex.assign (d := .int 0) (Ev.int) rfl rfl ?_
      refine Ex.for_ (ds := sm.map eCut) (EvI.list (Ev.name rfl rfl)) rfl (fun q ρ' => ρ' = [(Str.ofString "text", B.val (.str text)), (Str.ofString "numbers", B.val (.dict nums)), (Str.ofString "cuts", B.val (eCuts C)),
        (Str.ofString "totals", B.own a ds), (Str.ofString "some", B.val (eSome sm)), (Str.ofString "total", B.val (.int ((sm.take q).map cutWorth).sum))]) rfl ?_ ?_
      · intro q d ρ' hd hI
        subst hI
        rw [List.getElem?_map] at hd
        cases hq : sm[q]? with
        | none => rw [hq] at hd; cases hd
        | some cut =>
        rw [hq] at hd
        obtain rfl : eCut cut = d := Option.some.inj hd
        have hcut := (hoks cut (List.mem_of_getElem? hq)).has
        have htk : ((sm.take (q + 1)).map cutWorth).sum = ((sm.take q).map cutWorth).sum + cutWorth cut := by
          rw [List.take_add_one, hq]; simp
        generalize ((sm.take q).map cutWorth).sum = t at htk
        refine Ex.assign (d := .int 1) (Ev.int) rfl rfl ?_
        refine Ex.for_ (ds := cut.map D.str) (EvI.list (Ev.name rfl rfl)) rfl (fun r ρ' => ρ' = [(Str.ofString "text", B.val (.str text)), (Str.ofString "numbers", B.val (.dict nums)), (Str.ofString "cuts", B.val (eCuts C)),
          (Str.ofString "totals", B.own a ds), (Str.ofString "some", B.val (eSome sm)), (Str.ofString "total", B.val (.int t)), (Str.ofString "cut", B.val (eCut cut)), (Str.ofString "worth", B.val (.int (cutWorth (cut.take r))))]) rfl ?_ ?_
        · intro r d ρ' hd hI
          subst hI
          rw [List.getElem?_map] at hd
          cases hr : cut[r]? with
          | none => rw [hr] at hd; cases hd
          | some p =>
          rw [hr] at hd
          obtain rfl : D.str p = d := Option.some.inj hd
          have hp := hcut p (List.mem_of_getElem? hr)
          have hw : cutWorth (cut.take (r + 1)) = cutWorth (cut.take r) * pieceWorth p := by
            unfold cutWorth
            rw [List.take_add_one, hr, List.foldl_append]; rfl
          have hpl := piece_len p hp
          have hpz : p.length ≤ sizeLine := by rw [sizeLine_eq]; lia
          have hpb : 0 ≤ pieceWorth p ∧ pieceWorth p ≤ 54 := by
            unfold pieceWorth
            have := look_range hp
            split <;> lia
          refine Ex.aug (d1 := .int (cutWorth (cut.take r))) (d2 := .int (pieceWorth p)) (d := .int (cutWorth (cut.take r) * pieceWorth p)) rfl rfl ?_ (AugOK.mul (IntMulOk.of_right (small_bits hpb.1 hpb.2))) rfl ?_
          · refine Ev.ifexp (b := decide ((p.length : Int) = 1)) (ET.cmp (m := .n) (G.lenS rfl rfl rfl (Ev.name rfl rfl) rfl hpz) (Ev.int) CmpOK.eqI rfl) (fun hb => ?_) fun hb => ?_
            · refine Ev.eq (Ev.itemDict (m' := .n) (l := nums) (x := p) (Ev.name rfl rfl) (Ev.name rfl rfl) hp rfl) ?_
              have : p.length = 1 := by have := of_decide_eq_true hb; lia
              unfold pieceWorth; rw [if_pos this]
            · refine Ev.eq (d1 := .int 1) (Ev.int) ?_
              have : ¬ p.length = 1 := by have := of_decide_eq_false hb; lia
              unfold pieceWorth; rw [if_neg this]
          · rw [← hw]
            exact Ex.nilF (ρ2 := [(Str.ofString "text", B.val (.str text)), (Str.ofString "numbers", B.val (.dict nums)), (Str.ofString "cuts", B.val (eCuts C)),
              (Str.ofString "totals", B.own a ds), (Str.ofString "some", B.val (eSome sm)), (Str.ofString "total", B.val (.int t)), (Str.ofString "cut", B.val (eCut cut)), (Str.ofString "worth", B.val (.int (cutWorth (cut.take (r + 1)))))])
              (ext := [(Str.ofString "piece", B.val (.str p))]) rfl rfl
        · intro ρ' hI
          rw [List.length_map, List.take_length] at hI
          subst hI
          refine Ex.aug (d1 := .int t) (d2 := .int (cutWorth cut)) (d := .int (t + cutWorth cut)) rfl rfl (Ev.name rfl rfl) AugOK.add rfl ?_
          rw [← htk]
          exact Ex.nilF (ρ2 := [(Str.ofString "text", B.val (.str text)), (Str.ofString "numbers", B.val (.dict nums)), (Str.ofString "cuts", B.val (eCuts C)),
            (Str.ofString "totals", B.own a ds), (Str.ofString "some", B.val (eSome sm)), (Str.ofString "total", B.val (.int ((sm.take (q + 1)).map cutWorth).sum))])
            (ext := [(Str.ofString "cut", B.val (eCut cut)), (Str.ofString "worth", B.val (.int (cutWorth cut)))]) rfl rfl
      · intro ρ' hI
        rw [List.length_map, List.take_length] at hI
        subst hI
        refine Ex.append (d := .int (sm.map cutWorth).sum) rfl rfl (Ev.name rfl rfl) hdl rfl rfl ?_
        have he : ds ++ [D.int (sm.map cutWorth).sum] = ((C.take (j + 1)).map fun some => (some.map cutWorth).sum).map D.int := by
          rw [htake, ← hds]; simp
        rw [he]
        refine Ex.nilG (ρ2 := [(Str.ofString "text", B.val (.str text)), (Str.ofString "numbers", B.val (.dict nums)), (Str.ofString "cuts", B.val (eCuts C)),
          (Str.ofString "totals", B.own a (((C.take (j + 1)).map fun some => (some.map cutWorth).sum).map D.int))]) (ext := [(Str.ofString "some", B.val (eSome sm)), (Str.ofString "total", B.val (.int (sm.map cutWorth).sum))]) ?_ rfl rfl
        rfl
    · intro ρ' hI
      rw [List.length_map, List.take_length] at hI
      subst hI
      exact Ex.ret (d := .list ((totals text).map D.int)) (by rw [htot]; exact Ev.nameOwnM (by intro h; cases h) rfl rfl) rfl
end
end

section
set_option linter.unusedVariables false
set_option maxRecDepth 100000
open PySem PyProof.Rows PySem.W PyProof.V
open PySem.StrLaws in
theorem slice_cps (x : Str) {a b : Nat} (hab : a ≤ b) (hb : b ≤ x.length) : (Txt.slice x (some (a : Int)) (some (b : Int))).cps = (((x.cps.toList).drop a).take (b - a)).toArray := by
  unfold Txt.slice
  split
  · rename_i h
    rw [strSliceIndices_plain hab hb] at h
    simp at h
    have h0 : a = 0 := by lia
    have h1 : b = x.length := by lia
    subst h0 h1
    have : x.cps.toList.take x.length = x.cps.toList := List.take_of_length_le (by simp [Str.length])
    simp [this]
  · rw [sliced_plain x hab hb]
theorem slice_len (x : Str) {a b : Nat} (hab : a ≤ b) (hb : b ≤ x.length) : (Txt.slice x (some (a : Int)) (some (b : Int))).length = b - a := by
  unfold Str.length
  rw [slice_cps x hab hb]
  simp
  unfold Str.length at hb
  lia
theorem slice_len' (x : Str) {i k : Int} (h0 : 0 ≤ i) (hk : 0 ≤ k) (hb : i + k ≤ x.length) : ((Txt.slice x (some i) (some (i + k))).length : Int) = k := by
  obtain ⟨a, rfl⟩ := Int.eq_ofNat_of_zero_le h0
  obtain ⟨b, rfl⟩ := Int.eq_ofNat_of_zero_le hk
  have := slice_len x (a := a) (b := a + b) (by lia) (by lia)
  rw [← Int.natCast_add, this]
  lia
theorem slice_one (x : Str) {i : Int} (h0 : 0 ≤ i) (h1 : i < x.length) : Txt.slice x (some i) (some (i + 1)) = Txt.item x i := by
  obtain ⟨a, rfl⟩ := Int.eq_ofNat_of_zero_le h0
  have hb : a < x.length := by lia
  rw [PySem.W.item_meets ⟨h0, h1⟩]
  have := slice_cps x (a := a) (b := a + 1) (by lia) (by lia)
  have e : Txt.slice x (some (a : Int)) (some ((a : Int) + 1)) = ⟨(Txt.slice x (some (a : Int)) (some ((a + 1 : Nat) : Int))).cps⟩ := rfl
  rw [e, this]
  congr 1
  unfold Str.length at hb
  have h2 : a < x.cps.toList.length := by simpa using hb
  rw [show a + 1 - a = 1 by lia, List.drop_eq_getElem_cons h2]
  simp [hb]

/-! small facts of loops over a text -/
theorem meas {n : Nat} {L i k : Int} (h : (n : Int) = L - i) (h1 : 1 ≤ k) (h2 : i + k ≤ L) : ∃ n' : Nat, n' < n ∧ (n' : Int) = L - (i + k) := ⟨(L - (i + k)).toNat, by lia, by lia⟩
theorem fsucc {f : Nat} {L i : Int} (h : L - i ≤ f) (h0 : i < L) : ∃ f', f = f' + 1 := ⟨f - 1, by lia⟩
theorem fstep {f : Nat} {L i k : Int} (h : L - i ≤ ((f + 1 : Nat) : Int)) (h1 : 1 ≤ k) : L - (i + k) ≤ f := by lia
theorem accs {acc : List D} {x : D} {i k : Int} (h : (acc.length : Int) ≤ i) (h1 : 1 ≤ k) : ((acc ++ [x]).length : Int) ≤ i + k := by
  rw [List.length_append, List.length_singleton]; lia
theorem accz {acc : List D} {x : D} {i : Int} {n : Nat} (h : (acc.length : Int) ≤ i) (h2 : i < n) (hn : n ≤ 9) : (x :: acc).length ≤ sizeLine := by
  rw [List.length_cons, sizeLine_eq]; lia
theorem appCons (a : List D) (x : D) (b : List D) : (a ++ [x]) ++ b = a ++ x :: b := by simp
theorem lt63 {i : Int} {n : Nat} (h2 : i < n) (hn : n ≤ 9) : i < 2 ^ 63 := by lia
theorem addNn {i k : Int} (h : 0 ≤ i) (h1 : 1 ≤ k) : 0 ≤ i + k := by lia
theorem szLe {n k : Nat} (h : n ≤ k) (hk : k ≤ 1000) : n ≤ sizeLine := by rw [sizeLine_eq]; lia
theorem lenNe {n : Nat} (h : 1 ≤ n) : (n : Int) ≠ 0 := by lia
theorem lenNe' {n : Nat} {i : Int} (h0 : 0 ≤ i) (h : i < (n : Int)) : (n : Int) ≠ 0 := by lia
theorem one_le3 {k : Int} (h : k = 1 ∨ k = 2 ∨ k = 3) : 1 ≤ k := by lia
theorem lt_of_add {i k L : Int} (h : 1 ≤ k) (h2 : i + k ≤ L) : i < L := by lia
section
variable {text : Str}
theorem stands_one (T : Tx text) {i : Int} (h0 : 0 ≤ i) (h1 : i < text.length) : stands text i 1 = true := by
  unfold stands
  rw [slice_one text h0 h1, T.one i h0 h1, Bool.and_true]
  exact decide_eq_true (by lia)
theorem stands_has {i k : Int} (h : stands text i k = true) : kdpHas nums (Txt.slice text (some i) (some (i + k))) = true := by
  unfold stands at h
  rw [Bool.and_eq_true] at h
  exact h.2
/-- the number of the operator of k signs at i -/
noncomputable def nmb (text : Str) (i k : Int) : Int := kdpLook nums (Txt.slice text (some i) (some (i + k))) 0
theorem nmb_range {i k : Int} (h : stands text i k = true) : 7 ≤ nmb text i k ∧ nmb text i k ≤ 54 := look_range (stands_has h)
theorem nmb_one {i : Int} (h0 : 0 ≤ i) (h1 : i < text.length) : nmb text i 1 = num text i := by
  unfold nmb num
  rw [slice_one text h0 h1]
theorem sizes_pos (T : Tx text) {i : Int} (h0 : 0 ≤ i) (h1 : i < text.length) : 1 ≤ (sizes text i).length := by
  have : (1 : Int) ∈ sizes text i := by
    unfold sizes
    rw [List.mem_filter]
    exact ⟨by simp, stands_one T h0 h1⟩
  exact List.length_pos_of_mem this

/-- a cut from i on, each piece with a figure: (size, figure) -/
inductive Row (text : Str) : Int → List (Int × Int) → Prop
  | nil {i : Int} (h : i = (text.length : Int)) : Row text i []
  | cons {i k f r} (h0 : 0 ≤ i) (hs : stands text i k = true) (hk : k = 1 ∨ k = 2 ∨ k = 3) (h1 : k = 1 → 0 ≤ f ∧ f < num text i) (h2 : k ≠ 1 → f = -1) (hr : Row text (i + k) r) : Row text i ((k, f) :: r)
theorem Row.lt {i k f r} (h : Row text i ((k, f) :: r)) : i < text.length := by
  cases h with
  | cons h0 hs hk h1 h2 hr => have := stands_len hs; lia
theorem Row.le {i r} (h : Row text i r) : i ≤ text.length := by
  cases h with
  | nil h => lia
  | cons h0 hs hk h1 h2 hr => have := stands_len hs; lia
/-- the row as the program writes it -/
noncomputable def encRow (text : Str) : Int → List (Int × Int) → List D
  | _, [] => []
  | i, (k, f) :: r => .tup [.int (nmb text i k), .int f] :: encRow text (i + k) r
end
end

section
set_option linter.unusedVariables false
set_option maxRecDepth 100000
open PySem PyProof.Rows PySem.W PyProof.V

theorem pickD_of (ds : List D) {lo hi : Option Int} {A B : Nat} (hA : A ≤ B) (hB : B ≤ ds.length) (e : sliceBounds lo hi none ds.length = ((A : Int), (B : Int), 1)) : pickD ds lo hi none = (ds.drop A).take (B - A) := by
  unfold pickD
  rw [e]
  have h := PySem.StrLaws.picks ds (B - A) A (by lia)
  rw [← h]
  congr 1
  unfold sliceRange
  simp only [show ((1 : Int) > 0) = True from by simp, if_true]
  by_cases hlt : (A : Int) < B
  · have e3 : (((B : Int) - A + 1 - 1) / 1).toNat = B - A := by first | lia | (simp; done) | (simp; lia)
    simp only [hlt, if_true, e3]
    refine List.map_congr_left fun k _ => ?_
    lia
  · have : B - A = 0 := by lia
    simp [hlt, this]
theorem clip_nat (a n : Nat) : max (0 : Int) (min (if (a : Int) < 0 then (a : Int) + (n : Int) else (a : Int)) (n : Int)) = ((min a n : Nat) : Int) := by
  rw [if_neg (Int.not_lt.mpr (Int.natCast_nonneg a))]
  lia
theorem bnd (lo hi : Option Nat) (n : Nat) : sliceBounds (lo.map Int.ofNat) (hi.map Int.ofNat) none n = (((lo.elim 0 fun a => min a n : Nat) : Int), ((hi.elim n fun b => min b n : Nat) : Int), 1) := by
  cases lo <;> cases hi <;> simp only [sliceBounds, Option.map, Option.getD, Option.elim, Int.ofNat_eq_natCast, gt_iff_lt, show ((0 : Int) < 1) = True from by simp, if_true, clip_nat, Int.natCast_zero]
theorem pickD_from (ds : List D) {i : Int} (h0 : 0 ≤ i) (h1 : i ≤ ds.length) : pickD ds (some i) none none = ds.drop i.toNat := by
  obtain ⟨a, rfl⟩ := Int.eq_ofNat_of_zero_le h0
  have h2 : a ≤ ds.length := Int.ofNat_le.mp h1
  have e := bnd (some a) none ds.length
  rw [show (Option.elim (some a) 0 fun a => min a ds.length) = a from Nat.min_eq_left h2] at e
  rw [pickD_of ds (lo := some (a : Int)) (hi := none) (A := a) (B := ds.length) h2 (Nat.le_refl _) e, List.take_of_length_le (by simp)]
  rfl
theorem pickD_to (ds : List D) {b : Nat} : pickD ds none (some (b : Int)) none = ds.take b := by
  rw [pickD_of ds (lo := none) (hi := some (b : Int)) (A := 0) (B := min b ds.length) (Nat.zero_le _) (Nat.min_le_right _ _) (bnd none (some b) ds.length), List.drop_zero, Nat.sub_zero]
  by_cases h : b ≤ ds.length
  · rw [Nat.min_eq_left h]
  · have h' := Nat.le_of_not_le h
    rw [Nat.min_eq_right h', List.take_length, List.take_of_length_le h']
theorem pickD_mid (ds : List D) {a b : Nat} (hab : a ≤ b) (ha : a ≤ ds.length) : pickD ds (some (a : Int)) (some (b : Int)) none = (ds.drop a).take (b - a) := by
  have e := bnd (some a) (some b) ds.length
  rw [show (Option.elim (some a) 0 fun a => min a ds.length) = a from Nat.min_eq_left ha] at e
  rw [pickD_of ds (lo := some (a : Int)) (hi := some (b : Int)) (A := a) (B := min b ds.length) (Nat.le_min.mpr ⟨hab, ha⟩) (Nat.min_le_right _ _) e]
  by_cases h : b ≤ ds.length
  · rw [Nat.min_eq_left h]
  · have h' := Nat.le_of_not_le h
    rw [Nat.min_eq_right h', List.take_of_length_le (by simp), List.take_of_length_le (by simp; lia)]

theorem nums_back : ∀ p ∈ nums, opers[(p.2 - 7).toNat]? = some p.1 := by decide +kernel
theorem has_mem {k : Str} (h : kdpHas nums k = true) : (k, kdpLook nums k 0) ∈ nums := by
  unfold kdpHas at h
  rw [List.any_eq_true] at h
  obtain ⟨⟨k', v⟩, hp, hk⟩ := h
  have : k' = k := by simpa using hk
  subst this
  rw [look_mem nodup_nums hp]
  exact hp
theorem nmb_back {text : Str} {i k : Int} (h : stands text i k = true) : opers[(nmb text i k - 7).toNat]? = some (Txt.slice text (some i) (some (i + k))) := nums_back _ (has_mem (stands_has h))

/-- what a cut with figures is worth -/
noncomputable def two (text : Str) (S : List Int) (i k : Int) : Int := if k = 3 ∧ stands text i 2 = true then S.getD (i + 2).toNat 0 else 0
noncomputable def val (text : Str) (S : List Int) : Int → List (Int × Int) → Int
  | _, [] => 0
  | i, (k, f) :: r => (if k = 1 then f else num text i) * S.getD (i + 1).toNat 0 + two text S i k + val text S (i + k) r
end

section
set_option linter.unusedVariables false
set_option maxRecDepth 100000
open PySem PyProof.Rows PySem.W PyProof.V
section
variable {w : World} {g : Heap} {mg mb : Str → Option Value} {os : OsState}

theorem has_num {text : Str} (T : Tx text) {i : Int} (h0 : 0 ≤ i) (h1 : i < text.length) : kdpHas nums (Txt.item text i) = true := T.one i h0 h1
noncomputable def pickI (ns : List Int) (lo hi st : Option Int) : List Int := (sliceRange (sliceBounds lo hi st ns.length).1 (sliceBounds lo hi st ns.length).2.1 (sliceBounds lo hi st ns.length).2.2).filterMap (ns[·]?)
theorem pickD_map (ns : List Int) (lo hi st : Option Int) : pickD (ns.map D.int) lo hi st = (pickI ns lo hi st).map D.int := by
  unfold pickD pickI
  rw [List.length_map, List.map_filterMap]
  congr 1
  funext j
  simp

noncomputable def drawAt (script : List Int) (text : Str) (i : Int) : Int := (pickI script (some i) none (some (text.length : Int))).sum
noncomputable def drawSize (script : List Int) (text : Str) (i : Int) : Int := (sizes text i).getD ((drawAt script text i).fmod (sizes text i).length).toNat 0
noncomputable def drawFig (script : List Int) (text : Str) (i : Int) : Int := if drawSize script text i = 1 then ((drawAt script text i).fdiv (sizes text i).length).fmod (num text i) else -1
noncomputable def drawRow (script : List Int) (text : Str) : Nat → Int → List (Int × Int)
  | 0, _ => []
  | n + 1, i => if i < text.length then (drawSize script text i, drawFig script text i) :: drawRow script text n (i + drawSize script text i) else []

theorem drawSize_mem {script : List Int} {text : Str} (T : Tx text) {i : Int} (h0 : 0 ≤ i) (h1 : i < text.length) :
    0 ≤ (drawAt script text i).fmod (sizes text i).length ∧ (drawAt script text i).fmod (sizes text i).length < (sizes text i).length ∧
    (sizes text i)[((drawAt script text i).fmod (sizes text i).length).toNat]? = some (drawSize script text i) ∧ drawSize script text i ∈ sizes text i := by
  have hp := sizes_pos T h0 h1
  have a1 := Int.fmod_nonneg_of_pos (drawAt script text i) (show (0 : Int) < (sizes text i).length by lia)
  have a2 := Int.fmod_lt_of_pos (drawAt script text i) (show (0 : Int) < (sizes text i).length by lia)
  have hl : ((drawAt script text i).fmod (sizes text i).length).toNat < (sizes text i).length := by lia
  have e : (sizes text i)[((drawAt script text i).fmod (sizes text i).length).toNat]? = some (drawSize script text i) := by
    unfold drawSize
    rw [List.getD_eq_getElem?_getD, List.getElem?_eq_getElem hl]; rfl
  exact ⟨a1, a2, e, List.mem_of_getElem? e⟩

theorem draw_row {script : List Int} {text : Str} (T : Tx text) : ∀ (n : Nat) (i : Int), 0 ≤ i → i ≤ text.length → (text.length : Int) - i ≤ n → Row text i (drawRow script text n i)
  | 0, i, h0, h1, hn => Row.nil (text := text) (i := i) (by lia)
  | n + 1, i, h0, h1, hn => by
    unfold drawRow
    by_cases h : i < text.length
    · rw [if_pos h]
      have hm := mem_sizes (drawSize_mem (script := script) T h0 h).2.2.2
      have hl := stands_len hm.2.2
      refine .cons h0 hm.2.2 (by lia) (fun h1 => ?_) (fun h1 => ?_) (draw_row T n _ (by lia) (by lia) (by lia))
      · unfold drawFig
        rw [if_pos h1]
        have := T.num h0 h
        exact ⟨Int.fmod_nonneg_of_pos _ (by lia), Int.fmod_lt_of_pos _ (by lia)⟩
      · unfold drawFig
        rw [if_neg h1]
    · rw [if_neg h]
      exact Row.nil (text := text) (i := i) (by lia)

theorem fn111 (G : Gd w g mg mb) {k : Nat} (script : List Int) (text : Str) (T : Tx text) (hz : script.length ≤ 63) :
    Fn pg w g os 111 (k + 2) [.list (script.map D.int), .str text, .dict nums] (.list (.int (near script.sum) :: encRow text 0 (drawRow script text text.length 0))) := by
  refine Fn.intro (G.fn (k111 _)) rfl (bo111 _) (codeRec_of G.K (c111 _)) G.lim (ok111 _) rfl (bind3 (b111 _)) G.gn G.bn fun A L => ?_
  have hsz := T.size
  have hlen := T.len
  have hscr : (script.map D.int).length ≤ sizeLine := szLe (Nat.le_trans (Nat.le_of_eq (List.length_map ..)) hz) (by decide)
  refine Ex.assignOwn (ds := [.int (near script.sum)]) (EvL.cons ?_ EvL.nil rfl) (by rw [sizeLine_eq]; simp) rfl fun a => ?_
  · refine Ev.call (k := k + 1) rfl (by decide) (G.glob (n73 _)) (G.fn (k73 _)) rfl (EvL.cons (m := .s) (d := .int script.sum) ?_ EvL.nil rfl) rfl (fn73 G _) (Nat.le_refl _)
    exact Ev.callB (x := Str.ofString "sum") rfl (by decide) (G.miss (nb_sum _)) G.sum (EvL.cons (Ev.name rfl rfl) EvL.nil rfl) rfl rfl BuOK.sum
  refine Ex.assign (d := .int 0) (Ev.int) rfl rfl ?_
  refine Ex.while_ (fun n ρ' => ∃ (i : Int) (acc : List D) (f : Nat), 0 ≤ i ∧ i ≤ (text.length : Int) ∧ (n : Int) = (text.length : Int) - i ∧ (acc.length : Int) ≤ i ∧ (text.length : Int) - i ≤ f ∧ acc ++ encRow text i (drawRow script text f i) = encRow text 0 (drawRow script text text.length 0) ∧
    ρ' = [(Str.ofString "script", B.val (.list (script.map D.int))), (Str.ofString "text", B.val (.str text)), (Str.ofString "numbers", B.val (.dict nums)), (Str.ofString "row", B.own a (.int (near script.sum) :: acc)), (Str.ofString "i", B.val (.int i))]) text.length
    ⟨0, [], text.length, by decide, Int.natCast_nonneg _, (Int.sub_zero _).symm, Int.le_refl _, Int.le_of_eq (Int.sub_zero _), rfl, rfl⟩ ?_
  rintro n ρ' ⟨i, acc, f, h0, h1, hn, hacc, hf, hrow, rfl⟩
  refine ⟨decide (i < (text.length : Int)), ET.cmp (m := .n) (Ev.name rfl rfl) (G.lenS rfl rfl rfl (Ev.name rfl rfl) rfl hsz) CmpOK.ltI rfl, fun hb => ?_, fun hb => ?_⟩
  · have hi := of_decide_eq_true hb
    obtain ⟨f, rfl⟩ := fsucc hf hi
    have hsm := drawSize_mem (script := script) T h0 hi
    have hm := mem_sizes hsm.2.2.2
    have hl := stands_len hm.2.2
    have hnum := T.num h0 hi
    have hlen3 := sizes_length text i
    have hpos := sizes_pos T h0 hi
    rw [drawRow, if_pos hi, encRow] at hrow
    have hfig : drawFig script text i = if drawSize script text i = 1 then ((drawAt script text i).fdiv (sizes text i).length).fmod (num text i) else -1 := rfl
    generalize hsz' : drawSize script text i = size at *
    generalize drawFig script text i = fig at *
    refine Ex.assign (d := .int (drawAt script text i)) ?_ rfl rfl ?_
    · refine Ev.callB (m := .s) (x := Str.ofString "sum") rfl (by decide) (G.miss (nb_sum _)) G.sum (ds := [.list ((pickI script (some i) none (some (text.length : Int))).map D.int)]) (EvL.cons ?_ EvL.nil rfl) rfl rfl BuOK.sum
      rw [← pickD_map]
      refine Ev.sliceL (Ev.name rfl rfl) (EvP.some (Ev.name rfl rfl)) EvP.none (EvP.some (G.lenS rfl rfl rfl (Ev.name rfl rfl) rfl hsz)) ?_ hscr
      intro h
      exact lenNe' h0 hi (Option.some.inj h)
    generalize drawAt script text i = dr at *
    refine Ex.assign (d := .list ((sizes text i).map D.int)) ?_ rfl rfl ?_
    · exact Ev.call (k := k + 1) rfl (by decide) (G.glob (n92 _)) (G.fn (k92 _)) rfl (EvL.cons (m := .s) (Ev.name rfl rfl) (EvL.cons (Ev.name rfl rfl) (EvL.cons (Ev.name rfl rfl) EvL.nil rfl) rfl) rfl) rfl (fn92 G text i hsz) (Nat.le_refl _)
    have hsl : ((sizes text i).map D.int).length ≤ sizeLine := szLe (Nat.le_trans (Nat.le_of_eq (List.length_map ..)) hlen3) (by decide)
    have elen : ∀ {m : Md} {ρ : Rho} {px pos : Pos}, ρ.lookup (Str.ofString "sizes") = some (B.val (.list ((sizes text i).map D.int))) → Ev m (frameOf pg w g os mg mb (fnAt w.params 111) 111 (k + 1) A L) ρ (.Call (.Name (Str.ofString "len") px) [.Name (Str.ofString "sizes") pos] [] pos) (.int (sizes text i).length) := fun hρ => by
      have : ((sizes text i).length : Int) = (((sizes text i).map D.int).length : Int) := by rw [List.length_map]
      rw [this]
      exact Ev.callB (x := Str.ofString "len") rfl (by decide) (G.miss (nb_len _)) G.len (EvL.cons (Ev.name hρ rfl) EvL.nil rfl) rfl rfl (BuOK.lenL hsl)
    refine Ex.assign (d := .int size) ?_ rfl rfl ?_
    · refine Ev.item (ds := (sizes text i).map D.int) (i := dr.fmod (sizes text i).length) (Ev.name rfl rfl) (Ev.bin (Ev.name rfl rfl) ?_ (BinOK.fmod (lenNe hpos))) hsm.1 ?_ (lt63 hsm.2.1 (Nat.le_trans hlen3 (by decide))) rfl
      · have : ((sizes text i).length : Int) = (((sizes text i).map D.int).length : Int) := by rw [List.length_map]
        rw [this]
        exact Ev.callB (x := Str.ofString "len") rfl (by decide) (G.miss (nb_len _)) G.len (EvL.cons (Ev.name rfl rfl) EvL.nil rfl) rfl rfl (BuOK.lenL hsl)
      · rw [List.getElem?_map, hsm.2.2.1]; rfl
    refine Ex.assign (d := .int fig) ?_ rfl rfl ?_
    · refine Ev.eq (Ev.ifexp' (b := decide (size = 1)) (d1 := .int ((dr.fdiv (sizes text i).length).fmod (num text i))) (d2 := .int (-1)) (ET.cmp (m := .n) (Ev.name rfl rfl) (Ev.int) CmpOK.eqI rfl) ?_ (Ev.neg Ev.int)) ?_
      · refine Ev.bin (d1 := .int (dr.fdiv (sizes text i).length)) (d2 := .int (num text i)) (Ev.bin (Ev.name rfl rfl) ?_ (BinOK.fdiv (lenNe hpos) (Nat.lt_of_le_of_lt hlen3 (by decide)))) ?_ (BinOK.fmod (Ne.symm (Int.ne_of_lt (Int.lt_of_lt_of_le (by decide) hnum.1))))
        · have : ((sizes text i).length : Int) = (((sizes text i).map D.int).length : Int) := by rw [List.length_map]
          rw [this]
          exact Ev.callB (x := Str.ofString "len") rfl (by decide) (G.miss (nb_len _)) G.len (EvL.cons (Ev.name rfl rfl) EvL.nil rfl) rfl rfl (BuOK.lenL hsl)
        · exact Ev.itemDict (m' := .s) (x := Txt.item text i) (Ev.name rfl rfl) (Ev.itemStr (Ev.name rfl rfl) (Ev.name rfl rfl) h0 hi (lt63 hi hlen) rfl) (T.one i h0 hi) rfl
      · rw [hfig]
        by_cases h : size = 1
        · simp [h]
        · simp [h]
    refine Ex.append (d := .tup [.int (nmb text i size), .int fig]) rfl rfl ?_ ?_ rfl rfl ?_
    · refine Ev.tup (ds := [.int (nmb text i size), .int fig]) (EvL.cons ?_ (EvL.cons (Ev.name rfl rfl) EvL.nil rfl) rfl) (by rw [sizeLine_eq]; simp)
      exact Ev.itemDict (m' := .s) (l := nums) (x := Txt.slice text (some i) (some (i + size))) (Ev.name rfl rfl) (Ev.sliceS (Ev.name rfl rfl) (EvP.some (Ev.name rfl rfl)) (EvP.some (Ev.bin (Ev.name rfl rfl) (Ev.name rfl rfl) BinOK.add)) hsz) (stands_has hm.2.2) rfl
    · exact accz hacc hi hlen
    refine Ex.aug (d1 := .int i) (d2 := .int size) (d := .int (i + size)) rfl rfl (Ev.name rfl rfl) AugOK.add rfl ?_
    refine Ex.nilG (ρ2 := [(Str.ofString "script", B.val (.list (script.map D.int))), (Str.ofString "text", B.val (.str text)), (Str.ofString "numbers", B.val (.dict nums)), (Str.ofString "row", B.own a (.int (near script.sum) :: (acc ++ [.tup [.int (nmb text i size), .int fig]]))), (Str.ofString "i", B.val (.int (i + size)))])
      (ext := [(Str.ofString "draw", B.val (.int dr)), (Str.ofString "sizes", B.val (.list ((sizes text i).map D.int))), (Str.ofString "size", B.val (.int size)), (Str.ofString "figure", B.val (.int fig))]) ?_ ?_ rfl
    · rfl
    · obtain ⟨n', hn1, hn2⟩ := meas hn hm.1 hl
      exact ⟨n', hn1, i + size, acc ++ [.tup [.int (nmb text i size), .int fig]], f, addNn h0 hm.1, hl, hn2, accs hacc hm.1, fstep hf hm.1, (appCons ..).trans hrow, rfl⟩
  · have hi := of_decide_eq_false hb
    have hnil : drawRow script text f i = [] := by
      cases f with
      | zero => rfl
      | succ f => rw [drawRow, if_neg hi]
    rw [hnil, encRow, List.append_nil] at hrow
    refine Ex.ret (d := .list (.int (near script.sum) :: encRow text 0 (drawRow script text text.length 0))) ?_ rfl
    rw [← hrow]
    exact Ev.nameOwnM (by intro h; cases h) rfl rfl
end
end

section
set_option linter.unusedVariables false
set_option maxRecDepth 100000
open PySem PyProof.Rows PySem.W PyProof.V
section
variable {w : World} {g : Heap} {mg mb : Str → Option Value} {os : OsState}
noncomputable def fst2 : D → D
  | .tup (a :: _) => a
  | _ => .none
noncomputable def snd2 : D → D
  | .tup (_ :: b :: _) => b
  | _ => .none
theorem enc_pairs {text : Str} : ∀ {r : List (Int × Int)} {i : Int}, ∀ d ∈ encRow text i r, d = .tup [fst2 d, snd2 d]
  | [], i, d, h => by cases h
  | (k, f) :: r, i, d, h => by
    rw [encRow] at h
    rcases List.mem_cons.mp h with rfl | h
    · rfl
    · exact enc_pairs d h
theorem enc_length {text : Str} : ∀ {r : List (Int × Int)} {i : Int}, (encRow text i r).length = r.length
  | [], _ => rfl
  | (k, f) :: r, i => by rw [encRow, List.length_cons, List.length_cons, enc_length]
theorem row_length {text : Str} {i : Int} {r : List (Int × Int)} (h : Row text i r) : (r.length : Int) ≤ text.length - i := by
  induction h with
  | nil h => simp; lia
  | cons h0 hs hk h1 h2 hr ih => rw [List.length_cons]; lia

theorem fn125 (G : Gd w g mg mb) {k : Nat} (text : Str) (T : Tx text) (t : Int) (row : List (Int × Int)) (hrow : Row text 0 row) (S : List Int) (hS : S.length = text.length + 1) (hS0 : Builtin.Int.intBits (S.getD 0 0) ≤ 64) :
    Fn pg w g os 125 (k + 1) [.list (.int t :: encRow text 0 row), .str text, .list (opers.map D.str), .dict nums, .list (S.map D.int)] (.int (t * S.getD 0 0 + val text S 0 row)) := by
  refine Fn.intro (G.fn (k125 _)) rfl (bo125 _) (codeRec_of G.K (c125 _)) G.lim (ok125 _) rfl (bind5 (b125 _)) G.gn G.bn fun A L => ?_
  have hsz := T.size
  have hlen := T.len
  have hrl := row_length hrow
  have hel := enc_length (text := text) (r := row) (i := 0)
  generalize hE : encRow text 0 row = E at hel
  refine Ex.assign (d := .int (t * S.getD 0 0)) ?_ rfl rfl ?_
  · refine Ev.bin (d1 := .int t) (d2 := .int (S.getD 0 0)) ?_ ?_ (BinOK.mul (IntMulOk.of_right hS0))
    · exact Ev.item (ds := .int t :: E) (i := 0) (Ev.name rfl rfl) (Ev.int) (by decide) rfl (by decide) rfl
    · exact Ev.item (ds := S.map D.int) (i := 0) (Ev.name rfl rfl) (Ev.int) (by decide) (getD_map (by lia)) (by decide) rfl
  refine Ex.assign (d := .int 0) (Ev.int) rfl rfl ?_
  refine Ex.for2 (ds := E) (f := fst2) (g := snd2) ?_ rfl rfl (by rw [← hE]; exact enc_pairs) (fun j ρ' => ∃ (i acc : Int) (rest : List (Int × Int)), 0 ≤ i ∧ Row text i rest ∧ E.drop j = encRow text i rest ∧ acc + val text S i rest = t * S.getD 0 0 + val text S 0 row ∧
    ρ' = [(Str.ofString "row", B.val (.list (.int t :: E))), (Str.ofString "text", B.val (.str text)), (Str.ofString "pieces", B.val (.list (opers.map D.str))), (Str.ofString "numbers", B.val (.dict nums)), (Str.ofString "totals", B.val (.list (S.map D.int))),
      (Str.ofString "worth", B.val (.int acc)), (Str.ofString "i", B.val (.int i))]) ⟨0, _, row, by decide, hrow, hE.symm, rfl, rfl⟩ ?_ ?_
  · refine EvI.list ?_
    have : E = pickD (.int t :: E) (some 1) none none := by rw [pickD_from _ (by decide) (by simp; lia)]; rfl
    refine Ev.eq (Ev.sliceL (ds := .int t :: E) (Ev.name rfl rfl) (EvP.some (Ev.int)) EvP.none EvP.none (by intro h; cases h) ?_) (by rw [← this])
    rw [List.length_cons, sizeLine_eq]; lia
  · rintro j d ρ' hd ⟨i, acc, rest, h0, hR, hE2, hval, rfl⟩
    cases hR with
    | nil h =>
      exfalso
      have h1 : (E.drop j)[0]? = some d := by rw [List.getElem?_drop]; exact hd
      rw [hE2, encRow] at h1
      cases h1
    | @cons i sz f r h0' hs hk h1 h2 hr =>
    have hdd : d = .tup [.int (nmb text i sz), .int f] := by
      have h1 : (E.drop j)[0]? = some d := by rw [List.getElem?_drop]; exact hd
      rw [hE2, encRow] at h1
      exact (Option.some.inj h1).symm
    have hE3 : E.drop (j + 1) = encRow text (i + sz) r := by
      rw [show j + 1 = j + 1 from rfl, ← List.drop_drop, hE2, encRow]; rfl
    subst hdd
    have hl := stands_len hs
    have hi : i < text.length := by lia
    have hpl := slice_len' text h0 (k := sz) (by lia) hl
    have hn := nmb_range hs
    have hnum := T.num h0 hi
    have hb := nmb_back hs
    have hpz : (Txt.slice text (some i) (some (i + sz))).length ≤ sizeLine := by rw [sizeLine_eq]; lia
    rw [val] at hval
    show Ex _ [(Str.ofString "row", B.val (.list (.int t :: E))), (Str.ofString "text", B.val (.str text)), (Str.ofString "pieces", B.val (.list (opers.map D.str))), (Str.ofString "numbers", B.val (.dict nums)), (Str.ofString "totals", B.val (.list (S.map D.int))),
      (Str.ofString "worth", B.val (.int acc)), (Str.ofString "i", B.val (.int i)), (Str.ofString "number", B.val (.int (nmb text i sz))), (Str.ofString "figure", B.val (.int f))] _ _ _
    generalize hp : Txt.slice text (some i) (some (i + sz)) = p at hpl hb hpz
    have hnm1 : sz = 1 → nmb text i sz = num text i := fun h => by rw [h]; exact nmb_one h0 hi
    generalize nmb text i sz = nb at hn hb hnm1
    have hgt : text.length < S.length := by lia
    refine Ex.assign (d := .str p) ?_ rfl rfl ?_
    · exact Ev.item (ds := opers.map D.str) (i := nb - 7) (Ev.name rfl rfl) (Ev.bin (Ev.name rfl rfl) Ev.int BinOK.sub) (by lia) (by rw [List.getElem?_map, hb]; rfl) (by lia) rfl
    have elen : ∀ {m : Md} {ρ : Rho} {px pz pos : Pos}, ρ.lookup (Str.ofString "piece") = some (B.val (.str p)) → Ev m (frameOf pg w g os mg mb (fnAt w.params 125) 125 k A L) ρ (.Call (.Name (Str.ofString "len") px) [.Name (Str.ofString "piece") pz] [] pos) (.int sz) := fun hρ => by
      rw [← hpl]
      exact Ev.callB (x := Str.ofString "len") rfl (by decide) (G.miss (nb_len _)) G.len (EvL.cons (Ev.name hρ rfl) EvL.nil rfl) rfl rfl (BuOK.lenS hpz)
    refine Ex.ifRet (b := false) ?_ (fun h => absurd h (by decide)) fun _ => ?_
    · refine ET.eq (ET.cmp (m := .n) (d1 := .str p) (d2 := .str p) ?_ (Ev.name rfl rfl) CmpOK.neS rfl) (by simp)
      exact Ev.eq (Ev.sliceS (Ev.name rfl rfl) (EvP.some (Ev.name rfl rfl)) (EvP.some (Ev.bin (Ev.name rfl rfl) (elen rfl) BinOK.add)) hsz) (by rw [hp])
    refine Ex.ifRet (b := false) ?_ (fun h => absurd h (by decide)) fun _ => ?_
    · refine ET.eq (ET.and (b1 := decide (sz = 1)) (b2 := decide (f < 0) || decide (nb ≤ f)) (ET.cmp (m := .n) (elen rfl) (Ev.int) CmpOK.eqI rfl) fun _ => ?_) ?_
      · exact ET.or (ET.cmp (m := .n) (Ev.name rfl rfl) (Ev.int) CmpOK.ltI rfl) fun _ => ET.cmp (m := .n) (Ev.name rfl rfl) (Ev.name rfl rfl) CmpOK.geI rfl
      · by_cases h : sz = 1
        · have := h1 h
          have := hnm1 h
          simp [h]
          lia
        · simp [h]
    refine Ex.aug (d1 := .int acc) (d2 := .int ((if sz = 1 then f else num text i) * S.getD (i + 1).toNat 0)) (d := .int (acc + (if sz = 1 then f else num text i) * S.getD (i + 1).toNat 0)) rfl rfl ?_ AugOK.add rfl ?_
    · refine Ev.bin (d1 := .int (if sz = 1 then f else num text i)) (d2 := .int (S.getD (i + 1).toNat 0)) ?_ ?_ (BinOK.mul (IntMulOk.of_left (small_bits ?_ ?_)))
      · refine Ev.eq (Ev.ifexp' (b := decide (sz = 1)) (d1 := .int f) (d2 := .int (num text i)) (ET.cmp (m := .n) (elen rfl) (Ev.int) CmpOK.eqI rfl) (Ev.name rfl rfl) ?_) ?_
        · exact Ev.itemDict (m' := .s) (x := Txt.item text i) (Ev.name rfl rfl) (Ev.itemStr (Ev.name rfl rfl) (Ev.name rfl rfl) h0 hi (by lia) rfl) (T.one i h0 hi) rfl
        · by_cases h : sz = 1
          · simp [h]
          · simp [h]
      · exact Ev.item (ds := S.map D.int) (i := i + 1) (Ev.name rfl rfl) (Ev.bin (Ev.name rfl rfl) Ev.int BinOK.add) (by lia) (getD_map (by lia)) (by lia) rfl
      · by_cases h : sz = 1
        · rw [if_pos h]; exact (h1 h).1
        · rw [if_neg h]; lia
      · by_cases h : sz = 1
        · rw [if_pos h]; have := h1 h; lia
        · rw [if_neg h]; lia
    generalize hacc : acc + (if sz = 1 then f else num text i) * S.getD (i + 1).toNat 0 = acc1
    refine Ex.if_ (b := decide (sz = 3) && kdpHas nums (Txt.slice text (some i) (some (i + 2)))) (N' := fun ρ' => ρ' = [(Str.ofString "row", B.val (.list (.int t :: E))), (Str.ofString "text", B.val (.str text)), (Str.ofString "pieces", B.val (.list (opers.map D.str))), (Str.ofString "numbers", B.val (.dict nums)), (Str.ofString "totals", B.val (.list (S.map D.int))),
      (Str.ofString "worth", B.val (.int (acc1 + two text S i sz))), (Str.ofString "i", B.val (.int i)), (Str.ofString "number", B.val (.int nb)), (Str.ofString "figure", B.val (.int f)), (Str.ofString "piece", B.val (.str p))]) ?_ ?_ ?_ ?_
    · refine ET.and (ET.cmp (m := .n) (elen rfl) (Ev.int) CmpOK.eqI rfl) fun _ => ?_
      exact ET.cmp (m := .n) (Ev.sliceS (Ev.name rfl rfl) (EvP.some (Ev.name rfl rfl)) (EvP.some (Ev.bin (Ev.name rfl rfl) Ev.int BinOK.add)) hsz) (Ev.name rfl rfl) CmpOK.inD rfl
    · intro hb
      rw [Bool.and_eq_true, decide_eq_true_eq] at hb
      obtain ⟨h3, h2'⟩ := hb
      refine Ex.aug (d1 := .int acc1) (d2 := .int (S.getD (i + 2).toNat 0)) (d := .int (acc1 + S.getD (i + 2).toNat 0)) rfl rfl ?_ AugOK.add rfl ?_
      · exact Ev.item (ds := S.map D.int) (i := i + 2) (Ev.name rfl rfl) (Ev.bin (Ev.name rfl rfl) Ev.int BinOK.add) (by lia) (getD_map (by lia)) (by lia) rfl
      · refine Ex.nil ?_
        have hst : stands text i 2 = true := by
          unfold stands
          rw [h2', Bool.and_true]
          exact decide_eq_true (by lia)
        have : two text S i sz = S.getD (i + 2).toNat 0 := by
          unfold two
          rw [if_pos ⟨h3, hst⟩]
        rw [this]
        rfl
    · intro hb
      refine Ex.nil ?_
      have : two text S i sz = 0 := by
        unfold two
        rw [if_neg]
        rintro ⟨h3, h2'⟩
        rw [stands_has h2', h3] at hb
        simp at hb
      rw [this, Int.add_zero]; rfl
    · intro ρ' hN
      subst hN
      refine Ex.aug (d1 := .int i) (d2 := .int sz) (d := .int (i + sz)) rfl rfl (elen rfl) AugOK.add rfl ?_
      refine Ex.nilG (ρ2 := [(Str.ofString "row", B.val (.list (.int t :: E))), (Str.ofString "text", B.val (.str text)), (Str.ofString "pieces", B.val (.list (opers.map D.str))), (Str.ofString "numbers", B.val (.dict nums)), (Str.ofString "totals", B.val (.list (S.map D.int))),
        (Str.ofString "worth", B.val (.int (acc1 + two text S i sz))), (Str.ofString "i", B.val (.int (i + sz)))]) (ext := [(Str.ofString "number", B.val (.int nb)), (Str.ofString "figure", B.val (.int f)), (Str.ofString "piece", B.val (.str p))]) rfl ?_ rfl
      exact ⟨i + sz, _, r, by lia, hr, hE3, by rw [← hval, ← hacc]; lia, rfl⟩
  · rintro ρ' ⟨i, acc, rest, h0, hR, hE2, hval, rfl⟩
    rw [List.drop_length] at hE2
    cases rest with
    | cons q r => obtain ⟨k', f'⟩ := q; rw [encRow] at hE2; cases hE2
    | nil =>
      cases hR with
      | nil h =>
      rw [val, Int.add_zero] at hval
      refine Ex.ret (d := .int acc) ?_ (by rw [hval])
      refine Ev.ifexp (b := true) (ET.eq (ET.cmp (m := .n) (Ev.name rfl rfl) (G.lenS rfl rfl rfl (Ev.name rfl rfl) rfl hsz) CmpOK.eqI rfl) (decide_eq_true h)) (fun _ => Ev.name rfl rfl) fun h => absurd h (by decide)
end
end

section
set_option linter.unusedVariables false
set_option maxRecDepth 100000
open PySem PyProof.Rows PySem.W PyProof.V
section
variable {w : World} {g : Heap} {mg mb : Str → Option Value} {os : OsState}
/-- int_divmod's contract -/
noncomputable def DM (w : World) (g : Heap) (os : OsState) (kd : Nat) : Prop := ∀ a b : Int, 1 ≤ b → b < 2 ^ 80 → a.natAbs < 2 ^ 200 → Fn pg w g os 56 kd [.int a, .int b] (.tup [.int (a.fdiv b), .int (a.fmod b)])
noncomputable def chain : Int → List Int → List Int
  | _, [] => []
  | v, t :: ts => v.fdiv t :: chain (v.fmod t) ts
theorem chain_length : ∀ (ts : List Int) (v : Int), (chain v ts).length = ts.length
  | [], _ => rfl
  | t :: ts, v => by rw [chain, List.length_cons, List.length_cons, chain_length ts]
noncomputable def figs (text : Str) : Int → List (Int × Int) → List Int
  | _, [] => []
  | i, (k, f) :: r => (if k = 1 then [f] else if k = 2 then [num text i, 0] else [num text i, if stands text i 2 then 1 else 0, 0]) ++ figs text (i + k) r
/-- the sums in order: positive, not too large -/
noncomputable def Pos80 (S : List Int) : Prop := ∀ t ∈ S, 1 ≤ t ∧ t < 2 ^ 80

theorem fn118c (G : Gd w g mg mb) {kd : Nat} (hdm : DM w g os kd) (text : Str) (T : Tx text) (S : List Int) (hS : S.length = text.length + 1) (hp : Pos80 S) (number : Int) (hnum : number.natAbs < 2 ^ 200)
    (row : List (Int × Int)) (hrow : Row text 0 row) (s0 turns left0 : Int) (Fg : List Int) (hs0 : S.getD 0 0 = s0) (hS0 : 1 ≤ s0 ∧ s0 < 2 ^ 80) (ht0 : number.fdiv s0 = turns) (hl00 : number.fmod s0 = left0) (hl0 : 0 ≤ left0) (hl1 : left0 < 2 ^ 80)
    (hfig : chain left0 (S.drop 1) = Fg) (hFg : figs text 0 row = Fg) : Fn pg w g os 118 (kd + 1) [.int number, .str text, .list (S.map D.int)] (.list (.int turns :: encRow text 0 row)) := by
  refine Fn.intro (G.fn (k118 _)) rfl (bo118 _) (codeRec_of G.K (c118 _)) G.lim (ok118 _) rfl (bind3 (b118 _)) G.gn G.bn fun A L => ?_
  have hsz := T.size
  have hlen := T.len
  refine Ex.unpack2 (d1 := .int turns) (d2 := .int left0) ?_ rfl rfl ?_
  · rw [← ht0, ← hl00]
    refine Ev.call (k := kd) rfl (by decide) (G.glob (n56 _)) (G.fn (k56 _)) rfl (EvL.cons (m := .s) (Ev.name rfl rfl) (EvL.cons (d := .int s0) ?_ EvL.nil rfl) rfl) rfl (hdm number s0 hS0.1 hS0.2 hnum) (Nat.le_refl _)
    exact Ev.item (ds := S.map D.int) (i := 0) (Ev.name rfl rfl) (Ev.int) (by decide) (by rw [← hs0]; exact getD_map (hS ▸ Nat.succ_pos _)) (by decide) rfl
  refine Ex.assignOwn (ds := []) EvL.nil (by decide) rfl fun a => ?_
  have hSz : (S.map D.int).length ≤ sizeLine := szLe (k := 10) (by rw [List.length_map, hS]; exact Nat.succ_le_succ hlen) (by decide)
  have hT : (S.drop 1).length = text.length := by rw [List.length_drop, hS]; rfl
  have hpT : Pos80 (S.drop 1) := fun t ht => hp t (List.mem_of_mem_drop ht)
  have hch := chain_length (S.drop 1) left0
  rw [hT] at hch
  refine Ex.for_ (ds := (S.drop 1).map D.int) ?_ rfl (fun j ρ' => ∃ (left : Int) (acc : List Int), 0 ≤ left ∧ left < 2 ^ 80 ∧ acc.length = j ∧ acc ++ chain left ((S.drop 1).drop j) = chain left0 (S.drop 1) ∧
    ρ' = [(Str.ofString "number", B.val (.int number)), (Str.ofString "text", B.val (.str text)), (Str.ofString "sums", B.val (.list (S.map D.int))), (Str.ofString "turns", B.val (.int turns)), (Str.ofString "left", B.val (.int left)),
      (Str.ofString "figures", B.own a (acc.map D.int))]) ⟨left0, [], hl0, hl1, rfl, by rw [List.drop_zero]; rfl, rfl⟩ ?_ ?_
  · refine EvI.list ?_
    have : (S.drop 1).map D.int = pickD (S.map D.int) (some 1) none none := by rw [pickD_from _ (by decide) (by simp; lia), List.map_drop]; rfl
    refine Ev.eq (Ev.sliceL (ds := S.map D.int) (Ev.name rfl rfl) (EvP.some (Ev.int)) EvP.none EvP.none (by intro h; cases h) ?_) (by rw [← this])
    exact hSz
  · rintro j d ρ' hd ⟨left, acc, h0, h1, hacc, hc, rfl⟩
    rw [List.getElem?_map] at hd
    cases ht : (S.drop 1)[j]? with
    | none => rw [ht] at hd; cases hd
    | some t =>
    rw [ht] at hd
    obtain rfl : D.int t = d := Option.some.inj hd
    have htm := hpT t (List.mem_of_getElem? ht)
    have hlt : j < (S.drop 1).length := (List.getElem?_eq_some_iff.mp ht).1
    have hdr : (S.drop 1).drop j = t :: (S.drop 1).drop (j + 1) := by
      rw [List.drop_eq_getElem_cons hlt, (List.getElem?_eq_some_iff.mp ht).2]
    rw [hdr, chain] at hc
    have f0 := Int.fmod_nonneg_of_pos left (show (0 : Int) < t from htm.1)
    have f1 := Int.lt_trans (Int.fmod_lt_of_pos left (show (0 : Int) < t from htm.1)) htm.2
    refine Ex.unpack2 (d1 := .int (left.fdiv t)) (d2 := .int (left.fmod t)) ?_ rfl rfl ?_
    · exact Ev.call (k := kd) rfl (by decide) (G.glob (n56 _)) (G.fn (k56 _)) rfl (EvL.cons (m := .s) (Ev.name rfl rfl) (EvL.cons (Ev.name rfl rfl) EvL.nil rfl) rfl) rfl (hdm left t htm.1 htm.2 (by lia)) (Nat.le_refl _)
    refine Ex.append (d := .int (left.fdiv t)) rfl rfl (Ev.name rfl rfl) ?_ rfl rfl ?_
    · rw [List.length_map, sizeLine_eq]; lia
    refine Ex.nilG (ρ2 := [(Str.ofString "number", B.val (.int number)), (Str.ofString "text", B.val (.str text)), (Str.ofString "sums", B.val (.list (S.map D.int))), (Str.ofString "turns", B.val (.int turns)), (Str.ofString "left", B.val (.int (left.fmod t))),
      (Str.ofString "figures", B.own a (acc.map D.int ++ [.int (left.fdiv t)]))]) (ext := [(Str.ofString "total", B.val (.int t)), (Str.ofString "figure", B.val (.int (left.fdiv t)))]) rfl ?_ rfl
    refine ⟨left.fmod t, acc ++ [left.fdiv t], f0, f1, by rw [List.length_append, hacc]; rfl, by rw [List.append_assoc]; exact hc, by simp⟩
  · rintro ρ' ⟨left, acc, h0, h1, hacc, hc, rfl⟩
    rw [List.length_map, List.drop_length, chain, List.append_nil, hfig] at hc
    have hc' := hc.symm
    subst hc'
    rw [hfig] at hch
    refine Ex.assignOwn (ds := [.int turns]) (EvL.cons (Ev.name rfl rfl) EvL.nil rfl) (by rw [sizeLine_eq]; simp) rfl fun a2 => ?_
    refine Ex.assign (d := .int 0) (Ev.int) rfl rfl ?_
    refine Ex.while_ (fun n ρ' => ∃ (i : Int) (acc : List D) (rest : List (Int × Int)), 0 ≤ i ∧ (n : Int) = (text.length : Int) - i ∧ Row text i rest ∧ (acc.length : Int) ≤ i ∧ Fg.drop i.toNat = figs text i rest ∧ acc ++ encRow text i rest = encRow text 0 row ∧
      ρ' = [(Str.ofString "number", B.val (.int number)), (Str.ofString "text", B.val (.str text)), (Str.ofString "sums", B.val (.list (S.map D.int))), (Str.ofString "turns", B.val (.int turns)), (Str.ofString "left", B.val (.int left)),
        (Str.ofString "figures", B.own a (Fg.map D.int)), (Str.ofString "row", B.own a2 (.int turns :: acc)), (Str.ofString "i", B.val (.int i))]) text.length
      ⟨0, [], row, by decide, (Int.sub_zero _).symm, hrow, Int.le_refl _, by rw [← hFg]; rfl, rfl, rfl⟩ ?_
    rintro n ρ' ⟨i, acc, rest, h0, hnn, hR, hal, hF, hE, rfl⟩
    refine ⟨decide (i < (text.length : Int)), ET.cmp (m := .n) (Ev.name rfl rfl) (G.lenS rfl rfl rfl (Ev.name rfl rfl) rfl hsz) CmpOK.ltI rfl, fun hb => ?_, fun hb => ?_⟩
    · have hi := of_decide_eq_true hb
      cases hR with
      | nil h => exact absurd h (Int.ne_of_lt hi)
      | @cons i sz f r h0' hs hk h1 h2 hr =>
      have hl := stands_len hs
      have hnumi := T.num h0 hi
      rw [encRow] at hE
      rw [figs] at hF
      have hidx : ∀ (j : Nat) (x : Int), (Fg.drop i.toNat)[j]? = some x → (Fg.map D.int)[(i + j).toNat]? = some (.int x) := fun j x h => by
        rw [List.getElem?_drop] at h
        have : (i + (j : Int)).toNat = i.toNat + j := Int.toNat_add_nat h0 j
        rw [List.getElem?_map, this, h]; rfl
      -- the figure here
      obtain ⟨fi, hfi, hfi1, hfi2⟩ : ∃ fi, (Fg.drop i.toNat)[0]? = some fi ∧ (sz = 1 → fi = f ∧ fi < num text i) ∧ (sz ≠ 1 → fi = num text i) := by
        rw [hF]
        by_cases e1 : sz = 1
        · exact ⟨f, by rw [if_pos e1]; rfl, fun _ => ⟨rfl, (h1 e1).2⟩, fun h => absurd e1 h⟩
        · by_cases e2 : sz = 2
          · exact ⟨num text i, by rw [if_neg e1, if_pos e2]; rfl, fun h => absurd h e1, fun _ => rfl⟩
          · exact ⟨num text i, by rw [if_neg e1, if_neg e2]; rfl, fun h => absurd h e1, fun _ => rfl⟩
      have hfi' := hidx 0 fi hfi
      rw [show i + ((0 : Nat) : Int) = i from Int.add_zero i] at hfi'
      have enum : ∀ {m : Md} {ρ : Rho} {px py pz p1 p2 : Pos}, ρ.lookup (Str.ofString "text") = some (B.val (.str text)) → ρ.lookup (Str.ofString "i") = some (B.val (.int i)) →
          Ev m (frameOf pg w g os mg mb (fnAt w.params 118) 118 kd A L) ρ (.Subscript (.Name (Str.ofString "EXACT_TOKEN_TYPES") px) (.Subscript (.Name (Str.ofString "text") py) (.Name (Str.ofString "i") pz) p1) p2) (.int (num text i)) := fun ht hii => by
        refine Ev.eq (Ev.itemDict (l := exact) (x := Txt.item text i) (evExact G rfl rfl rfl rfl rfl) (Ev.itemStr (Ev.name ht rfl) (Ev.name hii rfl) h0 hi (lt63 hi hlen) rfl) ?_ rfl) ?_
        · rw [exact_has]; exact T.one i h0 hi
        · rw [exact_look]; rfl
      refine Ex.assign (d := .int 1) (Ev.int) rfl rfl ?_
      refine Ex.if_ (b := decide (num text i ≤ fi)) (N' := fun ρ' => ρ' = [(Str.ofString "number", B.val (.int number)), (Str.ofString "text", B.val (.str text)), (Str.ofString "sums", B.val (.list (S.map D.int))), (Str.ofString "turns", B.val (.int turns)), (Str.ofString "left", B.val (.int left)),
        (Str.ofString "figures", B.own a (Fg.map D.int)), (Str.ofString "row", B.own a2 (.int turns :: acc)), (Str.ofString "i", B.val (.int i)), (Str.ofString "size", B.val (.int sz))]) ?_ ?_ ?_ ?_
      · exact ET.cmp (m := .n) (d1 := .int fi) (d2 := .int (num text i)) (Ev.item (Ev.nameOwnM (by intro h; cases h) rfl rfl) (Ev.name rfl rfl) h0 hfi' (lt63 hi hlen) rfl) (enum rfl rfl) CmpOK.geI rfl
      · intro hge
        have hge := of_decide_eq_true hge
        have hn1 : sz ≠ 1 := fun h => Int.not_lt.mpr hge (hfi1 h).2
        obtain ⟨f2, hf2, hf2a, hf2b⟩ : ∃ f2, (Fg.drop i.toNat)[1]? = some f2 ∧ (sz = 2 → f2 = 0) ∧ (sz = 3 → f2 = if stands text i 2 then 1 else 0) := by
          rw [hF]
          by_cases e2 : sz = 2
          · exact ⟨0, by rw [if_neg hn1, if_pos e2]; rfl, fun _ => rfl, fun h => by lia⟩
          · exact ⟨if stands text i 2 then 1 else 0, by rw [if_neg hn1, if_neg e2]; rfl, fun h => absurd h e2, fun _ => rfl⟩
        have hf2' := hidx 1 f2 hf2
        refine Ex.assign (d := .int sz) ?_ rfl rfl (Ex.nil rfl)
        refine Ev.eq (Ev.ifexp' (b := decide (f2 = 0) && kdpHas nums (Txt.slice text (some i) (some (i + 2)))) (d1 := .int 2) (d2 := .int 3) (ET.and ?_ fun _ => ?_) (Ev.int) (Ev.int)) ?_
        · exact ET.cmp (m := .n) (d1 := .int f2) (d2 := .int 0) (Ev.item (Ev.nameOwnM (by intro h; cases h) rfl rfl) (Ev.bin (Ev.name rfl rfl) Ev.int BinOK.add) (by lia) hf2' (by lia) rfl) Ev.int CmpOK.eqI rfl
        · refine ET.eq (ET.cmp (m := .n) (Ev.sliceS (Ev.name rfl rfl) (EvP.some (Ev.name rfl rfl)) (EvP.some (Ev.bin (Ev.name rfl rfl) Ev.int BinOK.add)) hsz) (evExact G rfl rfl rfl rfl rfl) CmpOK.inD rfl) ?_
          rw [exact_has]
        · rcases hk with e | e | e
          · exact absurd e hn1
          · subst e
            rw [hf2a rfl, stands_has hs]; rfl
          · subst e
            have hst : stands text i 2 = kdpHas nums (Txt.slice text (some i) (some (i + 2))) := by
              unfold stands
              rw [decide_eq_true (show i + 2 ≤ (text.length : Int) by lia), Bool.true_and]
            rw [hf2b rfl, hst]
            cases kdpHas nums (Txt.slice text (some i) (some (i + 2))) <;> rfl
      · intro hlt
        have hlt := of_decide_eq_false hlt
        have h1' : sz = 1 := Classical.byContradiction fun h => hlt (Int.le_of_eq (hfi2 h).symm)
        subst h1'
        exact Ex.nil rfl
      · intro ρ' hN
        subst hN
        refine Ex.append (d := .tup [.int (nmb text i sz), .int f]) rfl rfl ?_ ?_ rfl rfl ?_
        · refine Ev.tup (ds := [.int (nmb text i sz), .int f]) (EvL.cons ?_ (EvL.cons ?_ EvL.nil rfl) rfl) (by rw [sizeLine_eq]; simp)
          · refine Ev.eq (Ev.itemDict (l := exact) (x := Txt.slice text (some i) (some (i + sz))) (evExact G rfl rfl rfl rfl rfl) (Ev.sliceS (Ev.name rfl rfl) (EvP.some (Ev.name rfl rfl)) (EvP.some (Ev.bin (Ev.name rfl rfl) (Ev.name rfl rfl) BinOK.add)) hsz) ?_ rfl) ?_
            · rw [exact_has]; exact stands_has hs
            · rw [exact_look]; rfl
          · refine Ev.eq (Ev.ifexp' (b := decide (sz = 1)) (d1 := .int fi) (d2 := .int (-1)) (ET.cmp (m := .n) (Ev.name rfl rfl) (Ev.int) CmpOK.eqI rfl) ?_ (Ev.neg Ev.int)) ?_
            · exact Ev.itemF (Ev.nameOwnM (by intro h; cases h) rfl rfl) (Ev.name rfl rfl) h0 hfi' (lt63 hi hlen) rfl rfl
            · by_cases h : sz = 1
              · simp [h, (hfi1 h).1]
              · simp [h, h2 h]
        · exact accz hal hi hlen
        refine Ex.aug (d1 := .int i) (d2 := .int sz) (d := .int (i + sz)) rfl rfl (Ev.name rfl rfl) AugOK.add rfl ?_
        refine Ex.nilG (ρ2 := [(Str.ofString "number", B.val (.int number)), (Str.ofString "text", B.val (.str text)), (Str.ofString "sums", B.val (.list (S.map D.int))), (Str.ofString "turns", B.val (.int turns)), (Str.ofString "left", B.val (.int left)),
          (Str.ofString "figures", B.own a (Fg.map D.int)), (Str.ofString "row", B.own a2 (.int turns :: (acc ++ [.tup [.int (nmb text i sz), .int f]]))), (Str.ofString "i", B.val (.int (i + sz)))]) (ext := [(Str.ofString "size", B.val (.int sz))]) rfl ?_ rfl
        have h1' := one_le3 hk
        obtain ⟨n', hn1, hn2⟩ := meas hnn h1' hl
        refine ⟨n', hn1, i + sz, acc ++ [.tup [.int (nmb text i sz), .int f]], r, addNn h0 h1', hn2, hr, accs hal h1', ?_, (appCons ..).trans hE, rfl⟩
        rw [Int.toNat_add h0 (Int.le_trans (by decide) h1'), ← List.drop_drop, hF]
        rcases hk with e | e | e <;> subst e <;> rfl
    · have hi := of_decide_eq_false hb
      cases hR with
      | cons h0' hs hk h1 h2 hr => have := stands_len hs; exact absurd (lt_of_add (one_le3 hk) this) hi
      | nil h =>
        rw [encRow, List.append_nil] at hE
        refine Ex.ret (d := .list (.int turns :: encRow text 0 row)) ?_ rfl
        rw [← hE]
        exact Ev.nameOwnM (by intro h; cases h) rfl rfl
theorem fn118 (G : Gd w g mg mb) {kd : Nat} (hdm : DM w g os kd) (text : Str) (T : Tx text) (S : List Int) (hS : S.length = text.length + 1) (hp : Pos80 S) (number : Int) (hnum : number.natAbs < 2 ^ 200)
    (row : List (Int × Int)) (hrow : Row text 0 row) (hfig : chain (number.fmod (S.getD 0 0)) (S.drop 1) = figs text 0 row) :
    Fn pg w g os 118 (kd + 1) [.int number, .str text, .list (S.map D.int)] (.list (.int (number.fdiv (S.getD 0 0)) :: encRow text 0 row)) := by
  have hS0m : S.getD 0 0 ∈ S := by
    rw [List.getD_eq_getElem?_getD, List.getElem?_eq_getElem (hS ▸ Nat.succ_pos _)]
    exact List.getElem_mem _
  have hS0 := hp _ hS0m
  exact fn118c G hdm text T S hS hp number hnum row hrow _ _ _ _ rfl hS0 rfl rfl (Int.fmod_nonneg_of_pos number hS0.1) (Int.lt_trans (Int.fmod_lt_of_pos number hS0.1) hS0.2) hfig rfl
end
end

section
set_option linter.unusedVariables false
set_option maxRecDepth 100000
open PySem PyProof.Rows PySem.W PyProof.V
section
variable {w : World} {g : Heap} {mg mb : Str → Option Value} {os : OsState}
/-- the quotients, and what is left -/
noncomputable def chainL : Int → List Int → List Int
  | v, [] => [v]
  | v, t :: ts => v.fdiv t :: chainL (v.fmod t) ts
noncomputable def backRow (S : List Int) (i : Nat) : List Int := chainL (S.getD i 0) ((S.drop (i + 1)).take 3)
noncomputable def back (S : List Int) : List D := (List.range (S.length - 1)).map fun i => .list ((backRow S i).map D.int)

theorem fn132 (G : Gd w g mg mb) {kd : Nat} (hdm : DM w g os kd) (S : List Int) (hS1 : 1 ≤ S.length) (hS : S.length ≤ 10) (hp : Pos80 S) : Fn pg w g os 132 (kd + 1) [.list (S.map D.int)] (.list (back S)) := by
  refine Fn.intro (G.fn (k132 _)) rfl (bo132 _) (codeRec_of G.K (c132 _)) G.lim (ok132 _) rfl (bind1 (b132 _)) G.gn G.bn fun A L => ?_
  refine Ex.assignOwn (ds := []) EvL.nil (by decide) rfl fun a => ?_
  have hSl : (S.map D.int).length ≤ sizeLine := by rw [List.length_map, sizeLine_eq]; lia
  refine Ex.for_ (ds := upto ((S.length - 1 : Nat) : Int)) ?_ rfl (fun j ρ' => ρ' = [(Str.ofString "sums", B.val (.list (S.map D.int))), (Str.ofString "rows", B.own a ((back S).take j))]) rfl ?_ ?_
  · refine EvI.range (m := .n) rfl (by decide) (G.miss (nb_range _)) G.range (i := ((S.length - 1 : Nat) : Int)) ?_ rfl (by lia) (by lia)
    refine Ev.eq (d1 := .int (((S.map D.int).length : Int) - 1)) (Ev.bin (d2 := .int 1) ?_ Ev.int BinOK.sub) ?_
    · exact Ev.callB (x := Str.ofString "len") rfl (by decide) (G.miss (nb_len _)) G.len (EvL.cons (Ev.name rfl rfl) EvL.nil rfl) rfl rfl (BuOK.lenL hSl)
    · rw [List.length_map]; congr 1; lia
  · intro j d ρ' hd hI
    subst hI
    obtain ⟨hj, rfl⟩ := upto_at hd
    have hbl : (back S).length = S.length - 1 := by unfold back; simp
    have hSj : S.getD j 0 ∈ S := by
      rw [List.getD_eq_getElem?_getD, List.getElem?_eq_getElem (by lia)]
      exact List.getElem_mem _
    have hv := hp _ hSj
    have htake : (back S).take (j + 1) = (back S).take j ++ [.list ((backRow S j).map D.int)] := by
      rw [List.take_add_one]
      congr 1
      unfold back
      rw [List.getElem?_map, List.getElem?_range hj]; rfl
    have hrow : backRow S j = chainL (S.getD j 0) ((S.drop (j + 1)).take 3) := rfl
    have hpT : Pos80 ((S.drop (j + 1)).take 3) := fun t ht => hp t (List.mem_of_mem_drop (List.mem_of_mem_take ht))
    have hTl : ((S.drop (j + 1)).take 3).length ≤ 3 := by simp; lia
    refine Ex.assign (d := .int (S.getD j 0)) ?_ rfl rfl ?_
    · exact Ev.item (ds := S.map D.int) (i := (j : Int)) (Ev.name rfl rfl) (Ev.name rfl rfl) (by lia) (getD_map (by lia)) (by lia) rfl
    refine Ex.assignOwn (ds := []) EvL.nil (by decide) rfl fun a2 => ?_
    generalize S.getD j 0 = v0 at *
    refine Ex.for_ (ds := ((S.drop (j + 1)).take 3).map D.int) ?_ rfl (fun q ρ' => ∃ (left : Int) (acc : List Int), 0 ≤ left ∧ left < 2 ^ 80 ∧ acc.length = q ∧ acc ++ chainL left (((S.drop (j + 1)).take 3).drop q) = backRow S j ∧
      ρ' = [(Str.ofString "sums", B.val (.list (S.map D.int))), (Str.ofString "rows", B.own a ((back S).take j)), (Str.ofString "i", B.val (.int (j : Int))), (Str.ofString "left", B.val (.int left)), (Str.ofString "row", B.own a2 (acc.map D.int))])
      ⟨v0, [], by lia, by lia, rfl, by rw [hrow]; rfl, rfl⟩ ?_ ?_
    · refine EvI.list ?_
      have : ((S.drop (j + 1)).take 3).map D.int = pickD (S.map D.int) (some ((j + 1 : Nat) : Int)) (some ((j + 4 : Nat) : Int)) none := by
        rw [pickD_mid _ (by lia) (by rw [List.length_map]; lia), List.map_take, List.map_drop]
        congr 1
        lia
      refine Ev.eq (Ev.sliceL (ds := S.map D.int) (lo := some ((j : Int) + 1)) (hi := some ((j : Int) + 4)) (Ev.name rfl rfl) (EvP.some (Ev.bin (Ev.name rfl rfl) Ev.int BinOK.add)) (EvP.some (Ev.bin (Ev.name rfl rfl) Ev.int BinOK.add)) EvP.none (by intro h; cases h) hSl) ?_
      rw [this]; rfl
    · rintro q d ρ' hd ⟨left, acc, h0, h1, hacc, hc, rfl⟩
      generalize (S.drop (j + 1)).take 3 = ts at *
      rw [List.getElem?_map] at hd
      cases ht : ts[q]? with
      | none => rw [ht] at hd; cases hd
      | some t =>
      rw [ht] at hd
      obtain rfl : D.int t = d := Option.some.inj hd
      have htm := hpT t (List.mem_of_getElem? ht)
      have hlt : q < ts.length := (List.getElem?_eq_some_iff.mp ht).1
      have hdr : ts.drop q = t :: ts.drop (q + 1) := by
        rw [List.drop_eq_getElem_cons hlt, (List.getElem?_eq_some_iff.mp ht).2]
      rw [hdr, chainL] at hc
      have f0 := Int.fmod_nonneg_of_pos left (show (0 : Int) < t by lia)
      have f1 := Int.fmod_lt_of_pos left (show (0 : Int) < t by lia)
      refine Ex.unpack2 (d1 := .int (left.fdiv t)) (d2 := .int (left.fmod t)) ?_ rfl rfl ?_
      · exact Ev.call (k := kd) rfl (by decide) (G.glob (n56 _)) (G.fn (k56 _)) rfl (EvL.cons (m := .s) (Ev.name rfl rfl) (EvL.cons (Ev.name rfl rfl) EvL.nil rfl) rfl) rfl (hdm left t htm.1 htm.2 (by lia)) (Nat.le_refl _)
      refine Ex.append (d := .int (left.fdiv t)) rfl rfl (Ev.name rfl rfl) ?_ rfl rfl ?_
      · rw [List.length_map, sizeLine_eq]; lia
      refine Ex.nilG (ρ2 := [(Str.ofString "sums", B.val (.list (S.map D.int))), (Str.ofString "rows", B.own a ((back S).take j)), (Str.ofString "i", B.val (.int (j : Int))), (Str.ofString "left", B.val (.int (left.fmod t))), (Str.ofString "row", B.own a2 (acc.map D.int ++ [.int (left.fdiv t)]))])
        (ext := [(Str.ofString "total", B.val (.int t)), (Str.ofString "quotient", B.val (.int (left.fdiv t)))]) rfl ?_ rfl
      refine ⟨left.fmod t, acc ++ [left.fdiv t], f0, by lia, by rw [List.length_append, hacc]; rfl, by rw [List.append_assoc]; exact hc, by simp⟩
    · rintro ρ' ⟨left, acc, h0, h1, hacc, hc, rfl⟩
      rw [List.length_map, List.drop_length, chainL] at hc
      rw [List.length_map] at hacc
      refine Ex.append (d := .list ((backRow S j).map D.int)) rfl rfl ?_ ?_ rfl rfl ?_
      · refine Ev.eq (Ev.addFlat (m1 := .n) (m2 := .n) (ds := acc.map D.int) (ds' := [D.int left]) (Ev.nameOwnM (by intro h; cases h) rfl rfl) (Ev.list (EvL.cons (Ev.name rfl rfl) EvL.nil rfl) (by rw [sizeLine_eq]; simp)) (flat_ints _) rfl ?_) ?_
        · rw [List.length_map, sizeLine_eq, List.length_singleton]; lia
        · rw [← hc]; simp
      · rw [List.length_take, sizeLine_eq]; lia
      · refine Ex.nilH (ρ2 := [(Str.ofString "sums", B.val (.list (S.map D.int))), (Str.ofString "rows", B.own a ((back S).take j ++ [.list ((backRow S j).map D.int)]))])
          (ext := [(Str.ofString "i", B.val (.int (j : Int))), (Str.ofString "left", B.val (.int left)), (Str.ofString "row", B.own a2 (acc.map D.int))]) rfl ?_
        rw [htake]
  · intro ρ' hI
    rw [upto_len] at hI
    subst hI
    refine Ex.ret (d := .list (back S)) ?_ rfl
    have : (back S).take (S.length - 1) = back S := List.take_of_length_le (by unfold back; simp)
    rw [this]
    exact Ev.nameOwnM (by intro h; cases h) rfl rfl
end
end

section
set_option linter.unusedVariables false
open PySem PyProof.Rows PySem.W PyProof.V

/-- the digits of x to the base B, the lowest first -/
noncomputable def digs (B : Nat) : Nat → Nat → List Nat
  | 0, _ => []
  | k + 1, x => x % B :: digs B k (x / B)
noncomputable def lval (B : Nat) : List Nat → Nat
  | [] => 0
  | d :: l => d + B * lval B l
theorem digs_length (B : Nat) : ∀ (k x : Nat), (digs B k x).length = k
  | 0, _ => rfl
  | k + 1, x => by rw [digs, List.length_cons, digs_length B k]
theorem digs_lt {B : Nat} (hB : 0 < B) : ∀ (k x : Nat), ∀ d ∈ digs B k x, d < B
  | 0, _, d, h => by cases h
  | k + 1, x, d, h => by
    rw [digs] at h
    rcases List.mem_cons.mp h with rfl | h
    · exact Nat.mod_lt _ hB
    · exact digs_lt hB k _ d h
theorem lval_digs (B : Nat) : ∀ (k x : Nat), x < B ^ k → lval B (digs B k x) = x
  | 0, x, h => by rw [Nat.pow_zero] at h; rw [digs, lval]; lia
  | k + 1, x, h => by
    rw [digs, lval, lval_digs B k (x / B) (Nat.div_lt_of_lt_mul (by rw [Nat.pow_succ, Nat.mul_comm] at h; exact h))]
    exact Nat.mod_add_div x B
theorem lval_append (B : Nat) : ∀ (l r : List Nat), lval B (l ++ r) = lval B l + B ^ l.length * lval B r
  | [], r => by simp [lval]
  | d :: l, r => by
    rw [List.cons_append, lval, lval, lval_append B l r, List.length_cons, Nat.mul_add, Nat.pow_succ]
    rw [← Nat.mul_assoc, Nat.mul_comm B (B ^ l.length), Nat.add_assoc]
theorem lval_lt {B : Nat} : ∀ (l : List Nat), (∀ d ∈ l, d < B) → lval B l < B ^ l.length
  | [], _ => by simp [lval]
  | d :: l, h => by
    have h1 := h d (.head _)
    have h2 := lval_lt l fun x hx => h x (.tail _ hx)
    rw [lval, List.length_cons, Nat.pow_succ]
    have h3 : B * (lval B l + 1) ≤ B * B ^ l.length := Nat.mul_le_mul_left _ h2
    rw [Nat.mul_add] at h3
    rw [Nat.mul_comm (B ^ l.length)]
    lia
theorem digs_append (B : Nat) : ∀ (k j x : Nat), digs B (k + j) x = digs B k (x % B ^ k) ++ digs B j (x / B ^ k)
  | 0, j, x => by simp [digs]
  | k + 1, j, x => by
    have e : k + 1 + j = (k + j) + 1 := by lia
    rw [e, digs, digs, digs_append B k j (x / B), List.cons_append]
    have h1 : x % B ^ (k + 1) % B = x % B := by
      rw [Nat.pow_succ]
      exact Nat.mod_mod_of_dvd x (Nat.dvd_mul_left ..)
    have h2 : x % B ^ (k + 1) / B = x / B % B ^ k := by
      rw [Nat.pow_succ, Nat.mul_comm, Nat.mod_mul_right_div_self]
    have h3 : x / B / B ^ k = x / B ^ (k + 1) := by rw [Nat.div_div_eq_div_mul, Nat.pow_succ, Nat.mul_comm]
    rw [h1, h2, h3]

theorem bits_le {x m : Nat} (h : x < 2 ^ m) : Builtin.Int.intBits (x : Int) ≤ m := intBits_le_iff.mpr (by simpa using h)
theorem lt_bits (x : Nat) : x < 2 ^ Builtin.Int.intBits (x : Int) := by simpa using intBits_le_iff.mp (Nat.le_refl (Builtin.Int.intBits (x : Int)))
theorem bits_pos {x : Nat} (h : 0 < x) : 0 < Builtin.Int.intBits (x : Int) := by
  have := lt_bits x
  cases hb : Builtin.Int.intBits (x : Int) with
  | zero => rw [hb] at this; simp at this; lia
  | succ n => lia
theorem shr_eq (x s : Nat) : ((x : Int).fdiv (2 ^ ((s : Int)).toNat)) = ((x / 2 ^ s : Nat) : Int) := by
  rw [Int.toNat_natCast, show ((2 : Int) ^ s) = ((2 ^ s : Nat) : Int) by simp, Int.fdiv_eq_ediv_of_nonneg _ (Int.natCast_nonneg _)]
  exact (Int.natCast_ediv _ _).symm
theorem shl_eq (x s : Nat) : ((x : Int) * 2 ^ ((s : Int)).toNat) = ((x * 2 ^ s : Nat) : Int) := by
  rw [Int.toNat_natCast, show ((2 : Int) ^ s) = ((2 ^ s : Nat) : Int) by simp, ← Int.natCast_mul]
theorem and_high (x s : Nat) : x &&& (x / 2 ^ s * 2 ^ s) = x / 2 ^ s * 2 ^ s := by
  apply Nat.eq_of_testBit_eq
  intro j
  rw [Nat.testBit_and, Nat.mul_comm, Nat.testBit_two_pow_mul]
  by_cases h : j ≥ s
  · rw [Nat.testBit_div_two_pow]
    simp [h]
  · simp [h]
theorem xor_low (x s : Nat) : Builtin.bitXor (x : Int) ((x / 2 ^ s * 2 ^ s : Nat) : Int) = ((x % 2 ^ s : Nat) : Int) := by
  rw [bitXor_and]
  have h : Builtin.bitAnd (x : Int) ((x / 2 ^ s * 2 ^ s : Nat) : Int) = ((x / 2 ^ s * 2 ^ s : Nat) : Int) := by
    unfold Builtin.bitAnd
    rw [decide_eq_true (Int.natCast_nonneg _), decide_eq_true (Int.natCast_nonneg _)]
    show (((x : Int).toNat &&& ((x / 2 ^ s * 2 ^ s : Nat) : Int).toNat : Nat) : Int) = _
    rw [Int.toNat_natCast, Int.toNat_natCast, and_high]
  rw [h]
  have := Nat.mod_add_div x (2 ^ s)
  rw [Nat.mul_comm] at this
  lia
end

section
set_option linter.unusedVariables false
set_option maxRecDepth 100000
open PySem PyProof.Rows PySem.W PyProof.V
section
variable {w : World} {g : Heap} {mg mb : Str → Option Value} {os : OsState}
theorem fn21 (G : Gd w g mg mb) {k : Nat} (a b n : Int) (hn : (Builtin.Int.intBits a : Int) - n ≤ 4000) (hb : b ≠ 0) (hz : b.natAbs.log2 < 9000) : Fn pg w g os 21 (k + 1) [.int a, .int b, .int n] (.tup [.int (a.fdiv b), .int (a.fmod b)]) := by
  refine Fn.intro (G.fn (k21 _)) rfl (bo21 _) (codeRec_of G.K (c21 _)) G.lim (ok21 _) rfl (bind3 (b21 _)) G.gn G.bn fun A L => ?_
  refine Ex.ifRet (b := true) ?_ (fun _ => ?_) fun h => absurd h (by decide)
  · refine ET.eq (ET.cmp (m := .n) (d1 := .int (Builtin.Int.intBits a - n)) (d2 := .int 4000) (Ev.bin (Ev.bits (Ev.name rfl rfl) rfl) (Ev.name rfl rfl) BinOK.sub) ?_ CmpOK.leI rfl) (decide_eq_true hn)
    exact Ev.global rfl (G.glob (nsl _)) (by decide) .int
  · refine Ex.ret (d := .tup [.int (a.fdiv b), .int (a.fmod b)]) ?_ rfl
    exact Ev.callB (x := Str.ofString "divmod") rfl (by decide) (G.miss (nb_divmod _)) G.divmod (EvL.cons (Ev.name rfl rfl) (EvL.cons (Ev.name rfl rfl) EvL.nil rfl) rfl) rfl rfl (BuOK.divmod hb hz)
end
end

section
set_option linter.unusedVariables false
set_option maxRecDepth 100000
open PySem PyProof.Rows PySem.W PyProof.V
noncomputable def nArgs : Option Stmt → Arguments
  | some (.FunctionDef _ ps _ _ _ _ _ _ _ _) => ps
  | _ => { posonlyargs := [], args := [], vararg := none, kwonlyargs := [], kw_defaults := [], kwarg := none, defaults := [] }
noncomputable def nBody : Option Stmt → List Stmt
  | some (.FunctionDef _ _ b _ _ _ _ _ _ _) => b
  | _ => []
noncomputable def nScope : Option Stmt → Scope
  | some (.FunctionDef _ _ _ _ _ _ sc _ _ _) => sc
  | _ => { kind := .function, names := [], isGenerator := false, isCoroutine := false, more := [] }
noncomputable def st42 (P : Params) : Option Stmt := (bodyAt P 42)[0]?
noncomputable def q42 : Str := "_digits2int.<locals>.inner"
noncomputable def fd42 (P : Params) (L : Addr) (doc pm : Value) (c' : Addr) (ctv : Value) : FuncData :=
  fnX (Str.ofString "inner") q42 (nArgs (st42 P)) (nBody (st42 P)) (nScope (st42 P)) [(Str.ofString "n", L + 1 + 1), (Str.ofString "inner", L + 1 + 1 + 1), (Str.ofString "digits", L + 1)] .none .none doc pm none (.ref c') ctv
theorem sc42 (P : Params) : scOk (nScope (st42 P)) [Str.ofString "L", Str.ofString "R"] = true := by kernel_rfl
theorem lkd42 (P : Params) : (nScope (st42 P)).names.lookup (Str.ofString "digits") = some .free := by kernel_rfl
theorem lkn42 (P : Params) : (nScope (st42 P)).names.lookup (Str.ofString "n") = some .free := by kernel_rfl
theorem bd42 (P : Params) (L : Addr) (doc pm : Value) (c' : Addr) (ctv v0 v1 : Value) : bindArgs (fd42 P L doc pm c' ctv) ⟨[v0, v1], []⟩ = pure [(Str.ofString "L", v0), (Str.ofString "R", v1)] := by kernel_rfl

section
variable {w : World} {g : Heap} {mg mb : Str → Option Value} {os : OsState}
noncomputable abbrev nD (ds : List Nat) : List D := ds.map fun (d : Nat) => D.int (d : Int)
theorem flat_nD (l : List Nat) : (nD l).all flat = true := by
  rw [List.all_eq_true]
  intro d hd
  obtain ⟨i, _, rfl⟩ := List.mem_map.mp hd
  rfl
theorem half0 {l r m : Nat} (h1 : l < r) (h2 : l + 1 ≠ r) (h3 : r ≤ l + 2 * m) : l < (l + r) / 2 ∧ (l + r) / 2 < r := by lia
theorem half1 {l r m : Nat} (h1 : l < r) (h3 : r ≤ l + 2 * m) : (l + r) / 2 - l ≤ m ∧ r - (l + r) / 2 ≤ m := by lia
theorem half {l r j : Nat} (h1 : l < r) (h2 : l + 1 ≠ r) (h3 : r - l ≤ 2 ^ (j + 1)) : l < (l + r) / 2 ∧ (l + r) / 2 < r ∧ (l + r) / 2 - l ≤ 2 ^ j ∧ r - (l + r) / 2 ≤ 2 ^ j := by
  rw [Nat.pow_succ, Nat.mul_comm] at h3
  have h4 := Nat.sub_le_iff_le_add'.mp h3
  exact ⟨(half0 h1 h2 h4).1, (half0 h1 h2 h4).2, half1 h1 h4⟩
theorem take_split {α : Type} (ds : List α) {l M r : Nat} (h1 : l ≤ M) (h2 : M ≤ r) : (ds.drop l).take (r - l) = (ds.drop l).take (M - l) ++ (ds.drop M).take (r - M) := by
  have e : r - l = (M - l) + (r - M) := by lia
  rw [e, List.take_add, List.drop_drop]
  congr 3
  lia
theorem mem_take_drop {α : Type} {ds : List α} {l k : Nat} {d : α} (h : d ∈ (ds.drop l).take k) : d ∈ ds := List.mem_of_mem_drop (List.mem_of_mem_take h)
theorem pow_pow (n k : Nat) : (2 ^ n) ^ k = 2 ^ (k * n) := by rw [← Nat.pow_mul, Nat.mul_comm]

theorem in42_big {g' : Heap} {f L c' A0 : Addr} {doc pm ctv : Value} {A : Around} {l r M lo hi sh n j : Nat} {ds : List Nat}
    (ho : g'.get? f = some ⟨.type "function", none, .func (fd42 w.params L doc pm c' ctv), #[]⟩) (h3 : g'.IsCell (L + 1 + 1 + 1) (some (.ref f)))
    (hb : decide ((l : Int) + 1 = r) = false) (hM : ((l : Int) + (r : Int)).fdiv (2 ^ (1 : Int).toNat) = (M : Int)) (hS : ((M : Int) - (l : Int)) * (n : Int) = (sh : Int)) (hn : n ≤ 80)
    (hbits : Builtin.Int.intBits (hi : Int) ≤ 256 * 80) (hsh : sh ≤ 256 * 80)
    (ihA : Fn pg w g' os f (j + 1) [.int (M : Int), .int (r : Int)] (.int (hi : Int))) (ihB : Fn pg w g' os f (j + 1) [.int (l : Int), .int (M : Int)] (.int (lo : Int))) {N : Rho → Prop} :
    Ex (frameC pg w g' os mg mb (fd42 w.params L doc pm c' ctv) f (j + 1) A A0) [(Str.ofString "L", B.val (.int (l : Int))), (Str.ofString "R", B.val (.int (r : Int))), (Str.ofString "digits", B.val (.list (nD ds))), (Str.ofString "n", B.val (.int (n : Int)))]
      (nBody (st42 w.params)) N (fun d' => d' = .int ((lo + 2 ^ sh * hi : Nat) : Int)) := by
  refine Ex.ifRet (b := false) (ET.eq (ET.cmp (m := .n) (Ev.bin (Ev.name rfl rfl) Ev.int BinOK.add) (Ev.name rfl rfl) CmpOK.eqI rfl) hb) (fun hb => absurd hb (by decide)) fun _ => ?_
  refine Ex.assign (d := .int (M : Int)) (Ev.eq (Ev.bin (Ev.bin (Ev.name rfl rfl) (Ev.name rfl rfl) BinOK.add) Ev.int (BinOK.shr (by decide))) (congrArg D.int hM)) rfl rfl ?_
  have hnb : Builtin.Int.intBits (n : Int) ≤ 64 := bits_le (Nat.lt_of_le_of_lt hn (by decide))
  refine Ex.assign (d := .int (sh : Int)) (Ev.eq (Ev.bin (Ev.bin (Ev.name rfl rfl) (Ev.name rfl rfl) BinOK.sub) (Ev.name rfl rfl) (BinOK.mul (IntMulOk.of_right hnb))) (congrArg D.int hS)) rfl rfl ?_
  refine Ex.ret (d := .int (((lo + 2 ^ sh * hi : Nat)) : Int)) ?_ rfl
  refine Ev.eq (Ev.bin (d1 := .int ((hi : Int) * 2 ^ ((sh : Int)).toNat)) (d2 := .int (lo : Int)) (Ev.bin (d1 := .int (hi : Int)) (d2 := .int (sh : Int)) ?_ (Ev.name rfl rfl) (BinOK.shl (by lia) (by lia))) ?_ BinOK.add) ?_
  · exact Ev.callC (f := f) (q := L + 1 + 1 + 1) (.inr rfl) (by decide) (by decide) rfl h3 ho rfl (EvL.cons (Ev.name rfl rfl) (EvL.cons (Ev.name rfl rfl) EvL.nil rfl) rfl) rfl ihA (Nat.le_refl _)
  · exact Ev.callC (f := f) (q := L + 1 + 1 + 1) (.inr rfl) (by decide) (by decide) rfl h3 ho rfl (EvL.cons (Ev.name rfl rfl) (EvL.cons (Ev.name rfl rfl) EvL.nil rfl) rfl) rfl ihB (Nat.le_refl _)
  · rw [shl_eq, Nat.mul_comm (2 ^ sh), Nat.add_comm lo, Int.natCast_add]

theorem all2 {β : Type} {Pr : Str → β → Prop} {x1 x2 : Str} {y1 y2 : β} (h1 : Pr x1 y1) (h2 : Pr x2 y2) : ∀ x y, [(x1, y1), (x2, y2)].lookup x = some y → Pr x y := fun x y e => by
  rcases List.mem_cons.mp (mem_of_lookup e) with h | h
  · cases h; exact h1
  · cases List.mem_singleton.mp h; exact h2
theorem all3 {β : Type} {Pr : Str → β → Prop} {x1 x2 x3 : Str} {y1 y2 y3 : β} (h1 : Pr x1 y1) (h2 : Pr x2 y2) (h3 : Pr x3 y3) : ∀ x y, [(x1, y1), (x2, y2), (x3, y3)].lookup x = some y → Pr x y := fun x y e => by
  rcases List.mem_cons.mp (mem_of_lookup e) with h | h
  · cases h; exact h1
  · rcases List.mem_cons.mp h with h | h
    · cases h; exact h2
    · cases List.mem_singleton.mp h; exact h3
theorem inner42 (G : Gd w g mg mb) {g' : Heap} (hsub : ∀ a o, g.get? a = some o → g'.get? a = some o) {f L c' : Addr} {doc pm ctv vd : Value} {tn : Tok} {ds : List Nat} {n : Nat}
    (ho : g'.get? f = some ⟨.type "function", none, .func (fd42 w.params L doc pm c' ctv), #[]⟩) (hcode : g'.CodeRec (.ref c') q42)
    (h1 : g'.IsCell (L + 1) (some vd)) (hvd : Rep pg w (fun _ => True) g' vd (.list (nD ds))) (h2 : g'.IsCell (L + 1 + 1) (some (.int (n : Int) tn))) (h3 : g'.IsCell (L + 1 + 1 + 1) (some (.ref f)))
    (n1 : Nt (L + 1)) (n2 : Nt (L + 1 + 1)) (n3 : Nt (L + 1 + 1 + 1)) (hn : n ≤ 80) (hlen : ds.length ≤ 256) (hd : ∀ d ∈ ds, d < 2 ^ n) :
    ∀ j l r : Nat, l < r → r ≤ ds.length → r - l ≤ 2 ^ j → Fn pg w g' os f (j + 1) [.int (l : Int), .int (r : Int)] (.int ((lval (2 ^ n) ((ds.drop l).take (r - l)) : Nat) : Int)) := by
  intro j
  induction j using Nat.strongRecOn with
  | _ j IH =>
  intro l r hlr hr hj
  refine FnC.intro (fd := fd42 w.params L doc pm c' ctv) (ρc := [(Str.ofString "digits", B.val (.list (nD ds))), (Str.ofString "n", B.val (.int (n : Int)))]) (names := [Str.ofString "L", Str.ofString "R"]) (mg := mg) (mb := mb) ho rfl (body := nBody (st42 w.params)) rfl hcode (G.lim.keeps hsub) (sc42 w.params) rfl
    (bind2 (bd42 w.params L doc pm c' ctv)) (G.gn.keeps hsub) (G.bn.keeps hsub) rfl rfl (fun h X => ⟨?_, ?_, List.nodup_nil, fun a ha => nomatch ha⟩) rfl fun A L0 => ?_
  · refine all2 ?_ ?_
    · exact ⟨(fun h => nomatch (lkd42 w.params).symm.trans h), L + 1, vd, rfl, h1.keeps X.keep, fun c hp hw => (by
        show Rep c.prog c.w _ _ _ _
        rw [hp, hw]
        exact hvd.mono fun a o _ _ e => ⟨⟨List.not_mem_nil, o, X.keep a o e⟩, X.keep a o e⟩)⟩
    · exact ⟨(fun h => nomatch (lkn42 w.params).symm.trans h), L + 1 + 1, _, rfl, h2.keeps X.keep, fun c hp hw => Rep.int⟩
  · exact all3 (Pr := fun x q => Nt q ∧ ∃ v, h.IsCell q v) ⟨n2, _, h2.keeps X.keep⟩ ⟨n3, _, h3.keeps X.keep⟩ ⟨n1, _, h1.keeps X.keep⟩
  by_cases e : l + 1 = r
  · have hl : l < ds.length := Nat.lt_of_lt_of_le hlr hr
    refine Ex.ifRet (b := true) (ET.eq (ET.cmp (m := .n) (Ev.bin (Ev.name rfl rfl) Ev.int BinOK.add) (Ev.name rfl rfl) CmpOK.eqI rfl) (decide_eq_true (by lia))) (fun _ => ?_) fun hb => absurd hb (by decide)
    refine Ex.ret (d := .int ((ds.getD l 0 : Nat) : Int)) ?_ ?_
    · refine Ev.item (ds := nD ds) (i := (l : Int)) (Ev.name rfl rfl) (Ev.name rfl rfl) (Int.natCast_nonneg _) ?_ (by lia) rfl
      rw [Int.toNat_natCast, List.getElem?_map, List.getD_eq_getElem?_getD, List.getElem?_eq_getElem hl]; rfl
    · have hsl : (ds.drop l).take (r - l) = [ds.getD l 0] := by
        rw [← e, Nat.add_sub_cancel_left, List.drop_eq_getElem_cons hl, List.getD_eq_getElem?_getD, List.getElem?_eq_getElem hl]; rfl
      rw [hsl]; simp [lval]
  · obtain ⟨j, rfl⟩ : ∃ j', j = j' + 1 := ⟨j - 1, by
      cases j with
      | zero => exact absurd hj (by simp; lia)
      | succ j => rfl⟩
    obtain ⟨hm1, hm2, hm3, hm4⟩ := half hlr e hj
    have hM : ((l : Int) + (r : Int)).fdiv (2 ^ (1 : Int).toNat) = (((l + r) / 2 : Nat) : Int) := by
      have := shr_eq (l + r) 1
      rw [Int.natCast_add] at this
      simpa using this
    have hl2 : ((ds.drop ((l + r) / 2)).take (r - (l + r) / 2)).length = r - (l + r) / 2 := by simp; lia
    have hlt := lval_lt (B := 2 ^ n) ((ds.drop ((l + r) / 2)).take (r - (l + r) / 2)) fun d h => hd d (mem_take_drop h)
    rw [hl2, pow_pow] at hlt
    have e2 : lval (2 ^ n) ((ds.drop l).take (r - l)) = lval (2 ^ n) ((ds.drop l).take ((l + r) / 2 - l)) + 2 ^ (((l + r) / 2 - l) * n) * lval (2 ^ n) ((ds.drop ((l + r) / 2)).take (r - (l + r) / 2)) := by
      rw [take_split ds (Nat.le_of_lt hm1) (Nat.le_of_lt hm2), lval_append, show ((ds.drop l).take ((l + r) / 2 - l)).length = (l + r) / 2 - l by simp; lia, pow_pow]
    rw [e2]
    exact in42_big ho h3 (decide_eq_false (by lia)) hM (by rw [Int.natCast_mul, Int.natCast_sub (Nat.le_of_lt hm1)]) hn (Nat.le_trans (bits_le hlt) (Nat.mul_le_mul (by lia) hn)) (Nat.mul_le_mul (by lia) hn)
      (IH j (Nat.lt_succ_self j) _ r hm2 hr hm4) (IH j (Nat.lt_succ_self j) l _ hm1 (by lia) hm3)
end
end

section
set_option linter.unusedVariables false
set_option maxRecDepth 100000
open PySem PyProof.Rows PySem.W PyProof.V
section
variable {w : World} {g : Heap} {mg mb : Str → Option Value} {os : OsState}
theorem c41 (P : Params) : (fnAt P 42).code = .ref 41 := by kernel_rfl
theorem gl42 (P : Params) : (fnAt P 42).globals = mainGlobals := by kernel_rfl

/-- behind the nested def: the rest runs on a ground that holds the new function -/
theorem fn42 (G : Gd w g mg mb) {k : Nat} (ds : List Nat) (n : Nat) (hn : n ≤ 80) (hlen : ds.length ≤ 256) (hd : ∀ d ∈ ds, d < 2 ^ n) : Fn pg w g os 42 (k + 10) [.list (nD ds), .int (n : Int)] (.int ((lval (2 ^ n) ds : Nat) : Int)) := by
  refine Fn.intro (G.fn (k42 _)) rfl (bo42 _) (codeRec_of G.K (c42 _)) G.lim (ok42 _) rfl (bind2 (b42 _)) G.gn G.bn fun A L => ?_
  refine Ex.nestDef (P := 37) (cc := 41) (line := 47) (col := 4) (qual := q42) (q := L + 1 + 1 + 1) (params := nArgs (st42 w.params)) (body := nBody (st42 w.params)) (scope := nScope (st42 w.params)) (clos := [(Str.ofString "n", L + 1 + 1), (Str.ofString "inner", L + 1 + 1 + 1), (Str.ofString "digits", L + 1)])
    (by kernel_rfl) (fun h X => X.t37) (fun h h' X hx T => gh37 X G.n37 hx T) rfl rfl rfl (gl42 w.params) (c41 w.params) G.c37 G.bm (fun h => h.2 rfl) rfl rfl rfl rfl rfl rfl rfl rfl rfl (ks := [Str.ofString "digits", Str.ofString "n"]) rfl (by decide) G.n30 G.n37 fun F h₀ s f c' doc ctv S hfg hcode hig => ?_
  obtain ⟨qd, vd, hq1, hq2, hq3⟩ := S.ce (Str.ofString "digits") (.val (.list (nD ds))) rfl (by intro h; cases h)
  obtain ⟨qn, vn, hn1, hn2, hn3⟩ := S.ce (Str.ofString "n") (.val (.int (n : Int))) rfl (by intro h; cases h)
  obtain rfl : L + 1 = qd := Option.some.inj hq1
  obtain rfl : L + 1 + 1 = qn := Option.some.inj hn1
  obtain ⟨tn, rfl⟩ := (show Rep pg w _ _ vn (.int (n : Int)) from hn3).inv_int
  have hdg := S.cellG (x := Str.ofString "digits") rfl rfl hq2
  have hng := S.cellG (x := Str.ofString "n") rfl rfl hn2
  have hin := inner42 (os := os) G (S.reSub G.n30 G.n37) hfg hcode hdg.1 (S.caughtG hq3) hng.1 hig hdg.2 hng.2 (S.cs (Str.ofString "inner") (L + 1 + 1 + 1) rfl).1 hn hlen hd
  refine Ex.ret (d := .int ((lval (2 ^ n) ds : Nat) : Int)) ?_ rfl
  have hsz : (nD ds).length ≤ sizeLine := by rw [List.length_map, sizeLine_eq]; lia
  refine Ev.ifexp (ET.list (Ev.name (m := .n) rfl rfl) hsz) (fun hb => ?_) fun hb => ?_
  · have hpos : 0 < ds.length := by
      cases ds with
      | nil => cases hb
      | cons d ds => exact Nat.succ_pos _
    have h0 := hin 8 0 ds.length hpos (Nat.le_refl _) (by simpa using hlen)
    rw [Nat.sub_zero, List.drop_zero, List.take_length] at h0
    refine Ev.callC (f := f) (q := L + 1 + 1 + 1) (.inl rfl) (by decide) (by decide) rfl hig hfg rfl (EvL.cons (d := .int ((0 : Nat) : Int)) Ev.int (EvL.cons (d := .int (ds.length : Int)) ?_ EvL.nil rfl) rfl) rfl h0 (Nat.le_add_left _ _)
    have e : (ds.length : Int) = ((nD ds).length : Int) := by rw [List.length_map]
    rw [e]
    exact Ev.callB (x := Str.ofString "len") rfl (by decide) (G.miss (nb_len _)) G.len (EvL.cons (Ev.name rfl rfl) EvL.nil rfl) rfl rfl (BuOK.lenL hsz)
  · have hnil : ds = [] := by
      cases ds with
      | nil => rfl
      | cons d ds => cases hb
    rw [hnil]
    exact Ev.int
end
end

section
set_option linter.unusedVariables false
set_option maxRecDepth 100000
open PySem PyProof.Rows PySem.W PyProof.V
noncomputable def st35 (P : Params) : Option Stmt := (bodyAt P 35)[1]?
noncomputable def q35 : Str := "_int2digits.<locals>.inner"
noncomputable def fd35 (P : Params) (L : Addr) (doc pm : Value) (c' : Addr) (ctv : Value) : FuncData :=
  fnX (Str.ofString "inner") q35 (nArgs (st35 P)) (nBody (st35 P)) (nScope (st35 P)) [(Str.ofString "n", L + 1), (Str.ofString "inner", L + 1 + 1 + 1), (Str.ofString "a_digits", L + 1 + 1)] .none .none doc pm none (.ref c') ctv
theorem sc35 (P : Params) : scOk (nScope (st35 P)) [Str.ofString "x", Str.ofString "L", Str.ofString "R"] = true := by kernel_rfl
theorem lka35 (P : Params) : (nScope (st35 P)).names.lookup (Str.ofString "a_digits") = some .free := by kernel_rfl
theorem lkn35 (P : Params) : (nScope (st35 P)).names.lookup (Str.ofString "n") = some .free := by kernel_rfl
theorem bd35 (P : Params) (L : Addr) (doc pm : Value) (c' : Addr) (ctv v0 v1 v2 : Value) : bindArgs (fd35 P L doc pm c' ctv) ⟨[v0, v1, v2], []⟩ = pure [(Str.ofString "x", v0), (Str.ofString "L", v1), (Str.ofString "R", v2)] := by kernel_rfl
theorem c34 (P : Params) : (fnAt P 35).code = .ref 34 := by kernel_rfl
theorem gl35 (P : Params) : (fnAt P 35).globals = mainGlobals := by kernel_rfl

/-- the digits of x are laid from l on -/
noncomputable def lay (ds : List Int) (n l k x : Nat) : List Int := ds.take l ++ (digs (2 ^ n) k x).map (fun (d : Nat) => (d : Int)) ++ ds.drop (l + k)
theorem lay_length {ds : List Int} {n l k x : Nat} (h : l + k ≤ ds.length) : (lay ds n l k x).length = ds.length := by
  unfold lay
  simp [digs_length]
  lia
theorem lay_lay (ds : List Int) {n l k j x y : Nat} (h : l + k + j ≤ ds.length) : lay (lay ds n l k x) n (l + k) j y = ds.take l ++ (digs (2 ^ n) k x).map (fun (d : Nat) => (d : Int)) ++ (digs (2 ^ n) j y).map (fun (d : Nat) => (d : Int)) ++ ds.drop (l + k + j) := by
  unfold lay
  have e1 : (ds.take l ++ (digs (2 ^ n) k x).map (fun (d : Nat) => (d : Int))).length = l + k := by simp [digs_length]; lia
  rw [List.take_append_of_le_length (by rw [e1]; exact Nat.le_refl _), List.take_of_length_le (Nat.le_of_eq e1), List.drop_append, e1]
  rw [List.drop_of_length_le (by rw [e1]; lia)]
  simp only [List.nil_append, List.drop_drop]
  rw [show l + k + (l + k + j - (l + k)) = l + k + j by lia]

section
variable {w : World} {g : Heap} {mg mb : Str → Option Value} {os : OsState}
theorem nD_eq (ds : List Nat) : nD ds = (ds.map (fun (d : Nat) => (d : Int))).map D.int := by rw [List.map_map]; rfl

theorem inner35 (G : Gd w g mg mb) {g' : Heap} (hsub : ∀ a o, g.get? a = some o → g'.get? a = some o) {f L c' al : Addr} {doc pm ctv : Value} {tn : Tok} {n : Nat}
    (ho : g'.get? f = some ⟨.type "function", none, .func (fd35 w.params L doc pm c' ctv), #[]⟩) (hcode : g'.CodeRec (.ref c') q35)
    (h1 : g'.IsCell (L + 1 + 1) (some (.ref al))) (h2 : g'.IsCell (L + 1) (some (.int (n : Int) tn))) (h3 : g'.IsCell (L + 1 + 1 + 1) (some (.ref f)))
    (n1 : Nt (L + 1 + 1)) (n2 : Nt (L + 1)) (n3 : Nt (L + 1 + 1 + 1)) (nal : Nt al) (gal : g'.get? al = none) (hn : n ≤ 80) :
    ∀ (j l r x : Nat) (ds : List Int), l < r → r ≤ ds.length → ds.length ≤ 256 → r - l ≤ 2 ^ j → x < 2 ^ ((r - l) * n) →
      FnM pg w g' os f (j + 1) al [.int (x : Int), .int (l : Int), .int (r : Int)] ds (lay ds n l (r - l) x) := by
  intro j
  induction j using Nat.strongRecOn with
  | _ j IH =>
  intro l r x ds hlr hr hlen hj hx
  refine FnM.intro (fd := fd35 w.params L doc pm c' ctv) (x := Str.ofString "a_digits") (ρc := [(Str.ofString "a_digits", B.own al (ds.map D.int)), (Str.ofString "n", B.val (.int (n : Int)))]) (names := [Str.ofString "x", Str.ofString "L", Str.ofString "R"]) (mg := mg) (mb := mb) ho rfl (body := nBody (st35 w.params)) rfl hcode (G.lim.keeps hsub) (sc35 w.params) rfl
    (bind3 (bd35 w.params L doc pm c' ctv)) (G.gn.keeps hsub) (G.bn.keeps hsub) rfl (fun h X hO => ⟨?_, ?_, ?_, fun a ha => ?_⟩) rfl fun A L0 => ?_
  · intro y b e
    rw [List.lookup_cons] at e
    by_cases hy : y = Str.ofString "a_digits"
    · subst hy
      rw [beq_self_eq_true] at e
      cases e
      refine ⟨(fun h => nomatch (lka35 w.params).symm.trans h), L + 1 + 1, _, rfl, h1.keeps X.keep, fun c hp hw => ?_⟩
      obtain ⟨vs, hp2, hi⟩ := hO
      exact ⟨rfl, vs, hp2, repInts hi⟩
    · rw [beq_eq_false_iff_ne.mpr hy] at e
      rw [List.lookup_cons] at e
      by_cases hy : y = Str.ofString "n"
      · subst hy
        rw [beq_self_eq_true] at e
        cases e
        exact ⟨(fun h => nomatch (lkn35 w.params).symm.trans h), L + 1, _, rfl, h2.keeps X.keep, fun c hp hw => Rep.int⟩
      · rw [beq_eq_false_iff_ne.mpr hy] at e
        cases e
  · intro y q e
    have hm := mem_of_lookup e
    have hm' : (y, q) ∈ [(Str.ofString "n", L + 1), (Str.ofString "inner", L + 1 + 1 + 1), (Str.ofString "a_digits", L + 1 + 1)] := hm
    simp only [List.mem_cons, Prod.mk.injEq, List.not_mem_nil, or_false] at hm'
    rcases hm' with ⟨_, rfl⟩ | ⟨_, rfl⟩ | ⟨_, rfl⟩
    · exact ⟨n2, _, h2.keeps X.keep⟩
    · exact ⟨n3, _, h3.keeps X.keep⟩
    · exact ⟨n1, _, h1.keeps X.keep⟩
  · show [al].Nodup
    simp
  · have : a ∈ [al] := ha
    have : a = al := by simpa using this
    subst this
    obtain ⟨vs, ⟨m, hp2⟩, _⟩ := hO
    exact ⟨nal, gal, _, hp2⟩
  refine ExM.ifStore (a := al) (ds := ds.map D.int) (i := (l : Int)) (d := .int (x : Int)) (m := .n) (b := decide ((l : Int) + 1 = r)) (ET.cmp (m := .n) (Ev.bin (Ev.name rfl rfl) Ev.int BinOK.add) (Ev.name rfl rfl) CmpOK.eqI rfl) rfl rfl (Ev.name rfl rfl) (Ev.name rfl rfl) (by lia) (fun hb => ?_) (by lia) rfl (fun hb => ?_) fun hb => ExM.of ?_
  · rw [List.length_map]; lia
  · have e : l + 1 = r := by have := of_decide_eq_true hb; lia
    have e2 : r - l = 1 := by lia
    rw [Rho.lookup_set, if_pos rfl]
    congr 2
    rw [Int.toNat_natCast, e2]
    rw [e2, Nat.one_mul] at hx
    unfold lay
    rw [digs, digs, Nat.mod_eq_of_lt hx, List.set_eq_take_append_cons_drop]
    rw [List.length_map, if_pos (by lia)]
    simp [List.map_take, List.map_drop]
  · have e : l + 1 ≠ r := by have := of_decide_eq_false hb; lia
    obtain ⟨j, rfl⟩ : ∃ j', j = j' + 1 := ⟨j - 1, by
      cases j with
      | zero => exact absurd hj (by simp; lia)
      | succ j => rfl⟩
    obtain ⟨hm1, hm2, hm3, hm4⟩ := half hlr e hj
    have hM : ((l : Int) + (r : Int)).fdiv (2 ^ (1 : Int).toNat) = (((l + r) / 2 : Nat) : Int) := by
      have := shr_eq (l + r) 1
      rw [Int.natCast_add] at this
      simpa using this
    generalize hMM : (l + r) / 2 = M at *
    refine Ex.assign (d := .int (M : Int)) (Ev.eq (Ev.bin (Ev.bin (Ev.name rfl rfl) (Ev.name rfl rfl) BinOK.add) Ev.int (BinOK.shr (by decide))) (congrArg D.int hM)) rfl rfl ?_
    have hS : ((M : Int) - (l : Int)) * (n : Int) = (((M - l) * n : Nat) : Int) := by rw [Int.natCast_mul, Int.natCast_sub (by lia)]
    have hnb : Builtin.Int.intBits (n : Int) ≤ 64 := bits_le (Nat.lt_of_le_of_lt hn (by decide))
    refine Ex.assign (d := .int (((M - l) * n : Nat) : Int)) (Ev.eq (Ev.bin (Ev.bin (Ev.name rfl rfl) (Ev.name rfl rfl) BinOK.sub) (Ev.name rfl rfl) (BinOK.mul (IntMulOk.of_right hnb))) (congrArg D.int hS)) rfl rfl ?_
    have hmul2 : (M - l) * n ≤ 256 * 80 := Nat.mul_le_mul (by lia) hn
    have hmul3 : (r - l) * n ≤ 256 * 80 := Nat.mul_le_mul (by lia) hn
    have hrl : (r - l) * n = (M - l) * n + (r - M) * n := by rw [← Nat.add_mul]; congr 1; lia
    have hlo : x % 2 ^ ((M - l) * n) < 2 ^ ((M - l) * n) := Nat.mod_lt _ (Nat.pow_pos (by decide))
    have hhi : x / 2 ^ ((M - l) * n) < 2 ^ ((r - M) * n) := Nat.div_lt_of_lt_mul (by rw [← Nat.pow_add, ← hrl]; exact hx)
    have hbx := bits_le hx
    have hbh : Builtin.Int.intBits ((x / 2 ^ ((M - l) * n) : Nat) : Int) ≤ (r - l) * n := bits_le (Nat.lt_of_le_of_lt (Nat.div_le_self _ _) hx)
    have ihA := IH j (by lia) l M (x % 2 ^ ((M - l) * n)) ds hm1 (by lia) hlen hm3 hlo
    have ihB := IH j (by lia) M r (x / 2 ^ ((M - l) * n)) (lay ds n l (M - l) (x % 2 ^ ((M - l) * n))) hm2 (by rw [lay_length (by lia)]; exact hr) (by rw [lay_length (by lia)]; exact hlen) hm4 hhi
    have hfin : lay (lay ds n l (M - l) (x % 2 ^ ((M - l) * n))) n M (r - M) (x / 2 ^ ((M - l) * n)) = lay ds n l (r - l) x := by
      have e1 : l + (M - l) = M := by lia
      have := lay_lay ds (n := n) (l := l) (k := M - l) (j := r - M) (x := x % 2 ^ ((M - l) * n)) (y := x / 2 ^ ((M - l) * n)) (by lia)
      rw [e1] at this
      rw [this]
      unfold lay
      have e2 : r - l = (M - l) + (r - M) := by lia
      have e3 : M + (r - M) = l + (r - l) := by lia
      rw [e3]
      conv => rhs; rw [e2, digs_append, pow_pow]
      rw [List.map_append, ← e2]
      simp only [List.append_assoc]
    rw [hfin] at ihB
    have hup := shr_eq x ((M - l) * n)
    have hdn := shl_eq (x / 2 ^ ((M - l) * n)) ((M - l) * n)
    have hxl := xor_low x ((M - l) * n)
    generalize hsh : (M - l) * n = sh at *
    generalize x / 2 ^ sh = hi at *
    refine Ex.assign (d := .int (hi : Int)) (Ev.eq (Ev.bin (Ev.name rfl rfl) (Ev.name rfl rfl) (BinOK.shr (by lia))) (congrArg D.int hup)) rfl rfl ?_
    refine Ex.assign (d := .int ((x % 2 ^ sh : Nat) : Int)) (Ev.eq (Ev.bin (d1 := .int (x : Int)) (d2 := .int ((hi * 2 ^ sh : Nat) : Int)) (Ev.name rfl rfl) (Ev.eq (Ev.bin (Ev.name rfl rfl) (Ev.name rfl rfl) (BinOK.shl (by lia) (by lia))) (congrArg D.int hdn)) BinOK.xor) (congrArg D.int hxl)) rfl rfl ?_
    refine Ex.callM (m := .s) (y := Str.ofString "a_digits") (f := f) (q := L + 1 + 1 + 1) (.inr rfl) (by decide) (by decide) rfl h3 ho rfl rfl (EvL.cons (Ev.name rfl rfl) (EvL.cons (Ev.name rfl rfl) (EvL.cons (Ev.name rfl rfl) EvL.nil rfl) rfl) rfl) rfl ihA (Nat.le_refl _) ?_
    refine Ex.callM (m := .s) (y := Str.ofString "a_digits") (f := f) (q := L + 1 + 1 + 1) (.inr rfl) (by decide) (by decide) rfl h3 ho rfl rfl (EvL.cons (Ev.name rfl rfl) (EvL.cons (Ev.name rfl rfl) (EvL.cons (Ev.name rfl rfl) EvL.nil rfl) rfl) rfl) rfl ihB (Nat.le_refl _) ?_
    refine Ex.nil ?_
    rw [Rho.lookup_set, if_pos rfl]
end
end

section
set_option linter.unusedVariables false
set_option maxRecDepth 100000
open PySem PyProof.Rows PySem.W PyProof.V
/-- the number of digits -/
noncomputable def cnt (n b : Nat) : Nat := (b + n - 1) / n
theorem cnt_le {n b : Nat} (hn : 1 ≤ n) : cnt n b ≤ b := by
  unfold cnt
  cases b with
  | zero => rw [Nat.div_eq_of_lt (by lia)]; exact Nat.le_refl _
  | succ b =>
    refine Nat.div_le_of_le_mul ?_
    have : b ≤ n * b := Nat.le_mul_of_pos_left b hn
    rw [Nat.mul_succ]
    lia
theorem le_cnt {n b : Nat} (hn : 1 ≤ n) : b ≤ cnt n b * n := by
  unfold cnt
  have h1 := Nat.div_add_mod (b + n - 1) n
  have h2 := Nat.mod_lt (b + n - 1) (show 0 < n by lia)
  rw [Nat.mul_comm] at h1
  lia
theorem cnt_zero {n : Nat} (hn : 1 ≤ n) : cnt n 0 = 0 := Nat.div_eq_of_lt (by lia)
noncomputable def digsOf (n a : Nat) : List Nat := digs (2 ^ n) (cnt n (Builtin.Int.intBits (a : Int))) a
theorem digsOf_val {n a : Nat} (hn : 1 ≤ n) : lval (2 ^ n) (digsOf n a) = a := by
  refine lval_digs _ _ _ ?_
  rw [pow_pow]
  exact Nat.lt_of_lt_of_le (lt_bits a) (Nat.pow_le_pow_right (by decide) (le_cnt hn))
theorem digsOf_lt {n a : Nat} : ∀ d ∈ digsOf n a, d < 2 ^ n := digs_lt (Nat.pow_pos (by decide)) _ _
theorem lay_all {n k a : Nat} : lay (List.replicate k 0) n 0 k a = (digs (2 ^ n) k a).map (fun (d : Nat) => (d : Int)) := by
  unfold lay
  simp
section
variable {w : World} {g : Heap} {mg mb : Str → Option Value} {os : OsState}

theorem fn35 (G : Gd w g mg mb) {k : Nat} (a n : Nat) (h1n : 1 ≤ n) (hn : n ≤ 80) (ha : a < 2 ^ 200) : Fn pg w g os 35 (k + 10) [.int (a : Int), .int (n : Int)] (.list (nD (digsOf n a))) := by
  refine Fn.intro (G.fn (k35 _)) rfl (bo35 _) (codeRec_of G.K (c35 _)) G.lim (ok35 _) rfl (bind2 (b35 _)) G.gn G.bn fun A L => ?_
  have hbits := bits_le ha
  have hc1 := cnt_le (b := Builtin.Int.intBits (a : Int)) h1n
  have hc2 := le_cnt (b := Builtin.Int.intBits (a : Int)) h1n
  have hca : a < 2 ^ (cnt n (Builtin.Int.intBits (a : Int)) * n) := Nat.lt_of_lt_of_le (lt_bits a) (Nat.pow_le_pow_right (by decide) hc2)
  have hdg : digsOf n a = digs (2 ^ n) (cnt n (Builtin.Int.intBits (a : Int))) a := rfl
  have hcq : ((Builtin.Int.intBits (a : Int) : Int) + (n : Int) - 1).fdiv (n : Int) = (cnt n (Builtin.Int.intBits (a : Int)) : Int) := by
    unfold cnt
    rw [Int.fdiv_eq_ediv_of_nonneg _ (by lia), Int.natCast_ediv]
    congr 1
    lia
  have hcz : a = 0 → cnt n (Builtin.Int.intBits (a : Int)) = 0 := fun h => by rw [h]; exact cnt_zero h1n
  have hcp : a ≠ 0 → 0 < cnt n (Builtin.Int.intBits (a : Int)) := fun h => by
    cases hc : cnt n (Builtin.Int.intBits (a : Int)) with
    | zero => rw [hc] at hca; simp at hca; exact absurd hca h
    | succ m => lia
  generalize hK : cnt n (Builtin.Int.intBits (a : Int)) = K at *
  refine Ex.assignFresh (ds := (List.replicate K (0 : Int)).map D.int) (fun F h₀ s S => ?_) (flat_ints _) rfl rfl fun al => ?_
  · have hds : (List.replicate K (0 : Int)).map D.int = List.replicate ((K : Int).toNat) (D.int 0) := by rw [List.map_replicate, Int.toNat_natCast]
    rw [hds]
    exact rep_fresh (m := .n) Ev.int (Ev.eq (Ev.bin (Ev.bin (Ev.bin (Ev.bits (Ev.name rfl rfl) rfl) (Ev.name rfl rfl) BinOK.add) Ev.int BinOK.sub) (Ev.name rfl rfl) (BinOK.fdiv (by lia) (by lia))) (congrArg D.int hcq)) rfl (by lia) (by lia) F h₀ s S
  have hsz : ((List.replicate K (0 : Int)).map D.int).length ≤ sizeLine := by rw [List.length_map, List.length_replicate, sizeLine_eq]; lia
  have hlk : (K : Int) = (((List.replicate K (0 : Int)).map D.int).length : Int) := by rw [List.length_map, List.length_replicate]
  have hrl : (List.replicate K (0 : Int)).length = K := List.length_replicate ..
  have hla := lay_all (n := n) (k := K) (a := a)
  generalize List.replicate K (0 : Int) = is at *
  refine Ex.nestDef (P := 30) (cc := 34) (line := 32) (col := 4) (qual := q35) (q := L + 1 + 1 + 1) (params := nArgs (st35 w.params)) (body := nBody (st35 w.params)) (scope := nScope (st35 w.params)) (clos := [(Str.ofString "n", L + 1), (Str.ofString "inner", L + 1 + 1 + 1), (Str.ofString "a_digits", L + 1 + 1)])
    (by kernel_rfl) (fun h X => X.t30) (fun h h' X hx T => gh30 X G.n30 hx T) rfl rfl rfl (gl35 w.params) (c34 w.params) G.c30 G.bm (fun h => h.1 rfl) rfl rfl rfl rfl rfl rfl rfl rfl rfl (ks := [Str.ofString "a", Str.ofString "n", Str.ofString "a_digits"]) rfl (by decide) G.n30 G.n37 fun F h₀ s f c' doc ctv S hfg hcode hig => ?_
  obtain ⟨qa, va, hq1, hq2, hq3⟩ := S.ce (Str.ofString "a_digits") (.own al (is.map D.int)) rfl (by intro h; cases h)
  obtain ⟨qn, vn, hn1, hn2, hn3⟩ := S.ce (Str.ofString "n") (.val (.int (n : Int))) rfl (by intro h; cases h)
  obtain rfl : L + 1 + 1 = qa := Option.some.inj hq1
  obtain rfl : L + 1 = qn := Option.some.inj hn1
  obtain rfl : va = .ref al := hq3.1
  obtain ⟨tn, rfl⟩ := (show Rep pg w _ _ vn (.int (n : Int)) from hn3).inv_int
  have hag := S.cellG (x := Str.ofString "a_digits") rfl rfl hq2
  have hng := S.cellG (x := Str.ofString "n") rfl rfl hn2
  have ham := S.ownOut (x := Str.ofString "a_digits") (a := al) (ds := is.map D.int) rfl
  have hin := inner35 (os := os) G (S.reSub G.n30 G.n37) hfg hcode hag.1 hng.1 hig hag.2 hng.2 (S.cs (Str.ofString "inner") (L + 1 + 1 + 1) rfl).1 ham.1 ham.2 hn
  refine Ex.if_ (b := decide ((a : Int) ≠ 0)) (N' := fun ρ' => ρ' = [(Str.ofString "a", B.val (D.int (a : Int))), (Str.ofString "n", B.val (D.int (n : Int))), (Str.ofString "a_digits", B.own al (nD (digsOf n a)))]) (ET.int (Ev.name (m := .n) rfl rfl)) (fun hb => ?_) (fun hb => ?_) ?_
  · have hne : a ≠ 0 := by have := of_decide_eq_true hb; lia
    have hpos := hcp hne
    have h0 := hin 8 0 K a is hpos (Nat.le_of_eq hrl.symm) (by lia) (by lia) (by rw [Nat.sub_zero]; exact hca)
    rw [Nat.sub_zero, hla] at h0
    refine Ex.callM (m := .s) (y := Str.ofString "a_digits") (f := f) (q := L + 1 + 1 + 1) (.inl rfl) (by decide) (by decide) rfl hig hfg rfl rfl (EvL.cons (Ev.name rfl rfl) (EvL.cons (d := .int ((0 : Nat) : Int)) Ev.int (EvL.cons (d := .int (K : Int)) ?_ EvL.nil rfl) rfl) rfl) rfl h0 (Nat.le_add_left _ _) ?_
    · rw [hlk]
      exact (Ev.callB (m := .n) (x := Str.ofString "len") rfl (by decide) (G.miss (nb_len _)) G.len (EvL.cons (Ev.nameOwnM (by intro h; cases h) rfl rfl) EvL.nil rfl) rfl rfl (BuOK.lenL hsz)).up rfl
    · rw [← hdg, ← nD_eq]
      exact Ex.nil rfl
  · have h0 : a = 0 := by
      have := of_decide_eq_false hb
      lia
    have hK0 := hcz h0
    have his : is = [] := List.eq_nil_of_length_eq_zero (hrl.trans hK0)
    refine Ex.nil ?_
    rw [hdg, hK0, his]
    rfl
  · intro ρ' hN
    subst hN
    exact Ex.ret (d := .list (nD (digsOf n a))) (Ev.nameOwn rfl rfl) rfl
end
end

section
set_option linter.unusedVariables false
set_option maxRecDepth 100000
open PySem PyProof.Rows PySem.W PyProof.V
theorem fdiv_nat (x b : Nat) : ((x : Int)).fdiv (b : Int) = ((x / b : Nat) : Int) := by
  rw [Int.fdiv_eq_ediv_of_nonneg _ (Int.natCast_nonneg _)]; exact (Int.natCast_ediv _ _).symm
theorem fmod_nat (x b : Nat) : ((x : Int)).fmod (b : Int) = ((x % b : Nat) : Int) := by
  rw [Int.fmod_eq_emod_of_nonneg _ (Int.natCast_nonneg _)]; exact (Int.natCast_emod _ _).symm
/-- one step of the long division -/
theorem long_step {B b r d Q acc : Nat} (hr : r < b) (hd : d < B) (hb : 0 < b) (h : Q * b + r = acc) : (r * B + d) / b < B ∧ (r * B + d) % b < b ∧ ((r * B + d) / b + B * Q) * b + (r * B + d) % b = d + B * acc := by
  refine ⟨?_, Nat.mod_lt _ hb, ?_⟩
  · refine Nat.div_lt_of_lt_mul ?_
    have : (r + 1) * B ≤ b * B := Nat.mul_le_mul_right _ hr
    rw [Nat.add_mul, Nat.one_mul] at this
    lia
  · have h1 := Nat.div_add_mod (r * B + d) b
    rw [Nat.add_mul, ← h, Nat.mul_add, Nat.mul_comm ((r * B + d) / b) b]
    have h2 : B * Q * b = B * (Q * b) := Nat.mul_assoc ..
    have h3 : r * B = B * r := Nat.mul_comm ..
    lia
section
variable {w : World} {g : Heap} {mg mb : Str → Option Value} {os : OsState}
theorem nD_length (l : List Nat) : (nD l).length = l.length := List.length_map ..
theorem fn49 (G : Gd w g mg mb) {k : Nat} (a b : Nat) (ha : a < 2 ^ 200) (h1b : 1 ≤ b) (hb : b < 2 ^ 80) : Fn pg w g os 49 (k + 11) [.int (a : Int), .int (b : Int)] (.tup [.int ((a / b : Nat) : Int), .int ((a % b : Nat) : Int)]) := by
  refine Fn.intro (G.fn (k49 _)) rfl (bo49 _) (codeRec_of G.K (c49 _)) G.lim (ok49 _) rfl (bind2 (b49 _)) G.gn G.bn fun A L => ?_
  have hn80 := bits_le hb
  have hn1 := bits_pos h1b
  have hbn := lt_bits b
  refine Ex.assign (d := .int (Builtin.Int.intBits (b : Int))) (Ev.bits (Ev.name rfl rfl) rfl) rfl rfl ?_
  generalize Builtin.Int.intBits (b : Int) = n at *
  have hval := digsOf_val (n := n) (a := a) hn1
  have hlt := digsOf_lt (n := n) (a := a)
  have hlen : (digsOf n a).length ≤ 200 := by
    unfold digsOf
    rw [digs_length]
    exact Nat.le_trans (cnt_le hn1) (bits_le ha)
  refine Ex.assign (d := .list (nD (digsOf n a))) ?_ rfl rfl ?_
  · exact Ev.call (k := k + 10) rfl (by decide) (G.glob (n35 _)) (G.fn (k35 _)) rfl (EvL.cons (m := .s) (Ev.name rfl rfl) (EvL.cons (Ev.name rfl rfl) EvL.nil rfl) rfl) rfl (fn35 G a n hn1 hn80 ha) (Nat.le_refl _)
  generalize digsOf n a = ds at *
  refine Ex.assign (d := .int ((0 : Nat) : Int)) Ev.int rfl rfl ?_
  refine Ex.assignOwn (ds := nD []) EvL.nil (by decide) rfl fun al => ?_
  refine Ex.for_ (ds := (nD ds).reverse) (EvI.rev rfl (by decide) (G.miss (nb_reversed _)) G.reversed (Ev.name rfl rfl) rfl) rfl (fun j ρ' => ∃ (r : Nat) (qs : List Nat), r < b ∧ qs.length = j ∧ (∀ q ∈ qs, q < 2 ^ n) ∧ lval (2 ^ n) qs.reverse * b + r = lval (2 ^ n) (ds.reverse.take j).reverse ∧
    ρ' = [(Str.ofString "a", B.val (.int (a : Int))), (Str.ofString "b", B.val (.int (b : Int))), (Str.ofString "n", B.val (.int (n : Int))), (Str.ofString "a_digits", B.val (.list (nD ds))), (Str.ofString "r", B.val (.int (r : Int))), (Str.ofString "q_digits", B.own al (nD qs))])
    ⟨0, [], h1b, rfl, fun q h => (by cases h), by simp [lval], rfl⟩ ?_ ?_
  · rintro j d ρ' hd ⟨r, qs, hr, hql, hqs, hQ, rfl⟩
    rw [← List.map_reverse, List.getElem?_map] at hd
    cases hx : ds.reverse[j]? with
    | none => rw [hx] at hd; cases hd
    | some x =>
    rw [hx] at hd
    obtain rfl : D.int (x : Int) = d := Option.some.inj hd
    have hjl : j < ds.reverse.length := (List.getElem?_eq_some_iff.mp hx).1
    rw [List.length_reverse] at hjl
    have hxd : x < 2 ^ n := hlt x (List.mem_reverse.mp (List.mem_of_getElem? hx))
    obtain ⟨s1, s2, s3⟩ := long_step hr hxd h1b hQ
    have htk : (ds.reverse.take (j + 1)).reverse = x :: (ds.reverse.take j).reverse := by
      rw [List.take_add_one, hx]; simp
    have hr80 : r < 2 ^ 80 := Nat.lt_trans hr hb
    have hrb := bits_le hr80
    have hxx : r * 2 ^ n + x < 2 ^ 160 := by
      have h1 : (r + 1) * 2 ^ n ≤ 2 ^ 80 * 2 ^ 80 := Nat.mul_le_mul (by lia) (Nat.pow_le_pow_right (by decide) hn80)
      rw [← Nat.pow_add, Nat.add_mul, Nat.one_mul] at h1
      exact Nat.lt_of_lt_of_le (Nat.add_lt_add_left hxd _) h1
    have hxb := bits_le hxx
    refine Ex.unpack2 (d1 := .int (((r * 2 ^ n + x) / b : Nat) : Int)) (d2 := .int (((r * 2 ^ n + x) % b : Nat) : Int)) ?_ rfl rfl ?_
    · rw [← fdiv_nat, ← fmod_nat]
      refine Ev.call (k := 1) rfl (by decide) (G.glob (n21 _)) (G.fn (k21 _)) rfl (EvL.cons (m := .s) (d := .int ((r * 2 ^ n + x : Nat) : Int)) ?_ (EvL.cons (Ev.name rfl rfl) (EvL.cons (Ev.name rfl rfl) EvL.nil rfl) rfl) rfl) rfl (fn21 G _ _ _ (by lia) (by lia) ?_) (by show 1 ≤ k + 10; lia)
      · refine Ev.eq (Ev.bin (Ev.bin (Ev.name rfl rfl) (Ev.name rfl rfl) (BinOK.shl (by lia) (by lia))) (Ev.name rfl rfl) BinOK.add) ?_
        rw [shl_eq, ← Int.natCast_add]
      · have : (b : Int).natAbs.log2 < 80 := (Nat.log2_lt (by simp; lia)).mpr (by simpa using hb)
        lia
    refine Ex.append (d := .int (((r * 2 ^ n + x) / b : Nat) : Int)) rfl rfl (Ev.name rfl rfl) ?_ rfl rfl ?_
    · rw [nD_length, sizeLine_eq]; lia
    refine Ex.nilH (ρ2 := [(Str.ofString "a", B.val (.int (a : Int))), (Str.ofString "b", B.val (.int (b : Int))), (Str.ofString "n", B.val (.int (n : Int))), (Str.ofString "a_digits", B.val (.list (nD ds))), (Str.ofString "r", B.val (.int (((r * 2 ^ n + x) % b : Nat) : Int))), (Str.ofString "q_digits", B.own al (nD qs ++ [.int (((r * 2 ^ n + x) / b : Nat) : Int)]))])
      (ext := [(Str.ofString "a_digit", B.val (.int (x : Int))), (Str.ofString "q_digit", B.val (.int (((r * 2 ^ n + x) / b : Nat) : Int)))]) rfl ?_
    refine ⟨(r * 2 ^ n + x) % b, qs ++ [(r * 2 ^ n + x) / b], s2, by rw [List.length_append, hql]; rfl, fun q hq => ?_, ?_, by simp [nD]⟩
    · rcases List.mem_append.mp hq with hq | hq
      · exact hqs q hq
      · rw [List.mem_singleton.mp hq]; exact s1
    · rw [htk, List.reverse_append]
      exact s3
  · rintro ρ' ⟨r, qs, hr, hql, hqs, hQ, rfl⟩
    rw [List.length_reverse, nD_length] at hql
    have htk : ((nD ds).reverse).length = ds.reverse.length := by rw [List.length_reverse, List.length_reverse, nD_length]
    rw [htk, List.take_length, List.reverse_reverse, hval] at hQ
    have hdm : lval (2 ^ n) qs.reverse = a / b ∧ r = a % b := by
      have h1 : a / b = lval (2 ^ n) qs.reverse := by
        rw [← hQ, Nat.mul_comm, Nat.mul_add_div h1b, Nat.div_eq_of_lt hr, Nat.add_zero]
      have h2 : a % b = r := by
        rw [← hQ, Nat.mul_comm, Nat.mul_add_mod, Nat.mod_eq_of_lt hr]
      exact ⟨h1.symm, h2.symm⟩
    refine Ex.reverse rfl rfl ?_ rfl ?_
    · rw [nD_length, sizeLine_eq]; lia
    have hrev : (nD qs).reverse = nD qs.reverse := by rw [← List.map_reverse]
    rw [hrev]
    refine Ex.assign (d := .int ((a / b : Nat) : Int)) ?_ rfl rfl ?_
    · rw [← hdm.1]
      refine (Ev.call (m := .n) (k := k + 10) rfl (by decide) (G.glob (n42 _)) (G.fn (k42 _)) rfl (EvL.cons (d := .list (nD qs.reverse)) (Ev.nameOwnM (by intro h; cases h) rfl rfl) (EvL.cons (Ev.name rfl rfl) EvL.nil rfl) rfl) rfl (fn42 G qs.reverse n hn80 (by rw [List.length_reverse]; lia) fun q hq => hqs q (List.mem_reverse.mp hq)) (Nat.le_refl _)).up rfl
    · rw [hdm.2]
      exact Ex.ret (d := .tup [.int ((a / b : Nat) : Int), .int ((a % b : Nat) : Int)]) (Ev.tup (EvL.cons (Ev.name rfl rfl) (EvL.cons (Ev.name rfl rfl) EvL.nil rfl) rfl) (by rw [sizeLine_eq]; simp)) rfl
end
end

section
set_option linter.unusedVariables false
set_option maxRecDepth 100000
open PySem PyProof.Rows PySem.W PyProof.V
theorem div_unique {a b q r : Int} (hb : 0 < b) (h : q * b + r = a) (h0 : 0 ≤ r) (h1 : r < b) : a.fdiv b = q ∧ a.fmod b = r := by
  rw [Int.fdiv_eq_ediv_of_nonneg _ (by lia), Int.fmod_eq_emod_of_nonneg _ (by lia)]
  exact (Int.ediv_emod_unique hb).mpr ⟨by rw [← h, Int.mul_comm b, Int.add_comm], h0, h1⟩
section
variable {w : World} {g : Heap} {mg mb : Str → Option Value} {os : OsState}
theorem fn56pos (G : Gd w g mg mb) {k : Nat} (a b : Nat) (ha : a < 2 ^ 200) (h1b : 1 ≤ b) (hb : b < 2 ^ 80) : Fn pg w g os 56 (k + 12) [.int (a : Int), .int (b : Int)] (.tup [.int ((a / b : Nat) : Int), .int ((a % b : Nat) : Int)]) := by
  refine Fn.intro (G.fn (k56 _)) rfl (bo56 _) (codeRec_of G.K (c56 _)) G.lim (ok56 _) rfl (bind2 (b56 _)) G.gn G.bn fun A L => ?_
  refine Ex.if_ (b := false) (N' := fun _ => False) (ET.eq (ET.cmp (m := .n) (Ev.name rfl rfl) (Ev.int) CmpOK.eqI rfl) (decide_eq_false (by lia))) (fun h => absurd h (by decide)) (fun _ => ?_) fun ρ' h => h.elim
  refine Ex.if_ (b := false) (N' := fun _ => False) (ET.eq (ET.cmp (m := .n) (Ev.name rfl rfl) (Ev.int) CmpOK.ltI rfl) (decide_eq_false (by lia))) (fun h => absurd h (by decide)) (fun _ => ?_) fun ρ' h => h.elim
  refine Ex.if_ (b := false) (N' := fun _ => False) (ET.eq (ET.cmp (m := .n) (Ev.name rfl rfl) (Ev.int) CmpOK.ltI rfl) (decide_eq_false (by lia))) (fun h => absurd h (by decide)) (fun _ => ?_) fun ρ' h => h.elim
  refine Ex.ret (d := .tup [.int ((a / b : Nat) : Int), .int ((a % b : Nat) : Int)]) ?_ rfl
  exact Ev.call (k := k + 11) rfl (by decide) (G.glob (n49 _)) (G.fn (k49 _)) rfl (EvL.cons (Ev.name rfl rfl) (EvL.cons (Ev.name rfl rfl) EvL.nil rfl) rfl) rfl (fn49 G a b ha h1b hb) (Nat.le_refl _)
theorem fn56neg (G : Gd w g mg mb) {k : Nat} (c b : Nat) (ha : c < 2 ^ 200) (h1b : 1 ≤ b) (hb : b < 2 ^ 80) : Fn pg w g os 56 (k + 13) [.int (-(c : Int) - 1), .int (b : Int)] (.tup [.int (-((c / b : Nat) : Int) - 1), .int ((b : Int) + (-((c % b : Nat) : Int) - 1))]) := by
  refine Fn.intro (G.fn (k56 _)) rfl (bo56 _) (codeRec_of G.K (c56 _)) G.lim (ok56 _) rfl (bind2 (b56 _)) G.gn G.bn fun A L => ?_
  refine Ex.if_ (b := false) (N' := fun _ => False) (ET.eq (ET.cmp (m := .n) (Ev.name rfl rfl) (Ev.int) CmpOK.eqI rfl) (decide_eq_false (by lia))) (fun h => absurd h (by decide)) (fun _ => ?_) fun ρ' h => h.elim
  refine Ex.if_ (b := false) (N' := fun _ => False) (ET.eq (ET.cmp (m := .n) (Ev.name rfl rfl) (Ev.int) CmpOK.ltI rfl) (decide_eq_false (by lia))) (fun h => absurd h (by decide)) (fun _ => ?_) fun ρ' h => h.elim
  refine Ex.if_ (b := true) (N' := fun _ => False) (ET.eq (ET.cmp (m := .n) (Ev.name rfl rfl) (Ev.int) CmpOK.ltI rfl) (decide_eq_true (by lia))) (fun _ => ?_) (fun h => absurd h (by decide)) fun ρ' h => h.elim
  refine Ex.unpack2 (d1 := .int ((c / b : Nat) : Int)) (d2 := .int ((c % b : Nat) : Int)) ?_ rfl rfl ?_
  · refine Ev.call (k := k + 12) rfl (by decide) (G.glob (n56 _)) (G.fn (k56 _)) rfl (EvL.cons (m := .s) (d := .int (c : Int)) ?_ (EvL.cons (Ev.name rfl rfl) EvL.nil rfl) rfl) rfl (fn56pos G c b ha h1b hb) (Nat.le_refl _)
    refine Ev.eq (Ev.inv (Ev.name rfl rfl)) ?_
    congr 1
    show -(-(c : Int) - 1) - 1 = c
    lia
  · refine Ex.ret (d := .tup [.int (-((c / b : Nat) : Int) - 1), .int ((b : Int) + (-((c % b : Nat) : Int) - 1))]) ?_ rfl
    refine Ev.tup (EvL.cons (Ev.eq (Ev.inv (Ev.name rfl rfl)) rfl) (EvL.cons (Ev.eq (Ev.bin (Ev.name rfl rfl) (Ev.inv (Ev.name rfl rfl)) BinOK.add) rfl) EvL.nil rfl) rfl) (by rw [sizeLine_eq]; simp)
theorem dm (G : Gd w g mg mb) {k : Nat} : DM w g os (k + 13) := by
  intro a b h1 h2 ha
  obtain ⟨b, rfl⟩ := Int.eq_ofNat_of_zero_le (show 0 ≤ b by lia)
  have hb1 : 1 ≤ b := by lia
  have hb2 : b < 2 ^ 80 := by
    have : ((2 : Int) ^ 80) = ((2 ^ 80 : Nat) : Int) := by decide
    lia
  by_cases h0 : 0 ≤ a
  · obtain ⟨a, rfl⟩ := Int.eq_ofNat_of_zero_le h0
    rw [fdiv_nat, fmod_nat]
    exact (fn56pos G (k := k + 1) a b (by simpa using ha) hb1 hb2)
  · obtain ⟨c, hc⟩ := Int.eq_ofNat_of_zero_le (show 0 ≤ -a - 1 by lia)
    obtain rfl : a = -(c : Int) - 1 := by lia
    have hc2 : c < 2 ^ 200 := by
      have : (-(c : Int) - 1).natAbs = c + 1 := by lia
      lia
    have hd := Nat.div_add_mod c b
    have hm := Nat.mod_lt c (show 0 < b by lia)
    obtain ⟨e1, e2⟩ := div_unique (a := -(c : Int) - 1) (b := (b : Int)) (q := -((c / b : Nat) : Int) - 1) (r := (b : Int) + (-((c % b : Nat) : Int) - 1)) (by lia) (by
      have : ((b * (c / b) + c % b : Nat) : Int) = (c : Int) := by rw [hd]
      rw [Int.natCast_add, Int.natCast_mul] at this
      rw [Int.sub_mul, Int.neg_mul, Int.one_mul, Int.mul_comm]
      lia) (by lia) (by lia)
    rw [e1, e2]
    exact fn56neg G c b hc2 hb1 hb2
end
end

section
set_option linter.unusedVariables false
set_option maxRecDepth 100000
open PySem PyProof.Rows PySem.W PyProof.V

/-- the sum at i -/
noncomputable def sm (text : Str) (i : Int) : Int := (sums text).getD i.toNat 0
section
variable {text : Str}
theorem sums_length : (sums text).length = text.length + 1 := sumsTo_length _ _
theorem sums_drop : ∀ m, m ≤ text.length → (sums text).drop m = sumsTo text (text.length - m)
  | 0, _ => rfl
  | m + 1, h => by
    rw [← List.drop_drop, sums_drop m (by lia)]
    obtain ⟨j, hj⟩ : ∃ j, text.length - m = j + 1 := ⟨text.length - m - 1, by lia⟩
    rw [hj, sumsTo, show text.length - (m + 1) = j by lia]
    rfl
theorem getD_drop {α : Type} (l : List α) (n k : Nat) (d : α) : (l.drop n).getD k d = l.getD (n + k) d := by
  rw [List.getD_eq_getElem?_getD, List.getD_eq_getElem?_getD, List.getElem?_drop]
theorem sm_rec {i : Int} (h0 : 0 ≤ i) (h1 : i < text.length) : sm text i = num text i * sm text (i + 1) + (if stands text i 2 then sm text (i + 2) else 0) + (if stands text i 3 then sm text (i + 3) else 0) := by
  obtain ⟨n, rfl⟩ := Int.eq_ofNat_of_zero_le h0
  have hn : n < text.length := by lia
  obtain ⟨j, hj⟩ : ∃ j, text.length - n = j + 1 := ⟨text.length - n - 1, by lia⟩
  have hd := sums_drop (text := text) n (by lia)
  have hd1 := sums_drop (text := text) (n + 1) (by lia)
  rw [hj, sumsTo] at hd
  rw [show text.length - (n + 1) = j by lia] at hd1
  have e : sm text n = sumStep text (text.length - 1 - j) (sumsTo text j) := by
    have : sm text n = ((sums text).drop n).getD 0 0 := by rw [getD_drop]; rfl
    rw [this, hd]; rfl
  have hi : (text.length : Int) - 1 - j = n := by lia
  rw [e, hi, ← hd1]
  unfold sumStep plus3 plus2
  rw [getD_drop, getD_drop, getD_drop]
  have a1 : (sums text).getD (n + 1 + 0) 0 = sm text ((n : Int) + 1) := rfl
  have a2 : (sums text).getD (n + 1 + 1) 0 = sm text ((n : Int) + 2) := rfl
  have a3 : (sums text).getD (n + 1 + 2) 0 = sm text ((n : Int) + 3) := rfl
  rw [a1, a2, a3]
  split <;> split <;> lia
theorem sm_end : sm text text.length = 1 := by
  have hd := sums_drop (text := text) text.length (Nat.le_refl _)
  have : sm text text.length = ((sums text).drop text.length).getD 0 0 := by rw [getD_drop]; rfl
  rw [this, hd, Nat.sub_self]; rfl

theorem sm_bounds (T : Tx text) : ∀ (j : Nat) (i : Int), 0 ≤ i → i + j = text.length → 1 ≤ sm text i ∧ sm text i ≤ 56 ^ j ∧ (0 < j → 7 * sm text (i + 1) ≤ sm text i) := by
  intro j
  induction j using Nat.strongRecOn with
  | _ j IH =>
  intro i h0 h
  cases j with
  | zero =>
    have : i = text.length := by lia
    subst this
    rw [sm_end]
    exact ⟨by decide, by decide, fun h => absurd h (by decide)⟩
  | succ j =>
    have hi : i < text.length := by lia
    obtain ⟨b1, b2, b3⟩ := IH j (by lia) (i + 1) (by lia) (by lia)
    have hn := T.num h0 hi
    have hr := sm_rec h0 hi
    have c2 : (if stands text i 2 then sm text (i + 2) else 0) ≤ sm text (i + 1) ∧ 0 ≤ (if stands text i 2 then sm text (i + 2) else 0) := by
      split
      · rename_i hs
        have := stands_len hs
        obtain ⟨d1, d2, d3⟩ := IH (j - 1) (by lia) (i + 2) (by lia) (by lia)
        have := b3 (by lia)
        rw [show i + 1 + 1 = i + 2 by lia] at this
        lia
      · lia
    have c3 : (if stands text i 3 then sm text (i + 3) else 0) ≤ sm text (i + 1) ∧ 0 ≤ (if stands text i 3 then sm text (i + 3) else 0) := by
      split
      · rename_i hs
        have := stands_len hs
        obtain ⟨d1, d2, d3⟩ := IH (j - 1) (by lia) (i + 2) (by lia) (by lia)
        obtain ⟨e1, e2, e3⟩ := IH (j - 2) (by lia) (i + 3) (by lia) (by lia)
        have f1 := b3 (by lia)
        have f2 := d3 (by lia)
        rw [show i + 1 + 1 = i + 2 by lia] at f1
        rw [show i + 2 + 1 = i + 3 by lia] at f2
        lia
      · lia
    have m1 : 7 * sm text (i + 1) ≤ num text i * sm text (i + 1) := Int.mul_le_mul_of_nonneg_right hn.1 (by lia)
    have m2 : num text i * sm text (i + 1) ≤ 54 * sm text (i + 1) := Int.mul_le_mul_of_nonneg_right hn.2 (by lia)
    refine ⟨by lia, ?_, fun _ => by lia⟩
    rw [Int.pow_succ]
    lia
theorem sm_pos (T : Tx text) {i : Int} (h0 : 0 ≤ i) (h1 : i ≤ text.length) : 1 ≤ sm text i := (sm_bounds T (text.length - i.toNat) i h0 (by lia)).1
theorem sm_step (T : Tx text) {i : Int} (h0 : 0 ≤ i) (h1 : i < text.length) : 7 * sm text (i + 1) ≤ sm text i := (sm_bounds T (text.length - i.toNat) i h0 (by lia)).2.2 (by lia)
theorem sm_le (T : Tx text) {i : Int} (h0 : 0 ≤ i) (h1 : i ≤ text.length) : sm text i ≤ 56 ^ 9 := by
  have h := (sm_bounds T (text.length - i.toNat) i h0 (by lia)).2.1
  have h2 := T.len
  have h3 : (56 : Int) ^ (text.length - i.toNat) ≤ 56 ^ 9 := by
    have := Nat.pow_le_pow_right (show 0 < 56 by decide) (show text.length - i.toNat ≤ 9 by lia)
    have e1 : (56 : Int) ^ (text.length - i.toNat) = ((56 ^ (text.length - i.toNat) : Nat) : Int) := by simp
    have e2 : (56 : Int) ^ 9 = ((56 ^ 9 : Nat) : Int) := by decide
    rw [e1, e2]
    exact Int.ofNat_le.mpr this
  exact Int.le_trans h h3
/-- what stands behind the first sign's part is less than the next sum -/
theorem sm_tail (T : Tx text) {i : Int} (h0 : 0 ≤ i) (h1 : i < text.length) : (if stands text i 2 then sm text (i + 2) else 0) + (if stands text i 3 then sm text (i + 3) else 0) < sm text (i + 1) := by
  have p1 := sm_pos T (i := i + 1) (by lia) (by lia)
  by_cases h2 : i + 2 ≤ text.length
  · have s1 := sm_step T (i := i + 1) (by lia) (by lia)
    rw [show i + 1 + 1 = i + 2 by lia] at s1
    have p2 := sm_pos T (i := i + 2) (by lia) (by lia)
    by_cases h3 : i + 3 ≤ text.length
    · have s2 := sm_step T (i := i + 2) (by lia) (by lia)
      rw [show i + 2 + 1 = i + 3 by lia] at s2
      have p3 := sm_pos T (i := i + 3) (by lia) (by lia)
      split <;> split <;> lia
    · have : stands text i 3 = false := by
        cases hs : stands text i 3 with
        | false => rfl
        | true => have := stands_len hs; lia
      rw [this]
      split <;> simp <;> lia
  · have e2 : stands text i 2 = false := by
      cases hs : stands text i 2 with
      | false => rfl
      | true => have := stands_len hs; lia
    have e3 : stands text i 3 = false := by
      cases hs : stands text i 3 with
      | false => rfl
      | true => have := stands_len hs; lia
    rw [e2, e3]
    simp; lia
theorem sums_mem (T : Tx text) : Pos80 (sums text) := by
  intro t ht
  obtain ⟨n, hn, rfl⟩ := List.getElem_of_mem ht
  rw [sums_length] at hn
  have e : (sums text)[n] = sm text n := by
    unfold sm
    rw [Int.toNat_natCast, List.getD_eq_getElem?_getD, List.getElem?_eq_getElem (by rw [sums_length]; exact hn)]; rfl
  rw [e]
  have h1 := sm_pos T (i := n) (by lia) (by lia)
  have h2 := sm_le T (i := n) (by lia) (by lia)
  have h3 : (56 : Int) ^ 9 < 2 ^ 80 := by decide
  lia
end
end

section
set_option linter.unusedVariables false
set_option maxRecDepth 100000
open PySem PyProof.Rows PySem.W PyProof.V
section
variable {text : Str}
noncomputable abbrev vl (text : Str) : Int → List (Int × Int) → Int := val text (sums text)
theorem vl_nil {i : Int} : vl text i [] = 0 := rfl
theorem vl_cons {i k f : Int} {r : List (Int × Int)} : vl text i ((k, f) :: r) = (if k = 1 then f else num text i) * sm text (i + 1) + (if k = 3 ∧ stands text i 2 = true then sm text (i + 2) else 0) + vl text (i + k) r := rfl
theorem vl_bounds (T : Tx text) : ∀ {r : List (Int × Int)} {i : Int}, Row text i r → 0 ≤ i → 0 ≤ vl text i r ∧ vl text i r < sm text i
  | [], i, h, h0 => by
    cases h with
    | nil h => subst h; rw [vl_nil, sm_end]; lia
  | (k, f) :: r, i, h, h0 => by
    have hi := h.lt
    cases h with
    | cons h0' hs hk h1 h2 hr =>
    have hl := stands_len hs
    obtain ⟨v0, v1⟩ := vl_bounds T hr (by lia)
    have hrec := sm_rec h0 hi
    have hp1 := sm_pos T (i := i + 1) (by lia) (by lia)
    have hn := T.num h0 hi
    rw [vl_cons]
    rcases hk with rfl | rfl | rfl
    · obtain ⟨f0, f1⟩ := h1 rfl
      rw [if_pos rfl, if_neg (by lia)]
      have m1 : (f + 1) * sm text (i + 1) ≤ num text i * sm text (i + 1) := Int.mul_le_mul_of_nonneg_right (by lia) (by lia)
      rw [Int.add_mul, Int.one_mul] at m1
      have m2 : 0 ≤ f * sm text (i + 1) := Int.mul_nonneg f0 (by lia)
      have t2 : 0 ≤ (if stands text i 2 then sm text (i + 2) else 0) := by
        split
        · rename_i hs; have := stands_len hs; have := sm_pos T (i := i + 2) (by lia) (by lia); lia
        · lia
      have t3 : 0 ≤ (if stands text i 3 then sm text (i + 3) else 0) := by
        split
        · rename_i hs; have := stands_len hs; have := sm_pos T (i := i + 3) (by lia) (by lia); lia
        · lia
      lia
    · have m2 : 0 ≤ num text i * sm text (i + 1) := Int.mul_nonneg (by lia) (by lia)
      rw [if_neg (by lia), if_neg (by lia)]
      rw [if_pos hs] at hrec
      have t3 : 0 ≤ (if stands text i 3 then sm text (i + 3) else 0) := by
        split
        · rename_i hs; have := stands_len hs; have := sm_pos T (i := i + 3) (by lia) (by lia); lia
        · lia
      lia
    · have m2 : 0 ≤ num text i * sm text (i + 1) := Int.mul_nonneg (by lia) (by lia)
      rw [if_neg (by lia)]
      rw [if_pos hs] at hrec
      have t2 : 0 ≤ sm text (i + 2) := by have := sm_pos T (i := i + 2) (by lia) (by lia); lia
      by_cases hs2 : stands text i 2 = true
      · rw [if_pos ⟨rfl, hs2⟩]
        rw [if_pos hs2] at hrec
        lia
      · rw [if_neg (fun h => hs2 h.2)]
        rw [if_neg hs2] at hrec
        lia

theorem drop_sm {n : Nat} (h : n ≤ text.length) : (sums text).drop n = sm text n :: (sums text).drop (n + 1) := by
  have hl : n < (sums text).length := by rw [sums_length]; lia
  rw [List.drop_eq_getElem_cons hl]
  congr 1
  unfold sm
  rw [Int.toNat_natCast, List.getD_eq_getElem?_getD, List.getElem?_eq_getElem hl]; rfl
theorem drop_smI {i : Int} (h0 : 0 ≤ i) (h : i ≤ text.length) : (sums text).drop i.toNat = sm text i :: (sums text).drop (i + 1).toNat := by
  obtain ⟨n, rfl⟩ := Int.eq_ofNat_of_zero_le h0
  exact drop_sm (by lia)

/-- the figures come back, one by one -/
theorem vl_chain (T : Tx text) : ∀ {r : List (Int × Int)} {i : Int}, Row text i r → 0 ≤ i → chain (vl text i r) ((sums text).drop (i + 1).toNat) = figs text i r
  | [], i, h, h0 => by
    cases h with
    | nil h =>
    rw [List.drop_of_length_le (by rw [sums_length]; lia)]
    rfl
  | (k, f) :: r, i, h, h0 => by
    have hi := h.lt
    have hb := vl_bounds T h h0
    cases h with
    | cons h0' hs hk h1 h2 hr =>
    have hl := stands_len hs
    obtain ⟨v0, v1⟩ := vl_bounds T hr (by lia)
    have ih := vl_chain T hr (by lia)
    have hp1 := sm_pos T (i := i + 1) (by lia) (by lia)
    have htail := sm_tail T h0 hi
    have hn := T.num h0 hi
    rw [vl_cons, figs, drop_smI (by lia) (by lia), chain]
    rcases hk with rfl | rfl | rfl
    · rw [if_pos rfl, if_neg (by lia), if_pos rfl, Int.add_zero]
      obtain ⟨e1, e2⟩ := div_unique (a := f * sm text (i + 1) + vl text (i + 1) r) (b := sm text (i + 1)) (by lia) rfl v0 v1
      rw [e1, e2, ih]; rfl
    · rw [if_neg (by lia), if_neg (by lia), if_neg (by lia), if_pos rfl, Int.add_zero]
      rw [if_pos hs] at htail
      have t3 : 0 ≤ (if stands text i 3 then sm text (i + 3) else 0) := by
        split
        · rename_i hs; have := stands_len hs; have := sm_pos T (i := i + 3) (by lia) (by lia); lia
        · lia
      obtain ⟨e1, e2⟩ := div_unique (a := num text i * sm text (i + 1) + vl text (i + 2) r) (b := sm text (i + 1)) (by lia) rfl v0 (by lia)
      rw [e1, e2]
      have hp2 := sm_pos T (i := i + 2) (by lia) (by lia)
      rw [show i + 1 + 1 = i + 2 by lia, drop_smI (i := i + 2) (by lia) (by lia), chain]
      obtain ⟨e1, e2⟩ := div_unique (a := vl text (i + 2) r) (b := sm text (i + 2)) (q := 0) (by lia) (by lia) v0 v1
      rw [e1, e2, ih]; rfl
    · rw [if_pos hs] at htail
      have hp2 := sm_pos T (i := i + 2) (by lia) (by lia)
      have hp3 := sm_pos T (i := i + 3) (by lia) (by lia)
      have s2 := sm_step T (i := i + 2) (by lia) (by lia)
      rw [show i + 2 + 1 = i + 3 by lia] at s2
      have hsim : (if (3 : Int) = 3 ∧ stands text i 2 = true then sm text (i + 2) else 0) = (if stands text i 2 = true then 1 else 0) * sm text (i + 2) := by
        by_cases hs2 : stands text i 2 = true
        · rw [if_pos ⟨rfl, hs2⟩, if_pos hs2, Int.one_mul]
        · rw [if_neg (fun h => hs2 h.2), if_neg hs2, Int.zero_mul]
      have htl : (if stands text i 2 = true then 1 else 0) * sm text (i + 2) = if stands text i 2 then sm text (i + 2) else 0 := by
        by_cases hs2 : stands text i 2 = true
        · rw [if_pos hs2, if_pos hs2, Int.one_mul]
        · rw [if_neg hs2, if_neg hs2, Int.zero_mul]
      have t2 : 0 ≤ (if stands text i 2 then sm text (i + 2) else 0) := by split <;> lia
      have e31 : ¬ ((3 : Int) = 1) := by lia
      have e32 : ¬ ((3 : Int) = 2) := by lia
      rw [if_neg e31, hsim, if_neg e31, if_neg e32]
      obtain ⟨e1, e2⟩ := div_unique (a := num text i * sm text (i + 1) + (if stands text i 2 = true then 1 else 0) * sm text (i + 2) + vl text (i + 3) r) (b := sm text (i + 1)) (q := num text i) (r := (if stands text i 2 = true then 1 else 0) * sm text (i + 2) + vl text (i + 3) r) (by lia) (by lia) (by lia) (by lia)
      rw [e1, e2, show i + 1 + 1 = i + 2 by lia, drop_smI (i := i + 2) (by lia) (by lia), chain]
      obtain ⟨e1, e2⟩ := div_unique (a := (if stands text i 2 = true then 1 else 0) * sm text (i + 2) + vl text (i + 3) r) (b := sm text (i + 2)) (by lia) rfl v0 (by lia)
      rw [e1, e2, show i + 2 + 1 = i + 3 by lia, drop_smI (i := i + 3) (by lia) (by lia), chain]
      obtain ⟨e1, e2⟩ := div_unique (a := vl text (i + 3) r) (b := sm text (i + 3)) (q := 0) (by lia) (by lia) v0 v1
      rw [e1, e2, ih]; rfl

/-- every number below the sum is what a cut is worth -/
theorem vl_onto (T : Tx text) : ∀ (n : Nat) (i v : Int), 0 ≤ i → i ≤ text.length → (text.length : Int) - i ≤ n → 0 ≤ v → v < sm text i → ∃ r, Row text i r ∧ vl text i r = v := by
  intro n
  induction n using Nat.strongRecOn with
  | _ n IH =>
  intro i v h0 h1 hn hv0 hv1
  by_cases hi : i < text.length
  · have hnum := T.num h0 hi
    have hrec := sm_rec h0 hi
    have hp1 := sm_pos T (i := i + 1) (by lia) (by lia)
    by_cases hlt : v < num text i * sm text (i + 1)
    · have f0 : 0 ≤ v.fdiv (sm text (i + 1)) := by rw [Int.fdiv_eq_ediv_of_nonneg _ (by lia)]; exact Int.ediv_nonneg hv0 (by lia)
      have f1 : v.fdiv (sm text (i + 1)) < num text i := by rw [Int.fdiv_eq_ediv_of_nonneg _ (by lia)]; exact Int.ediv_lt_of_lt_mul (by lia) hlt
      have m0 := Int.fmod_nonneg_of_pos v (show (0 : Int) < sm text (i + 1) by lia)
      have m1 := Int.fmod_lt_of_pos v (show (0 : Int) < sm text (i + 1) by lia)
      obtain ⟨r, hr, hv⟩ := IH (n - 1) (by lia) (i + 1) (v.fmod (sm text (i + 1))) (by lia) (by lia) (by lia) m0 m1
      refine ⟨(1, v.fdiv (sm text (i + 1))) :: r, .cons h0 (stands_one T h0 hi) (.inl rfl) (fun _ => ⟨f0, f1⟩) (fun h => absurd rfl h) hr, ?_⟩
      rw [vl_cons, if_pos rfl, if_neg (by lia), hv, Int.add_zero, Int.mul_comm]
      exact Int.mul_fdiv_add_fmod v _
    · by_cases hs2 : stands text i 2 = true
      · have hl2 := stands_len hs2
        rw [if_pos hs2] at hrec
        by_cases hlt2 : v - num text i * sm text (i + 1) < sm text (i + 2)
        · obtain ⟨r, hr, hv⟩ := IH (n - 2) (by lia) (i + 2) (v - num text i * sm text (i + 1)) (by lia) (by lia) (by lia) (by lia) hlt2
          refine ⟨(2, -1) :: r, .cons h0 hs2 (.inr (.inl rfl)) (fun h => by lia) (fun _ => rfl) hr, ?_⟩
          rw [vl_cons, if_neg (by lia), if_neg (by lia), hv]
          lia
        · by_cases hs3 : stands text i 3 = true
          · have hl3 := stands_len hs3
            rw [if_pos hs3] at hrec
            obtain ⟨r, hr, hv⟩ := IH (n - 3) (by lia) (i + 3) (v - num text i * sm text (i + 1) - sm text (i + 2)) (by lia) (by lia) (by lia) (by lia) (by lia)
            refine ⟨(3, -1) :: r, .cons h0 hs3 (.inr (.inr rfl)) (fun h => by lia) (fun _ => rfl) hr, ?_⟩
            rw [vl_cons, if_neg (by lia), if_pos ⟨rfl, hs2⟩, hv]
            lia
          · rw [if_neg hs3] at hrec
            lia
      · rw [if_neg hs2] at hrec
        by_cases hs3 : stands text i 3 = true
        · have hl3 := stands_len hs3
          rw [if_pos hs3] at hrec
          obtain ⟨r, hr, hv⟩ := IH (n - 3) (by lia) (i + 3) (v - num text i * sm text (i + 1)) (by lia) (by lia) (by lia) (by lia) (by lia)
          refine ⟨(3, -1) :: r, .cons h0 hs3 (.inr (.inr rfl)) (fun h => by lia) (fun _ => rfl) hr, ?_⟩
          rw [vl_cons, if_neg (by lia), if_neg (fun h => hs2 h.2), hv]
          lia
        · rw [if_neg hs3] at hrec
          lia
  · have : i = text.length := by lia
    subst this
    rw [sm_end] at hv1
    exact ⟨[], .nil rfl, by rw [vl_nil]; lia⟩
end
end

section
set_option linter.unusedVariables false
set_option maxRecDepth 100000
open PySem PyProof.Rows PySem.W PyProof.V
section
variable {text : Str}
theorem foldl_mul (l : List Str) : ∀ a : Int, l.foldl (fun w p => w * pieceWorth p) a = a * l.foldl (fun w p => w * pieceWorth p) 1 := by
  induction l with
  | nil => intro a; simp
  | cons p l ih =>
    intro a
    rw [List.foldl_cons, List.foldl_cons, ih (a * pieceWorth p), ih (1 * pieceWorth p), Int.one_mul, Int.mul_assoc]
theorem cutWorth_cons (p : Str) (cut : List Str) : cutWorth (p :: cut) = pieceWorth p * cutWorth cut := by
  unfold cutWorth
  rw [List.foldl_cons, foldl_mul, Int.one_mul]
noncomputable def tot (some : List (List Str)) : Int := (some.map cutWorth).sum
theorem tot_append (a b : List (List Str)) : tot (a ++ b) = tot a + tot b := by
  unfold tot; rw [List.map_append, List.sum_append]
theorem tot_cons (p : Str) (C : List (List Str)) : tot (C.map fun cut => p :: cut) = pieceWorth p * tot C := by
  induction C with
  | nil => unfold tot; simp
  | cons c C ih =>
    have : tot (c :: C) = cutWorth c + tot C := by unfold tot; simp
    have h2 : tot ((c :: C).map fun cut => p :: cut) = cutWorth (p :: c) + tot (C.map fun cut => p :: cut) := by unfold tot; simp
    rw [h2, ih, this, cutWorth_cons, Int.mul_add]
theorem getD_map_tot (C : List (List (List Str))) (n : Nat) : tot (C.getD n []) = (C.map tot).getD n 0 := by
  rw [List.getD_eq_getElem?_getD, List.getD_eq_getElem?_getD, List.getElem?_map]
  cases C[n]? with
  | none => rfl
  | some c => rfl
theorem worth_many {i k : Int} (h0 : 0 ≤ i) (hk : 1 < k) (hs : stands text i k = true) : pieceWorth (Txt.slice text (some i) (some (i + k))) = 1 := by
  have hl := slice_len' text h0 (k := k) (by lia) (stands_len hs)
  unfold pieceWorth
  rw [if_neg (by lia)]
theorem worth_one {i : Int} (h0 : 0 ≤ i) (h1 : i < text.length) : pieceWorth (Txt.slice text (some i) (some (i + 1))) = num text i := by
  have hl := slice_len' text h0 (k := 1) (by lia) (by lia)
  unfold pieceWorth
  rw [if_pos (by lia), slice_one text h0 h1]; rfl
theorem tot_step (T : Tx text) {i : Int} (h0 : 0 ≤ i) (h1 : i < text.length) (C : List (List (List Str))) : tot (cutStep text i C) = sumStep text i (C.map tot) := by
  have part : ∀ k : Int, stands text i k = true → tot ((C.getD (k - 1).toNat []).map fun cut => Txt.slice text (some i) (some (i + k)) :: cut) = pieceWorth (Txt.slice text (some i) (some (i + k))) * (C.map tot).getD (k - 1).toNat 0 := fun k hs => by
    rw [tot_cons, getD_map_tot]
  have p1 := part 1 (stands_one T h0 h1)
  rw [worth_one h0 h1] at p1
  have hnil : tot ([] : List (List Str)) = 0 := rfl
  unfold cutStep sizes sumStep plus3 plus2
  rw [show (((1 : Int) - 1).toNat) = 0 from rfl] at p1
  cases h3 : stands text i 3 <;> cases h2 : stands text i 2
  · simp only [List.filter_cons, List.filter_nil, h3, h2, stands_one T h0 h1, List.flatMap_cons, List.flatMap_nil, if_true, Bool.false_eq_true, if_false, tot_append, hnil]
    rw [show (((1 : Int) - 1).toNat) = 0 from rfl, p1]; lia
  · have p2 := part 2 h2
    rw [worth_many h0 (by lia) h2, Int.one_mul] at p2
    simp only [List.filter_cons, List.filter_nil, h3, h2, stands_one T h0 h1, List.flatMap_cons, List.flatMap_nil, if_true, Bool.false_eq_true, if_false, tot_append, hnil]
    rw [show (((1 : Int) - 1).toNat) = 0 from rfl, p1, p2, show (((2 : Int) - 1).toNat) = 1 from rfl]; lia
  · have p3 := part 3 h3
    rw [worth_many h0 (by lia) h3, Int.one_mul] at p3
    simp only [List.filter_cons, List.filter_nil, h3, h2, stands_one T h0 h1, List.flatMap_cons, List.flatMap_nil, if_true, Bool.false_eq_true, if_false, tot_append, hnil]
    rw [show (((1 : Int) - 1).toNat) = 0 from rfl, p1, p3, show (((3 : Int) - 1).toNat) = 2 from rfl]; lia
  · have p2 := part 2 h2
    rw [worth_many h0 (by lia) h2, Int.one_mul] at p2
    have p3 := part 3 h3
    rw [worth_many h0 (by lia) h3, Int.one_mul] at p3
    simp only [List.filter_cons, List.filter_nil, h3, h2, stands_one T h0 h1, List.flatMap_cons, List.flatMap_nil, if_true, Bool.false_eq_true, if_false, tot_append, hnil]
    rw [show (((1 : Int) - 1).toNat) = 0 from rfl, p1, p2, p3, show (((3 : Int) - 1).toNat) = 2 from rfl, show (((2 : Int) - 1).toNat) = 1 from rfl]; lia
theorem totals_to (T : Tx text) : ∀ j, j ≤ text.length → (cutsTo text j).map tot = sumsTo text j
  | 0, _ => rfl
  | j + 1, h => by
    rw [cutsTo, sumsTo, List.map_cons, tot_step T (by lia) (by lia), totals_to T j (by lia)]
theorem totals_eq (T : Tx text) : totals text = sums text := totals_to T text.length (Nat.le_refl _)

/-- what the sums must tell -/
noncomputable def dueRow (text : Str) (i : Int) : List Int := num text i :: (([2, 3] : List Int).filter fun k => decide (i + k ≤ text.length)).map (fun k => if kdpHas nums (Txt.slice text (some i) (some (i + k))) then 1 else 0) ++ [0]
theorem stands_dec {i k : Int} (h : i + k ≤ text.length) : stands text i k = kdpHas nums (Txt.slice text (some i) (some (i + k))) := by
  unfold stands
  rw [decide_eq_true h, Bool.true_and]
theorem drop_end : (sums text).drop (text.length + 1) = [] := List.drop_of_length_le (by rw [sums_length]; exact Nat.le_refl _)
theorem ite_one_mul (b : Bool) (x : Int) : (if b then x else 0) = (if b then 1 else 0) * x := by cases b <;> simp
theorem back_row (T : Tx text) {n : Nat} (hn : n < text.length) : backRow (sums text) n = dueRow text n := by
  have hi : (n : Int) < text.length := by lia
  have hrec := sm_rec (text := text) (i := n) (by lia) hi
  have htail := sm_tail T (i := n) (by lia) hi
  have hp1 := sm_pos T (i := (n : Int) + 1) (by lia) (by lia)
  have hd0 : (sums text).getD n 0 = sm text n := rfl
  have t2 : 0 ≤ (if stands text n 2 then sm text ((n : Int) + 2) else 0) := by
    split
    · rename_i hs; have := stands_len hs; have := sm_pos T (i := (n : Int) + 2) (by lia) (by lia); lia
    · lia
  have t3 : 0 ≤ (if stands text n 3 then sm text ((n : Int) + 3) else 0) := by
    split
    · rename_i hs; have := stands_len hs; have := sm_pos T (i := (n : Int) + 3) (by lia) (by lia); lia
    · lia
  unfold backRow dueRow
  rw [hd0, drop_sm (n := n + 1) (by lia), List.take_succ_cons, chainL]
  have c1 : sm text ((n + 1 : Nat) : Int) = sm text ((n : Int) + 1) := rfl
  rw [c1]
  obtain ⟨e1, e2⟩ := div_unique (a := sm text n) (b := sm text ((n : Int) + 1)) (q := num text n) (r := (if stands text n 2 then sm text ((n : Int) + 2) else 0) + (if stands text n 3 then sm text ((n : Int) + 3) else 0)) (by lia) (by rw [hrec]; lia) (by lia) htail
  rw [e1, e2]
  by_cases h2 : (n : Int) + 2 ≤ text.length
  · have hp2 := sm_pos T (i := (n : Int) + 2) (by lia) h2
    rw [drop_sm (n := n + 1 + 1) (by lia), List.take_succ_cons, chainL]
    have c2 : sm text ((n + 1 + 1 : Nat) : Int) = sm text ((n : Int) + 2) := rfl
    rw [c2]
    by_cases h3 : (n : Int) + 3 ≤ text.length
    · have hp3 := sm_pos T (i := (n : Int) + 3) (by lia) h3
      have s2 := sm_step T (i := (n : Int) + 2) (by lia) (by lia)
      rw [show (n : Int) + 2 + 1 = n + 3 by lia] at s2
      have l3 : (if stands text n 3 then sm text ((n : Int) + 3) else 0) < sm text ((n : Int) + 2) := by split <;> lia
      obtain ⟨e1, e2⟩ := div_unique (a := (if stands text n 2 then sm text ((n : Int) + 2) else 0) + (if stands text n 3 then sm text ((n : Int) + 3) else 0)) (b := sm text ((n : Int) + 2)) (q := if stands text n 2 then 1 else 0) (by lia) (by rw [← ite_one_mul]) t3 l3
      rw [e1, e2, drop_sm (n := n + 1 + 1 + 1) (by lia), List.take_succ_cons, chainL, List.take_zero, chainL]
      have c3 : sm text ((n + 1 + 1 + 1 : Nat) : Int) = sm text ((n : Int) + 3) := rfl
      rw [c3]
      obtain ⟨e1, e2⟩ := div_unique (a := if stands text n 3 then sm text ((n : Int) + 3) else 0) (b := sm text ((n : Int) + 3)) (q := if stands text n 3 then 1 else 0) (r := 0) (by lia) (by rw [← ite_one_mul, Int.add_zero]) (by lia) (by lia)
      rw [e1, e2]
      simp only [List.filter_cons, List.filter_nil, decide_eq_true h2, decide_eq_true h3, if_true, List.map_cons, List.map_nil]
      rw [stands_dec h2, stands_dec h3]; rfl
    · have s3 : stands text n 3 = false := by
        cases hs : stands text n 3 with
        | false => rfl
        | true => exact absurd (stands_len hs) h3
      rw [s3]
      obtain ⟨e1, e2⟩ := div_unique (a := (if stands text n 2 then sm text ((n : Int) + 2) else 0) + (if false = true then sm text ((n : Int) + 3) else 0)) (b := sm text ((n : Int) + 2)) (q := if stands text n 2 then 1 else 0) (r := 0) (by lia) (by rw [← ite_one_mul]; simp) (by lia) (by lia)
      rw [e1, e2]
      have hz : n + 1 + 1 + 1 = text.length + 1 := by lia
      rw [hz, drop_end, List.take_nil, chainL]
      simp only [List.filter_cons, List.filter_nil, decide_eq_true h2, decide_eq_false h3, if_true, Bool.false_eq_true, if_false, List.map_cons, List.map_nil]
      rw [stands_dec h2]; rfl
  · have s2 : stands text n 2 = false := by
      cases hs : stands text n 2 with
      | false => rfl
      | true => exact absurd (stands_len hs) h2
    have s3 : stands text n 3 = false := by
      cases hs : stands text n 3 with
      | false => rfl
      | true => have := stands_len hs; lia
    have h3 : ¬ ((n : Int) + 3 ≤ text.length) := by lia
    rw [s2, s3]
    have hz : n + 1 + 1 = text.length + 1 := by lia
    rw [hz, drop_end, List.take_nil, chainL]
    simp only [List.filter_cons, List.filter_nil, decide_eq_false h2, decide_eq_false h3, Bool.false_eq_true, if_false, List.map_nil]
    rfl
noncomputable def due (text : Str) : List D := (List.range text.length).map fun (i : Nat) => .list ((dueRow text i).map D.int)
theorem back_eq (T : Tx text) : back (sums text) = due text := by
  unfold back due
  rw [sums_length]
  refine List.map_congr_left fun i hi => ?_
  rw [back_row T (List.mem_range.mp hi)]
end
end

section
set_option linter.unusedVariables false
set_option maxRecDepth 100000
open PySem PyProof.Rows PySem.W PyProof.V
noncomputable def okc (c : Nat) : Bool := kdpHas nums ⟨#[c]⟩
theorem ok6 : ∀ n, n < 6 → okc ((Str.ofString "<>*/-.").cps.getD n 0) = true := by decide +kernel
theorem ok24 : ∀ n, n < 24 → okc ((Str.ofString "()[]:,;+-*/|&<>=.%{}~^@!").cps.getD n 0) = true := by decide +kernel
theorem okeq : okc 61 = true := by decide +kernel
theorem len6 : (Str.ofString "<>*/-.").length = 6 := by decide +kernel
theorem len24 : (Str.ofString "()[]:,;+-*/|&<>=.%{}~^@!").length = 24 := by decide +kernel
theorem eqs : Str.ofString "=" = ⟨#[61]⟩ := by decide +kernel
theorem sign_one (x : Int) : ∃ c, sign x = ⟨#[c]⟩ ∧ okc c = true := by
  unfold sign
  have h6 := Int.fmod_nonneg_of_pos (x.fdiv 3) (show (0 : Int) < 6 by decide)
  have h6' := Int.fmod_lt_of_pos (x.fdiv 3) (show (0 : Int) < 6 by decide)
  have h24 := Int.fmod_nonneg_of_pos (x.fdiv 3) (show (0 : Int) < 24 by decide)
  have h24' := Int.fmod_lt_of_pos (x.fdiv 3) (show (0 : Int) < 24 by decide)
  split
  · exact ⟨61, eqs, okeq⟩
  · split
    · rw [PySem.W.item_meets ⟨h6, by rw [len6]; exact h6'⟩]
      exact ⟨_, rfl, ok6 _ (by lia)⟩
    · rw [PySem.W.item_meets ⟨h24, by rw [len24]; exact h24'⟩]
      exact ⟨_, rfl, ok24 _ (by lia)⟩
noncomputable def headText : Str := Str.ofString "...->>"
theorem head_cps : headText.cps = #[46, 46, 46, 45, 62, 62] := by decide +kernel
theorem head_ok : ∀ c ∈ [46, 46, 46, 45, 62, 62], okc c = true := by decide +kernel
theorem emp : Str.ofString "" = Str.empty := by decide +kernel
noncomputable def textOf (script : List Int) : Str := headText ++ Txt.join (Str.ofString "") ((script.take 3).map sign)
theorem cps_append (x y : Str) : (x ++ y).cps = x.cps ++ y.cps := rfl
theorem text_cps (script : List Int) : ∃ l : List Nat, (textOf script).cps.toList = [46, 46, 46, 45, 62, 62] ++ l ∧ l.length ≤ 3 ∧ ∀ c ∈ l, okc c = true := by
  have e : (textOf script).cps.toList = [46, 46, 46, 45, 62, 62] ++ (Txt.join (Str.ofString "") ((script.take 3).map sign)).cps.toList := by
    unfold textOf
    rw [cps_append, head_cps]; simp
  refine ⟨_, e, ?_⟩
  rw [emp]
  unfold Txt.join Builtin.Str.glued
  match script with
  | [] => exact ⟨Nat.zero_le _, fun c hc => by simp [Str.empty] at hc⟩
  | [x] =>
    obtain ⟨c, hx, hc⟩ := sign_one x
    simp [hx, hc]
  | [x, y] =>
    obtain ⟨c, hx, hc⟩ := sign_one x
    obtain ⟨d, hy, hd⟩ := sign_one y
    simp [hx, hc, hy, hd, Str.empty]
  | x :: y :: z :: r =>
    obtain ⟨c, hx, hc⟩ := sign_one x
    obtain ⟨d, hy, hd⟩ := sign_one y
    obtain ⟨e, hz, he⟩ := sign_one z
    simp [hx, hc, hy, hd, hz, he, Str.empty]
theorem textTx (script : List Int) : Tx (textOf script) := by
  obtain ⟨l, e, hl, hc⟩ := text_cps script
  have hlen : (textOf script).length = 6 + l.length := by
    unfold Str.length
    rw [← Array.length_toList, e]; simp; lia
  refine ⟨by lia, fun i h0 h1 => ?_⟩
  rw [PySem.W.item_meets ⟨h0, h1⟩]
  have hn : i.toNat < (textOf script).cps.toList.length := by rw [Array.length_toList]; unfold Str.length at h1; lia
  have hg : (textOf script).cps.getD i.toNat 0 = (textOf script).cps.toList[i.toNat] := by
    rw [Array.getD_eq_getD_getElem?]
    simp at hn
    simp [hn]
  have hm := List.getElem_mem hn
  rw [← hg] at hm
  rw [e] at hm
  rcases List.mem_append.mp hm with hm | hm
  · exact head_ok _ hm
  · exact hc _ hm
theorem sign_len (x : Int) : (sign x).length = 1 := by
  obtain ⟨c, h, _⟩ := sign_one x
  rw [h]; rfl
theorem signs_len (l : List Int) : ((l.map sign).map (·.length)).sum = l.length := by
  induction l with
  | nil => rfl
  | cons x l ih => rw [List.map_cons, List.map_cons, List.sum_cons, ih, sign_len, List.length_cons]; lia
theorem okD_ints (l : List Int) (n : Nat) : okD (n + 1) (.list (l.map D.int)) = true := by
  unfold okD
  rw [List.all_eq_true]
  intro d hd
  obtain ⟨i, _, rfl⟩ := List.mem_map.mp hd
  cases n <;> rfl
theorem okD_due (text : Str) : okD 64 (.list (due text)) = true := by
  unfold okD
  rw [List.all_eq_true]
  intro d hd
  obtain ⟨i, _, rfl⟩ := List.mem_map.mp hd
  exact okD_ints _ _
theorem okD_enc (text : Str) : ∀ (r : List (Int × Int)) (i : Int), ∀ d ∈ encRow text i r, okD 63 d = true
  | [], i, d, h => by cases h
  | (k, f) :: r, i, d, h => by
    rw [encRow] at h
    rcases List.mem_cons.mp h with rfl | h
    · rfl
    · exact okD_enc text r _ d h
theorem okD_row (text : Str) (t : Int) (r : List (Int × Int)) : okD 64 (.list (.int t :: encRow text 0 r)) = true := by
  unfold okD
  rw [List.all_eq_true]
  intro d hd
  rcases List.mem_cons.mp hd with rfl | hd
  · rfl
  · exact okD_enc text r 0 d hd
theorem near_range (x : Int) : -(10 ^ 24) ≤ near x ∧ near x < 10 ^ 24 := by
  unfold near
  have h1 := Int.fmod_nonneg_of_pos (x + 10 ^ 24) (show (0 : Int) < 2 * 10 ^ 24 by decide)
  have h2 := Int.fmod_lt_of_pos (x + 10 ^ 24) (show (0 : Int) < 2 * 10 ^ 24 by decide)
  lia
end

section
set_option linter.unusedVariables false
set_option maxRecDepth 100000
open PySem PyProof.Rows PySem.W PyProof.V
section
variable {w : World} {g : Heap} {mg mb : Str → Option Value} {os : OsState}
noncomputable def signD : D → D
  | .int x => .str (sign x)
  | _ => .none
noncomputable def nearD : D → D
  | .int x => .int (near x)
  | _ => .none
noncomputable def longD (text : Str) (i : Int) : D → D
  | .int k => .int (if kdpHas nums (Txt.slice text (some i) (some (i + k))) then 1 else 0)
  | _ => .none
noncomputable def longP (text : Str) (i : Int) : D → Bool
  | .int k => decide (i + k ≤ text.length)
  | _ => false
theorem sums_bits {text : Str} (T : Tx text) : Builtin.Int.intBits ((sums text).getD 0 0) ≤ 64 := by
  have h1 := sm_pos T (i := 0) (by lia) (by lia)
  have h2 := sm_le T (i := 0) (by lia) (by lia)
  have e : (sums text).getD 0 0 = sm text 0 := rfl
  rw [e]
  obtain ⟨n, hn⟩ := Int.eq_ofNat_of_zero_le (show 0 ≤ sm text 0 by lia)
  rw [hn] at h2 ⊢
  refine bits_le ?_
  have e1 : (56 : Int) ^ 9 = ((56 ^ 9 : Nat) : Int) := by decide
  have e2 : (56 : Nat) ^ 9 < 2 ^ 64 := by decide
  lia
/-- the number told is what it is told to be worth -/
theorem told_worth (G : Gd w g mg mb) {k : Nat} {text : Str} (T : Tx text) (t : Int) (ht : t.natAbs ≤ 10 ^ 24) (row : List (Int × Int)) (hr : Row text 0 row) :
    Fn pg w g os 118 (k + 14) [.int (t * (sums text).getD 0 0 + val text (sums text) 0 row), .str text, .list ((sums text).map D.int)] (.list (.int t :: encRow text 0 row)) := by
  have h1 := sm_pos T (i := 0) (by lia) (by lia)
  have h2 := sm_le T (i := 0) (by lia) (by lia)
  obtain ⟨v0, v1⟩ := vl_bounds T hr (by lia)
  have e : (sums text).getD 0 0 = sm text 0 := rfl
  obtain ⟨d1, d2⟩ := div_unique (a := t * sm text 0 + vl text 0 row) (b := sm text 0) (by lia) rfl v0 v1
  have hch := vl_chain T hr (by lia)
  have hsz : (t * sm text 0 + vl text 0 row).natAbs < 2 ^ 200 := by
    have a1 : (t * sm text 0).natAbs ≤ 10 ^ 24 * 56 ^ 9 := by
      rw [Int.natAbs_mul]
      exact Nat.mul_le_mul ht (by
        have e1 : (56 : Int) ^ 9 = ((56 ^ 9 : Nat) : Int) := by decide
        lia)
    have a2 : (vl text 0 row).natAbs ≤ 56 ^ 9 := by
      have e1 : (56 : Int) ^ 9 = ((56 ^ 9 : Nat) : Int) := by decide
      lia
    have a3 := Int.natAbs_add_le (t * sm text 0) (vl text 0 row)
    have a4 : 10 ^ 24 * 56 ^ 9 + 56 ^ 9 < 2 ^ 200 := by decide
    lia
  have := fn118 (os := os) G (dm (k := k) G) text T (sums text) sums_length (sums_mem T) (t * sm text 0 + vl text 0 row) hsz row hr (by rw [e, d2]; exact hch)
  rw [e, d1] at this
  exact this
end
end

section
set_option linter.unusedVariables false
set_option maxRecDepth 100000
open PySem PyProof.Rows PySem.W PyProof.V
section
variable {w : World} {g : Heap} {mg mb : Str → Option Value} {os : OsState}
theorem x_row {text : Str} (T : Tx text) (x : Int) (hx : x.natAbs ≤ 10 ^ 24) : ∃ t row, t.natAbs ≤ 10 ^ 24 ∧ Row text 0 row ∧ t * (sums text).getD 0 0 + val text (sums text) 0 row = x := by
  have h1 := sm_pos T (i := 0) (by lia) (by lia)
  have m0 := Int.fmod_nonneg_of_pos x (show (0 : Int) < sm text 0 by lia)
  have m1 := Int.fmod_lt_of_pos x (show (0 : Int) < sm text 0 by lia)
  obtain ⟨r, hr, hv⟩ := vl_onto T text.length 0 (x.fmod (sm text 0)) (by lia) (by lia) (by lia) m0 m1
  refine ⟨x.fdiv (sm text 0), r, Nat.le_trans (natAbs_fdiv_le _ _) hx, hr, ?_⟩
  show x.fdiv (sm text 0) * sm text 0 + vl text 0 r = x
  rw [hv, Int.mul_comm]
  exact Int.mul_fdiv_add_fmod x _
theorem near_abs (x : Int) : (near x).natAbs ≤ 10 ^ 24 := by
  have := near_range x
  have e : (10 : Int) ^ 24 = ((10 ^ 24 : Nat) : Int) := by decide
  lia

theorem fn137 (G : Gd w g mg mb) {k : Nat} (script : List Int) (hz : script.length ≤ 63) : Fn pg w g os 137 (k + 15) [.list (script.map D.int)] (.bool true) := by
  refine Fn.intro (G.fn (k137 _)) rfl (bo137 _) (codeRec_of G.K (c137 _)) G.lim (ok137 _) rfl (bind1 (b137 _)) G.gn G.bn fun A L => ?_
  have hscr : (script.map D.int).length ≤ sizeLine := by rw [List.length_map, sizeLine_eq]; lia
  refine Ex.assign (d := .list (opers.map D.str)) ?_ rfl rfl ?_
  · exact Ev.call0 (k := 1) rfl (by decide) (G.glob (n80 _)) (G.fn (k80 _)) rfl (fn80 G) (by show 1 ≤ k + 14; lia)
  refine Ex.assign (d := .dict nums) ?_ rfl rfl ?_
  · exact Ev.call (k := 1) rfl (by decide) (G.glob (n87 _)) (G.fn (k87 _)) rfl (EvL.cons (m := .s) (Ev.name rfl rfl) EvL.nil rfl) rfl (fn87 G) (by show 1 ≤ k + 14; lia)
  have T := textTx script
  have hth : (textOf script) = headText ++ Txt.join (Str.ofString "") ((script.take 3).map sign) := rfl
  have hsz := T.size
  have hlen := T.len
  refine Ex.assign (d := .str (textOf script)) ?_ rfl rfl ?_
  · have hln : headText.length + (Txt.join (Str.ofString "") ((script.take 3).map sign)).length = (textOf script).length := by
      rw [hth]
      unfold Str.length
      rw [cps_append, Array.size_append]
    have hl3 : (script.take 3).length ≤ 3 := by simp; lia
    refine Ev.bin (d1 := .str headText) (d2 := .str (Txt.join (Str.ofString "") ((script.take 3).map sign))) Ev.str ?_ (BinOK.addStr (by rw [hln]; exact hsz))
    refine Ev.join Ev.str ?_ rfl rfl ?_
    · refine Ev.eq (Ev.comp1 (fr := []) (ds := (script.take 3).map D.int) (p := fun _ => true) (f := signD) ⟨rfl, by decide, rfl, by decide, (fun q hq => nomatch hq), (fun q hq => nomatch hq)⟩ ?_ rfl rfl (fun C Dd d hd => ETs.nil) (fun C Dd d hd _ => ?_) ?_) ?_
      · refine EvI.list (Ev.eq (Ev.sliceL (ds := script.map D.int) (Ev.name rfl rfl) EvP.none (EvP.some Ev.int) EvP.none (by intro h; cases h) hscr) ?_)
        rw [List.map_take]
        exact congrArg D.list (pickD_to (b := 3) _)
      · obtain ⟨x, hx, rfl⟩ := List.mem_map.mp hd
        exact Ev.call (k := 1) rfl (by decide) (G.glob (n66 _)) (G.fn (k66 _)) rfl (EvL.cons (m := .s) (Ev.name rfl rfl) EvL.nil rfl) rfl (fn66 G x) (by show 1 ≤ k + 14; lia)
      · rw [List.length_map, sizeLine_eq]; lia
      · rw [List.filter_eq_self.mpr (fun _ _ => rfl), List.map_map, List.map_map]; rfl
    · rw [signs_len, List.length_map]
      have : (Str.ofString "").length = 0 := by rw [emp]; rfl
      rw [this]
      lia
  clear hth
  generalize textOf script = text at *
  have hb64 := sums_bits T
  have hsl := sums_length (text := text)
  refine Ex.assign (d := .list ((sums text).map D.int)) ?_ rfl rfl ?_
  · rw [← totals_eq T]
    exact Ev.call (k := 2) rfl (by decide) (G.glob (n97 _)) (G.fn (k97 _)) rfl (EvL.cons (m := .s) (Ev.name rfl rfl) (EvL.cons (Ev.name rfl rfl) EvL.nil rfl) rfl) rfl (fn97 G text T) (by show 2 ≤ k + 14; lia)
  refine Ex.assign (d := .list ((sums text).map D.int)) ?_ rfl rfl ?_
  · exact Ev.call (k := 1) rfl (by decide) (G.glob (n104 _)) (G.fn (k104 _)) rfl (EvL.cons (m := .s) (Ev.name rfl rfl) EvL.nil rfl) rfl (fn104 G text T) (by show 1 ≤ k + 14; lia)
  refine Ex.ifRet (b := false) (ET.cmp (m := .n) (Ev.name rfl rfl) (Ev.name rfl rfl) (CmpOK.neD (okD_ints _ 63)) rfl) (fun h => absurd h (by decide)) fun _ => ?_
  refine Ex.assignOwn (ds := []) EvL.nil (by decide) rfl fun a => ?_
  refine Ex.for_ (ds := upto (text.length : Int)) ?_ rfl (fun j ρ' => ρ' = [(Str.ofString "script", B.val (.list (script.map D.int))), (Str.ofString "pieces", B.val (.list (opers.map D.str))), (Str.ofString "numbers", B.val (.dict nums)), (Str.ofString "text", B.val (.str text)),
    (Str.ofString "totals", B.val (.list ((sums text).map D.int))), (Str.ofString "sums", B.val (.list ((sums text).map D.int))), (Str.ofString "due", B.own a ((due text).take j))]) rfl ?_ ?_
  · exact EvI.range (m := .n) rfl (by decide) (G.miss (nb_range _)) G.range (G.lenS rfl rfl rfl (Ev.name rfl rfl) rfl hsz) rfl (by lia) (by lia)
  · intro j d ρ' hd hI
    subst hI
    obtain ⟨hj, rfl⟩ := upto_at hd
    have hi0 : (0 : Int) ≤ j := by lia
    have hi1 : (j : Int) < text.length := by lia
    have htake : (due text).take (j + 1) = (due text).take j ++ [.list ((dueRow text j).map D.int)] := by
      rw [List.take_add_one]
      congr 1
      unfold due
      rw [List.getElem?_map, List.getElem?_range hj]; rfl
    have hrow : dueRow text j = num text j :: (([2, 3] : List Int).filter fun k => decide ((j : Int) + k ≤ text.length)).map (fun k => if kdpHas nums (Txt.slice text (some (j : Int)) (some ((j : Int) + k))) then 1 else 0) ++ [0] := rfl
    refine' Ex.assignComp (fr := [(Str.ofString "i", B.val (.int (j : Int))), (Str.ofString "numbers", B.val (.dict nums)), (Str.ofString "text", B.val (.str text))]) (ds := [.int 2, .int 3]) (p := longP text j) (f := longD text j) ?K ?hi rfl rfl ?ht ?he (by decide) rfl ?kk ?hsw ?hf
    case K =>
      refine ⟨rfl, by decide, rfl, by decide, ?_, ?_⟩
      · intro q hq
        simp only [List.mem_cons, List.not_mem_nil, or_false] at hq
        rcases hq with rfl | rfl | rfl
        · exact ⟨rfl, rfl, .inl rfl, .inl rfl, rfl⟩
        · exact ⟨rfl, rfl, .inl rfl, .inl rfl, rfl⟩
        · exact ⟨rfl, rfl, .inl rfl, .inl rfl, rfl⟩
      · intro q hq
        simp only [List.mem_cons, List.not_mem_nil, or_false] at hq
        rcases hq with rfl | rfl | rfl <;> rfl
    case hi => exact EvI.tup (Ev.tup (EvL.cons Ev.int (EvL.cons Ev.int EvL.nil rfl) rfl) sz2)
    case ht =>
      intro C Dd d hd
      obtain ⟨x, rfl⟩ : ∃ x, d = .int x := by
        simp only [List.mem_cons, List.not_mem_nil, or_false] at hd
        rcases hd with rfl | rfl <;> exact ⟨_, rfl⟩
      refine ETs.one ?_
      refine' ET.eq ?tA ?tB
      case tA => exact ET.cmp (m := .n) (Ev.bin (Ev.name rfl rfl) (Ev.name rfl rfl) BinOK.add) (G.lenS rfl rfl rfl (Ev.name rfl rfl) rfl hsz) CmpOK.leI rfl
      case tB => rfl
    case he =>
      intro C Dd d hd hp
      obtain ⟨x, rfl⟩ : ∃ x, d = .int x := by
        simp only [List.mem_cons, List.not_mem_nil, or_false] at hd
        rcases hd with rfl | rfl <;> exact ⟨_, rfl⟩
      refine Ev.eq (Ev.ifexp' (d1 := .int 1) (d2 := .int 0) (b := kdpHas nums (Txt.slice text (some (j : Int)) (some ((j : Int) + x)))) ?_ Ev.int Ev.int) ?_
      · exact ET.cmp (m := .n) (Ev.sliceS (Ev.name rfl rfl) (EvP.some (Ev.name rfl rfl)) (EvP.some (Ev.bin (Ev.name rfl rfl) (Ev.name rfl rfl) BinOK.add)) hsz) (Ev.name rfl rfl) CmpOK.inD rfl
      · show _ = D.int (if kdpHas nums (Txt.slice text (some (j : Int)) (some ((j : Int) + x))) then 1 else 0)
        split <;> rfl
    case hsw => rfl
    case hf => intro v; rfl
    case kk =>
      have hlong : ([D.int 2, D.int 3].filter (longP text j)).map (longD text j) = ((([2, 3] : List Int).filter fun k => decide ((j : Int) + k ≤ text.length)).map (fun k => if kdpHas nums (Txt.slice text (some (j : Int)) (some ((j : Int) + k))) then 1 else 0)).map D.int := by
        rw [show ([D.int 2, D.int 3] : List D) = [(2 : Int), 3].map D.int from rfl, List.filter_map, List.map_map, List.map_map]
        rfl
      have hll : (([D.int 2, D.int 3].filter (longP text j)).map (longD text j)).length ≤ 2 := by
        rw [List.length_map]; exact List.length_filter_le _ _
      generalize hlg : ([D.int 2, D.int 3].filter (longP text j)).map (longD text j) = lg at hlong hll
      refine Ex.append (d := .list ((dueRow text j).map D.int)) rfl rfl ?_ ?_ rfl rfl ?_
      · refine Ev.eq (d1 := .list (([D.int (num text j)] ++ lg) ++ [D.int 0])) (Ev.bin (d1 := .list ([D.int (num text j)] ++ lg)) (d2 := .list [D.int 0]) (Ev.bin (d1 := .list [D.int (num text j)]) (d2 := .list lg) (Ev.list (EvL.cons ?_ EvL.nil rfl) (by rw [sizeLine_eq]; simp)) (Ev.name rfl rfl) (BinOK.addL ?_)) (Ev.list (EvL.cons Ev.int EvL.nil rfl) (by rw [sizeLine_eq]; simp)) (BinOK.addL ?_)) ?_
        · exact Ev.itemDict (m' := .s) (x := Txt.item text j) (Ev.name rfl rfl) (Ev.itemStr (Ev.name rfl rfl) (Ev.name rfl rfl) hi0 hi1 (by lia) rfl) (T.one j hi0 hi1) rfl
        · rw [sizeLine_eq]; simp; lia
        · rw [sizeLine_eq]; simp; lia
        · rw [hrow, hlong]
          simp
      · rw [List.length_take, sizeLine_eq]; lia
      · refine Ex.nilG (ρ2 := [(Str.ofString "script", B.val (.list (script.map D.int))), (Str.ofString "pieces", B.val (.list (opers.map D.str))), (Str.ofString "numbers", B.val (.dict nums)), (Str.ofString "text", B.val (.str text)),
          (Str.ofString "totals", B.val (.list ((sums text).map D.int))), (Str.ofString "sums", B.val (.list ((sums text).map D.int))), (Str.ofString "due", B.own a ((due text).take j ++ [.list ((dueRow text j).map D.int)]))]) (ext := [(Str.ofString "i", B.val (.int (j : Int))), (Str.ofString "longer", B.val (.list lg))]) rfl ?_ rfl
        rw [htake]
  · intro ρ' hI
    rw [upto_len] at hI
    subst hI
    have hdt : (due text).take text.length = due text := List.take_of_length_le (by unfold due; simp)
    rw [hdt]
    refine Ex.ifRet (b := false) ?_ (fun h => absurd h (by decide)) fun _ => ?_
    · refine ET.cmp (m := .n) (d1 := .list (due text)) (d2 := .list (due text)) ?_ (Ev.nameOwnM (by intro h; cases h) rfl rfl) (CmpOK.neD (okD_due text)) rfl
      rw [← back_eq T]
      exact Ev.call (k := k + 14) rfl (by decide) (G.glob (n132 _)) (G.fn (k132 _)) rfl (EvL.cons (Ev.name rfl rfl) EvL.nil rfl) rfl (fn132 G (dm (k := k) G) (sums text) (by lia) (by lia) (sums_mem T)) (Nat.le_refl _)
    have hdr := draw_row (script := script) T text.length 0 (by lia) (by lia) (by lia)
    refine Ex.assign (d := .list (.int (near script.sum) :: encRow text 0 (drawRow script text text.length 0))) ?_ rfl rfl ?_
    · exact Ev.call (k := 2) rfl (by decide) (G.glob (n111 _)) (G.fn (k111 _)) rfl (EvL.cons (m := .s) (Ev.name rfl rfl) (EvL.cons (Ev.name rfl rfl) (EvL.cons (Ev.name rfl rfl) EvL.nil rfl) rfl) rfl) rfl (fn111 G script text T hz) (by show 2 ≤ k + 14; lia)
    generalize drawRow script text text.length 0 = row at *
    have hw := told_worth (os := os) (k := k) G T (near script.sum) (near_abs _) row hdr
    refine Ex.ifRet (b := false) ?_ (fun h => absurd h (by decide)) fun _ => ?_
    · refine ET.cmp (m := .n) (d1 := .list (.int (near script.sum) :: encRow text 0 row)) (d2 := .list (.int (near script.sum) :: encRow text 0 row)) ?_ (Ev.name rfl rfl) (CmpOK.neD (okD_row _ _ _)) rfl
      refine Ev.call (k := k + 14) rfl (by decide) (G.glob (n118 _)) (G.fn (k118 _)) rfl (EvL.cons ?_ (EvL.cons (Ev.name rfl rfl) (EvL.cons (Ev.name rfl rfl) EvL.nil rfl) rfl) rfl) rfl hw (Nat.le_refl _)
      exact Ev.call (k := 1) rfl (by decide) (G.glob (n125 _)) (G.fn (k125 _)) rfl (EvL.cons (Ev.name rfl rfl) (EvL.cons (Ev.name rfl rfl) (EvL.cons (Ev.name rfl rfl) (EvL.cons (Ev.name rfl rfl) (EvL.cons (Ev.name rfl rfl) EvL.nil rfl) rfl) rfl) rfl) rfl) rfl (fn125 G text T (near script.sum) row hdr (sums text) hsl hb64) (by show 1 ≤ k + 14; lia)
    have hn2 : (script.take 2).length ≤ 2 := by simp; lia
    refine Ex.assign (d := .list (((script.take 2).map near ++ [-1]).map D.int)) ?_ rfl rfl ?_
    · refine Ev.eq (d1 := .list (((script.take 2).map near).map D.int ++ [D.int (-1)])) (Ev.bin (d1 := .list (((script.take 2).map near).map D.int)) (d2 := .list [D.int (-1)]) ?_ (Ev.list (EvL.cons (Ev.neg Ev.int) EvL.nil rfl) (by rw [sizeLine_eq]; simp)) (BinOK.addL ?_)) ?_
      · refine Ev.eq (Ev.comp1 (fr := []) (ds := (script.take 2).map D.int) (p := fun _ => true) (f := nearD) ⟨rfl, by decide, rfl, by decide, (fun q hq => nomatch hq), (fun q hq => nomatch hq)⟩ ?_ rfl rfl (fun C Dd d hd => ETs.nil) (fun C Dd d hd _ => ?_) ?_) ?_
        · refine EvI.list (Ev.eq (Ev.sliceL (ds := script.map D.int) (Ev.name rfl rfl) EvP.none (EvP.some Ev.int) EvP.none (by intro h; cases h) hscr) ?_)
          rw [List.map_take]
          exact congrArg D.list (pickD_to (b := 2) _)
        · obtain ⟨x, hx, rfl⟩ := List.mem_map.mp hd
          exact Ev.call (k := 1) rfl (by decide) (G.glob (n73 _)) (G.fn (k73 _)) rfl (EvL.cons (m := .s) (Ev.name rfl rfl) EvL.nil rfl) rfl (fn73 G x) (by show 1 ≤ k + 14; lia)
        · rw [List.length_map, sizeLine_eq]; lia
        · rw [List.filter_eq_self.mpr (fun _ _ => rfl), List.map_map, List.map_map]; rfl
      · rw [List.length_map, List.length_map, sizeLine_eq]; simp; lia
      · rw [List.map_append]; rfl
    have habs : ∀ x ∈ (script.take 2).map near ++ [-1], x.natAbs ≤ 10 ^ 24 := fun x hx => by
      rcases List.mem_append.mp hx with hx | hx
      · obtain ⟨y, _, rfl⟩ := List.mem_map.mp hx
        exact near_abs y
      · rw [List.mem_singleton.mp hx]; decide
    have hnl : ((script.take 2).map near ++ [-1]).length ≤ 3 := by simp; lia
    generalize (script.take 2).map near ++ [-1] = ns at *
    refine Ex.ret (d := .bool true) ?_ rfl
    refine Ev.down (Ev.cmp (m := .n) (d1 := .list (ns.map D.int)) (d2 := .list (ns.map D.int)) ?_ (Ev.name rfl rfl) (CmpOK.eqD (okD_ints _ 63)) rfl)
    refine' Ev.eq ?a ?b
    case a =>
      refine' Ev.comp1 (fr := [(Str.ofString "numbers", B.val (.dict nums)), (Str.ofString "pieces", B.val (.list (opers.map D.str))), (Str.ofString "sums", B.val (.list ((sums text).map D.int))), (Str.ofString "text", B.val (.str text)), (Str.ofString "totals", B.val (.list ((sums text).map D.int)))])
        (ds := ns.map D.int) (p := fun _ => true) (f := fun d => d) ?K ?hi rfl rfl (fun C Dd d hd => ETs.nil) ?he ?hz (fun v => rfl)
      case K =>
        refine ⟨rfl, by decide, rfl, by decide, ?_, ?_⟩
        · intro q hq
          simp only [List.mem_cons, List.not_mem_nil, or_false] at hq
          rcases hq with rfl | rfl | rfl | rfl | rfl
          · exact ⟨rfl, rfl, .inl rfl, .inl rfl, rfl⟩
          · exact ⟨rfl, rfl, .inl rfl, .inl rfl, rfl⟩
          · exact ⟨rfl, rfl, .inl rfl, .inl rfl, rfl⟩
          · exact ⟨rfl, rfl, .inl rfl, .inl rfl, rfl⟩
          · exact ⟨rfl, rfl, .inl rfl, .inl rfl, rfl⟩
        · intro q hq
          simp only [List.mem_cons, List.not_mem_nil, or_false] at hq
          rcases hq with rfl | rfl | rfl | rfl | rfl <;> rfl
      case hi => exact EvI.list (Ev.name rfl rfl)
      case hz => rw [List.length_map, sizeLine_eq]; lia
      case he =>
        intro C Dd d hd _
        obtain ⟨x, hx, rfl⟩ := List.mem_map.mp hd
        obtain ⟨t, r, ht, hr, hxe⟩ := x_row T x (habs x hx)
        have hw := told_worth (os := os) (k := k) G T t ht r hr
        have hv := fn125 (k := 0) (os := os) G text T t r hr (sums text) hsl hb64
        rw [hxe] at hw hv
        refine Ev.call (k := 1) rfl (by decide) (G.glob (n125 _)) (G.fn (k125 _)) rfl (EvL.cons (m := .s) (d := .list (.int t :: encRow text 0 r)) ?_ (EvL.cons (Ev.name rfl rfl) (EvL.cons (Ev.name rfl rfl) (EvL.cons (Ev.name rfl rfl) (EvL.cons (Ev.name rfl rfl) EvL.nil rfl) rfl) rfl) rfl) rfl) rfl hv (by show 1 ≤ k + 14; lia)
        exact Ev.call (k := k + 14) rfl (by decide) (G.glob (n118 _)) (G.fn (k118 _)) rfl (EvL.cons (m := .s) (Ev.name rfl rfl) (EvL.cons (Ev.name rfl rfl) (EvL.cons (Ev.name rfl rfl) EvL.nil rfl) rfl) rfl) rfl hw (Nat.le_refl _)
    case b => rw [List.filter_eq_self.mpr (fun _ _ => rfl), List.map_id']
end
end

section
set_option linter.unusedVariables false
set_option maxRecDepth 100000
set_option maxHeartbeats 8000000
open PySem PyProof.Rows PySem.W PyProof.V
theorem nt_KK (P : Params) : noTabs (KK P) = true := by kernel_rfl
theorem cd34 (P : Params) : codeHdIn (KK P) 34 30 = true := by kernel_rfl
theorem cd41 (P : Params) : codeHdIn (KK P) 41 37 = true := by kernel_rfl
theorem gdOf {w : World} {mg mb : Str → Option Value} {h : Heap} {p : Program} {loose : List Str} {mean : ExcName → Option Value} (X : (KK w.params).In h) (hT : ∀ P ∈ [37, 30], h.get? P = some (tabObj #[])) (T : Top p loose mean mg mb h) :
    Gd w (ghostOf h [(41, 37), (34, 30)]) mg mb ∧ TabsAt [(41, 37), (34, 30)] h := by
  have hA : TabsAt [(41, 37), (34, 30)] h := List.forall_mem_cons.mpr ⟨⟨codeHd_of_K X (cd41 _), hT 37 (by simp)⟩, List.forall_mem_cons.mpr ⟨⟨codeHd_of_K X (cd34 _), hT 30 (by simp)⟩, fun _ h => nomatch h⟩⟩
  have hc := ghost_code hA
  refine ⟨⟨ghost_K hA X (nt_KK _), ghost_ns hA T.g, ghost_ns hA T.b, ?_, T.builtins, hc.2.1, hc.1, hideAll_none _ (by simp), hideAll_none _ (by simp), ?_⟩, hA⟩
  · obtain ⟨mc, h1, h2⟩ := T.nolimit
    exact ⟨mc, ghost_ns hA h1, h2⟩
  · obtain ⟨bm, ob, b1, b2, b3, b4, b5, b6⟩ := T.bmain
    exact ⟨bm, ob, b1, b2, ghost_get hA b3 (fun q => by rw [q] at b4; cases b4), b4, b5, b6⟩
theorem ghOf {h : Heap} (hT : ∀ P ∈ [37, 30], h.get? P = some (tabObj #[])) : GH (ghostOf h [(41, 37), (34, 30)]) h :=
  ⟨fun a o e => of_hideAll _ e, .inl (hT 30 (by simp)), .inl (hT 37 (by simp))⟩
theorem rmCaller : Rm callerA 15 := ⟨rfl, by decide +kernel, by decide +kernel⟩
end

end
end Mine

set_option linter.unusedVariables false
set_option maxRecDepth 100000
set_option maxHeartbeats 8000000
namespace Mine
open PySem PyProof.Rows PySem.W PyProof.V
theorem goodEnd {w : World} {s₁ s' : Shared} {v : Value} {args : List WData} {cl : Str → Option Addr} {mean : ExcName → Option Value} {F : Addr → Prop} (hA : TabsAt [(41, 37), (34, 30)] s₁.heap) (hg : s₁.gens = #[])
    (T : Step (ghostOf s₁.heap [(41, 37), (34, 30)]) s₁ s') (r : Rep pg w F s'.heap v (.bool true)) (hp : rwT.row.claim.post args (.bool true) args = true) (hr : ∀ cls, rwT.row.claim.raises args cls = false) :
    GoodWG rwT.row.claim cl mean args s₁ (.ok (.ret v)) s' := by
  cases r
  refine ⟨.inl ⟨_, .bool true, [], rfl, hr, .bool true, hp, fun _ => ⟨List.nodup_nil, fun a ha => nomatch ha⟩⟩, ⟨fun b o e => ?_, fun b o e => ?_⟩, T.os, .of_eq (T.gens.trans hg)⟩
  · by_cases hb : b = 37
    · subst hb
      have e2 := (hA (41, 37) (by simp)).2
      rw [e] at e2
      cases e2
      obtain ⟨ps, hP⟩ := T.gh.t37.at
      exact .inr (.inl ⟨((hA (41, 37) (by simp)).1.tab e).isCodeTable, rfl, #[], ps, rfl, by rw [Array.empty_append]; exact hP⟩)
    · by_cases hb2 : b = 30
      · subst hb2
        have e2 := (hA (34, 30) (by simp)).2
        rw [e] at e2
        cases e2
        obtain ⟨ps, hP⟩ := T.gh.t30.at
        exact .inr (.inl ⟨((hA (34, 30) (by simp)).1.tab e).isCodeTable, rfl, #[], ps, rfl, by rw [Array.empty_append]; exact hP⟩)
      · exact .inl (T.ext b o ⟨hb2, hb⟩ e)
  · by_cases hb : b = 37
    · subst hb
      obtain ⟨ps, hP⟩ := T.gh.t37.at
      exact ⟨_, hP⟩
    · by_cases hb2 : b = 30
      · subst hb2
        obtain ⟨ps, hP⟩ := T.gh.t30.at
        exact ⟨_, hP⟩
      · exact ⟨o, T.ext b o ⟨hb2, hb⟩ e⟩
theorem post_ok (args : List WData) : rwT.row.claim.post args (.bool true) args = true := by
  have h1 : WShape.has ([] : WRecords) (.bool true) .bool = true := by simp [WShape.has, WShape.arms]
  have h2 : WTm.holds ([] : WRecords) (WTm.eq .res (.lit (.bool true))) { args := args, res := some (.bool true), after := args } = true := by
    unfold WTm.holds
    rw [w_eq_bool (k := true) (l := true) (by simp [WTm.value]) (by simp [WTm.value])]
    rfl
  show (WShape.has ([] : WRecords) (.bool true) .bool && WTm.holds ([] : WRecords) (WTm.eq .res (.lit (.bool true))) { args := args, res := some (.bool true), after := args }) = true
  rw [h1, h2]; rfl
end Mine
open PySem PySem.W PyProof.Rows
set_option maxRecDepth 100000 in
set_option maxHeartbeats 8000000 in
theorem PySem.Challenge.cw_pe0210_01_holds : PySem.Challenge.rw_pe0210_01.Holds := by
  rw [Mine.rwT_eq]
  w_on
  o_law
  o_head (kmHook Mine.KK Mine.KA Mine.ka [37, 30])
  case hw => w_witness2
  intro w s₀ s₁ mg mb G Y fa o pm cd doc dV kV ho hd' hcd hD hmg hg args vals as hpre hlay hrd hwl hlo
  have KX : (Mine.KK w.params).In s₁.heap := km_in_of Y
  km_tabs Y
  refine Ground.open G ?_
  intro T B D TE TW
  obtain ⟨Gd, hA⟩ := Mine.gdOf KX hT8 T
  have hfa : fa = 137 := by
    have e : mg (Str.ofString "law") = some (.ref 137) := Gd.glob (Mine.n137 _)
    have e2 : mg (Str.ofString "law") = some (.ref fa) := hmg
    rw [e] at e2
    cases e2
    rfl
  subst hfa
  clear ho hd' hcd hD hmg
  wrow_args hpre hlay hrd hwl hlo
  rename Heap.IsList _ _ _ => hL
  rename IntsAre _ _ => hI
  rename ¬ _ => hlt
  have hS : s₁ = { s₁ with os := s₁.os } := rfl
  have GG := Mine.ghOf hT8
  obtain ⟨oL, hoL, hcL, nL, hdL⟩ := id hL
  have hnt := GG.nt_cls hoL (by rw [hcL]; intro h; cases h)
  have hlen : _ ≤ 63 := Int.ofNat_le.mp (Int.not_lt.mp hlt)
  refine wpAny_mono (Mine.fn137 (os := s₁.os) (k := 0) Gd _ hlen callerA s₁ _ (fun _ => True) Mine.rmCaller hg rfl GG (.cons (.list trivial hnt hL (Mine.repInts hI)) .nil) fun _ _ => trivial) (fun v s' x => Mine.goodEnd hA hg x.1 x.2 ?_ ?_) fun _ _ x => x.elim
  · exact Mine.post_ok _
  · intro cls
    rfl
