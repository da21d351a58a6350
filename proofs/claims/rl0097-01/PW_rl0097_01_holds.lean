import PyProof.Rows.All
import Wide.All
import OpenK.AllK
import Wide.FinOn
import PySem.Challenge.RW_rl0097_01
open PySem PySem.W PyProof.Rows
set_option Elab.async false
set_option linter.unusedVariables false
set_option linter.unusedSimpArgs false
section
open PySem PySem.W PyProof.Rows
set_option maxRecDepth 100000
set_option maxHeartbeats 8000000
namespace Mine
noncomputable abbrev prog : Program := Challenge.pw_rl0097_01
/-- a statement of the given text by its place -/
noncomputable def nth : List Stmt → Nat → Stmt
  | [], _ => .Pass default
  | a :: _, 0 => a
  | _ :: l, n + 1 => nth l n
noncomputable def inClass : Stmt → List Stmt
  | .ClassDef _ _ _ b .. => b
  | _ => []
noncomputable def stAt (i : Nat) : Stmt := nth prog.main.body i
noncomputable def inAt (i : Nat) : Stmt := nth (inClass (stAt 5)) i
noncomputable abbrev kN : Value := .none
noncomputable abbrev kS (x : String) (t : Nat) : Value := .str (Str.ofString x) t
noncomputable abbrev kE (P : Params) (x : String) (t : Nat) (v : Value) : DictEntry := ⟨PyData.keyHash P (Str.ofString x), kS x t, v⟩
/-- a code object: its name, qualified name, the first of its texts' marks, its line, its arguments, the first of its tuples, a mark -/
noncomputable def kC (n q : String) (t line argc kwo r x : Nat) : Obj := ⟨.type "code", none, .fields #[kS n t, kS q (t + 1), kS "/claim/cut.py" (t + 2), .int line 0, .int argc 0, .int 0 0, .int kwo 0, .int 3 0, .ref r, .bool true, .int 181 0, .ref (r + 1), kN, .ref (r + 2), .ref (r + 3), .ref (r + 4), .int x 0, .int line 0, kS "/claim/cut.py" (x + 1)], #[]⟩
noncomputable def kD (n q : String) (t line argc kwo r x : Nat) : Obj := ⟨.type "code", none, .fields #[kS n t, kS q (t + 1), kS "/claim/cut.py" (t + 2), .int line 0, .int argc 0, .int 0 0, .int kwo 0, .int 3 0, .ref r, .bool true, .int 181 0, .ref (r + 1), kN, kN, kN, .ref (r + 2), .int x 0, .int line 0, kS "/claim/cut.py" (x + 1)], #[]⟩
/-- the function that a def's statement makes -/
noncomputable def kF (st : Stmt) (q : String) (d k m : Value) (c : Nat) : Obj := match st with
  | .FunctionDef n ps b _ _ _ sc _ _ _ => ⟨.type "function", none, .func { name := n, qualname := Str.ofString q, params := ps, body := .stmts b, scope := sc, globals := 3, closure := [], defaults := d, kwdefaults := k, pyModule := m, code := .ref c }, #[]⟩
  | _ => ⟨kN, none, .plain, #[]⟩
noncomputable def es3 (P : Params) : List DictEntry := [kE P "__name__" 165 (kS "law_rl0097_01" 503), kE P "__doc__" 166 kN, kE P "__package__" 167 kN, kE P "__loader__" 168 (.builtin "__main__.__loader__#opaque"), kE P "__spec__" 169 kN, kE P "__annotations__" 170 (.ref 6), kE P "__builtins__" 171 (.ref 4), kE P "__file__" 173 (kS "/claim/cut.py" 172), kE P "__cached__" 174 kN, kE P "bisect_right" 202 (.ref 23), kE P "insort_left" 215 (.ref 32), kE P "bisect_left" 229 (.ref 41), kE P "_netrclex" 289 (.ref 79), kE P "ENDMARKER" 293 (.int 0 292), kE P "LPAR" 295 (.int 7 294), kE P "RPAR" 297 (.int 8 296), kE P "LSQB" 299 (.int 9 298), kE P "RSQB" 301 (.int 10 300), kE P "COLON" 303 (.int 11 302), kE P "COMMA" 305 (.int 12 304), kE P "SEMI" 307 (.int 13 306), kE P "PLUS" 309 (.int 14 308), kE P "MINUS" 311 (.int 15 310), kE P "STAR" 313 (.int 16 312), kE P "SLASH" 315 (.int 17 314), kE P "VBAR" 317 (.int 18 316), kE P "AMPER" 319 (.int 19 318), kE P "LESS" 321 (.int 20 320), kE P "GREATER" 323 (.int 21 322), kE P "EQUAL" 325 (.int 22 324), kE P "DOT" 327 (.int 23 326), kE P "PERCENT" 329 (.int 24 328), kE P "LBRACE" 331 (.int 25 330), kE P "RBRACE" 333 (.int 26 332), kE P "EQEQUAL" 335 (.int 27 334), kE P "NOTEQUAL" 337 (.int 28 336), kE P "LESSEQUAL" 339 (.int 29 338), kE P "GREATEREQUAL" 341 (.int 30 340), kE P "TILDE" 343 (.int 31 342), kE P "CIRCUMFLEX" 345 (.int 32 344), kE P "LEFTSHIFT" 347 (.int 33 346), kE P "RIGHTSHIFT" 349 (.int 34 348), kE P "DOUBLESTAR" 351 (.int 35 350), kE P "PLUSEQUAL" 353 (.int 36 352), kE P "MINEQUAL" 355 (.int 37 354), kE P "STAREQUAL" 357 (.int 38 356), kE P "SLASHEQUAL" 359 (.int 39 358), kE P "PERCENTEQUAL" 361 (.int 40 360), kE P "AMPEREQUAL" 363 (.int 41 362), kE P "VBAREQUAL" 365 (.int 42 364), kE P "CIRCUMFLEXEQUAL" 367 (.int 43 366), kE P "LEFTSHIFTEQUAL" 369 (.int 44 368), kE P "RIGHTSHIFTEQUAL" 371 (.int 45 370), kE P "DOUBLESTAREQUAL" 373 (.int 46 372), kE P "DOUBLESLASH" 375 (.int 47 374), kE P "DOUBLESLASHEQUAL" 377 (.int 48 376), kE P "AT" 379 (.int 49 378), kE P "ATEQUAL" 381 (.int 50 380), kE P "RARROW" 383 (.int 51 382), kE P "ELLIPSIS" 385 (.int 52 384), kE P "COLONEQUAL" 387 (.int 53 386), kE P "EXCLAMATION" 389 (.int 54 388), kE P "NT_OFFSET" 391 (.int 256 390), kE P "EXACT_TOKEN_TYPES" 488 (.ref 84), kE P "ISNONTERMINAL" 495 (.ref 93), kE P "ISEOF" 502 (.ref 100), kE P "_law_bracketed" 512 (.ref 107), kE P "_law_changed" 518 (.ref 112), kE P "_law_pattern" 535 (.ref 119), kE P "_law_lexer" 544 (.ref 126), kE P "_law_number" 552 (.ref 133), kE P "_law_meets" 561 (.ref 140), kE P "_law_linked" 575 (.ref 147), kE P "_law_starred" 587 (.ref 154), kE P "_law_chain" 601 (.ref 161), kE P "_law_either" 613 (.ref 168), kE P "_law_led" 619 (.ref 173), kE P "_law_taken" 625 (.ref 178), kE P "law" 631 (.ref 183)]
noncomputable def es84 (P : Params) : List DictEntry := [kE P "!" 392 (.int 54 388), kE P "!=" 394 (.int 28 336), kE P "%" 396 (.int 24 328), kE P "%=" 398 (.int 40 360), kE P "&" 400 (.int 19 318), kE P "&=" 402 (.int 41 362), kE P "(" 404 (.int 7 294), kE P ")" 406 (.int 8 296), kE P "*" 408 (.int 16 312), kE P "**" 410 (.int 35 350), kE P "**=" 412 (.int 46 372), kE P "*=" 414 (.int 38 356), kE P "+" 416 (.int 14 308), kE P "+=" 418 (.int 36 352), kE P "," 420 (.int 12 304), kE P "-" 422 (.int 15 310), kE P "-=" 424 (.int 37 354), kE P "->" 426 (.int 51 382), kE P "." 428 (.int 23 326), kE P "..." 430 (.int 52 384), kE P "/" 432 (.int 17 314), kE P "//" 434 (.int 47 374), kE P "//=" 436 (.int 48 376), kE P "/=" 438 (.int 39 358), kE P ":" 440 (.int 11 302), kE P ":=" 442 (.int 53 386), kE P ";" 444 (.int 13 306), kE P "<" 446 (.int 20 320), kE P "<<" 448 (.int 33 346), kE P "<<=" 450 (.int 44 368), kE P "<=" 452 (.int 29 338), kE P "=" 454 (.int 22 324), kE P "==" 456 (.int 27 334), kE P ">" 458 (.int 21 322), kE P ">=" 460 (.int 30 340), kE P ">>" 461 (.int 34 348), kE P ">>=" 462 (.int 45 370), kE P "@" 463 (.int 49 378), kE P "@=" 464 (.int 50 380), kE P "[" 465 (.int 9 298), kE P "]" 466 (.int 10 300), kE P "^" 467 (.int 32 344), kE P "^=" 468 (.int 43 366), kE P "{" 469 (.int 25 330), kE P "|" 470 (.int 18 316), kE P "|=" 471 (.int 42 364), kE P "}" 472 (.int 26 332), kE P "~" 473 (.int 31 342)]
/-- the part of the heap behind the top that the law comes to -/
noncomputable def KH (P : Params) : Frag := [
  (2, ⟨.none, none, .dict #[] 0, #[]⟩),
  (3, ⟨(.type "dict"), none, .dict (es3 P).toArray 79, #[]⟩),
  (15, ⟨.type "tuple", none, .seq #[(.int 0 189), kN] 0, #[]⟩),
  (16, ⟨(.type "dict"), none, .dict #[kE P "key" 190 kN] 1, #[]⟩),
  (22, kC "bisect_right" "bisect_right" 191 2 4 1 17 200),
  (23, kF (stAt 1) "bisect_right" (.ref 15) (.ref 16) (kS "cpy313.bisect" 187) 22),
  (24, ⟨.type "tuple", none, .seq #[(.int 0 203), kN] 0, #[]⟩),
  (25, ⟨(.type "dict"), none, .dict #[kE P "key" 204 kN] 1, #[]⟩),
  (31, kC "insort_left" "insort_left" 205 22 4 1 26 213),
  (32, kF (stAt 2) "insort_left" (.ref 24) (.ref 25) (kS "cpy313.bisect" 187) 31),
  (33, ⟨.type "tuple", none, .seq #[(.int 0 216), kN] 0, #[]⟩),
  (34, ⟨(.type "dict"), none, .dict #[kE P "key" 217 kN] 1, #[]⟩),
  (40, kC "bisect_left" "bisect_left" 218 28 4 1 35 227),
  (41, kF (stAt 3) "bisect_left" (.ref 33) (.ref 34) (kS "cpy313.bisect" 187) 40),
  (54, kC "__init__" "_netrclex.__init__" 244 51 2 0 49 249),
  (55, kF (inAt 0) "_netrclex.__init__" kN kN (kS "cpy313.netrc" 230) 54),
  (61, kC "_read_char" "_netrclex._read_char" 252 57 1 0 56 257),
  (62, kF (inAt 1) "_netrclex._read_char" kN kN (kS "cpy313.netrc" 230) 61),
  (68, kC "get_token" "_netrclex.get_token" 260 63 1 0 63 267),
  (69, kF (inAt 2) "_netrclex.get_token" kN kN (kS "cpy313.netrc" 230) 68),
  (75, kC "push_token" "_netrclex.push_token" 270 90 2 0 70 275),
  (76, kF (inAt 3) "_netrclex.push_token" kN kN (kS "cpy313.netrc" 230) 75),
  (78, ⟨(.type "dict"), none, .dict #[kE P "__module__" 239 (kS "cpy313.netrc" 230), kE P "__firstlineno__" 243 (.int 49 242), kE P "__init__" 251 (.ref 55), kE P "_read_char" 259 (.ref 62), kE P "get_token" 269 (.ref 69), kE P "push_token" 277 (.ref 76), kE P "__static_attributes__" 282 (.ref 77), kE P "__dict__" 284 (.ref 80), kE P "__weakref__" 286 (.ref 81), kE P "__doc__" 287 kN] 4, #[]⟩),
  (79, ⟨.type "type", none, .cls { name := Str.ofString "_netrclex", bases := [.type "object"], mro := [.ref 79, .type "object"], ns := 78, qualname := Str.ofString "_netrclex" }, #[none, none, some (kS "_netrclex" 232), some (kS "_netrclex" 240), some (.builtin "object.__new__"), some (.bool true)]⟩),
  (80, ⟨.type "getset_descriptor", none, .fields #[(kS "__dict__" 283), (.ref 79), (.builtin "function.__dict__"), (.builtin "function.__dict__#set")], #[]⟩),
  (81, ⟨.type "getset_descriptor", none, .fields #[(kS "__weakref__" 285), (.ref 79), (.builtin "ExceptionGroup.__weakref__"), kN], #[]⟩),
  (84, ⟨(.type "dict"), none, .dict (es84 P).toArray 48, #[]⟩),
  (92, kC "ISNONTERMINAL" "ISNONTERMINAL" 489 144 1 0 87 493),
  (93, kF (stAt 58) "ISNONTERMINAL" kN kN (kS "cpy313.token" 290) 92),
  (99, kC "ISEOF" "ISEOF" 496 146 1 0 94 500),
  (100, kF (stAt 59) "ISEOF" kN kN (kS "cpy313.token" 290) 99),
  (106, kC "_law_bracketed" "_law_bracketed" 505 149 2 0 101 510),
  (107, kF (stAt 61) "_law_bracketed" kN kN (kS "law_rl0097_01" 503) 106),
  (111, kD "_law_changed" "_law_changed" 513 151 2 0 108 516),
  (112, kF (stAt 62) "_law_changed" kN kN (kS "law_rl0097_01" 503) 111),
  (118, kC "_law_pattern" "_law_pattern" 519 174 1 0 113 533),
  (119, kF (stAt 63) "_law_pattern" kN kN (kS "law_rl0097_01" 503) 118),
  (125, kC "_law_lexer" "_law_lexer" 536 188 1 0 120 542),
  (126, kF (stAt 64) "_law_lexer" kN kN (kS "law_rl0097_01" 503) 125),
  (132, kC "_law_number" "_law_number" 545 194 2 0 127 550),
  (133, kF (stAt 65) "_law_number" kN kN (kS "law_rl0097_01" 503) 132),
  (139, kC "_law_meets" "_law_meets" 553 200 2 0 134 559),
  (140, kF (stAt 66) "_law_meets" kN kN (kS "law_rl0097_01" 503) 139),
  (146, kC "_law_linked" "_law_linked" 562 206 4 0 141 573),
  (147, kF (stAt 67) "_law_linked" kN kN (kS "law_rl0097_01" 503) 146),
  (153, kC "_law_starred" "_law_starred" 576 213 4 0 148 585),
  (154, kF (stAt 68) "_law_starred" kN kN (kS "law_rl0097_01" 503) 153),
  (160, kC "_law_chain" "_law_chain" 588 225 4 0 155 599),
  (161, kF (stAt 69) "_law_chain" kN kN (kS "law_rl0097_01" 503) 160),
  (167, kC "_law_either" "_law_either" 602 234 4 0 162 611),
  (168, kF (stAt 70) "_law_either" kN kN (kS "law_rl0097_01" 503) 167),
  (172, kD "_law_led" "_law_led" 614 240 3 0 169 617),
  (173, kF (stAt 71) "_law_led" kN kN (kS "law_rl0097_01" 503) 172),
  (177, kD "_law_taken" "_law_taken" 620 247 1 0 174 623),
  (178, kF (stAt 72) "_law_taken" kN kN (kS "law_rl0097_01" 503) 177),
  (182, kD "law" "law" 626 264 1 0 179 629),
  (183, kF (stAt 73) "law" kN kN (kS "law_rl0097_01" 503) 182)]
noncomputable def asK : List Addr := [2, 3, 15, 16, 22, 23, 24, 25, 31, 32, 33, 34, 40, 41, 54, 55, 61, 62, 68, 69, 75, 76, 78, 79, 80, 81, 84, 92, 93, 99, 100, 106, 107, 111, 112, 118, 119, 125, 126, 132, 133, 139, 140, 146, 147, 153, 154, 160, 161, 167, 168, 172, 173, 177, 178, 182, 183]
theorem asK_eq : ∀ P, asK = (KH P).map (·.1) := fun P => by kernel_rfl
end Mine
end
section
namespace Mine
theorem om1 {a0 : Nat} {a1 : Nat} {a2 : Nat} {a3 : Nat} : (a1 ≤ a3) → (((a0 + ((8 : Nat) * a3)) + (8 : Nat)) < a2) → (((a0 + ((8 : Nat) * a1)) + (8 : Nat)) < a2) := by lia
theorem om2 {a0 : Nat} {a1 : Nat} : (a0 ≤ a1) → ((a0 + (1 : Nat)) ≤ (a1 + (1 : Nat))) := by lia
theorem om5 {a0 : Nat} {a1 : Nat} : (a0 ≤ a1) → ((min a0 a1) = a0) := by grind
theorem om6 {a0 : Nat} {a1 : Nat} : ((min (Int.toNat ((a0 : Nat) : Int)) a1) = a0) → (¬ (((a0 : Nat) : Int) < (0 : Int))) := by lia
theorem om7 {a0 : Nat} : (a0 < (29 : Nat)) → (a0 < (30 : Nat)) := by lia
theorem om8 {a0 : Nat} {a1 : Nat} : ((a0 + (1 : Nat)) ≤ a1) → (a0 ≤ a1) := by lia
theorem om9 {a0 : Nat} {a1 : Nat} : (a1 ≤ a0) → (¬ (a0 < a1)) := by lia
theorem om10 {a0 : Nat} {a1 : Nat} : (a0 < a1) → (a0 < (a1 + (1 : Nat))) := by lia
theorem om11 {a0 : Nat} {p0 : Prop} : (a0 < a0) → p0 := by lia
theorem om12 {a0 : Nat} {a1 : Nat} : (a0 ≤ a1) → (¬ (a1 = a0)) → ((a0 + (1 : Nat)) ≤ a1) := by lia
theorem om13 {a0 : Nat} : (a0 < (a0 + (1 : Nat))) := by omega
theorem om14  : ((0 : Nat) ≤ (16777216 : Nat)) := by lia
theorem om15 {a0 : Nat} {a1 : Nat} : ((a0 + (1 : Nat)) = a1) → (a0 < a1) := by omega
theorem om16 {a0 : Nat} {a1 : Nat} : (a0 ≤ a1) → (a0 = (min a0 a1)) := by grind
theorem om17 {a0 : Nat} {a1 : Nat} {a2 : Nat} : (a1 ≤ a0) → (a0 ≤ a2) → ((a0 - a1) ≤ (a2 - a1)) := by grind
theorem om18 {a0 : Nat} {a1 : Nat} : ((a0 - a1) ≤ (a0 - a1)) := by lia
theorem om19 {a0 : Nat} {a1 : Int} {p0 : Prop} : ((0 : Int) ≤ a1) → p0 → ((a0 - (Int.toNat a1)) ≤ (Int.toNat (((a0 : Nat) : Int) - a1))) := by omega
theorem om20 {a0 : Nat} {a1 : Nat} : ((a0 + (4 : Nat)) < a1) → (a0 < a1) := by lia
theorem om21 {a0 : Nat} {a1 : Nat} {a2 : Nat} : (((a0 + ((8 : Nat) * a2)) + (8 : Nat)) < a1) → (a0 < a1) := by lia
theorem om22 {a0 : Nat} {a1 : Nat} : ((a0 + (5 : Nat)) < a1) → (((a0 + (1 : Nat)) + (4 : Nat)) < a1) := by lia
theorem om23 {a0 : Nat} {a1 : Nat} {a2 : Nat} : (((a0 + ((8 : Nat) * a2)) + (8 : Nat)) < a1) → ((a0 + (5 : Nat)) < a1) := by lia
theorem om24 {a0 : Int} {a1 : Int} : (a1 < a0) → ((a0 - a1) = (((Int.toNat (a0 - a1)) : Nat) : Int)) := by grind
theorem om25 {a0 : Int} {a1 : Int} : (¬ (a1 < a0)) → ((0 : Int) = (((Int.toNat (a0 - a1)) : Nat) : Int)) := by lia
theorem om30 {a0 : Nat} {a1 : Nat} : (a0 ≤ a1) → (a1 = (16777216 : Nat)) → ((Int.toNat (((a0 : Nat) : Int) - (0 : Int))) = a0) := by lia
theorem om31 {a0 : Nat} {a1 : Nat} : (a1 = (16777216 : Nat)) → (a0 ≤ (1000 : Nat)) → (¬ (a0 > a1)) := by lia
theorem om34 {a0 : Nat} {a1 : Nat} {a2 : Nat} {a3 : Nat} {a4 : Nat} : ((a0 + a1) ≤ a2) → (a3 = a0) → (a4 = a1) → (¬ ((a0 + a1) > a2)) := by lia
theorem om35 {a0 : Nat} {a1 : Nat} {a2 : Nat} {a3 : Nat} {a4 : Nat} : ((a0 + a2) ≤ a1) → (a3 = a0) → (a4 = a2) → (a0 ≤ a1) := by lia
theorem om36 {a0 : Nat} {a1 : Nat} {a2 : Nat} {a3 : Nat} {a4 : Nat} : ((a0 + a1) ≤ a2) → (a3 = a0) → (a4 = a1) → ((a0 + a1) ≤ (a2 + (1 : Nat))) := by lia
theorem om37 {a0 : Nat} {a1 : Nat} {a2 : Nat} {a3 : Nat} : (a0 < a1) → (a2 = (a0 + (1 : Nat))) → (a3 = (a0 + (1 : Nat))) → ((a0 + (1 : Nat)) ≤ a1) := by lia
theorem om38 {a0 : Nat} {a1 : Nat} : (a0 = (a1 + (1 : Nat))) → (a0 ≤ (a1 + (1 : Nat))) := by lia
theorem om40 {a0 : Nat} {a1 : Nat} {a2 : Nat} : (a0 < a1) → (a2 = (a0 + (1 : Nat))) → ((a0 + (1 : Nat)) ≤ a1) := by lia
theorem om41 {a0 : Nat} {a1 : Nat} {p0 : Prop} : p0 → (a0 ≤ (a0 + a1)) := by omega
theorem om42 {a0 : Nat} {a1 : Nat} {p0 : Prop} {p1 : Prop} : (p0 ∧ p1) → (a0 ≤ (a0 + a1)) := by omega
theorem om43 {a0 : Nat} {a1 : Int} : ((0 : Int) ≤ a1) → ((-((a0 : Nat) : Int)) ≤ a1) := by lia
theorem om46 {a0 : Nat} {a1 : Nat} : (a0 ≤ (a1 + (1 : Nat))) → (a0 ≤ (a1 + (1 : Nat))) := by lia
theorem om47 {a0 : Nat} {a1 : Nat} : (a1 ≤ (100 : Nat)) → (a0 ≤ (a1 + (1 : Nat))) → (a0 ≤ (101 : Nat)) := by lia
theorem om48 {a0 : Nat} : (a0 ≤ (101 : Nat)) → (a0 ≤ ((16777216 : Nat) + (1 : Nat))) := by lia
theorem om49 {a0 : Nat} {a1 : Nat} {a2 : Nat} : ((a0 + (a1 + (1 : Nat))) < a2) → ((a0 + a1) < a2) := by lia
theorem om50 {a0 : Nat} {a1 : Nat} {a2 : Nat} : (((a0 + ((8 : Nat) * (a1 + (1 : Nat)))) + (8 : Nat)) < a2) → ((((a0 + (1 : Nat)) + ((8 : Nat) * a1)) + (8 : Nat)) < a2) := by lia
theorem om51  : (((((0 : Nat) + (1 : Nat)) + (0 : Nat)) + (0 : Nat)) ≤ (1 : Nat)) := by lia
theorem om52  : (((((0 : Nat) + (0 : Nat)) + (0 : Nat)) + (0 : Nat)) ≤ (1 : Nat)) := by lia
theorem om53 {a0 : Nat} {a1 : Nat} {a2 : Nat} {a3 : Nat} : (a1 ≤ (1 : Nat)) → ((a0 + (a2 + (1 : Nat))) < a3) → (((a0 + a1) + a2) < a3) := by lia
theorem om54  : (((((0 : Nat) + (1 : Nat)) + (1 : Nat)) + (1 : Nat)) ≤ ((16777216 : Nat) + (2 : Nat))) := by lia
theorem om55  : ((0 : Nat) < (3 : Nat)) := by lia
theorem om56  : ((1 : Nat) < (3 : Nat)) := by lia
theorem om57  : ((2 : Nat) < (3 : Nat)) := by lia
theorem om58 {a0 : Nat} {a1 : Nat} {a2 : Nat} : ((a0 + (a2 + (1 : Nat))) < a1) → (a0 < a1) := by lia
theorem om59 {a0 : Nat} {a1 : Nat} {a2 : Nat} : ((a0 + (a1 + (1 : Nat))) < a2) → (((a0 + (1 : Nat)) + a1) < a2) := by lia
theorem om60 {a0 : Nat} {a1 : Nat} {a2 : Nat} : (((a0 + ((8 : Nat) * (a1 + (1 : Nat)))) + (8 : Nat)) < a2) → ((((a0 + (3 : Nat)) + ((8 : Nat) * a1)) + (8 : Nat)) < a2) := by lia
theorem om62 {a0 : Int} : ((0 : Int) ≤ a0) → (¬ (a0 < (0 : Int))) := by omega
theorem om63 {a0 : Int} {a1 : Nat} {a2 : Nat} : ((0 : Int) ≤ a0) → (a1 ≤ a2) → ((Int.toNat a0) < a1) → (a2 = (16777216 : Nat)) → (((0 : Int) ≤ a0) ∧ (a0 < ((a1 : Nat) : Int))) := by lia
theorem om64 {a0 : Int} {a1 : Int} : ((0 : Int) ≤ a1) → (a1 < a0) → ((-a0) ≤ a1) := by lia
theorem om66 {a0 : Nat} : ((0 : Int) < (((a0 + (1 : Nat)) : Nat) : Int)) := by omega
theorem om67 {a0 : Nat} : (((((a0 + (1 : Nat)) : Nat) : Int) - (1 : Int)) = ((a0 : Nat) : Int)) := by lia
theorem om68 {a0 : Int} {a1 : Nat} : ((a0 + (((a1 + (1 : Nat)) : Nat) : Int)) = ((a0 + (1 : Int)) + ((a1 : Nat) : Int))) := by lia
theorem om69 {a0 : Nat} {a1 : Nat} {p0 : Prop} : p0 → ((a0 + (1 : Nat)) = a1) → (a0 < a1) := by lia
theorem om70 {a0 : Int} {a1 : Int} {a2 : Int} {p0 : Prop} : ((a0 < a0) ∨ ((a0 = a0) ∧ ((a1 < a1) ∨ ((a1 = a1) ∧ (a2 < a2))))) → p0 := by lia
theorem om71 {a0 : Nat} {a1 : Nat} : (a0 ≤ a1) → (a0 ≤ a1) := by lia
theorem om72 {a0 : Nat} {a1 : Nat} {a2 : Nat} : (a0 < (min a1 a2)) → (a0 < a1) := by lia
theorem om73 {a0 : Nat} {a1 : Nat} : (a0 ≤ a1) → (((min a0 a1) + ((a1 - a0) + (1 : Nat))) = (a1 + (1 : Nat))) := by grind
theorem om74 {a0 : Nat} {a1 : Nat} {a2 : Nat} {a3 : Nat} {a4 : Nat} : (a4 ≤ a3) → ((a0 < a1) ∧ (a1 ≤ (a0 + a2))) → ((a0 < a1) ∧ (a1 ≤ (a0 + (a2 + a3)))) := by lia
theorem om75 {a0 : Nat} {a1 : Nat} {a2 : Nat} {a3 : Nat} {a4 : Nat} : (a4 ≤ a2) → (((a0 + a2) < a1) ∧ (a1 ≤ ((a0 + a2) + a3))) → ((a0 < a1) ∧ (a1 ≤ (a0 + (a2 + a3)))) := by lia
theorem om76 {a0 : Nat} {a1 : Nat} {a2 : Nat} {a3 : Nat} : (a0 ≤ a2) → (a1 ≤ a3) → ((a0 + a1) ≤ (a2 + a3)) := by lia
theorem om77 {a0 : Nat} {a1 : Nat} {a2 : Nat} : (a0 ≤ a1) → (a0 ≤ (a1 + a2)) := by lia
theorem om78 {a0 : Nat} {a1 : Nat} {a2 : Nat} {a3 : Nat} : (a3 ≤ a1) → (a0 ≤ a2) → (a0 ≤ (a1 + a2)) := by lia
theorem om79 {a0 : Nat} {a1 : Nat} : (((1 : Nat) ≤ a1) ∧ (a1 ≤ (0 : Nat))) → (a0 ≤ (0 : Nat)) := by lia
theorem om80 {a0 : Nat} {a1 : Nat} : (a0 ≠ (a1 + (1 : Nat))) → (((1 : Nat) ≤ a0) ∧ (a0 ≤ (a1 + (1 : Nat)))) → (((1 : Nat) ≤ a0) ∧ (a0 ≤ a1)) := by lia
theorem om81 {a0 : Nat} {a1 : Nat} : ((a0 - (1 : Nat)) ≤ a1) → (a0 ≤ (a1 + (1 : Nat))) := by omega
theorem om82 {a0 : Nat} {a1 : Nat} : (((1 : Nat) ≤ a0) ∧ (a0 ≤ (a1 + (1 : Nat)))) → (a0 ≠ (a1 + (1 : Nat))) → (((1 : Nat) ≤ a0) ∧ (a0 ≤ a1)) := by omega
theorem om83 {a0 : Nat} {a1 : Nat} : (a0 ≤ a1) → (a0 ≤ (a1 + (1 : Nat))) := by grind
theorem om84 {a0 : Nat} {a1 : Nat} : (¬ ((a0 + a1) < a0)) := by lia
theorem om85 {a0 : Int} {a1 : Int} {a2 : Int} {a3 : Int} {a4 : Int} : (¬ ((a0 < a1) ∨ ((a0 = a1) ∧ ((a2 < a3) ∨ ((a2 = a3) ∧ (a4 < (1 : Int))))))) → (¬ ((a1 < a0) ∨ ((a1 = a0) ∧ ((a3 < a2) ∨ ((a3 = a2) ∧ ((4 : Int) < a4)))))) → (a0 = a1) := by omega
theorem om86 {a0 : Int} {a1 : Int} {a2 : Int} {a3 : Int} {a4 : Int} : (¬ ((a2 < a3) ∨ ((a2 = a3) ∧ ((a0 < a1) ∨ ((a0 = a1) ∧ (a4 < (1 : Int))))))) → (¬ ((a3 < a2) ∨ ((a3 = a2) ∧ ((a1 < a0) ∨ ((a1 = a0) ∧ ((4 : Int) < a4)))))) → (a0 = a1) := by grind
theorem om87 {a0 : Int} {a1 : Int} {a2 : Int} {a3 : Int} {a4 : Int} {p0 : Prop} : (a0 = a1) → (a2 = a3) → (((1 : Int) ≤ a4) ∧ (a4 ≤ (4 : Int))) → ((a0 < a1) ∨ ((a0 = a1) ∧ ((a2 < a3) ∨ ((a2 = a3) ∧ (a4 < (1 : Int)))))) → p0 := by omega
theorem om88 {a0 : Int} {a1 : Int} {a2 : Int} {a3 : Int} {a4 : Int} {p0 : Prop} : (a0 = a1) → (a2 = a3) → (((1 : Int) ≤ a4) ∧ (a4 ≤ (4 : Int))) → ((a1 < a0) ∨ ((a1 = a0) ∧ ((a3 < a2) ∨ ((a3 = a2) ∧ ((4 : Int) < a4))))) → p0 := by lia
theorem om89 {a0 : Nat} {a1 : Nat} : (¬ (a1 < a0)) → ((a0 + (a1 - a0)) = a1) := by omega
theorem om90 {a0 : Int} : (((1 : Int) ≤ a0) ∧ (a0 ≤ (4 : Int))) → ((((Int.toNat a0) : Nat) : Int) = a0) := by grind
theorem om91 {a0 : Int} {a1 : Int} {a2 : Int} {a3 : Int} {a4 : Int} {a5 : Int} {a6 : Nat} {a7 : Int} {p0 : Prop} {p1 : Prop} : ((a0 < a1) ∨ ((a0 = a1) ∧ ((a2 < a3) ∨ ((a2 = a3) ∧ (a4 < a5))))) → ((Int.toNat a4) = (Int.toNat a5)) → (p0 ∧ ((a0 = ((a6 : Nat) : Int)) ∧ (a2 = a7))) → (p1 ∧ ((a1 = ((a6 : Nat) : Int)) ∧ (a3 = a7))) → (((1 : Int) ≤ a4) ∧ (a4 ≤ (4 : Int))) → (((1 : Int) ≤ a5) ∧ (a5 ≤ (4 : Int))) → False := by grind
theorem om92 {a0 : Nat} : (((1 : Int) ≤ ((a0 : Nat) : Int)) ∧ (((a0 : Nat) : Int) ≤ (4 : Int))) → (((1 : Nat) ≤ a0) ∧ (a0 ≤ (4 : Nat))) := by omega
theorem om93 {a0 : Nat} : (((((0 : Nat) + (1 : Nat)) + (1 : Nat)) + (a0 * (2 : Nat))) = ((a0 + (1 : Nat)) * (2 : Nat))) := by lia
theorem om94 {a0 : Nat} {a1 : Nat} : (a0 ≤ a1) → ((a0 * (2 : Nat)) ≤ (a1 * (2 : Nat))) := by lia
theorem om95 {a0 : Nat} {a1 : Nat} {a2 : Nat} {a3 : Nat} {a4 : Nat} : (((a0 < a1) ∧ (a1 ≤ (a0 + a2))) ∧ ((a0 < a4) ∧ (a4 ≤ (a0 + a2)))) → (((a0 < a1) ∧ (a1 ≤ (a0 + (a2 + a3)))) ∧ ((a0 < a4) ∧ (a4 ≤ (a0 + (a2 + a3))))) := by lia
theorem om96 {a0 : Nat} {a1 : Nat} {a2 : Nat} {a3 : Nat} {a4 : Nat} : ((((a0 + a2) < a1) ∧ (a1 ≤ ((a0 + a2) + a3))) ∧ (((a0 + a2) < a4) ∧ (a4 ≤ ((a0 + a2) + a3)))) → (((a0 < a1) ∧ (a1 ≤ (a0 + (a2 + a3)))) ∧ ((a0 < a4) ∧ (a4 ≤ (a0 + (a2 + a3))))) := by omega
theorem om97 {a0 : Nat} {a1 : Nat} {a2 : Nat} {a3 : Nat} {a4 : Nat} : ((a0 < a1) ∧ (a1 ≤ (a0 + a2))) → (((a0 + a2) < a4) ∧ (a4 ≤ ((a0 + a2) + a3))) → (((a0 < a1) ∧ (a1 ≤ (a0 + (a2 + a3)))) ∧ ((a0 < a4) ∧ (a4 ≤ (a0 + (a2 + a3))))) := by lia
theorem om98 {a0 : Nat} {a1 : Nat} {a2 : Nat} {a3 : Nat} {a4 : Nat} {p0 : Prop} : (a3 ≤ (a1 + a2)) → ((((a1 + a2) < a3) ∧ (a3 ≤ ((a1 + a2) + a4))) ∧ (((a1 + a2) < a0) ∧ (a0 ≤ ((a1 + a2) + a4)))) → (p0 ∧ (a0 ≤ (a1 + a2))) := by grind
theorem om99 {a0 : Nat} {a1 : Nat} {a2 : Nat} {a3 : Nat} {p0 : Prop} {p1 : Prop} : (a0 ≤ (a1 + a2)) → (((a1 + a2) < a0) ∧ (a0 ≤ ((a1 + a2) + a3))) → (p0 ∨ p1) := by omega
theorem om100 {a0 : Nat} {a1 : Nat} {a2 : Nat} {a3 : Nat} {p0 : Prop} : (¬ (a3 ≤ (a1 + a2))) → (((a1 < a3) ∧ (a3 ≤ (a1 + a2))) ∧ ((a1 < a0) ∧ (a0 ≤ (a1 + a2)))) → (p0 ∧ (¬ (a0 ≤ (a1 + a2)))) := by omega
theorem om101 {a0 : Nat} {a1 : Nat} {a2 : Nat} {a3 : Nat} {a4 : Nat} : ((((a1 + a2) < a3) ∧ (a3 ≤ ((a1 + a2) + a4))) ∧ (((a1 + a2) < a0) ∧ (a0 ≤ ((a1 + a2) + a4)))) → (¬ (a0 ≤ (a1 + a2))) := by lia
theorem om102 {a0 : Nat} {a1 : Nat} {a2 : Nat} {a3 : Nat} : (((a1 + a2) < a0) ∧ (a0 ≤ ((a1 + a2) + a3))) → (¬ (a0 ≤ (a1 + a2))) := by grind
theorem om103 {a0 : Nat} {a1 : Nat} {a2 : Nat} {p0 : Prop} {p1 : Prop} : (¬ (a0 ≤ (a1 + a2))) → ((a1 < a0) ∧ (a0 ≤ (a1 + a2))) → (p0 ∨ p1) := by omega
theorem om104 {a0 : Nat} {a1 : Nat} {a2 : Nat} {a3 : Nat} {p0 : Prop} : (¬ (a3 ≤ (a1 + a2))) → ((a1 < a3) ∧ (a3 ≤ (a1 + a2))) → (p0 ∧ (¬ (a0 ≤ (a1 + a2)))) := by omega
theorem om105 {a0 : Nat} {a1 : Nat} {a2 : Nat} {a3 : Nat} {a4 : Nat} {p0 : Prop} {p1 : Prop} {p2 : Prop} : (a3 ≤ (a1 + a2)) → ((((a1 + a2) < a3) ∧ (a3 ≤ ((a1 + a2) + a4))) ∧ (((a1 + a2) < a0) ∧ (a0 ≤ ((a1 + a2) + a4)))) → ((p0 ∧ (a0 ≤ (a1 + a2))) ∨ (p1 ∧ p2)) := by omega
theorem om106 {a0 : Nat} {a1 : Nat} {a2 : Nat} {a3 : Nat} {p0 : Prop} : (a0 ≤ (a1 + a2)) → (((a1 + a2) < a0) ∧ (a0 ≤ ((a1 + a2) + a3))) → p0 := by lia
theorem om107 {a0 : Nat} {a1 : Nat} {a2 : Nat} {p0 : Prop} : (¬ (a0 ≤ (a1 + a2))) → ((a1 < a0) ∧ (a0 ≤ (a1 + a2))) → p0 := by omega
theorem om108 {a0 : Nat} {a1 : Nat} : (a0 ≤ (a0 + a1)) := by lia
theorem om109 {a0 : Nat} {a1 : Nat} {a2 : Nat} : ((((a0 + a1) + (1 : Nat)) + a2) = ((a0 + (1 : Nat)) + (a1 + a2))) := by lia
theorem om110 {a0 : Nat} {a1 : Nat} {p0 : Prop} : ((0 : Nat) < a1) → (a1 = (0 : Nat)) → (p0 ∧ ((0 : Nat) < a0)) := by lia
theorem om111 {a0 : Nat} {a1 : Nat} {p0 : Prop} : ((((0 : Nat) < (0 : Nat)) ∧ ((0 : Nat) ≤ ((0 : Nat) + a0))) ∧ (((0 : Nat) < a1) ∧ (a1 ≤ ((0 : Nat) + a0)))) → p0 := by omega
theorem om112 {a0 : Nat} {a1 : Nat} : ((Int.toNat (((a0 : Nat) : Int) + ((a1 : Nat) : Int))) = (a0 + a1)) := by lia
theorem om113 {a0 : Nat} {a1 : Nat} {a2 : Nat} : (a1 < ((a2 + (1 : Nat)) - a0)) → ((Int.toNat (((a0 : Nat) : Int) + ((a1 : Nat) : Int))) = (a0 + a1)) → ((a0 + a1) ≤ a2) := by lia
theorem om114 {a0 : Nat} {a1 : Nat} : ((Int.toNat (((a0 : Nat) : Int) + ((a1 : Nat) : Int))) = (a0 + a1)) → (a0 ≤ (a0 + a1)) := by lia
theorem om115 {a0 : Nat} {a1 : Nat} {a2 : Nat} : (a1 ≤ a0) → (a0 ≤ a2) → ((a0 - a1) < ((a2 + (1 : Nat)) - a1)) := by grind
theorem om116 {a0 : Nat} {a1 : Nat} : (a0 ≤ a1) → ((((a0 : Nat) : Int) + (((a1 - a0) : Nat) : Int)) = ((a1 : Nat) : Int)) := by grind
theorem om117 {a0 : Nat} {a1 : Nat} {p0 : Prop} : ((1 : Nat) ≤ a0) → (a1 = (a0 + a1)) → p0 := by omega
theorem om118 {a0 : Nat} {a1 : Nat} {p0 : Prop} : ((1 : Nat) ≤ a0) → ((a0 + a1) ≤ a1) → p0 := by lia
theorem om119 {a0 : Int} : (a0 = (2 : Int)) → (a0 ≥ (2 : Int)) := by lia
theorem om120 {a0 : Int} : (a0 = (1 : Int)) → (¬ (a0 ≥ (2 : Int))) := by lia
theorem om121 {a0 : Int} : (a0 = (0 : Int)) → (¬ (a0 ≥ (2 : Int))) := by lia
theorem om122 {a0 : Int} : (a0 = (2 : Int)) → (a0 ≥ (1 : Int)) := by lia
theorem om123 {a0 : Int} : (a0 = (1 : Int)) → (a0 ≥ (1 : Int)) := by omega
theorem om124 {a0 : Int} : (a0 = (0 : Int)) → (¬ (a0 ≥ (1 : Int))) := by omega
theorem om125 {a0 : Nat} {a1 : Nat} {a2 : Nat} : (a0 ≤ a2) → (a1 ≤ a2) → ((max a0 a1) ≤ (a2 + (1 : Nat))) := by grind
theorem om126 {a0 : Nat} {a1 : Nat} {a2 : Nat} : (a0 ≤ (a2 + (1 : Nat))) → (a1 ≤ (a2 + (1 : Nat))) → ((max a0 a1) ≤ (a2 + (1 : Nat))) := by lia
theorem om127 {a0 : Nat} {a1 : Nat} {a2 : Nat} {a3 : Nat} : ((a0 + (a1 + (a2 + a3))) = (4 : Nat)) → ((a0 + ((a1 + a2) + a3)) = (4 : Nat)) := by grind
theorem om128 {a0 : Nat} {a1 : Nat} {a2 : Nat} {a3 : Nat} : (a1 = (3 : Nat)) → (a3 = (3 : Nat)) → (a0 ≤ a2) → (((a0 + (1 : Nat)) + (1 : Nat)) ≤ ((a1 + a2) + a3)) := by lia
theorem om129 {a0 : Nat} {a1 : Nat} {a2 : Nat} : (a2 = (3 : Nat)) → (a0 ≤ a1) → ((a0 + (1 : Nat)) ≤ (a1 + a2)) := by lia
theorem om130 {a0 : Nat} {a1 : Nat} {a2 : Nat} {a3 : Nat} {a4 : Nat} : (a3 = (5 : Nat)) → (a1 ≤ a4) → (a0 ≤ a2) → ((a0 + (a1 + (1 : Nat))) ≤ ((a2 + a3) + a4)) := by lia
theorem om131 {a0 : Nat} {a1 : Nat} {a2 : Nat} {a3 : Nat} {a4 : Nat} : (a3 = (3 : Nat)) → (a1 ≤ a4) → (a0 ≤ a2) → ((a0 + (a1 + (1 : Nat))) ≤ ((a2 + a3) + a4)) := by lia
theorem om132 {a0 : Nat} {a1 : Nat} : (a0 < (4 : Nat)) → (a1 < (4 : Nat)) → ((min a0 a1) < (4 : Nat)) := by grind
theorem om133 {a0 : Nat} {a1 : Nat} : (a0 < (4 : Nat)) → (a1 < (4 : Nat)) → ((max a0 a1) < (4 : Nat)) := by lia
theorem om134 {a0 : Nat} {a1 : Nat} : (a0 ≠ a1) → ((min a0 a1) < (max a0 a1)) := by lia
theorem om135 {a0 : Nat} {a1 : Nat} : ((max a0 a1) < (min a0 a1)) → False := by grind
theorem om136 {a0 : Nat} {a1 : Nat} : ((min a0 a1) < (min a0 a1)) → False := by lia
theorem om137 {a0 : Nat} {a1 : Nat} : ((max a0 a1) < (max a0 a1)) → False := by lia
theorem om138 {a0 : Nat} {a1 : Nat} : (a0 < a1) → (a0 ≤ a1) := by lia
theorem om139 {a0 : Nat} {a1 : Nat} : (a1 ≥ a0) → (a0 ≤ a1) := by lia
theorem om140 {a0 : Nat} {a1 : Nat} : (((a0 : Nat) : Int) = ((a1 : Nat) : Int)) → (a0 = a1) := by lia
theorem om141 {a0 : Nat} : (((((0 : Nat) + (1 : Nat)) + a0) - (1 : Nat)) = a0) := by lia
theorem om142 {a0 : Nat} {a1 : Nat} : (a1 ≤ (8 : Nat)) → (a0 ≤ a1) → (a0 ≤ (8 : Nat)) := by lia
theorem om143 {a0 : Nat} {a1 : Nat} : (a1 ≤ (6000 : Nat)) → (a0 ≤ a1) → (a0 ≤ (30000 : Nat)) := by lia
theorem om144 {a0 : Nat} {a1 : Nat} {a2 : Nat} {a3 : Nat} {a4 : Nat} : (a3 ≤ (6000 : Nat)) → (a2 = (3 : Nat)) → (a4 = (1 : Nat)) → (((1 : Nat) ≤ a0) ∧ (a0 ≤ (5 : Nat))) → (((1 : Nat) ≤ a1) ∧ (a1 ≤ (5 : Nat))) → (((((a0 + a1) + a2) + a3) + a4) ≤ (30000 : Nat)) := by lia
theorem om145  : ((0 : Int) ≤ (0 : Int)) := by lia
theorem om146 {a0 : Nat} : ((0 : Int) ≤ ((a0 : Nat) : Int)) := by lia
theorem om147 {a0 : Nat} {a1 : Nat} : (a0 ≤ a1) → (((a0 : Nat) : Int) ≤ ((a1 : Nat) : Int)) := by omega
theorem om148 {a0 : Nat} : (((a0 : Nat) : Int) ≤ ((a0 : Nat) : Int)) := by lia
theorem om149 {a0 : Nat} : (a0 = (Int.toNat (((a0 : Nat) : Int) - (0 : Int)))) := by lia
theorem om150 {a0 : Int} {a1 : Int} {a2 : Int} : (a0 < a2) → (((a0 + a2) / (2 : Int)) = a1) → (a0 ≤ a1) := by lia
theorem om151 {a0 : Int} {a1 : Int} {a2 : Int} : (a2 < a1) → (((a2 + a1) / (2 : Int)) = a0) → (a0 < a1) := by lia
theorem om152 {a0 : Int} {a1 : Nat} {a2 : Int} {a3 : Int} : ((0 : Int) ≤ a2) → (a3 ≤ ((a1 : Nat) : Int)) → (((a2 + a3) / (2 : Int)) = a0) → (a2 ≤ a0) → (a0 < a3) → ((Int.toNat a0) < a1) := by grind
theorem om153 {a0 : Int} {a1 : Int} {a2 : Nat} {a3 : Int} : ((0 : Int) ≤ a1) → (((a2 : Nat) : Int) ≤ a3) → (((a1 + a3) / (2 : Int)) = a0) → ((0 : Int) ≤ a0) := by lia
theorem om154 {a0 : Int} {a1 : Int} {a2 : Nat} {a3 : Int} : (a2 = (Int.toNat (a0 - a3))) → (a3 < a0) → (((a3 + a0) / (2 : Int)) = a1) → (a3 ≤ a1) → (a1 < a0) → ((Int.toNat (a0 - (a1 + (1 : Int)))) < a2) := by omega
theorem om155 {a0 : Int} {a1 : Int} {a2 : Nat} {a3 : Int} : ((0 : Int) ≤ a1) → (((a2 : Nat) : Int) ≤ a3) → (((a1 + a3) / (2 : Int)) = a0) → ((0 : Int) ≤ (a0 + (1 : Int))) := by omega
theorem om156 {a0 : Int} {a1 : Nat} {a2 : Int} : ((0 : Int) ≤ a2) → (a2 ≤ a0) → ((Int.toNat a0) < a1) → ((a0 + (1 : Int)) ≤ ((a1 : Nat) : Int)) := by lia
theorem om157 {a0 : Nat} {a1 : Int} : (((a0 : Nat) : Int) ≤ a1) → (((a0 : Nat) : Int) ≤ a1) := by lia
theorem om158 {a0 : Int} {a1 : Nat} : (a0 ≤ ((a1 : Nat) : Int)) → (a0 ≤ ((a1 : Nat) : Int)) := by lia
theorem om159 {a0 : Int} {a1 : Int} {a2 : Nat} {a3 : Nat} {a4 : Int} : ((0 : Int) ≤ a1) → (a1 ≤ ((a3 : Nat) : Int)) → (a2 = (Int.toNat (a4 - a1))) → (a1 < a4) → (((a1 + a4) / (2 : Int)) = a0) → (a1 ≤ a0) → (a0 < a4) → (¬ ((Int.toNat a0) < a3)) → ((Int.toNat (a0 - a1)) < a2) := by grind
theorem om160 {a0 : Int} : ((0 : Int) ≤ a0) → ((0 : Int) ≤ a0) := by lia
theorem om161 {a0 : Nat} {a1 : Int} {a2 : Int} {a3 : Int} : ((0 : Int) ≤ a2) → (((a0 : Nat) : Int) ≤ a3) → (((a2 + a3) / (2 : Int)) = a1) → (a2 ≤ a1) → (¬ ((Int.toNat a1) < a0)) → (((a0 : Nat) : Int) ≤ a1) := by lia
theorem om162 {a0 : Int} {a1 : Nat} {a2 : Int} : (a2 ≤ ((a1 : Nat) : Int)) → (a0 < a2) → (a0 ≤ ((a1 : Nat) : Int)) := by lia
theorem om163 {a0 : Int} {a1 : Nat} {a2 : Int} : (a0 ≤ ((a1 : Nat) : Int)) → (((a1 : Nat) : Int) ≤ a2) → (¬ (a0 < a2)) → (a0 = ((a1 : Nat) : Int)) := by lia
theorem om164 {a0 : Nat} : ((5 : Nat) ≤ a0) → (a0 = ((a0 - (5 : Nat)) + (5 : Nat))) := by grind
theorem om165 {a0 : Nat} {a1 : Nat} {a2 : Nat} {a3 : Nat} : ((a0 + ((16 : Nat) * (a1 + a2))) ≤ (1000000 : Nat)) → (a3 = (a1 + a2)) → ((a0 + ((16 : Nat) * a1)) ≤ (1000000 : Nat)) := by lia
theorem om166 {a0 : Nat} {a1 : Nat} {a2 : Nat} {a3 : Nat} {a4 : Nat} : (a4 = (a3 + a1)) → (a0 ≤ (a2 + ((16 : Nat) * a3))) → ((a0 + ((16 : Nat) * a1)) ≤ (a2 + ((16 : Nat) * (a3 + a1)))) := by lia
theorem om167 {a0 : Nat} {a1 : Nat} {a2 : Nat} {a3 : Nat} : ((a0 + ((16 : Nat) * (0 : Nat))) ≤ (a1 + ((16 : Nat) * (a2 + a3)))) → (a0 ≤ (a1 + ((16 : Nat) * (a2 + a3)))) := by lia
theorem om168 {a0 : Nat} {a1 : Nat} {a2 : Nat} {a3 : Nat} {a4 : Nat} : ((a0 + (a1 + (a2 + (a3 + a4)))) ≤ (4 : Nat)) → (((a0 + a1) + a2) ≤ (4 : Nat)) := by lia
theorem om169 {a0 : Nat} {a1 : Nat} {a2 : Nat} {a3 : Nat} {a4 : Nat} {a5 : Nat} {a6 : Nat} : ((a2 + ((16 : Nat) * (a3 + a4))) ≤ (1000000 : Nat)) → (a5 = (a3 + a4)) → ((a0 + ((16 : Nat) * ((a1 + (1 : Nat)) + a6))) ≤ (a2 + ((16 : Nat) * (a3 + a4)))) → ((a0 + ((16 : Nat) * a1)) ≤ (1000000 : Nat)) := by lia
theorem om170 {a0 : Nat} : (a0 = (16777216 : Nat)) → ((3 : Nat) ≤ a0) := by lia
theorem om171 {a0 : Nat} {a1 : Nat} {a2 : Nat} {a3 : Nat} {a4 : Nat} {a5 : Nat} : (a2 = (16777216 : Nat)) → (((a3 + a4) + a5) ≤ (4 : Nat)) → (a0 ≤ a4) → (a1 ≤ a5) → ((a0 + a1) ≤ a2) := by lia
theorem om172 {a0 : Nat} {a1 : Nat} {a2 : Nat} {a3 : Nat} {a4 : Nat} {a5 : Nat} {a6 : Nat} {a7 : Nat} : (a5 = (a3 + a4)) → ((a6 + ((16 : Nat) * ((a7 + (1 : Nat)) + a1))) ≤ (a2 + ((16 : Nat) * (a3 + a4)))) → (a0 ≤ (a6 + ((16 : Nat) * a7))) → ((a0 + ((16 : Nat) * a1)) ≤ (a2 + ((16 : Nat) * (a3 + a4)))) := by lia
theorem om173 {a0 : Nat} {a1 : Nat} {a2 : Nat} : (a2 ≤ a1) → ((5 : Nat) ≤ ((a0 + ((3 : Nat) * a1)) + (6 : Nat))) := by lia
theorem om174 {a0 : Nat} {a1 : Nat} {a2 : Nat} : (a2 ≤ a1) → ((5 : Nat) ≤ ((a0 + ((3 : Nat) * a1)) + (7 : Nat))) := by lia
theorem om175 {a0 : Nat} : ((5 : Nat) ≤ (a0 + (5 : Nat))) := by lia
theorem om176 {a0 : Nat} {p0 : Prop} : ((a0 + (1 : Nat)) ≤ (0 : Nat)) → p0 := by lia
theorem om177 {a0 : Nat} {a1 : Nat} {a2 : Nat} : (a2 ≤ (a1 + (1 : Nat))) → ((5 : Nat) ≤ ((a0 + ((3 : Nat) * a1)) + (8 : Nat))) := by lia
theorem om178 {a0 : Nat} {a1 : Nat} : ((a0 + (1 : Nat)) ≤ (a1 + (1 : Nat))) → (a0 ≤ a1) := by grind
theorem om180 {a0 : Nat} {a1 : Nat} : (a1 = a0) → ((0 : Int) ≤ ((a0 : Nat) : Int)) := by lia
theorem om181 {a0 : Nat} {a1 : Nat} {a2 : Nat} {a3 : Nat} {a4 : Nat} : (a2 = a3) → (a0 = a4) → (a4 ≤ a1) → (((min a0 a1) - a2) ≤ a1) := by lia
theorem om183 {a0 : Int} : (((1 : Int) ≤ a0) ∧ (a0 ≤ (4 : Int))) → ((0 : Int) ≤ a0) := by lia
theorem om185  : ((0 : Nat) ≤ (2 : Nat)) := by lia
theorem om186  : ((1 : Nat) ≤ (2 : Nat)) := by lia
theorem om187 {a0 : Nat} {a1 : Nat} {a2 : Nat} : (a0 ≤ a2) → (a1 ≤ a2) → ((a0 + a1) ≤ (a2 * (2 : Nat))) := by lia
theorem om188  : ((1 : Nat) ≤ (1 : Nat)) := by lia
theorem om189  : ((0 : Nat) ≤ (1 : Nat)) := by lia
theorem om190 {a0 : Nat} {a1 : Nat} {a2 : Nat} : (a2 ≤ a1) → ((a0 + (4 : Nat)) ≤ ((a0 + ((3 : Nat) * a1)) + (9 : Nat))) := by lia
theorem om191 {a0 : Nat} : (a0 = (16777216 : Nat)) → ((1 : Nat) ≤ a0) := by lia
theorem om192 {a0 : Nat} : (a0 = (16777216 : Nat)) → ((0 : Nat) ≤ a0) := by lia
theorem om193 {a0 : Nat} : ((a0 + (1 : Nat)) ≤ (2 : Nat)) → (a0 ≤ (2 : Nat)) := by lia
theorem om194 {a0 : Nat} {a1 : Nat} : (((a0 + ((3 : Nat) * a1)) + (8 : Nat)) ≤ ((a0 + ((3 : Nat) * a1)) + (9 : Nat))) := by lia
theorem om195 {a0 : Nat} : (((16 : Nat) * a0) ≤ (900000 : Nat)) → (((0 : Nat) + ((16 : Nat) * a0)) ≤ (1000000 : Nat)) := by lia
theorem om196 {a0 : Nat} {a1 : Nat} {a2 : Nat} {a3 : Nat} : (a2 ≤ (4 : Nat)) → (((16 : Nat) * a3) ≤ (900000 : Nat)) → (a0 ≤ ((0 : Nat) + ((16 : Nat) * a3))) → (a1 ≤ a2) → ((a0 + ((1 : Nat) * a1)) ≤ (1000000 : Nat)) := by lia
theorem om197 {a0 : Nat} : (a0 ≤ (4 : Nat)) → (a0 ≤ (1000 : Nat)) := by lia
theorem om198  : ((1 : Nat) ≤ (1000 : Nat)) := by lia
theorem om199 {a0 : Nat} {a1 : Nat} : (a1 ≤ (4 : Nat)) → (a0 ≤ a1) → (a0 ≤ (1000 : Nat)) := by lia
theorem om200 {a0 : Nat} {a1 : Nat} : (((0 : Nat) < a0) ∧ (a0 ≤ ((0 : Nat) + a1))) → (((1 : Nat) ≤ a0) ∧ (a0 ≤ a1)) := by lia
theorem om201 {a0 : Nat} {a1 : Nat} : (((0 : Nat) < a0) ∧ (a0 ≤ ((0 : Nat) + a1))) → ((1 : Nat) ≤ a0) := by lia
theorem om202 {a0 : Nat} {a1 : Nat} : (((0 : Nat) < a0) ∧ (a0 ≤ ((0 : Nat) + a1))) → (a0 ≤ a1) := by lia
theorem om203 {a0 : Nat} {a1 : Nat} {a2 : Nat} : (a1 ≤ (4 : Nat)) → ((((0 : Nat) < a2) ∧ (a2 ≤ ((0 : Nat) + a1))) ∧ (((0 : Nat) < a0) ∧ (a0 ≤ ((0 : Nat) + a1)))) → (((1 : Int) ≤ ((a0 : Nat) : Int)) ∧ (((a0 : Nat) : Int) ≤ (4 : Int))) := by lia
theorem om204 {a0 : Nat} {a1 : Nat} : (a1 ≤ (4 : Nat)) → (((0 : Nat) < a0) ∧ (a0 ≤ ((0 : Nat) + a1))) → (((1 : Int) ≤ ((a0 : Nat) : Int)) ∧ (((a0 : Nat) : Int) ≤ (4 : Int))) := by lia
theorem om205 {a0 : Nat} {a1 : Nat} {a2 : Nat} {a3 : Nat} {a4 : Nat} : (a1 ≤ (4 : Nat)) → (((16 : Nat) * a2) ≤ (900000 : Nat)) → (a3 ≤ ((0 : Nat) + ((16 : Nat) * a2))) → (a4 ≤ a1) → (a0 ≤ (a3 + ((1 : Nat) * a4))) → (a0 ≤ (1000000 : Nat)) := by lia
theorem om206 {a0 : Nat} : (a0 = (16777216 : Nat)) → ((2 : Nat) ≤ a0) := by lia
theorem om207 {a0 : Nat} {a1 : Nat} : ((a0 + (a1 + (1 : Nat))) = (3 : Nat)) → ((a0 = (0 : Nat)) ∨ ((a0 = (1 : Nat)) ∨ (a0 = (2 : Nat)))) := by lia
theorem om208 {a0 : Nat} : (((2 : Nat) + ((2 : Nat) * a0)) = ((2 : Nat) * (a0 + (1 : Nat)))) := by lia
theorem om209 {a0 : Nat} {a1 : Nat} : (a1 ≤ (8 : Nat)) → (a0 ≤ a1) → (((2 : Nat) * a0) ≤ (16 : Nat)) := by lia
theorem om210 {a0 : Nat} {a1 : Nat} : ((2 : Nat) = (a0 + (a1 + (1 : Nat)))) → (a0 ≤ (2 : Nat)) := by lia
theorem om211 {a0 : Nat} {a1 : Nat} {a2 : Nat} {a3 : Nat} {a4 : Nat} {a5 : Nat} : (a2 = (16777216 : Nat)) → ((a3 + (a4 + (1 : Nat))) = (3 : Nat)) → ((a0 = a3) ∧ (a5 ≤ (4 : Nat))) → (a1 ≤ (1 : Nat)) → ((a0 + a1) ≤ a2) := by lia
theorem om212 {a0 : Nat} {a1 : Nat} {a2 : Nat} : (a2 = (16777216 : Nat)) → (a0 ≤ (16 : Nat)) → (a1 ≤ (2 : Nat)) → ((a0 + a1) ≤ a2) := by lia
theorem om213 {a0 : Nat} : (a0 ≤ (8 : Nat)) → (((2 : Nat) * a0) ≤ (16 : Nat)) := by lia
theorem om214 {a0 : Nat} {a1 : Nat} : (a1 = (16777216 : Nat)) → (a0 ≤ (16 : Nat)) → (a0 ≤ a1) := by lia
theorem om215 {a0 : Nat} {a1 : Nat} : (a1 = (16777216 : Nat)) → (a0 ≤ (4 : Nat)) → (a0 ≤ a1) := by lia
theorem om216 {a0 : Nat} {a1 : Nat} {a2 : Nat} : (a2 = (16777216 : Nat)) → (a1 ≤ (16 : Nat)) → (a0 ≤ (1000 : Nat)) → ((a0 + a1) ≤ a2) := by lia
theorem om217 {a0 : Nat} {a1 : Nat} : ((a0 + (a1 + (1 : Nat))) = (3 : Nat)) → (((a0 + (1 : Nat)) + a1) = (3 : Nat)) := by lia
theorem om218 {a0 : Nat} : ((a0 + (0 : Nat)) = (3 : Nat)) → (a0 = (3 : Nat)) := by lia
theorem om219  : ((2 : Nat) ≤ (100 : Nat)) := by lia
theorem om220 {a0 : Nat} {a1 : Nat} : (a0 ≤ (4 : Nat)) → (a1 = (16777216 : Nat)) → ((a0 + (1 : Nat)) ≤ a1) := by grind
theorem om221 {p0 : Prop} : p0 → ((4 : Nat) ≤ (4 : Nat)) := by lia
theorem om222 {a0 : Nat} {p0 : Prop} : p0 → (a0 ≤ (30000 : Nat)) → (((16 : Nat) * a0) ≤ (900000 : Nat)) := by lia
theorem om230 {a0 : Nat} {a1 : Nat} {p0 : Prop} : p0 → ((a0 + (1 : Nat)) < a1) → (a0 < a1) := by lia
theorem om231 {a0 : Nat} {p0 : Prop} : p0 → ((Int.toNat (((1 : Int) + ((a0 : Nat) : Int)) - (1 : Int))) = a0) := by lia
theorem om233 {a0 : Nat} {p0 : Prop} : p0 → ((Int.toNat ((1 : Int) + ((a0 : Nat) : Int))) = (a0 + (1 : Nat))) := by lia
theorem om235 {a0 : Nat} {p0 : Prop} : p0 → ((0 : Int) ≤ (((1 : Int) + ((a0 : Nat) : Int)) - (1 : Int))) := by lia
theorem om236 {a0 : Nat} {p0 : Prop} : p0 → ((0 : Int) ≤ ((1 : Int) + ((a0 : Nat) : Int))) := by lia
theorem om237 {a0 : Nat} {p0 : Prop} : p0 → (a0 < (a0 + (1 : Nat))) := by omega
theorem om238 {a0 : Nat} {p0 : Prop} : (a0 = (16777216 : Nat)) → p0 → ((0 : Nat) ≤ a0) := by omega
theorem om239 {a0 : Nat} {p0 : Prop} : (a0 = (16777216 : Nat)) → p0 → ((1 : Nat) ≤ a0) := by omega
theorem om240 {a0 : Nat} {p0 : Prop} : (a0 = (16777216 : Nat)) → p0 → (((4 : Nat) + (1 : Nat)) ≤ a0) := by lia
theorem om241 {a0 : Nat} {a1 : Nat} {a2 : Nat} : ((a1 + (6 : Nat)) ≤ a2) → (a0 = (3 : Nat)) → ((a0 + a1) ≤ a2) := by lia
theorem om242 {a0 : Nat} {a1 : Nat} {a2 : Nat} {a3 : Nat} : ((a1 + (6 : Nat)) ≤ a3) → (a0 = (3 : Nat)) → (a2 = (3 : Nat)) → (((a0 + a1) + a2) ≤ a3) := by lia
theorem om243 {a0 : Nat} {a1 : Nat} : ((1 : Nat) ≤ a0) → (a0 ≤ (4 : Nat)) → (a1 = (16777216 : Nat)) → (a0 ≤ a1) := by lia
theorem om244 {a0 : Nat} : ((1 : Nat) ≤ a0) → (a0 ≤ (4 : Nat)) → (((a0 : Nat) : Int) ≠ (0 : Int)) := by omega
theorem om245 {a0 : Nat} : ((1 : Nat) ≤ a0) → (a0 ≤ (4 : Nat)) → ((0 : Int) ≤ ((a0 : Nat) : Int)) := by lia
theorem om246 {a0 : Nat} : ((1 : Nat) ≤ a0) → (a0 ≤ (4 : Nat)) → ((0 : Int) < ((a0 : Nat) : Int)) := by omega
theorem om247 {a0 : Int} : ((0 : Int) ≤ a0) → (a0 = (((Int.toNat a0) : Nat) : Int)) := by omega
theorem om248 {a0 : Nat} {a1 : Nat} : (((a0 : Nat) : Int) < ((a1 : Nat) : Int)) → (a0 < a1) := by lia
theorem om249 {a0 : Nat} : ((0 : Int) ≤ ((a0 : Nat) : Int)) → ((0 : Int) ≤ ((a0 : Nat) : Int)) := by lia
theorem om250 {a0 : Nat} {a1 : Nat} : (a1 = (16777216 : Nat)) → (a0 ≤ (3 : Nat)) → (a0 ≤ a1) := by grind
theorem om255 {a0 : Nat} : (a0 ≤ (3 : Nat)) → ((Int.toNat ((((a0 : Nat) : Int) + (1 : Int)) - (1 : Int))) = ((a0 + (1 : Nat)) - (1 : Nat))) := by lia
theorem om256 {a0 : Nat} {a1 : Nat} : (a1 ≤ (3 : Nat)) → (a0 < ((a1 + (1 : Nat)) - (1 : Nat))) → (((0 : Int) ≤ ((((1 : Nat) : Nat) : Int) + ((a0 : Nat) : Int))) ∧ (((((1 : Nat) : Nat) : Int) + ((a0 : Nat) : Int)) ≤ ((a1 : Nat) : Int))) := by lia
theorem om257 {a0 : Nat} {a1 : Nat} : (((a0 + (1 : Nat)) + a1) ≤ (a0 + (a1 + (1 : Nat)))) := by lia
theorem om258 {a0 : Nat} {a1 : Nat} {a2 : Nat} {a3 : Nat} : (a1 = (16777216 : Nat)) → ((14 : Nat) = (a2 + (a3 + (1 : Nat)))) → (a0 ≤ ((1 : Nat) + a2)) → (a0 ≤ a1) := by lia
theorem om259 {a0 : Nat} {a1 : Nat} : (a1 = (16777216 : Nat)) → (a0 ≤ (1000000 : Nat)) → ((a0 + (6 : Nat)) ≤ a1) := by lia
theorem om260 {a0 : Nat} : (a0 ≤ (a0 + (6 : Nat))) := by lia
theorem om261 {a0 : Nat} {a1 : Nat} {a2 : Nat} : (a0 = (3 : Nat)) → (a2 = (3 : Nat)) → (((a0 + a1) + a2) ≤ (a1 + (6 : Nat))) := by lia
theorem om262 {a0 : Nat} {a1 : Nat} {a2 : Nat} {a3 : Nat} : (a2 = (16777216 : Nat)) → (a3 ≤ (1000000 : Nat)) → (a1 = (3 : Nat)) → (a0 ≤ (a3 + (6 : Nat))) → ((a0 + a1) ≤ a2) := by lia
theorem om263 {a0 : Nat} {a1 : Nat} {a2 : Nat} : ((1 : Nat) ≤ a1) → (a1 ≤ (4 : Nat)) → (a2 = (16777216 : Nat)) → (((a0 : Nat) : Int) < ((a1 : Nat) : Int)) → (((min a0 a1) + (1 : Nat)) ≤ a2) := by grind
theorem om264 {a0 : Nat} : ((0 : Int) ≤ (((a0 : Nat) : Int) + (1 : Int))) := by lia
theorem om265 {a0 : Nat} : ((((a0 : Nat) : Int) + (1 : Int)) = (((a0 + (1 : Nat)) : Nat) : Int)) := by lia
theorem om266 {a0 : Nat} {a1 : Nat} {a2 : Nat} : ((1 : Nat) ≤ a1) → (a1 ≤ (4 : Nat)) → (a2 = (16777216 : Nat)) → (((a0 : Nat) : Int) < ((a1 : Nat) : Int)) → ((((min a0 a1) + (1 : Nat)) + (a1 - (a0 + (1 : Nat)))) ≤ a2) := by grind
theorem om267 {a0 : Nat} {a1 : Nat} : (((a0 : Nat) : Int) < ((a1 : Nat) : Int)) → ((((min a0 a1) : Nat) : Int) = ((a0 : Nat) : Int)) := by omega
theorem om268 {a0 : Nat} : (((a0 : Nat) : Int) = (1 : Int)) → (a0 = (1 : Nat)) := by lia
theorem om269 {a0 : Nat} : (¬ (((a0 : Nat) : Int) = (1 : Int))) → ((((a0 : Nat) : Int) - (1 : Int)) ≠ (0 : Int)) := by lia
theorem om270 {a0 : Nat} : ((1 : Nat) ≤ a0) → (a0 ≤ (4 : Nat)) → ((0 : Int) ≤ (((a0 : Nat) : Int) - (1 : Int))) := by lia
theorem om271 {a0 : Nat} : ((1 : Nat) ≤ a0) → (a0 ≤ (4 : Nat)) → (¬ (((a0 : Nat) : Int) = (1 : Int))) → ((0 : Int) < (((a0 : Nat) : Int) - (1 : Int))) := by lia
theorem om272 {a0 : Nat} {a1 : Nat} : (((a0 : Nat) : Int) < (((a1 : Nat) : Int) - (1 : Int))) → ((a0 + (1 : Nat)) < a1) := by omega
theorem om273 {a0 : Nat} {a1 : Nat} : (((a0 : Nat) : Int) < (((a1 : Nat) : Int) - (1 : Int))) → (a0 < a1) := by lia
theorem om274 {a0 : Nat} : ((Int.toNat (((a0 : Nat) : Int) + (1 : Int))) = (a0 + (1 : Nat))) := by lia
theorem om275 {a0 : Nat} : ((Int.toNat (((a0 : Nat) : Int) + (1 : Int))) = (a0 + (1 : Nat))) → ((0 : Int) ≤ (((a0 : Nat) : Int) + (1 : Int))) := by lia
theorem om276 {a0 : Nat} : (a0 = (16777216 : Nat)) → ((15 : Nat) ≤ a0) := by lia
theorem om277 {a0 : Nat} {a1 : Nat} {a2 : Nat} : (a2 = (16777216 : Nat)) → (a0 ≤ (1000000 : Nat)) → (a1 = (3 : Nat)) → ((a0 + a1) ≤ a2) := by omega
theorem om278 {a0 : Nat} {a1 : Nat} {a2 : Nat} {a3 : Nat} : (a3 = (16777216 : Nat)) → (a0 ≤ (1000000 : Nat)) → (a2 ≤ (1000000 : Nat)) → (a1 = (3 : Nat)) → (((a0 + a1) + a2) ≤ a3) := by lia
theorem om279 {a0 : Nat} {a1 : Nat} {a2 : Nat} : ((1 : Nat) ≤ a1) → (a1 ≤ (4 : Nat)) → (a2 = (16777216 : Nat)) → (((a0 : Nat) : Int) < (((a1 : Nat) : Int) - (1 : Int))) → ((Int.toNat (((a0 : Nat) : Int) + (1 : Int))) = (a0 + (1 : Nat))) → (((min a0 a1) + (1 : Nat)) ≤ a2) := by grind
theorem om280 {a0 : Nat} : ((Int.toNat (((a0 : Nat) : Int) + (1 : Int))) = (a0 + (1 : Nat))) → ((0 : Int) ≤ (((a0 : Nat) : Int) + (2 : Int))) := by lia
theorem om281 {a0 : Nat} : ((((a0 : Nat) : Int) + (2 : Int)) = (((a0 + (2 : Nat)) : Nat) : Int)) := by lia
theorem om282 {a0 : Nat} {a1 : Nat} {a2 : Nat} : ((1 : Nat) ≤ a1) → (a1 ≤ (4 : Nat)) → (a2 = (16777216 : Nat)) → (((a0 : Nat) : Int) < (((a1 : Nat) : Int) - (1 : Int))) → ((Int.toNat (((a0 : Nat) : Int) + (1 : Int))) = (a0 + (1 : Nat))) → ((((min a0 a1) + (1 : Nat)) + (a1 - (a0 + (2 : Nat)))) ≤ a2) := by grind
theorem om283 {a0 : Nat} {a1 : Nat} : (((a0 : Nat) : Int) < (((a1 : Nat) : Int) - (1 : Int))) → ((Int.toNat (((a0 : Nat) : Int) + (1 : Int))) = (a0 + (1 : Nat))) → ((((min a0 a1) : Nat) : Int) = ((a0 : Nat) : Int)) := by lia
theorem om284 {a0 : Nat} : (a0 ≤ (3 : Nat)) → ((Int.toNat ((((a0 : Nat) : Int) + (1 : Int)) - (0 : Int))) = ((a0 + (1 : Nat)) - (0 : Nat))) := by lia
theorem om285 {a0 : Nat} {a1 : Nat} : (a1 = (16777216 : Nat)) → (a0 ≤ (3 : Nat)) → ((a0 + (1 : Nat)) ≤ a1) := by lia
theorem om286 {a0 : Nat} {a1 : Nat} : (a1 ≤ (3 : Nat)) → (a0 < ((a1 + (1 : Nat)) - (0 : Nat))) → (((0 : Int) ≤ ((((0 : Nat) : Nat) : Int) + ((a0 : Nat) : Int))) ∧ (((((0 : Nat) : Nat) : Int) + ((a0 : Nat) : Int)) ≤ ((a1 : Nat) : Int))) := by lia
theorem om287 {a0 : Nat} {a1 : Nat} {a2 : Nat} {a3 : Nat} : (a2 = (16777216 : Nat)) → (a3 ≤ (1000000 : Nat)) → (a1 = (5 : Nat)) → (a0 ≤ (a3 + (6 : Nat))) → ((a0 + a1) ≤ a2) := by lia
theorem om288 {a0 : Nat} {a1 : Nat} {a2 : Nat} {a3 : Nat} {a4 : Nat} {a5 : Nat} : (a3 = (16777216 : Nat)) → (a4 ≤ (1000000 : Nat)) → (a5 ≤ (1000000 : Nat)) → (a1 = (5 : Nat)) → (a0 ≤ (a4 + (6 : Nat))) → (a2 ≤ (a5 + (6 : Nat))) → (((a0 + a1) + a2) ≤ a3) := by lia
theorem om289 {a0 : Int} {a1 : Nat} {a2 : Nat} : ((1 : Nat) ≤ a1) → (a1 ≤ (4 : Nat)) → (¬ ((a0 % (3 : Int)) = (2 : Int))) → (¬ (((a1 : Nat) : Int) = (1 : Int))) → ((Int.toNat (((a2 : Nat) : Int) + (1 : Int))) = (a2 + (1 : Nat))) → (¬ ((a0 % (3 : Int)) = (0 : Int))) → ((a0 % (3 : Int)) = (1 : Int)) := by lia
theorem om290 {a0 : Nat} {a1 : Nat} {a2 : Nat} {a3 : Nat} : ((a3 + (17 : Nat)) ≤ a2) → (a1 = (3 : Nat)) → (a0 ≤ (a3 + (6 : Nat))) → (((a0 + a1) + (17 : Nat)) ≤ ((2 : Nat) * a2)) := by lia
theorem om291 {a0 : Nat} {a1 : Nat} {a2 : Nat} {a3 : Nat} : ((a0 + (17 : Nat)) ≤ a3) → ((a2 + (17 : Nat)) ≤ a3) → (a1 = (3 : Nat)) → ((((a0 + a1) + a2) + (17 : Nat)) ≤ ((2 : Nat) * a3)) := by lia
theorem om292 {a0 : Nat} {a1 : Nat} {a2 : Nat} {a3 : Nat} {a4 : Nat} {a5 : Nat} : ((a4 + (17 : Nat)) ≤ a3) → ((a5 + (17 : Nat)) ≤ a3) → (a1 = (5 : Nat)) → (a0 ≤ (a4 + (6 : Nat))) → (a2 ≤ (a5 + (6 : Nat))) → ((((a0 + a1) + a2) + (17 : Nat)) ≤ ((2 : Nat) * a3)) := by lia
theorem om293 {a0 : Nat} {a1 : Nat} {a2 : Nat} : ((a2 + (a1 + (1 : Nat))) ≤ (8 : Nat)) → (a0 ≤ (a2 + (1 : Nat))) → ((a0 + a1) ≤ (8 : Nat)) := by lia
theorem om294 {a0 : Nat} : ((a0 + (1 : Nat)) ≤ (3 : Nat)) → (a0 ≤ (3 : Nat)) := by lia
theorem om295 {a0 : Nat} {a1 : Nat} : ((a1 + (1 : Nat)) ≤ (3 : Nat)) → (a0 = (1 : Nat)) → (a0 ≤ ((1 : Nat) + a1)) := by lia
theorem om296 {a0 : Nat} {a1 : Nat} {a2 : Nat} : (a2 ≤ ((1 : Nat) + (a1 + (1 : Nat)))) → ((a0 + (1 : Nat)) ≤ a2) → (a0 ≤ ((1 : Nat) + a1)) := by lia
theorem om297 {a0 : Nat} {a1 : Nat} {a2 : Nat} : (a0 ≤ a2) → (a2 ≤ ((1 : Nat) + a1)) → (a1 = (3 : Nat)) → (a0 ≤ ((1 : Nat) + a1)) := by lia
theorem om298 {a0 : Nat} {a1 : Nat} : ((a0 + (a1 + (1 : Nat))) = (8 : Nat)) → (((a0 + (1 : Nat)) + a1) = (8 : Nat)) := by lia
theorem om299 {a0 : Nat} {a1 : Nat} : ((a0 + (17 : Nat)) ≤ ((2 : Nat) * ((22 : Nat) * a1))) → ((a0 + (17 : Nat)) ≤ ((22 : Nat) * (a1 * (2 : Nat)))) := by lia
theorem om300 {a0 : Nat} {a1 : Nat} : (a0 ≤ (63 : Nat)) → (a1 = (16777216 : Nat)) → (a0 ≤ a1) := by lia
theorem om301  : ((0 : Int) ≤ (6 : Int)) := by lia
theorem om302 {a0 : Nat} : (a0 = (16777216 : Nat)) → ((6 : Nat) ≤ a0) := by lia
theorem om303 {a0 : Nat} : (a0 ≤ (63 : Nat)) → ((min (6 : Nat) a0) ≤ (6 : Nat)) := by lia
theorem om304 {a0 : Nat} {a1 : Nat} : (a1 = (16777216 : Nat)) → (a0 ≤ (6 : Nat)) → (a0 ≤ a1) := by lia
theorem om305 {a0 : Nat} : (a0 ≤ (6 : Nat)) → ((0 : Int) ≤ ((a0 : Nat) : Int)) := by lia
theorem om306 {a0 : Nat} {a1 : Nat} : (a0 ≤ (63 : Nat)) → (a1 = (16777216 : Nat)) → (((min (6 : Nat) a0) + ((6 : Nat) - (min (6 : Nat) a0))) ≤ a1) := by grind
theorem om307 {a0 : Nat} : (a0 ≤ (63 : Nat)) → (((min (6 : Nat) a0) + ((6 : Nat) - (min (6 : Nat) a0))) = (6 : Nat)) := by lia
theorem om308 {a0 : Int} : ((0 : Int) ≤ (a0 % (4 : Int))) := by lia
theorem om309 {a0 : Int} : ((0 : Int) ≤ (a0 % (4 : Int))) → ((a0 % (4 : Int)) < (4 : Int)) := by lia
theorem om310 {a0 : Int} {a1 : Int} : ((a1 % (4 : Int)) = a0) → (a0 = (((Int.toNat a0) : Nat) : Int)) := by grind
theorem om311 {a0 : Nat} {a1 : Int} : ((0 : Int) ≤ (((((a0 : Nat) : Int) + (1 : Int)) + ((a1 / (4 : Int)) % (3 : Int))) % (4 : Int))) := by grind
theorem om312 {a0 : Nat} {a1 : Int} : ((0 : Int) ≤ (((((a0 : Nat) : Int) + (1 : Int)) + ((a1 / (4 : Int)) % (3 : Int))) % (4 : Int))) → ((((((a0 : Nat) : Int) + (1 : Int)) + ((a1 / (4 : Int)) % (3 : Int))) % (4 : Int)) < (4 : Int)) := by grind
theorem om313 {a0 : Nat} {a1 : Int} : ((((((a0 : Nat) : Int) + (1 : Int)) + ((a1 / (4 : Int)) % (3 : Int))) % (4 : Int)) ≠ ((a0 : Nat) : Int)) := by lia
theorem om314 {a0 : Int} {a1 : Nat} {a2 : Int} : ((((((a1 : Nat) : Int) + (1 : Int)) + ((a2 / (4 : Int)) % (3 : Int))) % (4 : Int)) = a0) → (a0 = (((Int.toNat a0) : Nat) : Int)) := by lia
theorem om315 {a0 : Nat} : (a0 = (16777216 : Nat)) → ((4 : Nat) ≤ a0) := by lia
theorem om316 {a0 : Nat} {a1 : Nat} : (((a0 : Nat) : Int) < ((a1 : Nat) : Int)) → (((a0 : Nat) : Int) = (((min a1 a0) : Nat) : Int)) := by grind
theorem om317 {a0 : Nat} {a1 : Nat} : (¬ (((a1 : Nat) : Int) < ((a0 : Nat) : Int))) → (((a0 : Nat) : Int) = (((min a0 a1) : Nat) : Int)) := by grind
theorem om318 {a0 : Nat} {a1 : Nat} : (((a0 : Nat) : Int) > ((a1 : Nat) : Int)) → (((a0 : Nat) : Int) = (((max a1 a0) : Nat) : Int)) := by lia
theorem om319 {a0 : Nat} {a1 : Nat} {a2 : Int} : ((((((a0 : Nat) : Int) + (1 : Int)) + ((a2 / (4 : Int)) % (3 : Int))) % (4 : Int)) = ((a1 : Nat) : Int)) → (¬ (((a1 : Nat) : Int) > ((a0 : Nat) : Int))) → (((a0 : Nat) : Int) = (((max a0 a1) : Nat) : Int)) := by lia
theorem om320 {a0 : Nat} {a1 : Nat} {a2 : Int} : ((a2 % (4 : Int)) = ((a0 : Nat) : Int)) → ((((((a0 : Nat) : Int) + (1 : Int)) + ((a2 / (4 : Int)) % (3 : Int))) % (4 : Int)) = ((a1 : Nat) : Int)) → ((0 : Int) ≤ (((min a0 a1) : Nat) : Int)) := by lia
theorem om321 {a0 : Nat} {a1 : Nat} {a2 : Int} : ((a2 % (4 : Int)) = ((a0 : Nat) : Int)) → ((((((a0 : Nat) : Int) + (1 : Int)) + ((a2 / (4 : Int)) % (3 : Int))) % (4 : Int)) = ((a1 : Nat) : Int)) → ((min a0 a1) < (4 : Nat)) := by grind
theorem om322 {a0 : Nat} {a1 : Nat} : (a1 = (16777216 : Nat)) → (a0 = (4 : Nat)) → (a0 ≤ a1) := by lia
theorem om323 {a0 : Nat} {a1 : Nat} {a2 : Int} : ((a2 % (4 : Int)) = ((a0 : Nat) : Int)) → ((((((a0 : Nat) : Int) + (1 : Int)) + ((a2 / (4 : Int)) % (3 : Int))) % (4 : Int)) = ((a1 : Nat) : Int)) → ((0 : Int) ≤ (((max a0 a1) : Nat) : Int)) := by lia
theorem om324 {a0 : Nat} {a1 : Nat} {a2 : Int} : ((a2 % (4 : Int)) = ((a0 : Nat) : Int)) → ((((((a0 : Nat) : Int) + (1 : Int)) + ((a2 / (4 : Int)) % (3 : Int))) % (4 : Int)) = ((a1 : Nat) : Int)) → ((max a0 a1) < (4 : Nat)) := by omega
theorem om325 {a0 : Nat} {a1 : Nat} : (a1 = (16777216 : Nat)) → (a0 = (6 : Nat)) → (a0 ≤ a1) := by lia
theorem om326 {a0 : Nat} : (((a0 : Nat) : Int) ≤ (100 : Int)) → ((0 : Int) ≤ ((a0 : Nat) : Int)) := by lia
theorem om327 {a0 : Nat} {a1 : Nat} {a2 : Nat} : (a1 = a0) → ((a0 + (a2 + (1 : Nat))) = (4 : Nat)) → ((a0 = (0 : Nat)) ∨ ((a0 = (1 : Nat)) ∨ ((a0 = (2 : Nat)) ∨ (a0 = (3 : Nat))))) := by lia
theorem om328 {a0 : Nat} {a1 : Nat} {a2 : Nat} : (a1 = a0) → ((a0 + (a2 + (1 : Nat))) = (4 : Nat)) → ((0 : Int) ≤ ((a0 : Nat) : Int)) := by lia
theorem om329 {a0 : Nat} {a1 : Int} : ((a0 ≤ (16 : Nat)) ∧ ((a1 ≠ (0 : Int)) ∧ ((0 : Int) ≤ a1))) → (a0 < (1073741824 : Nat)) := by omega
theorem om330 {a0 : Int} {a1 : Int} : ((a1 % (2 : Int)) = a0) → ((a0 = (0 : Int)) ∨ (a0 = (1 : Int))) := by lia
theorem om331 {a0 : Int} {a1 : Int} : ((a1 % (2 : Int)) = a0) → ((0 : Int) ≤ a0) := by lia
theorem om332 {a0 : Int} {a1 : Nat} {a2 : Int} : ((a2 % (2 : Int)) = a0) → (a1 = (2 : Nat)) → (a0 < ((a1 : Nat) : Int)) := by lia
theorem om333 {a0 : Nat} {a1 : Nat} : (a1 = (16777216 : Nat)) → (a0 = (2 : Nat)) → (a0 ≤ a1) := by lia
theorem om334 {a0 : Nat} {a1 : Nat} {a2 : Nat} {a3 : Nat} : (a1 = (16777216 : Nat)) → (a0 = a2) → ((a2 + (a3 + (1 : Nat))) = (4 : Nat)) → (a0 ≤ a1) := by lia
theorem om335 {a0 : Nat} {a1 : Nat} : ((a0 + (a1 + (1 : Nat))) = (4 : Nat)) → (((a0 + (1 : Nat)) + a1) = (4 : Nat)) := by lia
theorem om336 {a0 : Nat} {a1 : Nat} {a2 : Nat} : ((a1 + a2) = (4 : Nat)) → (a0 = a1) → (a2 = (0 : Nat)) → (a0 = (4 : Nat)) := by lia
theorem om337  : ((0 : Int) ≤ (1 : Int)) := by lia
theorem om338 {a0 : Nat} {a1 : Nat} : (a1 = (16777216 : Nat)) → (a0 = (5 : Nat)) → ((a0 + (3 : Nat)) ≤ a1) := by lia
theorem om339 {a0 : Nat} : (a0 = (5 : Nat)) → (a0 ≤ (5 : Nat)) := by lia
theorem om340  : ((3 : Nat) ≤ (3 : Nat)) := by lia
theorem om341 {a0 : Nat} : (a0 = (5 : Nat)) → (a0 = (5 : Nat)) := by lia
theorem om342 {a0 : Nat} : (a0 ≤ (5 : Nat)) → (a0 ≤ (5 : Nat)) := by lia
theorem om343 {a0 : Nat} {a1 : Nat} : (a1 ≤ (3 : Nat)) → (a0 ≤ ((1 : Nat) + a1)) → (a0 ≤ (4 : Nat)) := by lia
theorem om344 {a0 : Nat} {a1 : Nat} : ((a0 + a1) = (8 : Nat)) → (a0 ≤ (8 : Nat)) := by lia
theorem om346 {a0 : Nat} {a1 : Nat} {a2 : Int} : (((a0 : Nat) : Int) = a2) → ((1 : Nat) ≤ (a0 + (a1 + (1 : Nat)))) := by lia
theorem om347 {a0 : Nat} {a1 : Nat} {a2 : Int} : ((a2 % (3 : Int)) = (2 : Int)) → ((a2 % (3 : Int)) = (1 : Int)) → ((a0 = (1 : Nat)) ∨ ((a0 + (1 : Nat)) ≤ a1)) := by lia
theorem om348 {a0 : Nat} {a1 : Nat} : ((a0 + (17 : Nat)) ≤ a1) → ((a0 + (17 : Nat)) ≤ ((2 : Nat) * a1)) := by lia
theorem om349 {a0 : Nat} : (a0 ≤ (a0 + (1 : Nat))) := by lia
theorem om350 {a0 : Nat} {a1 : Nat} {a2 : Int} : ((a2 % (3 : Int)) = (0 : Int)) → ((a2 % (3 : Int)) = (1 : Int)) → ((a0 = (1 : Nat)) ∨ ((a0 + (1 : Nat)) ≤ a1)) := by lia
theorem om351 {a0 : Nat} {a1 : Nat} : (((a0 + (a1 + (1 : Nat))) + (1 : Nat)) ≤ (a0 + ((a1 + (1 : Nat)) + (1 : Nat)))) := by lia
theorem om352 {a0 : Nat} {a1 : Nat} : (a0 ≤ (3 : Nat)) → ((0 : Nat) = (a1 + a0)) → (a0 = (0 : Nat)) := by lia
theorem om353 {a0 : Nat} {a1 : Nat} {p0 : Prop} : (a0 = (0 : Nat)) → (((a1 + (1 : Nat)) + (1 : Nat)) ≤ ((1 : Nat) + a0)) → p0 := by lia
theorem om355 {a0 : Nat} {a1 : Int} : ((a1 % (4 : Int)) = ((a0 : Nat) : Int)) → (a0 < (4 : Nat)) := by lia
theorem om356 {a0 : Nat} {a1 : Nat} {a2 : Int} : ((((((a1 : Nat) : Int) + (1 : Int)) + ((a2 / (4 : Int)) % (3 : Int))) % (4 : Int)) = ((a0 : Nat) : Int)) → (a0 < (4 : Nat)) := by grind
theorem om357 {a0 : Nat} {a1 : Nat} {a2 : Nat} : (a2 = (16777216 : Nat)) → (a0 ≤ (5 : Nat)) → (a1 ≤ (5 : Nat)) → ((a0 + a1) ≤ a2) := by lia
theorem om358 {a0 : Nat} {a1 : Nat} {a2 : Nat} {a3 : Nat} : (a3 = (16777216 : Nat)) → (a0 ≤ (5 : Nat)) → (a1 ≤ (5 : Nat)) → (a2 = (3 : Nat)) → (((a0 + a1) + a2) ≤ a3) := by lia
theorem om359 {a0 : Nat} {a1 : Nat} {a2 : Nat} {a3 : Nat} {a4 : Nat} : (a4 = (16777216 : Nat)) → (a3 ≤ (6000 : Nat)) → (a0 ≤ (5 : Nat)) → (a1 ≤ (5 : Nat)) → (a2 = (3 : Nat)) → ((((a0 + a1) + a2) + a3) ≤ a4) := by lia
theorem om360 {a0 : Nat} {a1 : Nat} {a2 : Nat} {a3 : Nat} {a4 : Nat} {a5 : Nat} : (a5 = (16777216 : Nat)) → (a3 ≤ (6000 : Nat)) → (a0 ≤ (5 : Nat)) → (a1 ≤ (5 : Nat)) → (a2 = (3 : Nat)) → (a4 = (1 : Nat)) → (((((a0 + a1) + a2) + a3) + a4) ≤ a5) := by lia
theorem om361 {a0 : Nat} {a1 : Nat} {a2 : Int} : ((((((a0 : Nat) : Int) + (1 : Int)) + ((a2 / (4 : Int)) % (3 : Int))) % (4 : Int)) = ((a1 : Nat) : Int)) → (a0 ≠ a1) := by lia
theorem om362  : ((4 : Nat) ≤ (100 : Nat)) := by lia
theorem om363 {a0 : Nat} : (((3 : Int) - ((a0 : Nat) : Int)) = (((3 : Int) - (((a0 + (1 : Nat)) : Nat) : Int)) + (1 : Int))) := by lia
theorem om364 {a0 : Nat} {a1 : Nat} : (a0 ≤ (9 : Nat)) → (a1 = (16777216 : Nat)) → (a0 ≤ a1) := by lia
theorem om365 {a0 : Nat} {a1 : Nat} : (a1 = (16777216 : Nat)) → (a0 ≤ (8 : Nat)) → (a0 < a1) := by lia
theorem om366 {a0 : Nat} : (a0 ≤ (30000 : Nat)) → (a0 ≤ (60000 : Nat)) := by lia
theorem om367 {a0 : Nat} : (a0 ≤ (29999 : Nat)) → (a0 ≤ (30000 : Nat)) := by lia
theorem om368 {a0 : Nat} : ((a0 + (1 : Nat)) ≤ (30000 : Nat)) → (((0 : Nat) + a0) ≤ (30000 : Nat)) := by lia
theorem om369 {a0 : Nat} {a1 : Nat} : ((a1 + a0) ≤ (30000 : Nat)) → (a0 ≤ (60000 : Nat)) := by lia
theorem om370 {a0 : Nat} : ((a0 + (2 : Nat)) ≤ (a0 + (3 : Nat))) := by lia
theorem om371 {a0 : Nat} {a1 : Nat} : ((a1 + ((a0 + (1 : Nat)) + (1 : Nat))) ≤ (30000 : Nat)) → ((a0 + (1 : Nat)) ≤ (60000 : Nat)) := by lia
theorem om372 {a0 : Nat} {a1 : Nat} {a2 : Nat} : (a1 = (16777216 : Nat)) → ((a0 + ((a2 + (1 : Nat)) + (1 : Nat))) ≤ (30000 : Nat)) → ((a0 + (1 : Nat)) ≤ a1) := by lia
theorem om373 {a0 : Nat} : (a0 < ((a0 + (1 : Nat)) + (1 : Nat))) := by lia
theorem om374 {a0 : Nat} {a1 : Nat} : ((a0 + ((a1 + (1 : Nat)) + (1 : Nat))) ≤ (30000 : Nat)) → (((a0 + (1 : Nat)) + a1) ≤ (30000 : Nat)) := by lia
theorem om375 {a0 : Nat} {a1 : Nat} {a2 : Nat} : (a1 = (16777216 : Nat)) → ((a0 + (a2 + (1 : Nat))) ≤ (30000 : Nat)) → ((a0 + (1 : Nat)) ≤ a1) := by lia
theorem om376 {a0 : Nat} {a1 : Nat} : ((a0 + (a1 + (1 : Nat))) ≤ (30000 : Nat)) → (((a0 + (1 : Nat)) + a1) ≤ (30000 : Nat)) := by lia
theorem om377 {a0 : Nat} : (((a0 + (1 : Nat)) + (1 : Nat)) ≤ (30000 : Nat)) → ((a0 + (1 : Nat)) ≤ (60000 : Nat)) := by lia
theorem om378 {a0 : Nat} : (a0 = (16777216 : Nat)) → (((0 : Nat) + (1 : Nat)) ≤ a0) := by lia
theorem om379 {a0 : Nat} : (((a0 + (1 : Nat)) + (1 : Nat)) ≤ (30000 : Nat)) → ((((0 : Nat) + (1 : Nat)) + a0) ≤ (30000 : Nat)) := by lia
theorem om380 {a0 : Nat} : ((a0 + (1 : Nat)) ≤ (30000 : Nat)) → ((((0 : Nat) + (1 : Nat)) + a0) ≤ (30000 : Nat)) := by lia
theorem om381  : ((1 : Nat) ≤ (100 : Nat)) := by lia
theorem om382  : ((3 : Nat) ≤ (100 : Nat)) := by lia
theorem om383 {a0 : Nat} {a1 : Nat} : (a0 ≤ (30000 : Nat)) → (a1 = (16777216 : Nat)) → (a0 ≤ a1) := by lia
theorem om384 {a0 : Nat} {a1 : Nat} : (a1 = (16777216 : Nat)) → (a0 ≤ (60000 : Nat)) → (a0 ≤ a1) := by lia
theorem om385 {a0 : Nat} {a1 : Nat} : (a1 = (16777216 : Nat)) → (a0 ≤ (59999 : Nat)) → (a0 < a1) := by lia
theorem om386 {a0 : Nat} {a1 : Nat} : (a0 ≤ (100 : Nat)) → (a1 = (16777216 : Nat)) → (a0 ≤ a1) := by lia
theorem om387 {a0 : Nat} {a1 : Nat} : (a0 ≤ a1) → (a0 ≤ ((a1 + (1 : Nat)) + (1 : Nat))) := by grind
theorem om388 {a0 : Nat} {a1 : Nat} : (a0 ≤ (a1 + (1 : Nat))) → (a0 ≤ ((a1 + (1 : Nat)) + (1 : Nat))) := by lia
theorem om389 {a0 : Nat} {a1 : Nat} : (a1 ≤ (30000 : Nat)) → (a0 ≤ a1) → (a0 ≤ (30000 : Nat)) := by lia
theorem om390  : ((1 : Nat) ≤ (9 : Nat)) := by lia
theorem om391 {a0 : Nat} : ((1 : Nat) ≤ a0) → ((Int.toNat (((a0 : Nat) : Int) - (1 : Int))) = (a0 - (1 : Nat))) := by lia
theorem om392 {a0 : Nat} {a1 : Nat} : ((1 : Nat) ≤ a0) → (a0 ≤ a1) → ((a0 - (1 : Nat)) < a1) := by grind
theorem om393 {a0 : Nat} : ((1 : Nat) ≤ a0) → ((0 : Int) ≤ (((a0 : Nat) : Int) - (1 : Int))) := by lia
theorem om394 {a0 : Nat} {a1 : Nat} : (a0 ≤ (1000 : Nat)) → (a1 = (16777216 : Nat)) → (a0 ≤ a1) := by grind
theorem om395 {a0 : Nat} {a1 : Nat} {a2 : Nat} {a3 : Nat} {a4 : Nat} {a5 : Nat} {a6 : Nat} : ((a1 + a2) ≤ (1000000 : Nat)) → (a3 ≤ (a1 + a4)) → (a0 ≤ (a3 + a5)) → ((a4 + a6) ≤ a2) → ((a5 + (1 : Nat)) ≤ a6) → (a0 ≤ (1000000 : Nat)) := by lia
theorem om397 {a0 : Nat} {a1 : Nat} : (a1 = a0) → ((0 : Int) ≤ (((a0 : Nat) : Int) + (1 : Int))) := by lia
theorem om398 {a0 : Nat} {a1 : Nat} : (a1 = a0) → ((Int.toNat (((a0 : Nat) : Int) + (1 : Int))) = (a0 + (1 : Nat))) := by lia
theorem om399 {a0 : Nat} {a1 : Nat} : (a0 < a1) → (a0 ≤ (min a0 a1)) := by lia
theorem om400 {a0 : Nat} {a1 : Nat} : (a0 < a1) → ((min a0 a1) ≤ a0) := by lia
theorem om401 {a0 : Nat} {a1 : Nat} : (a1 ≤ a0) → (¬ (a1 < a0)) → (a0 ≤ a1) := by omega
theorem om402 {a0 : Nat} {a1 : Nat} : (a0 ≤ a1) → (¬ (a0 < a1)) → (((min (a0 + (1 : Nat)) a1) - a0) ≠ (1 : Nat)) := by grind
theorem om403 {a0 : Nat} {a1 : Nat} {a2 : Nat} : (a0 ≤ (a1 + a2)) → (a0 ≤ (a1 + (a2 + (1 : Nat)))) := by lia
theorem om404 {a0 : Nat} {a1 : Nat} {a2 : Nat} : (a0 ≤ (a1 + a2)) → ((a0 + (1 : Nat)) ≤ (a1 + (a2 + (1 : Nat)))) := by lia
theorem om405 {a0 : Nat} {a1 : Nat} {a2 : Nat} {a3 : Nat} {a4 : Nat} : (a4 ≤ (a1 + a2)) → (a0 ≤ (a4 + a3)) → (a0 ≤ (a1 + (a2 + a3))) := by grind
theorem om406 {a0 : Nat} : ((a0 + (4 : Nat)) ≤ (a0 + (5 : Nat))) := by lia
theorem om407 {a0 : Nat} {a1 : Nat} {a2 : Nat} : ((a0 + (a1 + a2)) ≤ (4 : Nat)) → (a0 ≤ (4 : Nat)) := by lia
theorem om408 {a0 : Nat} {a1 : Nat} {a2 : Nat} : (a1 = (16777216 : Nat)) → (a0 ≤ (4 : Nat)) → (a2 = (a0 + (1 : Nat))) → ((a0 + (1 : Nat)) ≤ a1) := by lia
theorem om409 {a0 : Nat} {a1 : Nat} : (a0 ≤ (a0 + ((16 : Nat) * a1))) := by lia
theorem om410 {a0 : Nat} {a1 : Nat} {a2 : Nat} : ((a0 + ((16 : Nat) * ((a1 + (2 : Nat)) + a2))) ≤ (1000000 : Nat)) → ((a0 + ((16 : Nat) * a1)) ≤ (1000000 : Nat)) := by lia
theorem om411 {a0 : Nat} {a1 : Nat} {a2 : Nat} : (a0 ≤ (a1 + ((16 : Nat) * a2))) → (a0 ≤ (a1 + ((16 : Nat) * (a2 + (2 : Nat))))) := by lia
theorem om412 {a0 : Nat} {a1 : Nat} {a2 : Nat} {a3 : Nat} : (a0 ≤ (a2 + ((16 : Nat) * a3))) → ((a0 + ((16 : Nat) * a1)) ≤ (a2 + ((16 : Nat) * (a3 + a1)))) := by lia
theorem om413 {a0 : Nat} {a1 : Nat} {a2 : Nat} : ((a1 + (a0 + a2)) ≤ (4 : Nat)) → (a0 ≤ (4 : Nat)) := by lia
theorem om414 {a0 : Nat} {a1 : Nat} {a2 : Nat} : ((a0 + (a1 + a2)) ≤ (4 : Nat)) → ((a0 + a1) ≤ (4 : Nat)) := by lia
theorem om415 {a0 : Nat} {a1 : Nat} {a2 : Nat} {a3 : Nat} {a4 : Nat} {a5 : Nat} : ((a2 + ((16 : Nat) * (a3 + a4))) ≤ (1000000 : Nat)) → ((a0 + ((16 : Nat) * (a5 + (1 : Nat)))) ≤ (a2 + ((16 : Nat) * (a3 + a4)))) → (a1 ≤ (16 : Nat)) → ((a0 + a1) ≤ (1000000 : Nat)) := by lia
theorem om416 {a0 : Nat} {a1 : Nat} : ((a0 + a1) ≤ (4 : Nat)) → ((a0 + a1) ≤ (1000 : Nat)) := by lia
theorem om417 {a0 : Nat} {a1 : Nat} {a2 : Nat} : ((a1 + a2) ≤ (4 : Nat)) → (a0 ≤ a2) → (a0 ≤ (1000 : Nat)) := by lia
theorem om418 {a0 : Nat} {a1 : Nat} {a2 : Nat} : ((a1 < a0) ∧ (a0 ≤ (a1 + a2))) → (((1 : Nat) ≤ a0) ∧ (a0 ≤ (a1 + a2))) := by lia
theorem om419 {a0 : Nat} {a1 : Nat} {a2 : Nat} {a3 : Nat} {a4 : Nat} {a5 : Nat} {a6 : Nat} : ((a5 + ((16 : Nat) * (a1 + (1 : Nat)))) ≤ (a2 + ((16 : Nat) * (a3 + a4)))) → (a6 ≤ (16 : Nat)) → (a0 ≤ (a5 + a6)) → ((a0 + ((16 : Nat) * a1)) ≤ (a2 + ((16 : Nat) * (a3 + a4)))) := by lia
theorem om420 {a0 : Nat} {a1 : Nat} {a2 : Nat} : ((a1 < a0) ∧ (a0 ≤ (a1 + a2))) → ((1 : Nat) ≤ a0) := by lia
theorem om421 {a0 : Nat} {a1 : Nat} {a2 : Nat} : ((a1 < a0) ∧ (a0 ≤ (a1 + a2))) → (a0 ≤ (a1 + a2)) := by lia
theorem om422 {a0 : Nat} {a1 : Nat} {a2 : Nat} {a3 : Nat} {a4 : Nat} : (((a1 + a2) + a3) ≤ (4 : Nat)) → (a0 ≤ a2) → (a4 ≤ a3) → (a0 ≤ (4 : Nat)) := by lia
theorem om423 {a0 : Nat} {a1 : Nat} {a2 : Nat} {a3 : Nat} {a4 : Nat} : (((a1 + a2) + a3) ≤ (4 : Nat)) → (a4 ≤ a2) → (a0 ≤ a3) → (a0 ≤ (4 : Nat)) := by lia
theorem om424 {a0 : Nat} {a1 : Nat} {a2 : Nat} {a3 : Nat} {a4 : Nat} {a5 : Nat} {a6 : Nat} {a7 : Nat} {a8 : Nat} : ((a2 + ((16 : Nat) * (a3 + a4))) ≤ (1000000 : Nat)) → (a5 = (a3 + a4)) → ((a6 + ((16 : Nat) * ((a7 + (1 : Nat)) + a8))) ≤ (a2 + ((16 : Nat) * (a3 + a4)))) → (a0 ≤ (a6 + ((16 : Nat) * a7))) → (a1 ≤ (16 : Nat)) → ((a0 + a1) ≤ (1000000 : Nat)) := by lia
theorem om425 {a0 : Nat} {a1 : Nat} {a2 : Nat} : (((a0 + a1) + a2) ≤ (4 : Nat)) → (((a0 + a1) + a2) ≤ (1000 : Nat)) := by lia
theorem om426 {a0 : Nat} {a1 : Nat} {a2 : Nat} {a3 : Nat} {a4 : Nat} : (((a1 + a2) + a3) ≤ (4 : Nat)) → (a0 ≤ a2) → (a4 ≤ a3) → (a0 ≤ (1000 : Nat)) := by lia
theorem om427 {a0 : Nat} {a1 : Nat} {a2 : Nat} {a3 : Nat} {a4 : Nat} : (((a1 + a2) + a3) ≤ (4 : Nat)) → (a4 ≤ a2) → (a0 ≤ a3) → (a0 ≤ (1000 : Nat)) := by lia
theorem om428 {a0 : Nat} {a1 : Nat} {a2 : Nat} {a3 : Nat} : (((a1 + a2) < a0) ∧ (a0 ≤ ((a1 + a2) + a3))) → (((1 : Nat) ≤ a0) ∧ (a0 ≤ ((a1 + a2) + a3))) := by lia
theorem om429 {a0 : Nat} {a1 : Nat} {a2 : Nat} {a3 : Nat} {a4 : Nat} {a5 : Nat} {a6 : Nat} {a7 : Nat} {a8 : Nat} {a9 : Nat} : (a5 = (a3 + a4)) → ((a6 + ((16 : Nat) * ((a7 + (1 : Nat)) + a1))) ≤ (a2 + ((16 : Nat) * (a3 + a4)))) → (a8 ≤ (a6 + ((16 : Nat) * a7))) → (a9 ≤ (16 : Nat)) → (a0 ≤ (a8 + a9)) → ((a0 + ((16 : Nat) * a1)) ≤ (a2 + ((16 : Nat) * (a3 + a4)))) := by lia
theorem om430 {a0 : Nat} {a1 : Nat} {a2 : Nat} {a3 : Nat} : (((a1 + a2) < a0) ∧ (a0 ≤ ((a1 + a2) + a3))) → ((1 : Nat) ≤ a0) := by lia
theorem om431 {a0 : Nat} {a1 : Nat} {a2 : Nat} {a3 : Nat} : (((a1 + a2) < a0) ∧ (a0 ≤ ((a1 + a2) + a3))) → (a0 ≤ ((a1 + a2) + a3)) := by lia
end Mine
end
section
open PySem PySem.W PyProof.Rows PySem.Calls
set_option maxRecDepth 100000
namespace Mine
noncomputable abbrev KF (w : World) : Frag := KH w.params
/-- abstract values: frozen tuples and lists are plain data -/
inductive AV where
  | unb | none | bool (b : Bool) | int (i : Int) | str (s : Str)
  | ty (n : String) | bi (id : String) | ref (a : Addr)
  | tup (l : List AV) | lst (l : List AV) | rng (lo hi : Int)
noncomputable def ListAt (h : Heap) (a : Addr) (vs : List Value) : Prop := ∃ n, h.get? a = some ⟨.type "list", none, .seq vs.toArray n, #[]⟩
theorem ListAt.isList {h : Heap} {a : Addr} {vs : List Value} (x : ListAt h a vs) : h.IsList a vs.toArray := let ⟨n, e⟩ := x; ⟨_, e, rfl, n, rfl⟩
noncomputable def TupAt (h : Heap) (a : Addr) (vs : List Value) : Prop := ∃ n, h.get? a = some ⟨.type "tuple", none, .seq vs.toArray n, #[]⟩
theorem TupAt.isTup {h : Heap} {a : Addr} {vs : List Value} (x : TupAt h a vs) : IsTup h a vs.toArray := let ⟨n, e⟩ := x; ⟨_, e, rfl, n, rfl⟩
mutual
noncomputable def Rel (P : List Addr) (h : Heap) : AV → Value → Prop
  | .unb, _ => False
  | .none, v => v = .none
  | .bool b, v => v = .bool b
  | .int i, v => ∃ t, v = .int i t
  | .str x, v => ∃ t, v = .str x t
  | .ty n, v => v = .type n
  | .bi i, v => v = .builtin i
  | .ref a, v => v = .ref a
  | .tup l, v => ∃ a vs, v = .ref a ∧ a ∉ P ∧ TupAt h a vs ∧ RelL P h l vs
  | .lst l, v => ∃ a vs, v = .ref a ∧ a ∉ P ∧ ListAt h a vs ∧ RelL P h l vs
  | .rng lo hi, v => ∃ a t u k, v = .ref a ∧ a ∉ P ∧ IsRange h a lo hi 1 t u k
noncomputable def RelL (P : List Addr) (h : Heap) : List AV → List Value → Prop
  | [], vs => vs = []
  | x :: l, vs => ∃ v r, vs = v :: r ∧ Rel P h x v ∧ RelL P h l r
end
/-- what lies outside P stays, and outside P' -/
noncomputable def Mv (P : List Addr) (h : Heap) (P' : List Addr) (h' : Heap) : Prop := ∀ b o, b ∉ P → h.get? b = some o → b ∉ P' ∧ h'.get? b = some o
theorem Mv.refl {P : List Addr} {h : Heap} : Mv P h P h := fun _ _ a b => ⟨a, b⟩
theorem Mv.trans {P P' P'' : List Addr} {h h' h'' : Heap} (a : Mv P h P' h') (b : Mv P' h' P'' h'') : Mv P h P'' h'' := fun x o n e => b x o (a x o n e).1 (a x o n e).2
mutual
theorem Rel.mv {P P' : List Addr} {h h' : Heap} (m : Mv P h P' h') : ∀ (a : AV) (v : Value), Rel P h a v → Rel P' h' a v
  | .unb, _, r => r.elim
  | .none, _, r => r
  | .bool _, _, r => r
  | .int _, _, r => r
  | .str _, _, r => r
  | .ty _, _, r => r
  | .bi _, _, r => r
  | .ref _, _, r => r
  | .tup l, v, ⟨a, vs, e, hn, ⟨k, ho⟩, hl⟩ => ⟨a, vs, e, (m a _ hn ho).1, ⟨k, (m a _ hn ho).2⟩, RelL.mv m l vs hl⟩
  | .lst l, v, ⟨a, vs, e, hn, ⟨k, ho⟩, hl⟩ => ⟨a, vs, e, (m a _ hn ho).1, ⟨k, (m a _ hn ho).2⟩, RelL.mv m l vs hl⟩
  | .rng lo hi, v, ⟨a, t, u, k, e, hn, ho⟩ => ⟨a, t, u, k, e, (m a _ hn ho).1, (m a _ hn ho).2⟩
theorem RelL.mv {P P' : List Addr} {h h' : Heap} (m : Mv P h P' h') : ∀ (l : List AV) (vs : List Value), RelL P h l vs → RelL P' h' l vs
  | [], _, r => r
  | x :: l, vs, ⟨v, r, e, hx, hl⟩ => ⟨v, r, e, Rel.mv m x v hx, RelL.mv m l r hl⟩
end
theorem RelL.length {P : List Addr} {h : Heap} : ∀ {l : List AV} {vs : List Value}, RelL P h l vs → vs.length = l.length
  | [], _, r => by cases r; rfl
  | _ :: _, _, ⟨_, _, e, _, hl⟩ => by cases e; simp [hl.length]
theorem RelL.get {P : List Addr} {h : Heap} : ∀ {l : List AV} {vs : List Value} {i : Nat} {a : AV}, RelL P h l vs → l[i]? = some a → ∃ v, vs[i]? = some v ∧ Rel P h a v
  | [], _, _, _, _, e => by cases e
  | _ :: _, _, 0, _, ⟨v, _, e, hx, _⟩, q => by cases e; cases q; exact ⟨v, rfl, hx⟩
  | _ :: l, _, i + 1, a, ⟨_, r, e, _, hl⟩, q => by cases e; exact hl.get (i := i) (by simpa using q)
theorem RelL.append {P : List Addr} {h : Heap} : ∀ {l l' : List AV} {vs vs' : List Value}, RelL P h l vs → RelL P h l' vs' → RelL P h (l ++ l') (vs ++ vs')
  | [], _, _, _, r, r' => by cases r; exact r'
  | _ :: _, _, _, _, ⟨v, r, e, hx, hl⟩, r' => by cases e; exact ⟨v, _, rfl, hx, hl.append r'⟩
theorem RelL.take {P : List Addr} {h : Heap} : ∀ {l : List AV} {vs : List Value} (n : Nat), RelL P h l vs → RelL P h (l.take n) (vs.take n)
  | _, _, 0, _ => by simp [RelL]
  | [], _, _ + 1, r => by cases r; simp [RelL]
  | _ :: _, _, n + 1, ⟨v, r, e, hx, hl⟩ => by cases e; exact ⟨v, _, rfl, hx, hl.take n⟩
theorem RelL.drop {P : List Addr} {h : Heap} : ∀ {l : List AV} {vs : List Value} (n : Nat), RelL P h l vs → RelL P h (l.drop n) (vs.drop n)
  | _, _, 0, r => by simpa using r
  | [], _, _ + 1, r => by cases r; simp [RelL]
  | _ :: _, _, n + 1, ⟨v, r, e, _, hl⟩ => by cases e; simpa using hl.drop n
theorem RelL.one {P : List Addr} {h : Heap} {a : AV} {v : Value} (r : Rel P h a v) : RelL P h [a] [v] := ⟨v, [], rfl, r, rfl⟩
theorem RelL.cons {P : List Addr} {h : Heap} {a : AV} {v : Value} {l : List AV} {vs : List Value} (r : Rel P h a v) (rl : RelL P h l vs) : RelL P h (a :: l) (v :: vs) := ⟨v, vs, rfl, r, rl⟩
/-- owned objects -/
inductive AO where
  | list (l : List AV)
  | raw (o : Obj)
  | flds (fs : List (Str × AV))
noncomputable abbrev Mem := List (Addr × AO)
noncomputable abbrev Mem.dom (m : Mem) : List Addr := m.map (·.1)
/-- the entries of an object's dict -/
noncomputable def FldRel (P : List Addr) (h : Heap) : List (Str × AV) → List DictEntry → Prop
  | [], es => es = []
  | p :: fs, es => ∃ e r, es = e :: r ∧ (∃ t, e.key = .str p.1 t) ∧ Rel P h p.2 e.val ∧ FldRel P h fs r
theorem FldRel.mv {P P' : List Addr} {h h' : Heap} (m : Mv P h P' h') : ∀ {fs : List (Str × AV)} {es : List DictEntry}, FldRel P h fs es → FldRel P' h' fs es
  | [], _, r => r
  | _ :: _, _, ⟨e, r, he, hk, hv, hr⟩ => ⟨e, r, he, hk, Rel.mv m _ _ hv, hr.mv m⟩
noncomputable def FldsAt (P : List Addr) (h : Heap) (a : Addr) (fs : List (Str × AV)) : Prop := ∃ es n, h.get? a = some (dictOf es n) ∧ FldRel P h fs es
noncomputable def MemOk (P : List Addr) (h : Heap) (a : Addr) : AO → Prop
  | .flds fs => FldsAt P h a fs
  | .list l => ∃ vs, ListAt h a vs ∧ RelL P h l vs
  | .raw o => h.get? a = some o
noncomputable def MemAll (P : List Addr) (h : Heap) (m : Mem) : Prop := ∀ p ∈ m, MemOk P h p.1 p.2
theorem MemOk.there {P : List Addr} {h : Heap} {a : Addr} {o : AO} (x : MemOk P h a o) : ∃ ob, h.get? a = some ob := by
  cases o with
  | list l => obtain ⟨vs, ⟨n, e⟩, _⟩ := x; exact ⟨_, e⟩
  | raw o => exact ⟨o, x⟩
  | flds fs => obtain ⟨es, n, e, _⟩ := x; exact ⟨_, e⟩
structure AS where
  vals : List AV
  mem : Mem
structure Cx where
  w : World
  A : Around
  env : Env
  keys : List Str
  oc : List Addr
  gens : Array GenState
  drawn : Drawn
  os : OsState
noncomputable abbrev own (c : Cx) (m : Mem) : List Addr := c.env.locals :: (c.oc ++ m.dom)
inductive Slot (c : Cx) (P : List Addr) (h : Heap) (m : Str → Option Value) (x : Str) (av : AV) : Prop where
  | unb : av = .unb → Slot c P h m x av
  | loc (v : Value) : c.env.kindOf x = some .local → m x = some v → Rel P h av v → Slot c P h m x av
  | cell (a : Addr) (v : Value) : c.env.kindOf x = some .cell → c.env.cells.lookup x = some a → (a ∈ c.oc ∨ a ∉ P) → h.IsCell a (some v) → Rel P h av v → Slot c P h m x av
  | free (a : Addr) (v : Value) : c.env.kindOf x = some .free → c.env.cells.lookup x = some a → (a ∈ c.oc ∨ a ∉ P) → h.IsCell a (some v) → Rel P h av v → (x == ("__classdict__" : Str)) = false → Slot c P h m x av
noncomputable def Slots (c : Cx) (P : List Addr) (h : Heap) (m : Str → Option Value) : List Str → List AV → Prop
  | [], vs => vs = []
  | x :: ks, vs => ∃ v r, vs = v :: r ∧ Slot c P h m x v ∧ Slots c P h m ks r
inductive At : List Str → List AV → Str → AV → Prop where
  | head {x : Str} {ks : List Str} {v : AV} {vs : List AV} : At (x :: ks) (v :: vs) x v
  | tail {k x : Str} {ks : List Str} {u v : AV} {vs : List AV} : At ks vs x v → At (k :: ks) (u :: vs) x v
inductive Put : List Str → List AV → Str → AV → List AV → Prop where
  | head {x : Str} {ks : List Str} {u v : AV} {vs : List AV} : Put (x :: ks) (u :: vs) x v (v :: vs)
  | tail {k x : Str} {ks : List Str} {u v : AV} {vs vs' : List AV} : Put ks vs x v vs' → Put (k :: ks) (u :: vs) x v (u :: vs')
theorem Slots.at {c : Cx} {P : List Addr} {h : Heap} {m : Str → Option Value} {ks : List Str} {vs : List AV} {x : Str} {v : AV} (a : At ks vs x v) : Slots c P h m ks vs → Slot c P h m x v := by
  induction a with
  | head => rintro ⟨_, _, e, s, _⟩; cases e; exact s
  | tail _ ih => rintro ⟨_, _, e, _, s⟩; cases e; exact ih s
theorem Put.mem {ks : List Str} {vs vs' : List AV} {x : Str} {v : AV} (a : Put ks vs x v vs') : x ∈ ks := by
  induction a with
  | head => exact .head _
  | tail _ ih => exact .tail _ ih
theorem Slots.put {c : Cx} {P P' : List Addr} {h h' : Heap} {m m' : Str → Option Value} {ks : List Str} {vs vs' : List AV} {x : Str} {v : AV} (a : Put ks vs x v vs') (nd : ks.Nodup)
    (other : ∀ y av, y ≠ x → Slot c P h m y av → Slot c P' h' m' y av) (this : Slot c P' h' m' x v) : Slots c P h m ks vs → Slots c P' h' m' ks vs' := by
  have all : ∀ {ks : List Str} {vs : List AV}, x ∉ ks → Slots c P h m ks vs → Slots c P' h' m' ks vs := by
    intro ks
    induction ks with
    | nil => intro vs _ s; exact s
    | cons k ks ih =>
      rintro vs hn ⟨u, r, e, s, sr⟩
      exact ⟨u, r, e, other k u (fun q => hn (q ▸ .head _)) s, ih (fun q => hn (.tail _ q)) sr⟩
  induction a with
  | head =>
    rintro ⟨_, _, e, _, s⟩; cases e
    exact ⟨_, _, rfl, this, all (List.nodup_cons.mp nd).1 s⟩
  | tail p ih =>
    rintro ⟨_, _, e, s0, s⟩; cases e
    have nd' := List.nodup_cons.mp nd
    exact ⟨_, _, rfl, other _ _ (fun q => nd'.1 (q ▸ p.mem)) s0, ih nd'.2 other this all s⟩
theorem Slots.mono {c : Cx} {P P' : List Addr} {h h' : Heap} {m m' : Str → Option Value} (f : ∀ y av, Slot c P h m y av → Slot c P' h' m' y av) : ∀ {ks : List Str} {vs : List AV}, Slots c P h m ks vs → Slots c P' h' m' ks vs
  | [], _, s => s
  | _ :: _, _, ⟨u, r, e, s, sr⟩ => ⟨u, r, e, f _ _ s, Slots.mono f sr⟩
/-- what lies at the program's own addresses -/
structure Base (w : World) (P : List Addr) (h : Heap) : Prop where
  k : ∀ a o, (KF w).lookup a = some o → a ∉ P ∧ h.get? a = some o
  b : builtinsNs ∉ P ∧ ∃ mb, h.Ns builtinsNs mb ∧ ∀ x : Str, x ≠ "__name__" → mb x = bootBuiltins x
  bm : ∃ bm ob, nsIn (KF w) mainGlobals "__builtins__" = some (some (.ref bm)) ∧ bm ≠ builtinsNs ∧ bm ∉ P ∧ h.get? bm = some ob ∧ ob.cls = .type "module" ∧ ob.dict = some builtinsNs ∧ ob.data = .plain
theorem Base.mv {w : World} {P P' : List Addr} {h h' : Heap} (B : Base w P h) (m : Mv P h P' h') : Base w P' h' :=
  ⟨fun a o e => m a o (B.k a o e).1 (B.k a o e).2, by
    obtain ⟨n, mb, ⟨o, es, ep, ho, r⟩, q⟩ := B.b
    exact ⟨(m _ o n ho).1, mb, ⟨o, es, ep, (m _ o n ho).2, r⟩, q⟩, by
    obtain ⟨bm, ob, e, hne, hn, ho, r⟩ := B.bm
    exact ⟨bm, ob, e, hne, (m _ _ hn ho).1, (m _ _ hn ho).2, r⟩⟩
structure Sat (c : Cx) (σ : AS) (s : Shared) : Prop where
  base : Base c.w (own c σ.mem) s.heap
  nd : (own c σ.mem).Nodup
  slots : ∃ m, s.heap.Ns c.env.locals m ∧ Slots c (own c σ.mem) s.heap m c.keys σ.vals
  cells : ∀ a ∈ c.oc, ∃ v, s.heap.IsCell a v
  mem : MemAll (own c σ.mem) s.heap σ.mem
  gens : s.gens = c.gens
  drawn : s.drawn = c.drawn
  os : s.os = c.os
/-- the triple: from every state of σ the tree ends well, its result told by Q -/
noncomputable def TT {α β : Type} (RR : List Addr → Heap → β → α → Prop) (c : Cx) (t : Sem α) (σ : AS) (Q : β → AS → Prop) : Prop :=
  ∀ s, Sat c σ s → wpAny (model prog c.w) c.A t (fun a s' => ∃ b σ', RR (own c σ'.mem) s'.heap b a ∧ Sat c σ' s' ∧ Mv (own c σ.mem) s.heap (own c σ'.mem) s'.heap ∧ Q b σ') (fun _ _ => False) s
inductive AF where
  | next | brk | cont | ret (v : AV)
noncomputable def RelF (P : List Addr) (h : Heap) : AF → Flow → Prop
  | .next, f => f = .next
  | .brk, f => f = .brk
  | .cont, f => f = .cont
  | .ret a, f => ∃ v, f = .ret v ∧ Rel P h a v
noncomputable abbrev TV := @TT Value AV Rel
noncomputable abbrev TL := @TT (List Value) (List AV) RelL
noncomputable abbrev TB := @TT Bool Bool fun _ _ b a => a = b
noncomputable abbrev TU := @TT Unit Unit fun _ _ _ _ => True
noncomputable abbrev TF := @TT Flow AF RelF
theorem TT.use {α β : Type} {RR : List Addr → Heap → β → α → Prop} {c : Cx} {t : Sem α} {σ : AS} {Q : β → AS → Prop} {s : Shared} {R : α → Shared → Prop} (h : TT RR c t σ Q) (S : Sat c σ s)
    (k : ∀ a b σ' s', RR (own c σ'.mem) s'.heap b a → Sat c σ' s' → Mv (own c σ.mem) s.heap (own c σ'.mem) s'.heap → Q b σ' → R a s') : wpAny (model prog c.w) c.A t R (fun _ _ => False) s :=
  wpAny_mono (h s S) (fun a s' ⟨b, σ', r, S', m, q⟩ => k a b σ' s' r S' m q) fun _ _ x => x
theorem TT.mono {α β : Type} {RR : List Addr → Heap → β → α → Prop} {c : Cx} {t : Sem α} {σ : AS} {Q Q' : β → AS → Prop} (h : TT RR c t σ Q) (k : ∀ b σ', Q b σ' → Q' b σ') : TT RR c t σ Q' :=
  fun _ S => h.use S fun _ b σ' _ r S' m q => ⟨b, σ', r, S', m, k b σ' q⟩
end Mine
end
section
open PySem PySem.W PyProof.Rows PySem.Calls
set_option maxRecDepth 100000
namespace Mine
/-- room for n frames more -/
structure Room (A : Around) (n : Nat) : Prop where
  handled : A.handled = none
  depth : A.depth + n < recursionLimit
  units : A.units + 8 * n + 8 < cLine
theorem Room.le {A : Around} {n m : Nat} (R : Room A n) (h : m ≤ n) : Room A m := ⟨R.handled, Nat.lt_of_le_of_lt (Nat.add_le_add_left h _) R.depth, by have := R.units; (first | exact om1 h this | omega)⟩
/-- static facts of a frame -/
structure Ok (c : Cx) (ks sk gl cs : List Str) (n : Nat) : Prop where
  keys : c.keys = ks
  kind : c.env.scope.kind = .function
  nd : c.keys.Nodup
  st : ∀ x ∈ sk, c.env.kindOf x = some .local ∨ (c.env.kindOf x = some .cell ∧ ∃ a ∈ c.oc, c.env.cells.lookup x = some a)
  glk : ∀ x ∈ gl, c.env.kindOf x = some .globalImplicit
  dbg : ∀ x ∈ c.keys ++ gl, (x == ("__debug__" : Str)) = false
  csk : ∀ x ∈ cs, (c.env.kindOf x = some .cell ∨ c.env.kindOf x = some .free) ∧ (c.env.cells.lookup x).isSome = true
  ca : ∀ x y a, a ∈ c.oc → c.env.cells.lookup x = some a → c.env.cells.lookup y = some a → x = y
  globals : c.env.globals = mainGlobals
  builtins : c.env.builtins = builtinsNs
  room : Room c.A n
theorem Base.kin {w : World} {P : List Addr} {h : Heap} (B : Base w P h) : (KF w).In h := fun a o e => (B.k a o e).2
theorem ns_globals (w : World) : nsOkIn (KF w) mainGlobals = true := by kernel_rfl
theorem Base.gns {w : World} {P : List Addr} {h : Heap} (B : Base w P h) : ∃ mg, h.Ns mainGlobals mg := ⟨_, .of_isNs (isNs_of_in B.kin (ns_globals w))⟩
/-- a global's value -/
inductive GV (x : Str) (av : AV) : Prop where
  | top (v : World → Value) : (∀ w, nsIn (KF w) mainGlobals x = some (some (v w))) → (∀ w P h, Rel P h av (v w)) → GV x av
  | blt (v : Value) : (∀ w, nsIn (KF w) mainGlobals x = some none) → bootBuiltins x = some v → x ≠ "__name__" → (∀ P h, Rel P h av v) → GV x av
theorem gv_bisect_left : GV (Str.ofString "bisect_left") (.ref 41) := .top (fun _ => .ref 41) (fun w => by kernel_rfl) (fun _ _ _ => rfl)
theorem gv_len : GV (Str.ofString "len") (.bi "len") := .blt (.builtin "len") (fun w => by kernel_rfl) (by kernel_rfl) (by decide) (fun _ _ => rfl)
section
variable {c : Cx} {ks sk gl cs : List Str} {n : Nat} {σ : AS}
theorem At.mem {ks : List Str} {vs : List AV} {x : Str} {v : AV} (a : At ks vs x v) : x ∈ ks := by
  induction a with
  | head => exact .head _
  | tail _ ih => exact .tail _ ih
/-- a pure end -/
theorem TT.ret {α β : Type} {RR : List Addr → Heap → β → α → Prop} {a : α} {b : β} {Q : β → AS → Prop} (r : ∀ P h, RR P h b a) (q : Q b σ) : TT RR c (pure a) σ Q :=
  fun s S => wpAny_pure ⟨b, σ, r _ _, S, .refl, q⟩
theorem Sat.toks {s : Shared} (S : Sat c σ s) (n : Nat) : Sat c σ { s with toks := n } := ⟨S.base, S.nd, S.slots, S.cells, S.mem, S.gens, S.drawn, S.os⟩
theorem T_load (O : Ok c ks sk gl cs n) {x : Str} {av : AV} {Q : AV → AS → Prop} (a : At ks σ.vals x av) (hu : av ≠ .unb) (q : Q av σ) : TV c (loadName c.env x) σ Q := by
  intro s S
  obtain ⟨m, hm, sl⟩ := S.slots
  rcases sl.at (O.keys ▸ a) with e | ⟨v, hk, hv, r⟩ | ⟨d, v, hk, hc, _, hv, r⟩ | ⟨d, v, hk, hc, _, hv, r, hn⟩
  · exact absurd e hu
  · exact wpAny_loadName_local O.kind hk hm hv ⟨av, σ, r, S, .refl, q⟩
  · exact wpAny_loadName_cell O.kind hk hc hv ⟨av, σ, r, S, .refl, q⟩
  · exact wpAny_loadName_free O.kind hk hc hv ⟨av, σ, r, S, .refl, q⟩ hn
theorem T_name (O : Ok c ks sk gl cs n) {x : Str} {pos : Pos} {av : AV} {Q : AV → AS → Prop} (a : At ks σ.vals x av) (hu : av ≠ .unb) (q : Q av σ) : TV c (eval (.Name x pos) c.env) σ Q :=
  fun s S => wpAny_Name (T_load O a hu q s S) (O.dbg x (List.mem_append_left _ (O.keys ▸ a.mem)))
theorem T_glob (O : Ok c ks sk gl cs n) {x : Str} {pos : Pos} {av : AV} {Q : AV → AS → Prop} (a : x ∈ gl) (g : GV x av) (q : Q av σ) : TV c (eval (.Name x pos) c.env) σ Q := by
  intro s S
  refine Name_function_global O.kind (O.glk x a) ?_ (O.dbg x (List.mem_append_right _ a))
  obtain ⟨mg, G⟩ := S.base.gns
  rcases g with ⟨v, e, r⟩ | ⟨v, e, hb, hn, r⟩
  · exact loadGlobal_global (by rw [O.globals]; exact G) (mg_of S.base.kin G (e c.w)) ⟨av, σ, r _ _ _, S, .refl, q⟩
  · obtain ⟨_, mb, B, hB⟩ := S.base.b
    exact loadGlobal_builtin (by rw [O.globals]; exact G) (mg_none_of S.base.kin G (e c.w)) (by rw [O.builtins]; exact B) ((hB x hn).trans hb) ⟨av, σ, r _ _, S, .refl, q⟩
theorem T_int {i : Int} {k : Nat} {pos : Pos} {Q : AV → AS → Prop} (q : Q (.int i) σ) : TV c (eval (.Constant (.int i) k pos) c.env) σ Q :=
  fun s S => wpAny_Constant_int ⟨.int i, σ, ⟨_, rfl⟩, S.toks _, .refl, q⟩
theorem T_str {x : Str} {k : Nat} {pos : Pos} {Q : AV → AS → Prop} (q : Q (.str x) σ) : TV c (eval (.Constant (.str x) k pos) c.env) σ Q :=
  fun s S => Constant_str ⟨.str x, σ, ⟨_, rfl⟩, S.toks _, .refl, q⟩
theorem T_none {k : Nat} {pos : Pos} {Q : AV → AS → Prop} (q : Q .none σ) : TV c (eval (.Constant .none k pos) c.env) σ Q :=
  fun s S => wpAny_Constant_none ⟨.none, σ, rfl, S, .refl, q⟩
theorem T_bool {b : Bool} {k : Nat} {pos : Pos} {Q : AV → AS → Prop} (q : Q (.bool b) σ) : TV c (eval (.Constant (.bool b) k pos) c.env) σ Q :=
  fun s S => wpAny_Constant_bool ⟨.bool b, σ, rfl, S, .refl, q⟩
/-- an operation on two values at hand -/
noncomputable def Op2 (c : Cx) (f : Value → Value → Sem Value) (a b : AV) (σ : AS) (Q : AV → AS → Prop) : Prop :=
  ∀ va vb s, Rel (own c σ.mem) s.heap a va → Rel (own c σ.mem) s.heap b vb → Sat c σ s →
    wpAny (model prog c.w) c.A (f va vb) (fun a s' => ∃ b σ', Rel (own c σ'.mem) s'.heap b a ∧ Sat c σ' s' ∧ Mv (own c σ.mem) s.heap (own c σ'.mem) s'.heap ∧ Q b σ') (fun _ _ => False) s
theorem T_BinOp {l r : Expr} {op : Operator} {pos : Pos} {Q : AV → AS → Prop} (h : TV c (eval l c.env) σ fun a σ₁ => TV c (eval r c.env) σ₁ fun b σ₂ => Op2 c (binaryOp op) a b σ₂ Q) :
    TV c (eval (.BinOp l op r pos) c.env) σ Q := by
  intro s S
  refine wpAny_BinOp (h.use S fun va a σ₁ s₁ ra S₁ m₁ h₁ => h₁.use S₁ fun vb b σ₂ s₂ rb S₂ m₂ h₂ => ?_)
  exact wpAny_mono (h₂ va vb s₂ (Rel.mv m₂ _ _ ra) rb S₂) (fun v s' ⟨b', σ', r', S', m', q'⟩ => ⟨b', σ', r', S', (m₁.trans m₂).trans m', q'⟩) fun _ _ x => x
theorem T_Compare {l r : Expr} {op : CmpOp} {pos : Pos} {Q : AV → AS → Prop} (h : TV c (eval l c.env) σ fun a σ₁ => TV c (eval r c.env) σ₁ fun b σ₂ => Op2 c (compareOp op) a b σ₂ Q)
    (hm : behindInMarks op r = false := by rfl) : TV c (eval (.Compare l [op] [r] pos) c.env) σ Q := by
  intro s S
  refine wpAny_Compare1 (h.use S fun va a σ₁ s₁ ra S₁ m₁ h₁ => h₁.use S₁ fun vb b σ₂ s₂ rb S₂ m₂ h₂ => ?_) hm
  exact wpAny_mono (h₂ va vb s₂ (Rel.mv m₂ _ _ ra) rb S₂) (fun v s' ⟨b', σ', r', S', m', q'⟩ => ⟨b', σ', r', S', (m₁.trans m₂).trans m', q'⟩) fun _ _ x => x
/-- truth of a value at hand -/
noncomputable def Tru (c : Cx) (a : AV) (σ : AS) (Q : Bool → AS → Prop) : Prop :=
  ∀ va s, Rel (own c σ.mem) s.heap a va → Sat c σ s →
    wpAny (model prog c.w) c.A (truthy va) (fun a s' => ∃ b σ', a = b ∧ Sat c σ' s' ∧ Mv (own c σ.mem) s.heap (own c σ'.mem) s'.heap ∧ Q b σ') (fun _ _ => False) s
theorem tru_bool {b : Bool} {Q : Bool → AS → Prop} (q : Q b σ) : Tru c (.bool b) σ Q := fun va s r S => by
  cases r; exact wpAny_truthy_bool ⟨b, σ, rfl, S, .refl, q⟩
theorem T_isTrue_Compare {l r : Expr} {op : CmpOp} {pos : Pos} {wh : Sem Value} {Q : Bool → AS → Prop}
    (h : TV c (eval l c.env) σ fun a σ₁ => TV c (eval r c.env) σ₁ fun b σ₂ => Op2 c (compareOp op) a b σ₂ fun t σ₃ => Tru c t σ₃ Q)
    (hm : behindInMarks op r = false := by rfl) : TB c (isTrue (.Compare l [op] [r] pos) c.env wh) σ Q := by
  intro s S
  refine wpAny_isTrue_Compare1 (h.use S fun va a σ₁ s₁ ra S₁ m₁ h₁ => h₁.use S₁ fun vb b σ₂ s₂ rb S₂ m₂ h₂ => ?_) hm
  refine wpAny_mono (h₂ va vb s₂ (Rel.mv m₂ _ _ ra) rb S₂) (fun v s' ⟨b', σ', r', S', m', q'⟩ => ?_) fun _ _ x => x
  exact wpAny_mono (q' v s' r' S') (fun v s' ⟨b', σ', r', S', m'', q'⟩ => ⟨b', σ', r', S', ((m₁.trans m₂).trans m').trans m'', q'⟩) fun _ _ x => x
end
end Mine
end
section
open PySem PySem.W PyProof.Rows PySem.Calls
set_option maxRecDepth 100000
namespace Mine
section
variable {c : Cx} {ks sk gl cs : List Str} {n : Nat} {σ : AS}
/-- moving a rest along: heap changed at an owned address only -/
theorem Mv.same {P : List Addr} {h h' : Heap} {a : Addr} (ha : a ∈ P) (hs : Heap.SameBut a h h') : Mv P h P h' :=
  fun b o hn e => ⟨hn, (hs.2 b fun q => hn (q ▸ ha)).trans e⟩
theorem MemOk.other {P P' : List Addr} {h h' : Heap} {a : Addr} {o : AO} (m : Mv P h P' h') (e : ∀ ob, h.get? a = some ob → h'.get? a = some ob) (x : MemOk P h a o) : MemOk P' h' a o := by
  cases o with
  | list l => obtain ⟨vs, ⟨n, q⟩, r⟩ := x; exact ⟨vs, ⟨n, e _ q⟩, RelL.mv m l vs r⟩
  | raw o => exact e _ x
  | flds fs => obtain ⟨es, n, q, r⟩ := x; exact ⟨es, n, e _ q, r.mv m⟩
theorem Slot.mv {P P' : List Addr} {h h' : Heap} {m : Str → Option Value} {y : Str} {av : AV} (mv : Mv P h P' h') (hc : ∀ a ∈ c.oc, ∀ v, c.env.cells.lookup y = some a → h.IsCell a (some v) → h'.IsCell a (some v))
    (s : Slot c P h m y av) : Slot c P' h' m y av := by
  have cl : ∀ {d : Addr} {v : Value}, c.env.cells.lookup y = some d → (d ∈ c.oc ∨ d ∉ P) → h.IsCell d (some v) → (d ∈ c.oc ∨ d ∉ P') ∧ h'.IsCell d (some v) := by
    intro d v hl hd hv
    rcases hd with hd | hd
    · exact ⟨.inl hd, hc d hd v hl hv⟩
    · obtain ⟨o, ho, hq⟩ := hv
      exact ⟨.inr (mv d o hd ho).1, o, (mv d o hd ho).2, hq⟩
  rcases s with e | ⟨v, hk, hv, r⟩ | ⟨d, v, hk, hl, hd, hv, r⟩ | ⟨d, v, hk, hl, hd, hv, r, hn⟩
  · exact .unb e
  · exact .loc v hk hv (Rel.mv mv _ _ r)
  · exact .cell d v hk hl (cl hl hd hv).1 (cl hl hd hv).2 (Rel.mv mv _ _ r)
  · exact .free d v hk hl (cl hl hd hv).1 (cl hl hd hv).2 (Rel.mv mv _ _ r) hn
theorem nd_parts {a : Addr} {l m : List Addr} (h : (a :: (l ++ m)).Nodup) : a ∉ l ∧ a ∉ m ∧ ∀ x ∈ l, x ∉ m := by
  rw [List.nodup_cons, List.mem_append, List.nodup_append] at h
  exact ⟨fun q => h.1 (.inl q), fun q => h.1 (.inr q), fun x hx hm => h.2.2.2 x hx x hm rfl⟩
/-- a name stored -/
theorem T_store (O : Ok c ks sk gl cs n) {x : Str} {v : Value} {av : AV} {vals' : List AV} {s : Shared} {R : Unit → Shared → Prop} (p : Put ks σ.vals x av vals') (hx : x ∈ sk)
    (r : Rel (own c σ.mem) s.heap av v) (S : Sat c σ s)
    (k : ∀ s', Sat c ⟨vals', σ.mem⟩ s' → Mv (own c σ.mem) s.heap (own c σ.mem) s'.heap → R () s') : wpAny (model prog c.w) c.A (storeName c.env x v) R (fun _ _ => False) s := by
  obtain ⟨m, hm, sl⟩ := S.slots
  have np := nd_parts S.nd
  have p : Put c.keys σ.vals x av vals' := O.keys.symm ▸ p
  rcases O.st x hx with hl | ⟨hl, a, ha, hc⟩
  · refine wpAny_storeName_local hl hm (fun h' hn hs => ?_) (by rw [O.kind]; rfl)
    have mv : Mv (own c σ.mem) s.heap (own c σ.mem) h' := Mv.same (.head _) hs
    refine k _ ⟨S.base.mv mv, S.nd, ⟨_, hn, ?_⟩, ?_, ?_, S.gens, S.drawn, S.os⟩ mv
    · refine Slots.put p O.nd (fun y u hy sy => ?_) ?_ sl
      · have := Slot.mv (P' := own c σ.mem) (h' := h') mv (fun a ha v _ q => q.sameBut hs fun e => np.1 (e ▸ ha)) sy
        rcases this with e | ⟨v', hk', hv', r'⟩ | ⟨d, v', hk', hl', hd', hv', r'⟩ | ⟨d, v', hk', hl', hd', hv', r', hn'⟩
        · exact .unb e
        · exact .loc v' hk' (by rw [if_neg hy]; exact hv') r'
        · exact .cell d v' hk' hl' hd' hv' r'
        · exact .free d v' hk' hl' hd' hv' r' hn'
      · exact .loc v hl (if_pos rfl) (Rel.mv mv _ _ r)
    · intro a ha
      obtain ⟨v', o, ho, hd⟩ := S.cells a ha
      exact ⟨v', o, (hs.2 a fun q => np.1 (q ▸ ha)).trans ho, hd⟩
    · intro q hq
      exact (S.mem q hq).other mv fun ob e => (hs.2 _ fun z => np.2.1 (z ▸ List.mem_map_of_mem hq)).trans e
  · obtain ⟨v₀, hv₀⟩ := S.cells a ha
    refine wpAny_storeName_cell O.kind hl hc hv₀ fun h' hn hs => ?_
    have mv : Mv (own c σ.mem) s.heap (own c σ.mem) h' := Mv.same (.tail _ (List.mem_append_left _ ha)) hs
    refine k _ ⟨S.base.mv mv, S.nd, ⟨m, hm.sameBut hs fun e => np.1 (e ▸ ha), ?_⟩, ?_, ?_, S.gens, S.drawn, S.os⟩ mv
    · refine Slots.put p O.nd (fun y u hy sy => Slot.mv mv (fun b _ v' hb q => q.sameBut hs fun e => hy ?_) sy) ?_ sl
      · subst e
        exact O.ca _ _ _ ha hb hc
      · exact .cell a v hl hc (.inl ha) hn (Rel.mv mv _ _ r)
    · intro b hb
      by_cases e : b = a
      · subst e; exact ⟨_, hn⟩
      · obtain ⟨v', q⟩ := S.cells b hb
        exact ⟨v', q.sameBut hs e⟩
    · intro q hq
      exact (S.mem q hq).other mv fun ob e => (hs.2 _ fun z => np.2.2 a ha (z ▸ List.mem_map_of_mem hq)).trans e
theorem T_Assign (O : Ok c ks sk gl cs n) {x : Str} {value : Expr} {pos' pos : Pos} {Q : AF → AS → Prop}
    (h : TV c (eval value c.env) σ fun a σ₁ => ∃ vals', Put ks σ₁.vals x a vals' ∧ Q .next ⟨vals', σ₁.mem⟩) (hx : x ∈ sk)
    (hs : swapsWith value (some (.Name x pos')) pos.line c.env = pure false) : TF c (exec (.Assign [.Name x pos'] value pos) c.env) σ Q := by
  intro s S
  refine wpAny_Assign_Name (h.use S fun v a σ₁ s₁ ra S₁ m₁ ⟨vals', p, q⟩ => ?_) hs
  exact T_store O p hx ra S₁ fun s' S' m' => ⟨.next, _, rfl, S', m₁.trans m', q⟩
theorem T_Return {e : Expr} {pos : Pos} {Q : AF → AS → Prop} (h : TV c (eval e c.env) σ fun a σ₁ => Q (.ret a) σ₁) : TF c (exec (.Return (some e) pos) c.env) σ Q :=
  fun s S => wpAny_Return_some (h.use S fun v a σ₁ s₁ ra S₁ m₁ q => ⟨.ret a, σ₁, ⟨v, rfl, ra⟩, S₁, m₁, q⟩)
theorem TT.bindB {α β : Type} {RR : List Addr → Heap → β → α → Prop} {t : Sem Bool} {u v : Sem α} {Q : β → AS → Prop} {s : Shared}
    (h : TB c t σ fun b σ₁ => if b then TT RR c u σ₁ Q else TT RR c v σ₁ Q) (S : Sat c σ s) : wpAny (model prog c.w) c.A t (fun b s₁ =>
      if b then wpAny (model prog c.w) c.A u (fun a s' => ∃ b σ', RR (own c σ'.mem) s'.heap b a ∧ Sat c σ' s' ∧ Mv (own c σ.mem) s.heap (own c σ'.mem) s'.heap ∧ Q b σ') (fun _ _ => False) s₁
      else wpAny (model prog c.w) c.A v (fun a s' => ∃ b σ', RR (own c σ'.mem) s'.heap b a ∧ Sat c σ' s' ∧ Mv (own c σ.mem) s.heap (own c σ'.mem) s'.heap ∧ Q b σ') (fun _ _ => False) s₁) (fun _ _ => False) s := by
  refine h.use S fun a b σ₁ s₁ e S₁ m₁ q => ?_
  subst e
  cases a with
  | true => exact (show TT RR c u σ₁ Q from q).use S₁ fun a b σ' s' r S' m' q => ⟨b, σ', r, S', m₁.trans m', q⟩
  | false => exact (show TT RR c v σ₁ Q from q).use S₁ fun a b σ' s' r S' m' q => ⟨b, σ', r, S', m₁.trans m', q⟩
theorem T_IfExp {test body orelse : Expr} {pos : Pos} {Q : AV → AS → Prop}
    (h : TB c (isTrue test c.env (eval test c.env)) σ fun b σ₁ => if b then TV c (eval body c.env) σ₁ Q else TV c (eval orelse c.env) σ₁ Q) : TV c (eval (.IfExp test body orelse pos) c.env) σ Q :=
  fun s S => wpAny_IfExp (TT.bindB h S)
theorem T_If {test : Expr} {body orelse : List Stmt} {pos : Pos} {Q : AF → AS → Prop}
    (h : TB c (isTrue test c.env (eval test c.env)) σ fun b σ₁ => if b then TF c (execs body c.env) σ₁ Q else TF c (execs orelse c.env) σ₁ Q) : TF c (exec (.If test body orelse pos) c.env) σ Q :=
  fun s S => wpAny_If (TT.bindB h S)
theorem T_nil {Q : AF → AS → Prop} (q : Q .next σ) : TF c (execs [] c.env) σ Q := fun s S => wpAny_execs_nil ⟨.next, σ, rfl, S, .refl, q⟩
theorem T_cons {st : Stmt} {rest : List Stmt} {Q : AF → AS → Prop} (h : TF c (exec st c.env) σ fun f σ₁ => match f with | .next => TF c (execs rest c.env) σ₁ Q | f => Q f σ₁) :
    TF c (execs (st :: rest) c.env) σ Q := by
  intro s S
  refine wpAny_execs_cons (h.use S fun f a σ₁ s₁ r S₁ m₁ q => ?_)
  cases a with
  | next => cases r; exact (show TF c (execs rest c.env) σ₁ Q from q).use S₁ fun a b σ' s' r S' m' q => ⟨b, σ', r, S', m₁.trans m', q⟩
  | brk => cases r; exact ⟨.brk, σ₁, rfl, S₁, m₁, q⟩
  | cont => cases r; exact ⟨.cont, σ₁, rfl, S₁, m₁, q⟩
  | ret a => obtain ⟨v, rfl, r⟩ := r; exact ⟨.ret a, σ₁, ⟨v, rfl, r⟩, S₁, m₁, q⟩
theorem T_Continue {pos : Pos} {Q : AF → AS → Prop} (q : Q .cont σ) : TF c (exec (.Continue pos) c.env) σ Q := fun s S => wpAny_Continue ⟨.cont, σ, rfl, S, .refl, q⟩
end
end Mine
end
section
open PySem PySem.W PyProof.Rows PySem.Calls
set_option maxRecDepth 100000
namespace Mine
/-- the state between calls -/
structure Pre (w : World) (m : Mem) (h : Heap) : Prop where
  base : Base w m.dom h
  nd : m.dom.Nodup
  mem : MemAll m.dom h m
noncomputable def Same (s s' : Shared) : Prop := s'.gens = s.gens ∧ s'.drawn = s.drawn ∧ s'.os = s.os
/-- a call of f ends well -/
noncomputable def FS (w : World) (n : Nat) (f : Value) (args : List AV) (mem : Mem) (Q : AV → Mem → Prop) : Prop :=
  ∀ A s vals, Room A n → Pre w mem s.heap → RelL mem.dom s.heap args vals →
    codeAny (model prog w) A (.call f ⟨vals, []⟩) (fun r s' => ∃ v av mem', r = .ok (.ret v) ∧ Rel mem'.dom s'.heap av v ∧ Pre w mem' s'.heap ∧ Mv mem.dom s.heap mem'.dom s'.heap ∧ Same s s' ∧ Q av mem') s
theorem FS.mono {w : World} {n : Nat} {f : Value} {args : List AV} {mem : Mem} {Q Q' : AV → Mem → Prop} (h : FS w n f args mem Q) (k : ∀ a m, Q a m → Q' a m) : FS w n f args mem Q' :=
  fun A s vals R P r => codeAny_mono (h A s vals R P r) fun _ _ ⟨v, av, m', e, r, p, mv, sm, q⟩ => ⟨v, av, m', e, r, p, mv, sm, k _ _ q⟩
theorem Mv.weak {P P' : List Addr} {h : Heap} (sub : ∀ b ∈ P', b ∈ P) : Mv P h P' h := fun b o n e => ⟨fun q => n (sub b q), e⟩
theorem MemAll.weak {P P' : List Addr} {h : Heap} {m : Mem} (sub : ∀ b ∈ P', b ∈ P) (x : MemAll P h m) : MemAll P' h m := fun p hp => (x p hp).other (.weak sub) fun _ e => e
/-- no sequence, no range lies there -/
noncomputable def NoSeq (h : Heap) (b : Addr) : Prop := ∀ o, h.get? b = some o → (∀ items n, o.data ≠ .seq items n) ∧ ∀ vs, o.data ≠ .fields vs
mutual
theorem Rel.avoid {P P' : List Addr} {h : Heap} (bad : ∀ b ∈ P', b ∉ P → NoSeq h b) : ∀ (a : AV) (v : Value), Rel P h a v → Rel P' h a v
  | .unb, _, r => r.elim
  | .none, _, r => r
  | .bool _, _, r => r
  | .int _, _, r => r
  | .str _, _, r => r
  | .ty _, _, r => r
  | .bi _, _, r => r
  | .ref _, _, r => r
  | .tup l, v, ⟨a, vs, e, hn, ⟨n, ho⟩, hl⟩ => ⟨a, vs, e, fun q => (bad a q hn _ ho).1 _ n rfl, ⟨n, ho⟩, RelL.avoid bad l vs hl⟩
  | .lst l, v, ⟨a, vs, e, hn, ⟨n, ho⟩, hl⟩ => ⟨a, vs, e, fun q => (bad a q hn _ ho).1 _ n rfl, ⟨n, ho⟩, RelL.avoid bad l vs hl⟩
  | .rng lo hi, v, ⟨a, t, u, k, e, hn, ho⟩ => ⟨a, t, u, k, e, fun q => (bad a q hn _ ho).2 _ rfl, ho⟩
theorem RelL.avoid {P P' : List Addr} {h : Heap} (bad : ∀ b ∈ P', b ∉ P → NoSeq h b) : ∀ (l : List AV) (vs : List Value), RelL P h l vs → RelL P' h l vs
  | [], _, r => r
  | x :: l, vs, ⟨v, r, e, hx, hl⟩ => ⟨v, r, e, Rel.avoid bad x v hx, RelL.avoid bad l r hl⟩
end
theorem FldRel.avoid {P P' : List Addr} {h : Heap} (bad : ∀ b ∈ P', b ∉ P → NoSeq h b) : ∀ {fs : List (Str × AV)} {es : List DictEntry}, FldRel P h fs es → FldRel P' h fs es
  | [], _, r => r
  | _ :: _, _, ⟨e, r, he, hk, hv, hr⟩ => ⟨e, r, he, hk, Rel.avoid bad _ _ hv, hr.avoid bad⟩
theorem MemAll.avoid {P P' : List Addr} {h : Heap} {m : Mem} (bad : ∀ b ∈ P', b ∉ P → NoSeq h b) (x : MemAll P h m) : MemAll P' h m := by
  intro p hp
  have q := x p hp
  cases e : p.2 with
  | list l => rw [e] at q; obtain ⟨vs, hl, r⟩ := q; exact ⟨vs, hl, RelL.avoid bad l vs r⟩
  | raw o => rw [e] at q; exact q
  | flds fs => rw [e] at q; obtain ⟨es, n, ho, r⟩ := q; exact ⟨es, n, ho, r.avoid bad⟩
section
variable {c : Cx} {ks sk gl cs : List Str} {n : Nat} {σ : AS}
theorem Sat.noSeq {s : Shared} (S : Sat c σ s) : ∀ b ∈ c.env.locals :: c.oc, NoSeq s.heap b := by
  intro b hb o e
  rcases List.mem_cons.mp hb with rfl | hb
  · obtain ⟨m, ⟨oL, es, ep, hL, hLd, _⟩, _⟩ := S.slots
    rw [hL] at e; cases e
    exact ⟨fun _ _ hd => by rw [hLd] at hd; (cases hd), fun _ hd => by rw [hLd] at hd; (cases hd)⟩
  · obtain ⟨v, o', ho', hd'⟩ := S.cells b hb
    rw [ho'] at e; cases e
    exact ⟨fun _ _ hd => by rw [hd'] at hd; (cases hd), fun _ hd => by rw [hd'] at hd; (cases hd)⟩
theorem Sat.bad {s : Shared} (S : Sat c σ s) : ∀ b ∈ own c σ.mem, b ∉ σ.mem.dom → NoSeq s.heap b := by
  intro b hb hn
  refine S.noSeq b ?_
  rcases List.mem_cons.mp hb with rfl | hb
  · exact .head _
  · exact .tail _ ((List.mem_append.mp hb).resolve_right hn)
theorem Sat.pre {s : Shared} (S : Sat c σ s) : Pre c.w σ.mem s.heap :=
  ⟨S.base.mv (.weak fun b hb => .tail _ (List.mem_append_right _ hb)), (List.nodup_append.mp (List.nodup_cons.mp S.nd).2).2.1, S.mem.weak fun b hb => .tail _ (List.mem_append_right _ hb)⟩
/-- back in the frame behind a step that moves the owned memory alone -/
theorem Sat.back {s s' : Shared} {mem' : Mem} (S : Sat c σ s) (P' : Pre c.w mem' s'.heap) (mv : Mv σ.mem.dom s.heap mem'.dom s'.heap) (sm : Same s s') :
    Sat c ⟨σ.vals, mem'⟩ s' ∧ Mv (own c σ.mem) s.heap (own c mem') s'.heap := by
  have np := nd_parts S.nd
  obtain ⟨m, ⟨oL, es, ep, hL, hLr⟩, sl⟩ := S.slots
  have keepL := mv _ _ np.2.1 hL
  have keepC : ∀ a ∈ c.oc, ∀ o, s.heap.get? a = some o → a ∉ mem'.dom ∧ s'.heap.get? a = some o := fun a ha o e => mv _ _ (np.2.2 a ha) e
  have big : Mv (own c σ.mem) s.heap (own c mem') s'.heap := by
    intro b o hn e
    have h1 : b ∉ σ.mem.dom := fun q => hn (.tail _ (List.mem_append_right _ q))
    obtain ⟨h2, h3⟩ := mv b o h1 e
    refine ⟨fun q => ?_, h3⟩
    rcases List.mem_cons.mp q with q | q
    · exact hn (q ▸ .head _)
    · rcases List.mem_append.mp q with q | q
      · exact hn (.tail _ (List.mem_append_left _ q))
      · exact h2 q
  have cellK : ∀ a ∈ c.oc, ∀ v, s.heap.IsCell a v → s'.heap.IsCell a v := fun a ha v ⟨o, ho, hd⟩ => ⟨o, (keepC a ha o ho).2, hd⟩
  have nd' : (own c mem').Nodup := by
    have q := List.nodup_cons.mp S.nd
    have q2 := List.nodup_append.mp q.2
    refine List.nodup_cons.mpr ⟨fun z => ?_, List.nodup_append.mpr ⟨q2.1, P'.nd, fun a ha b hb e => ?_⟩⟩
    · rcases List.mem_append.mp z with z | z
      · exact np.1 z
      · exact keepL.1 z
    · subst e
      obtain ⟨v, o, ho, _⟩ := S.cells a ha
      exact (keepC a ha o ho).1 hb
  have ns : ∀ b ∈ c.env.locals :: c.oc, NoSeq s'.heap b := by
    intro b hb o e
    rcases List.mem_cons.mp hb with rfl | hb
    · rw [keepL.2] at e; cases e
      exact ⟨fun _ _ hd => by rw [hLr.1] at hd; (cases hd), fun _ hd => by rw [hLr.1] at hd; (cases hd)⟩
    · obtain ⟨v, o', ho', hd'⟩ := S.cells b hb
      rw [(keepC b hb o' ho').2] at e; cases e
      exact ⟨fun _ _ hd => by rw [hd'] at hd; (cases hd), fun _ hd => by rw [hd'] at hd; (cases hd)⟩
  refine ⟨⟨S.base.mv big, nd', ⟨m, ⟨oL, es, ep, keepL.2, hLr⟩, sl.mono fun y av sy => sy.mv big fun a ha v _ q => cellK a ha _ q⟩, ?_, ?_, sm.1.trans S.gens, sm.2.1.trans S.drawn, sm.2.2.trans S.os⟩, big⟩
  · intro a ha
    obtain ⟨v, q⟩ := S.cells a ha
    exact ⟨v, cellK a ha v q⟩
  · refine P'.mem.avoid fun b hb hn => ns b ?_
    rcases List.mem_cons.mp hb with rfl | hb
    · exact .head _
    · exact .tail _ ((List.mem_append.mp hb).resolve_right hn)
/-- the arguments, one by one -/
theorem T_sp0 {pos : Pos} {Q : List AV → AS → Prop} (q : Q [] σ) : TL c (spliced (backTo pos (starEach [] c.env))) σ Q := fun s S => spliced_nil ⟨[], σ, rfl, S, .refl, q⟩
theorem T_sp {pos : Pos} {e : Expr} {rest : List Expr} {Q : List AV → AS → Prop} (h : TV c (eval e c.env) σ fun a σ₁ => TL c (spliced (backTo pos (starEach rest c.env))) σ₁ fun l σ₂ => Q (a :: l) σ₂)
    (hs : starEach (e :: rest) c.env = (false, eval e c.env) :: starEach rest c.env := by rfl) : TL c (spliced (backTo pos (starEach (e :: rest) c.env))) σ Q := by
  intro s S
  rw [hs]
  refine spliced_cons (h.use S fun v a σ₁ s₁ ra S₁ m₁ h₁ => h₁.use S₁ fun vs l σ₂ s₂ rl S₂ m₂ q => ?_)
  exact ⟨a :: l, σ₂, RelL.cons (Rel.mv m₂ _ _ ra) rl, S₂, m₁.trans m₂, q⟩
/-- a new object beside all -/
theorem fresh_not {s : Shared} (S : Sat c σ s) : s.heap.objs.size ∉ own c σ.mem := by
  intro q
  have lt : ∀ o, s.heap.get? s.heap.objs.size = some o → False := fun o e => Nat.lt_irrefl _ (Heap.lt_size e)
  rcases List.mem_cons.mp q with q | q
  · obtain ⟨m, ⟨oL, es, ep, hL, _⟩, _⟩ := S.slots
    exact lt _ (q ▸ hL)
  · rcases List.mem_append.mp q with q | q
    · obtain ⟨v, o, ho, _⟩ := S.cells _ q
      exact lt _ ho
    · obtain ⟨p, hp, e⟩ := List.mem_map.mp q
      obtain ⟨o, ho⟩ := (S.mem p hp).there
      exact lt o (e ▸ ho)
theorem Mv.push {P : List Addr} {h : Heap} (o : Obj) : Mv P h P (h.push o) := fun b o' hn e => ⟨hn, Heap.get?_push_of_some _ e⟩
theorem Sat.push {s : Shared} (S : Sat c σ s) (o : Obj) : Sat c σ { s with heap := s.heap.push o } :=
  ⟨S.base.mv (.push o), S.nd, (let ⟨m, hm, sl⟩ := S.slots; ⟨m, hm.push o, sl.mono fun y av sy => sy.mv (.push o) fun a _ v _ q => q.keeps fun b o' e => Heap.get?_push_of_some _ e⟩),
    fun a ha => (let ⟨v, q⟩ := S.cells a ha; ⟨v, q.keeps fun b o' e => Heap.get?_push_of_some _ e⟩), fun p hp => (S.mem p hp).other (.push o) fun ob e => Heap.get?_push_of_some _ e, S.gens, S.drawn, S.os⟩
theorem Sat.pushOwn {s : Shared} (S : Sat c σ s) {l : List AV} {vs : List Value} (r : RelL (own c σ.mem) s.heap l vs) :
    Sat c ⟨σ.vals, (s.heap.objs.size, .list l) :: σ.mem⟩ { s with heap := s.heap.push ⟨.type "list", none, .seq vs.toArray 0, #[]⟩ } ∧
    Mv (own c σ.mem) s.heap (own c ((s.heap.objs.size, .list l) :: σ.mem)) (s.heap.push ⟨.type "list", none, .seq vs.toArray 0, #[]⟩) := by
  have fr := fresh_not S
  have mv : Mv (own c σ.mem) s.heap (own c ((s.heap.objs.size, AO.list l) :: σ.mem)) (s.heap.push ⟨.type "list", none, .seq vs.toArray 0, #[]⟩) := by
    intro b o hn e
    refine ⟨fun q => ?_, Heap.get?_push_of_some _ e⟩
    rcases List.mem_cons.mp q with q | q
    · exact hn (q ▸ .head _)
    · rcases List.mem_append.mp q with q | q
      · exact hn (.tail _ (List.mem_append_left _ q))
      · rcases List.mem_cons.mp q with q | q
        · exact absurd (Heap.lt_size e) (by rw [show b = s.heap.objs.size from q]; exact Nat.lt_irrefl _)
        · exact hn (.tail _ (List.mem_append_right _ q))
  have S' := S.push ⟨.type "list", none, .seq vs.toArray 0, #[]⟩
  refine ⟨⟨S.base.mv mv, ?_, (let ⟨m, hm, sl⟩ := S.slots; ⟨m, hm.push _, sl.mono fun y av sy => sy.mv mv fun a _ v _ q => q.keeps fun b o' e => Heap.get?_push_of_some _ e⟩), S'.cells, ?_, S.gens, S.drawn, S.os⟩, mv⟩
  · have q := List.nodup_cons.mp S.nd
    have q2 := List.nodup_append.mp q.2
    refine List.nodup_cons.mpr ⟨fun z => ?_, List.nodup_append.mpr ⟨q2.1, List.nodup_cons.mpr ⟨fun z => fr (.tail _ (List.mem_append_right _ z)), q2.2.1⟩, fun a ha b hb e => ?_⟩⟩
    · rcases List.mem_append.mp z with z | z
      · exact q.1 (List.mem_append_left _ z)
      · rcases List.mem_cons.mp z with z | z
        · exact fr (by rw [show s.heap.objs.size = c.env.locals from z.symm]; exact .head _)
        · exact q.1 (List.mem_append_right _ z)
    · subst e
      rcases List.mem_cons.mp hb with z | z
      · exact fr (.tail _ (List.mem_append_left _ ((show a = s.heap.objs.size from z) ▸ ha)))
      · exact q2.2.2 a ha a z rfl
  · intro p hp
    rcases List.mem_cons.mp hp with rfl | hp
    · exact ⟨vs, ⟨0, Heap.get?_push_size _ rfl⟩, RelL.mv mv _ _ r⟩
    · exact (S.mem p hp).other mv fun ob e => Heap.get?_push_of_some _ e
theorem T_Tuple {elts : List Expr} {k : Nat} {pos : Pos} {Q : AV → AS → Prop} (h : TL c (spliced (backTo pos (starEach elts c.env))) σ fun l σ₁ => l.length ≤ sizeLine ∧ Q (.tup l) σ₁) : TV c (eval (.Tuple elts k pos) c.env) σ Q := by
  intro s S
  refine wpAny_Tuple_spliced (h.use S fun vs l σ₁ s₁ rl S₁ m₁ ⟨hsz, q⟩ => ⟨by rw [rl.length]; exact hsz, .tup l, σ₁, ?_, S₁.push _, m₁.trans (.push _), q⟩)
  exact ⟨_, vs, rfl, fresh_not S₁, ⟨0, Heap.get?_push_size _ rfl⟩, RelL.mv (.push _) _ _ rl⟩
theorem T_List {elts : List Expr} {pos : Pos} {Q : AV → AS → Prop} (h : TL c (spliced (backTo pos (starEach elts c.env))) σ fun l σ₁ => l.length ≤ sizeLine ∧ Q (.lst l) σ₁) : TV c (eval (.List elts pos) c.env) σ Q := by
  intro s S
  refine wpAny_List_spliced (h.use S fun vs l σ₁ s₁ rl S₁ m₁ ⟨hsz, q⟩ => ⟨by rw [rl.length]; exact hsz, .lst l, σ₁, ?_, S₁.push _, m₁.trans (.push _), q⟩)
  exact ⟨_, vs, rfl, fresh_not S₁, ⟨0, Heap.get?_push_size _ rfl⟩, RelL.mv (.push _) _ _ rl⟩
/-- a list display that is owned -/
theorem T_ListO {elts : List Expr} {pos : Pos} {Q : AV → AS → Prop} (h : TL c (spliced (backTo pos (starEach elts c.env))) σ fun l σ₁ => l.length ≤ sizeLine ∧ ∀ a, a ∉ σ₁.mem.dom → Q (.ref a) ⟨σ₁.vals, (a, .list l) :: σ₁.mem⟩) :
    TV c (eval (.List elts pos) c.env) σ Q := by
  intro s S
  refine wpAny_List_spliced (h.use S fun vs l σ₁ s₁ rl S₁ m₁ ⟨hsz, q⟩ => ⟨by rw [rl.length]; exact hsz, .ref s₁.heap.objs.size, _, rfl, (S₁.pushOwn rl).1, m₁.trans (S₁.pushOwn rl).2, q _ fun z => fresh_not S₁ (.tail _ (List.mem_append_right _ z))⟩)
end
end Mine
end
section
open PySem PySem.W PyProof.Rows PySem.Calls
set_option maxRecDepth 100000
namespace Mine
theorem evalArgs_sp {M : Model} {A : Around} {E : Value → Shared → Prop} {s : Shared} {f : Value} {l : List (Bool × Sem Value)} {Q : Args → Shared → Prop} (hs : l.all (fun x => !x.1) = true)
    (h : wpAny M A (spliced l) (fun vs s' => Q ⟨vs, []⟩ s') E s) : wpAny M A (evalArgs f true l []) Q E s := by
  have tail : ∀ vs s', Q ⟨vs, []⟩ s' → wpAny M A (holding (vs ++ (none : Option Value).toList) do
      let kw := (([] : List (Option Str × Sem Value)).filterMap (·.1)).zip (← evalAll (([] : List (Option Str × Sem Value)).map (·.2)))
      return ⟨← (pure vs : Sem (List Value)), kw⟩) Q E s' := fun vs s' q =>
    wpAny_holding (wpAny_bind (wpAny_pure (wpAny_bind (wpAny_pure (wpAny_pure q)))))
  unfold evalArgs
  match l, hs with
  | [], _ =>
    show wpAny M A (spliced [] >>= _) Q E s
    exact wpAny_bind (wpAny_mono h (fun vs s' q => wpAny_holding (wpAny_bind (wpAny_pure (wpAny_bind (wpAny_pure (wpAny_pure q)))))) fun _ _ x => x)
  | (false, x) :: rest, _ =>
    show wpAny M A (spliced ((false, x) :: rest) >>= _) Q E s
    exact wpAny_bind (wpAny_mono h (fun vs s' q => wpAny_holding (wpAny_bind (wpAny_pure (wpAny_bind (wpAny_pure (wpAny_pure q)))))) fun _ _ x => x)
theorem backTo_all {pos : Pos} {l : List (Bool × Sem Value)} (hs : l.all (fun x => !x.1) = true) : (backTo pos l).all (fun x => !x.1) = true := by
  unfold backTo
  rw [List.all_map]
  exact hs
theorem all_any {l : List (Bool × Sem Value)} (hs : l.all (fun x => !x.1) = true) : l.any (·.1) = false := by
  rw [List.any_eq_false]
  intro x hx
  have := List.all_eq_true.mp hs x hx
  cases h : x.1 <;> simp_all
/-- a def of the program lies there -/
noncomputable def IsFn (fa : Addr) : Prop := ∀ w, ∃ o fd, (KF w).lookup fa = some o ∧ o.data = .func fd
section
variable {c : Cx} {ks sk gl cs : List Str} {n : Nat} {σ : AS}
theorem call_FS {k : Nat} {f : Value} {l : List AV} {vs : List Value} {Q : AV → AS → Prop} {s₁ : Shared} {σ₁ : AS} (R : Room c.A k) (S₁ : Sat c σ₁ s₁) (rl : RelL (own c σ₁.mem) s₁.heap l vs)
    (h : FS c.w k f l σ₁.mem fun a m' => Q a ⟨σ₁.vals, m'⟩) :
    wpAny (model prog c.w) c.A (call f vs []) (fun v s' => ∃ b σ', Rel (own c σ'.mem) s'.heap b v ∧ Sat c σ' s' ∧ Mv (own c σ₁.mem) s₁.heap (own c σ'.mem) s'.heap ∧ Q b σ') (fun _ _ => False) s₁ := by
  refine wpAny_call (codeAny_mono (h c.A s₁ vs R S₁.pre (RelL.mv (.weak fun b hb => .tail _ (List.mem_append_right _ hb)) _ _ rl)) ?_)
  rintro r s' ⟨v, av, m', e, rv, P', mv, sm, q⟩
  subst e
  obtain ⟨S', mv'⟩ := S₁.back P' mv sm
  exact ⟨av, _, Rel.avoid S'.bad _ _ rv, S', mv', q⟩
theorem T_call (O : Ok c ks sk gl cs n) {f : Str} {np pos : Pos} {args : List Expr} {fa : Addr} {Q : AV → AS → Prop} (hx : f ∈ gl) (g : GV f (.ref fa)) (hf : IsFn fa)
    (h : TL c (spliced (backTo pos (starEach args c.env))) σ fun l σ₁ => ∃ k, k ≤ n ∧ FS c.w k (.ref fa) l σ₁.mem fun a m' => Q a ⟨σ₁.vals, m'⟩)
    (hs : (starEach args c.env).all (fun x => !x.1) = true := by rfl) : TV c (eval (.Call (.Name f np) args [] pos) c.env) σ Q := by
  intro s S
  refine wpAny_Call_Name_kw ((T_glob (Q := fun a σ' => a = .ref fa ∧ σ' = σ) O hx g ⟨rfl, rfl⟩).use S fun vf a σ' s' rf S' m' ⟨e1, e2⟩ => ?_)
  subst e1 e2
  cases rf
  refine callWith_function_kw (o := ((hf c.w).choose)) (fd := (hf c.w).choose_spec.choose) ?_
  refine evalArgs_sp (backTo_all hs) (h.use S' fun vs l σ₁ s₁ rl S₁ m₁ ⟨k, hk, hc⟩ => ⟨?_, ?_⟩)
  · obtain ⟨h1, h2⟩ := (hf c.w).choose_spec.choose_spec
    exact ⟨S₁.base.kin _ _ h1, h2⟩
  · refine wpAny_mono (call_FS (O.room.le hk) S₁ rl hc) (fun v s' ⟨b, σ', r', S', mv, q⟩ => ⟨b, σ', r', S', (m'.trans m₁).trans mv, q⟩) fun _ _ x => x
/-- an owned object is forgotten -/
theorem Sat.drop {s : Shared} {mem' : Mem} (S : Sat c σ s) (sub : mem'.Sublist σ.mem) : Sat c ⟨σ.vals, mem'⟩ s ∧ Mv (own c σ.mem) s.heap (own c mem') s.heap := by
  have subd : ∀ b ∈ mem'.dom, b ∈ σ.mem.dom := fun b hb => (sub.map _).subset hb
  have sube : ∀ b ∈ own c mem', b ∈ own c σ.mem := fun b hb => by
    rcases List.mem_cons.mp hb with q | q
    · exact q ▸ .head _
    · rcases List.mem_append.mp q with q | q
      · exact .tail _ (List.mem_append_left _ q)
      · exact .tail _ (List.mem_append_right _ (subd b q))
  have mv : Mv (own c σ.mem) s.heap (own c mem') s.heap := .weak sube
  refine ⟨⟨S.base.mv mv, ?_, (let ⟨m, hm, sl⟩ := S.slots; ⟨m, hm, sl.mono fun y av sy => sy.mv mv fun _ _ _ _ q => q⟩), S.cells, fun p hp => (S.mem p (sub.subset hp)).other mv fun _ e => e, S.gens, S.drawn, S.os⟩, mv⟩
  exact S.nd.sublist (.cons_cons _ (List.Sublist.append (.refl _) (sub.map _)))
theorem TT.drop {α β : Type} {RR : List Addr → Heap → β → α → Prop} {t : Sem α} {Q : β → AS → Prop} {mem' : Mem} (sub : mem'.Sublist σ.mem) (h : TT RR c t ⟨σ.vals, mem'⟩ Q) : TT RR c t σ Q :=
  fun s S => (h.use (S.drop sub).1 fun a b σ' s' r S' m q => ⟨b, σ', r, S', (S.drop sub).2.trans m, q⟩)
end
end Mine
end
section
open PySem PySem.W PyProof.Rows PySem.Calls
set_option maxRecDepth 100000
namespace Mine
noncomputable def fnSt (fd : FuncData) (ks gl cs : List Str) : Bool :=
  cs.all (fun x => fd.scope.names.lookup x == some .cell) &&
  ks.all (fun x => (fd.scope.names.lookup x == some .local || fd.scope.names.lookup x == some .cell) && !(x == ("__debug__" : Str))) &&
  gl.all (fun x => fd.scope.names.lookup x == some .globalImplicit && !(x == ("__debug__" : Str))) &&
  (fd.scope.kind == .function) && !fd.scope.isCoroutine && !fd.scope.isGenerator && (fd.globals == mainGlobals) && (fd.builtins == builtinsNs) && decide ks.Nodup && fd.closure.isEmpty
structure FnSt (fd : FuncData) (ks gl cs : List Str) : Prop where
  st : ∀ x ∈ ks, fd.scope.names.lookup x = some .local ∨ fd.scope.names.lookup x = some .cell
  csk : ∀ x ∈ cs, fd.scope.names.lookup x = some .cell
  glk : ∀ x ∈ gl, fd.scope.names.lookup x = some .globalImplicit
  dbg : ∀ x ∈ ks ++ gl, (x == ("__debug__" : Str)) = false
  kind : fd.scope.kind = .function
  co : fd.scope.isCoroutine = false
  gen : fd.scope.isGenerator = false
  globals : fd.globals = mainGlobals
  builtins : fd.builtins = builtinsNs
  nd : ks.Nodup
  clo : fd.closure = []
theorem FnSt.of {fd : FuncData} {ks gl cs : List Str} (h : fnSt fd ks gl cs = true) : FnSt fd ks gl cs := by
  unfold fnSt at h
  simp only [Bool.and_eq_true, List.all_eq_true, Bool.or_eq_true, beq_iff_eq, Bool.not_eq_true', decide_eq_true_eq, List.isEmpty_iff] at h
  obtain ⟨⟨⟨⟨⟨⟨⟨⟨⟨h0, h1⟩, h2⟩, h3⟩, h4⟩, h5⟩, h6⟩, h7⟩, h8⟩, h9⟩ := h
  refine ⟨fun x hx => (h1 x hx).1, fun x hx => h0 x hx, fun x hx => (h2 x hx).1, fun x hx => ?_, h3, h4, h5, h6, h7, h8, h9⟩
  rcases List.mem_append.mp hx with q | q
  · exact (h1 x q).2
  · exact (h2 x q).2
theorem bindL_skip {kindOf : Str → Option NameKind} {x : Str} : ∀ (binds : List (Str × Value)) (m : Str → Option Value), x ∉ binds.map (·.1) → bindL kindOf binds m x = m x
  | [], _, _ => rfl
  | (n, v) :: r, m, h => by
    unfold bindL
    rw [bindL_skip r _ fun q => h (.tail _ q)]
    split
    · show (if x = n then some v else m x) = m x
      exact if_neg fun e => h (by rw [e]; exact .head _)
    · rfl
theorem bindC_skip {kindOf : Str → Option NameKind} {x : Str} : ∀ (binds : List (Str × Value)) (m : Str → Option Value), x ∉ binds.map (·.1) → bindC kindOf binds m x = m x
  | [], _, _ => rfl
  | (n, v) :: r, m, h => by
    unfold bindC
    rw [bindC_skip r _ fun q => h (.tail _ q)]
    split
    · rfl
    · show (if x = n then some v else m x) = m x
      exact if_neg fun e => h (by rw [e]; exact .head _)
theorem bindL_get {kindOf : Str → Option NameKind} {x : Str} {v : Value} (hk : kindOf x = some .local) : ∀ (binds : List (Str × Value)) (m : Str → Option Value), (binds.map (·.1)).Nodup → (x, v) ∈ binds → bindL kindOf binds m x = some v
  | (n, u) :: r, m, nd, h => by
    have nd' := List.nodup_cons.mp nd
    unfold bindL
    rcases List.mem_cons.mp h with e | h
    · cases e
      rw [bindL_skip r _ nd'.1, if_pos hk]
      exact if_pos rfl
    · exact bindL_get hk r _ nd'.2 h
theorem bindC_get {kindOf : Str → Option NameKind} {x : Str} {v : Value} (hk : kindOf x ≠ some .local) : ∀ (binds : List (Str × Value)) (m : Str → Option Value), (binds.map (·.1)).Nodup → (x, v) ∈ binds → bindC kindOf binds m x = some v
  | (n, u) :: r, m, nd, h => by
    have nd' := List.nodup_cons.mp nd
    unfold bindC
    rcases List.mem_cons.mp h with e | h
    · cases e
      rw [bindC_skip r _ nd'.1, if_neg hk]
      exact if_pos rfl
    · exact bindC_get hk r _ nd'.2 h
theorem ns_statics (w : World) : nsOkIn (KF w) cStatics = true := by kernel_rfl
theorem ns_limit (w : World) : nsIn (KF w) cStatics "sys.recursionlimit" = some none := by kernel_rfl
theorem Base.noLimit {w : World} {P : List Addr} {h : Heap} (B : Base w P h) : h.NoLimit := ⟨_, .of_isNs (isNs_of_in B.kin (ns_statics w)), nsMap_none_of_in B.kin (ns_statics w) (ns_limit w)⟩
theorem slots_start {c : Cx} {P : List Addr} {h : Heap} {m : Str → Option Value} : ∀ {pn : List Str} {args : List AV} {vals : List Value} {rest : List Str}, RelL P h args vals → args.length = pn.length →
    (∀ x v a, (x, v) ∈ pn.zip vals → Rel P h a v → Slot c P h m x a) → Slots c P h m (pn ++ rest) (args ++ rest.map fun _ => .unb)
  | [], [], _, rest, _, _, _ => by
    show Slots c P h m rest (rest.map fun _ => .unb)
    induction rest with
    | nil => rfl
    | cons x r ih => exact ⟨.unb, _, rfl, .unb rfl, ih⟩
  | x :: pn, a :: args, vals, rest, ⟨v, r, e, hx, hl⟩, len, f => by
    subst e
    exact ⟨a, _, rfl, f x v a (.head _) hx, slots_start hl (by simpa using len) fun y u b hm hr => f y u b (.tail _ hm) hr⟩
  | [], _ :: _, _, _, _, len, _ => by cases len
  | _ :: _, [], _, _, _, len, _ => by cases len
theorem nodup_cells {cs : List (Str × Addr)} (ap : cs.Pairwise fun x y => x.2 ≠ y.2) : ∀ {ks : List Str}, ks.Nodup → (ks.filterMap fun x => cs.lookup x).Nodup
  | [], _ => List.nodup_nil
  | x :: ks, nd => by
    have nd' := List.nodup_cons.mp nd
    have ih := nodup_cells ap nd'.2
    cases h : cs.lookup x with
    | none => rw [List.filterMap_cons, h]; exact ih
    | some a =>
      rw [List.filterMap_cons, h]
      refine List.nodup_cons.mpr ⟨fun q => ?_, ih⟩
      obtain ⟨y, hy, e⟩ := List.mem_filterMap.mp q
      exact nd'.1 (name_of_addr ap (mem_of_lookup h) (mem_of_lookup e) ▸ hy)
theorem binds_of_peek {w : World} {s : Shared} {fd : FuncData} {args : Args} {binds : List (Str × Value)} (X : (KF w).In s.heap) (h : ∀ S, peek (KF w) S (bindArgs fd args) = some binds) : BindsTo s fd args binds :=
  fun M A E Q q Γ p _ => wp_of_peek X q _ (h _)
theorem call_cells {w : World} {A : Around} {s : Shared} {R : Result → Shared → Prop} {a : Addr} {o : Obj} {fd : FuncData} {body : List Stmt} {args : Args} {binds : List (Str × Value)}
    (hroom : A.depth < recursionLimit) (ho : s.heap.get? a = some o) (hdata : o.data = .func fd) (hlim : s.heap.NoLimit) (hcd : s.heap.CodeRec fd.code fd.qualname)
    (hbody : fd.body = .stmts body) (hbind : BindsTo s fd args binds) (hclo : fd.closure = [])
    (hkind : ∀ x ∈ binds, fd.scope.names.lookup x.1 = some .local ∨ (fd.scope.names.lookup x.1 = some .cell ∧ ((cellsFrom (s.heap.objs.size + 1) fd.scope.names []).lookup x.1).isSome = true))
    (h : ∀ s₁, InCallC s (callEnvC fd s.heap.objs.size a).locals (bindL (callEnvC fd s.heap.objs.size a).kindOf binds fun _ => none) (callEnvC fd s.heap.objs.size a).cells
        (bindC (callEnvC fd s.heap.objs.size a).kindOf binds fun _ => none) s₁ →
      wpAny (model prog w) (A.deeper (callEnvC fd s.heap.objs.size a)) (execs body (callEnvC fd s.heap.objs.size a)) (fun f s' => R (.ok (.ret (match f with | .ret v => v | _ => .none))) s')
        (fun e s' => wpAny (model prog w) (A.deeper (callEnvC fd s.heap.objs.size a)) (leaving (callEnvC fd s.heap.objs.size a) e) (fun _ s'' => R (.error e) s'') (fun e' s'' => R (.error e') s'') s') s₁)
    (hco : fd.scope.isCoroutine = false) (hgen : fd.scope.isGenerator = false) (hk : fd.scope.kind = .function) :
    codeAny (model prog w) A (.call (.ref a) args) R s := by
  refine codeAny_call_function hroom ho hdata hco hgen hbody hcd (hbind _ _ _ _ ?_)
  rw [hclo]
  refine wpAny_newFunctionEnv_cells hk hkind fun env he s' x => ?_
  subst he
  exact ⟨hlim.keeps x.toInCall.keep, codeAny_func (h s' x)⟩
theorem FS_enterX {w : World} {n : Nat} {fa : Addr} {args : List AV} {mem : Mem} {Q : AV → Mem → Prop} {oc : Value} {od : Option Addr} {osl : Array (Option Value)} {fd : FuncData} {body : List Stmt} {pn rest ks gl cs : List Str} {dav : List AV} {dv : List Value}
    (ho : (KF w).lookup fa = some ⟨oc, od, .func fd, osl⟩) (hb : fd.body = .stmts body) (hst : fnSt fd ks gl cs = true) (hcd : codeIn (KF w) fd.code fd.qualname = true) (hks : ks = pn ++ rest)
    (hl : args.length + dav.length = pn.length) (hdv : ∀ P h, RelL P h dav dv) (hbind : ∀ vals : List Value, vals.length = args.length → ∀ S, peek (KF w) S (bindArgs fd ⟨vals, []⟩) = some (pn.zip (vals ++ dv)))
    (h : ∀ c : Cx, c.w = w → Ok c ks ks gl cs n → (∃ L, c.env = callEnvC fd L fa) → TF c (execs body c.env) ⟨(args ++ dav) ++ rest.map (fun _ => .unb), mem⟩ (fun f σ => ∀ s', Sat c σ s' → ∃ mem', (∀ b ∈ mem'.dom, b ∈ own c σ.mem) ∧ Pre w mem' s'.heap ∧ (match f with | .ret a => Q a mem' | _ => Q .none mem'))) :
    FS w (n + 1) (.ref fa) args mem Q := by
  intro A s vals₀ R P rl₀
  have st := FnSt.of hst
  have hb₀ := binds_of_peek P.base.kin (hbind vals₀ rl₀.length)
  have rl := rl₀.append (hdv mem.dom s.heap)
  generalize vals₀ ++ dv = vals at rl hb₀
  have lenv : vals.length = pn.length := rl.length.trans (by rw [List.length_append]; exact hl)
  have hzip : (pn.zip vals).map (·.1) = pn := List.map_fst_zip (by rw [lenv]; exact Nat.le_refl _)
  have ndp : pn.Nodup := by have := st.nd; rw [hks] at this; exact (List.nodup_append.mp this).1
  have cellSome : ∀ x, fd.scope.names.lookup x = some .cell → ((cellsFrom (s.heap.objs.size + 1) fd.scope.names []).lookup x).isSome = true := fun x hx => cellsFrom_some _ _ _ (.inl hx)
  have hkind : ∀ x ∈ pn.zip vals, fd.scope.names.lookup x.1 = some .local ∨ (fd.scope.names.lookup x.1 = some .cell ∧ ((cellsFrom (s.heap.objs.size + 1) fd.scope.names []).lookup x.1).isSome = true) := by
    intro x hx
    have hm : x.1 ∈ ks := by rw [hks]; exact List.mem_append_left _ (hzip ▸ List.mem_map_of_mem hx)
    rcases st.st x.1 hm with q | q
    · exact .inl q
    · exact .inr ⟨q, cellSome _ q⟩
  refine call_cells (by have := R.depth; (first | exact om58 this | omega)) (P.base.kin _ _ ho) rfl P.base.noLimit (codeRec_of P.base.kin hcd) hb hb₀ st.clo hkind (fun s₁ I => ?_) st.co st.gen st.kind
  -- the frame
  let env := callEnvC fd s.heap.objs.size fa
  let ocl := ks.filterMap fun x => env.cells.lookup x
  let c : Cx := ⟨w, A.deeper env, env, ks, ocl, s.gens, s.drawn, s.os⟩
  obtain ⟨h₁, tk, e₁⟩ := I.toInCall.same
  subst e₁
  have szL : env.locals = s.heap.objs.size := rfl
  have atCells : ∀ a ∈ ocl, ∃ n', env.cells.lookup n' = some a := fun a ha => by
    obtain ⟨p, hp, e⟩ := List.mem_filterMap.mp ha
    exact ⟨p, e⟩
  have inCells : ∀ a ∈ ocl, ∃ n', (n', a) ∈ env.cells := fun a ha => (atCells a ha).imp fun _ e => mem_of_lookup e
  have okc := cellsFrom_ok fd.scope.names (s.heap.push { cls := .type "frame", data := .dict #[] }) (s.heap.objs.size + 1) [] ⟨fun _ _ hm => (nomatch hm), List.Pairwise.nil⟩ (by rw [Heap.size_push]; exact Nat.le_refl _)
  rw [Heap.size_push] at okc
  have fresh : ∀ b ∈ env.locals :: ocl, s.heap.get? b = none := by
    intro b hb
    refine Heap.get?_none_of_le ?_
    rcases List.mem_cons.mp hb with q | q
    · exact q ▸ Nat.le_refl _
    · obtain ⟨n', hn⟩ := inCells b q
      exact Nat.le_of_lt (I.above n' b hn)
  have mv₁ : Mv mem.dom s.heap (own c mem) h₁ := by
    intro b o hn e
    refine ⟨fun q => ?_, I.toInCall.keep b o e⟩
    rcases List.mem_cons.mp q with q | q
    · rw [fresh b (q ▸ .head _)] at e; cases e
    · rcases List.mem_append.mp q with q | q
      · rw [fresh b (.tail _ q)] at e; cases e
      · exact hn q
  have memThere : ∀ b ∈ mem.dom, ∃ o, s.heap.get? b = some o := fun b hb => by
    obtain ⟨p, hp, rfl⟩ := List.mem_map.mp hb
    exact (P.mem p hp).there
  have O : Ok c ks ks gl cs n := by
    refine ⟨rfl, st.kind, st.nd, fun x hx => ?_, fun x hx => st.glk x hx, st.dbg, fun x hx => ⟨.inl (st.csk x hx), cellSome x (st.csk x hx)⟩, fun x y a _ h1 h2 => name_of_addr okc.apart (mem_of_lookup h1) (mem_of_lookup h2), st.globals, st.builtins, ⟨R.handled, ?_, ?_⟩⟩
    · rcases st.st x hx with q | q
      · exact .inl q
      · obtain ⟨a, ha⟩ := Option.isSome_iff_exists.mp (cellSome x q)
        exact .inr ⟨q, a, List.mem_filterMap.mpr ⟨x, hx, ha⟩, ha⟩
    · show A.depth + 1 + n < recursionLimit
      have := R.depth; (first | exact om59 this | omega)
    · show A.units + 3 + 8 * n + 8 < cLine
      have := R.units; (first | exact om60 this | omega)
  have S : Sat c ⟨(args ++ dav) ++ rest.map (fun _ => .unb), mem⟩ { s with heap := h₁, toks := tk } := by
    refine ⟨P.base.mv mv₁, ?_, ⟨_, I.toInCall.ns, ?_⟩, ?_, fun p hp => (P.mem p hp).other mv₁ fun ob e => I.toInCall.keep _ _ e, rfl, rfl, rfl⟩
    · refine List.nodup_cons.mpr ⟨fun q => ?_, List.nodup_append.mpr ⟨?_, P.nd, fun a ha b hb e => ?_⟩⟩
      · rcases List.mem_append.mp q with q | q
        · obtain ⟨n', hn⟩ := inCells _ q
          exact Nat.lt_irrefl _ (I.above n' _ hn)
        · obtain ⟨o, ho⟩ := memThere _ q
          rw [fresh _ (.head _)] at ho; cases ho
      · exact nodup_cells okc.apart st.nd
      · subst e
        obtain ⟨o, ho⟩ := memThere _ hb
        rw [fresh _ (.tail _ ha)] at ho; cases ho
    · show Slots c _ _ _ ks _
      rw [hks]
      refine slots_start (RelL.mv mv₁ _ _ rl) (by rw [List.length_append]; exact hl) fun x v a hm hr => ?_
      have hx : x ∈ ks := by rw [hks]; exact List.mem_append_left _ (hzip ▸ List.mem_map_of_mem hm)
      rcases st.st x hx with q | q
      · exact .loc v q (bindL_get q _ _ (by rw [hzip]; exact ndp) hm) hr
      · obtain ⟨d, hd⟩ := Option.isSome_iff_exists.mp (cellSome x q)
        have hnl : env.kindOf x ≠ some .local := by show fd.scope.names.lookup x ≠ _; rw [q]; decide
        refine .cell d v q hd (.inl (List.mem_filterMap.mpr ⟨x, hx, hd⟩)) ?_ hr
        have := I.cell x d hd
        rw [bindC_get hnl _ _ (by rw [hzip]; exact ndp) hm] at this
        exact this
    · intro a ha
      obtain ⟨n', hn⟩ := atCells a ha
      exact ⟨_, I.cell n' a hn⟩
  refine wpAny_mono (h c rfl O ⟨_, rfl⟩ _ S) (fun f s' ⟨b, σ', rf, S', m', q⟩ => ?_) fun _ _ x => x.elim
  obtain ⟨mem', subd, P', q⟩ := q s' S'
  have mvAll : Mv mem.dom s.heap mem'.dom s'.heap := (mv₁.trans m').trans (.weak subd)
  cases b with
  | ret a => obtain ⟨v, rfl, rv⟩ := rf; exact ⟨v, a, mem', rfl, Rel.mv (.weak subd) _ _ rv, P', mvAll, ⟨S'.gens, S'.drawn, S'.os⟩, q⟩
  | next => cases rf; exact ⟨.none, .none, mem', rfl, rfl, P', mvAll, ⟨S'.gens, S'.drawn, S'.os⟩, q⟩
  | brk => cases rf; exact ⟨.none, .none, mem', rfl, rfl, P', mvAll, ⟨S'.gens, S'.drawn, S'.os⟩, q⟩
  | cont => cases rf; exact ⟨.none, .none, mem', rfl, rfl, P', mvAll, ⟨S'.gens, S'.drawn, S'.os⟩, q⟩
theorem FS_enterK {w : World} {n : Nat} {fa : Addr} {args : List AV} {mem : Mem} {Q : AV → Mem → Prop} {oc : Value} {od : Option Addr} {osl : Array (Option Value)} {fd : FuncData} {body : List Stmt} {pn rest ks gl cs : List Str} {dav : List AV} {dv : List Value}
    (ho : (KF w).lookup fa = some ⟨oc, od, .func fd, osl⟩) (hb : fd.body = .stmts body) (hst : fnSt fd ks gl cs = true) (hcd : codeIn (KF w) fd.code fd.qualname = true) (hks : ks = pn ++ rest)
    (hl : args.length + dav.length = pn.length) (hdv : ∀ P h, RelL P h dav dv) (hbind : ∀ vals : List Value, vals.length = args.length → ∀ S, peek (KF w) S (bindArgs fd ⟨vals, []⟩) = some (pn.zip (vals ++ dv)))
    (h : ∀ c : Cx, c.w = w → Ok c ks ks gl cs n → (∀ x, c.env.kindOf x = fd.scope.names.lookup x) → TF c (execs body c.env) ⟨(args ++ dav) ++ rest.map (fun _ => .unb), mem⟩ (fun f σ => match f with | .ret a => Q a σ.mem | _ => Q .none σ.mem)) :
    FS w (n + 1) (.ref fa) args mem Q :=
  FS_enterX ho hb hst hcd hks hl hdv hbind fun c hw O ⟨L, hL⟩ => (h c hw O fun x => by rw [hL]; rfl).mono fun f σ q s' S' => ⟨σ.mem, fun b hb => .tail _ (List.mem_append_right _ hb), hw ▸ S'.pre, q⟩
theorem FS_enter {w : World} {n : Nat} {fa : Addr} {args : List AV} {mem : Mem} {Q : AV → Mem → Prop} {oc : Value} {od : Option Addr} {osl : Array (Option Value)} {fd : FuncData} {body : List Stmt} {pn rest ks gl cs : List Str} {dav : List AV} {dv : List Value}
    (ho : (KF w).lookup fa = some ⟨oc, od, .func fd, osl⟩) (hb : fd.body = .stmts body) (hst : fnSt fd ks gl cs = true) (hcd : codeIn (KF w) fd.code fd.qualname = true) (hks : ks = pn ++ rest)
    (hl : args.length + dav.length = pn.length) (hdv : ∀ P h, RelL P h dav dv) (hbind : ∀ vals : List Value, vals.length = args.length → ∀ S, peek (KF w) S (bindArgs fd ⟨vals, []⟩) = some (pn.zip (vals ++ dv)))
    (h : ∀ c : Cx, c.w = w → Ok c ks ks gl cs n → TF c (execs body c.env) ⟨(args ++ dav) ++ rest.map (fun _ => .unb), mem⟩ (fun f σ => match f with | .ret a => Q a σ.mem | _ => Q .none σ.mem)) :
    FS w (n + 1) (.ref fa) args mem Q := FS_enterK ho hb hst hcd hks hl hdv hbind fun c hw O _ => h c hw O
end Mine
end
section
open PySem PySem.W PyProof.Rows PySem.Calls
set_option maxRecDepth 100000
namespace Mine
section
variable {c : Cx} {ks sk gl cs : List Str} {n : Nat} {σ : AS} {Q : AV → AS → Prop} {i j : Int} {x y : Str}
/-- an end that makes a number of fresh toks alone -/
theorem op_add_int (q : Q (.int (i + j)) σ) : Op2 c (binaryOp .Add) (.int i) (.int j) σ Q := fun va vb s ⟨t, ea⟩ ⟨u, eb⟩ S => by
  subst ea eb; exact add_int ⟨.int (i + j), σ, ⟨_, rfl⟩, S.toks _, .refl, q⟩
theorem op_sub_int (q : Q (.int (i - j)) σ) : Op2 c (binaryOp .Sub) (.int i) (.int j) σ Q := fun va vb s ⟨t, ea⟩ ⟨u, eb⟩ S => by
  subst ea eb; exact sub_int ⟨.int (i - j), σ, ⟨_, rfl⟩, S.toks _, .refl, q⟩
theorem op_eq_int (q : Q (.bool (decide (i = j))) σ) : Op2 c (compareOp .Eq) (.int i) (.int j) σ Q := fun va vb s ⟨t, ea⟩ ⟨u, eb⟩ S => by
  subst ea eb; refine eq_int ⟨.bool _, σ, rfl, S, .refl, ?_⟩; rw [show (i == j) = decide (i = j) from rfl]; exact q
theorem op_lt_int (q : Q (.bool (decide (i < j))) σ) : Op2 c (compareOp .Lt) (.int i) (.int j) σ Q := fun va vb s ⟨t, ea⟩ ⟨u, eb⟩ S => by
  subst ea eb; exact lt_int ⟨.bool _, σ, rfl, S, .refl, q⟩
theorem op_ge_int (q : Q (.bool (decide (i ≥ j))) σ) : Op2 c (compareOp .GtE) (.int i) (.int j) σ Q := fun va vb s ⟨t, ea⟩ ⟨u, eb⟩ S => by
  subst ea eb; exact ge_int ⟨.bool _, σ, rfl, S, .refl, q⟩
theorem str_beq (x y : Str) : (x == y) = decide (x = y) := by
  by_cases h : x = y <;> simp [h]
theorem op_eq_str (q : Q (.bool (decide (x = y))) σ) : Op2 c (compareOp .Eq) (.str x) (.str y) σ Q := fun va vb s ⟨t, ea⟩ ⟨u, eb⟩ S => by
  subst ea eb; refine eq_str ⟨.bool _, σ, rfl, S, .refl, ?_⟩; rw [str_beq]; exact q
theorem op_ne_str (q : Q (.bool (!decide (x = y))) σ) : Op2 c (compareOp .NotEq) (.str x) (.str y) σ Q := fun va vb s ⟨t, ea⟩ ⟨u, eb⟩ S => by
  subst ea eb; refine ne_str ⟨.bool _, σ, rfl, S, .refl, ?_⟩; rw [bne, str_beq]; exact q
theorem op_lt_str (q : Q (.bool (decide (x.cps.toList < y.cps.toList))) σ) : Op2 c (compareOp .Lt) (.str x) (.str y) σ Q := fun va vb s ⟨t, ea⟩ ⟨u, eb⟩ S => by
  subst ea eb; exact lt_str ⟨.bool _, σ, rfl, S, .refl, q⟩
theorem op_add_str (hsz : x.length + y.length ≤ sizeLine) (q : Q (.str (x ++ y)) σ) : Op2 c (binaryOp .Add) (.str x) (.str y) σ Q := fun va vb s ⟨t, ea⟩ ⟨u, eb⟩ S => by
  subst ea eb; exact add_str (fun t' tk => ⟨.str (x ++ y), σ, ⟨t', rfl⟩, S.toks tk, .refl, q⟩) hsz
theorem op_iadd_str (hsz : x.length + y.length ≤ sizeLine) (q : Q (.str (x ++ y)) σ) : Op2 c (inplaceOp .Add) (.str x) (.str y) σ Q := fun va vb s ⟨t, ea⟩ ⟨u, eb⟩ S => by
  subst ea eb; exact iadd_str (fun t' tk => ⟨.str (x ++ y), σ, ⟨t', rfl⟩, S.toks tk, .refl, q⟩) hsz
theorem T_Subscript {value slice : Expr} {pos : Pos} (h : TV c (eval value c.env) σ fun a σ₁ => TV c (eval slice c.env) σ₁ fun b σ₂ => Op2 c (subscriptTail value slice) a b σ₂ Q) :
    TV c (eval (.Subscript value slice pos) c.env) σ Q := by
  intro s S
  refine Subscript_ (h.use S fun va a σ₁ s₁ ra S₁ m₁ h₁ => h₁.use S₁ fun vb b σ₂ s₂ rb S₂ m₂ h₂ => ?_)
  exact wpAny_mono (h₂ va vb s₂ (Rel.mv m₂ _ _ ra) rb S₂) (fun v s' ⟨b', σ', r', S', m', q'⟩ => ⟨b', σ', r', S', (m₁.trans m₂).trans m', q'⟩) fun _ _ x => x
/-- an index that is no slice -/
noncomputable def PlainIdx (slice : Expr) : Prop := ∀ o i, subscripted slice false o i = operate [o, i] (getItem o i)
theorem idx_of {k : Int} {m : Nat} {a : AV} {l : List AV} (h0 : 0 ≤ k) (h : l[k.toNat]? = some a) (hb : l.length ≤ sizeLine) : k < 2 ^ 63 ∧ seqIndex? k l.length = some k.toNat := by
  have hlt : k.toNat < l.length := by
    rw [List.getElem?_eq_some_iff] at h; exact h.1
  have hs : sizeLine = 16777216 := rfl
  refine ⟨by omega, ?_⟩
  unfold seqIndex?
  have h1 : ¬ k < 0 := by (first | exact om62 h0 | omega)
  simp only [if_neg h1]
  exact if_pos (by simp only [Bool.and_eq_true, decide_eq_true_eq]; (first | exact om63 h0 hb hlt hs | omega))
theorem op_item_tup {value slice : Expr} {k : Int} {a : AV} {l : List AV} (h0 : 0 ≤ k) (hx : l[k.toNat]? = some a) (q : Q a σ) (hb : l.length ≤ sizeLine) (hs : PlainIdx slice) :
    Op2 c (subscriptTail value slice) (.tup l) (.int k) σ Q := fun va vb s ⟨ad, vs, ea, hn, ht, rl⟩ ⟨u, eb⟩ S => by
  subst ea eb
  obtain ⟨v, hv, rv⟩ := rl.get hx
  obtain ⟨h1, h2⟩ := idx_of (m := 0) h0 hx hb
  exact item_tupleT ht.isTup (by (first | exact om64 h0 h1 | omega)) h1 (by rw [rl.length]; exact h2) hv ⟨a, σ, rv, S, .refl, q⟩ (hs _ _)
theorem op_item_lst {value slice : Expr} {k : Int} {a : AV} {l : List AV} (h0 : 0 ≤ k) (hx : l[k.toNat]? = some a) (q : Q a σ) (hb : l.length ≤ sizeLine) (hs : PlainIdx slice) :
    Op2 c (subscriptTail value slice) (.lst l) (.int k) σ Q := fun va vb s ⟨ad, vs, ea, hn, ht, rl⟩ ⟨u, eb⟩ S => by
  subst ea eb
  obtain ⟨v, hv, rv⟩ := rl.get hx
  obtain ⟨h1, h2⟩ := idx_of (m := 0) h0 hx hb
  exact tail_any ht.isList.typeIs slot_list_getitem.lookup (wpAny_getItem_list ht.isList h0 h1 (by simpa using hv) ⟨a, σ, rv, S, .refl, q⟩) (hs _ _)
end
end Mine
end
section
open PySem PySem.W PyProof.Rows PySem.Calls
set_option maxRecDepth 100000
namespace Mine
section
variable {c : Cx} {ks sk gl cs : List Str} {n : Nat} {σ : AS} {Q : AV → AS → Prop} {i j : Int} {x y : Str}
theorem Mv.kept {P : List Addr} {h h' : Heap} (hk : ∀ b o, h.get? b = some o → h'.get? b = some o) : Mv P h P h' := fun b o hn e => ⟨hn, hk b o e⟩
theorem Sat.kept {s : Shared} {h' : Heap} (S : Sat c σ s) (hk : ∀ b o, s.heap.get? b = some o → h'.get? b = some o) (tk : Nat) : Sat c σ { s with heap := h', toks := tk } :=
  ⟨S.base.mv (.kept hk), S.nd, (let ⟨m, hm, sl⟩ := S.slots; ⟨m, hm.keeps hk, sl.mono fun y av sy => sy.mv (.kept hk) fun a _ v _ q => q.keeps hk⟩),
    fun a ha => (let ⟨v, q⟩ := S.cells a ha; ⟨v, q.keeps hk⟩), fun p hp => (S.mem p hp).other (.kept hk) fun ob e => hk _ _ e, S.gens, S.drawn, S.os⟩
/-- av is the list l, frozen or owned -/
inductive LsV (m : Mem) : AV → List AV → Prop where
  | frozen {l : List AV} : LsV m (.lst l) l
  | owned {a : Addr} {l : List AV} : (a, AO.list l) ∈ m → LsV m (.ref a) l
theorem LsV.at {a : AV} {l : List AV} {v : Value} {s : Shared} (L : LsV σ.mem a l) (S : Sat c σ s) (r : Rel (own c σ.mem) s.heap a v) :
    ∃ ad vs, v = .ref ad ∧ ListAt s.heap ad vs ∧ RelL (own c σ.mem) s.heap l vs := by
  cases L with
  | frozen => obtain ⟨ad, vs, e, _, hl, rl⟩ := r; exact ⟨ad, vs, e, hl, rl⟩
  | owned hm =>
    cases r
    obtain ⟨vs, hl, rl⟩ := S.mem _ hm
    exact ⟨_, vs, rfl, hl, rl⟩
theorem op_item_list {value slice : Expr} {k : Int} {av a : AV} {l : List AV} (L : LsV σ.mem av l) (h0 : 0 ≤ k) (hx : l[k.toNat]? = some a) (q : Q a σ) (hb : l.length ≤ sizeLine) (hs : PlainIdx slice) :
    Op2 c (subscriptTail value slice) av (.int k) σ Q := fun va vb s ra ⟨u, eb⟩ S => by
  obtain ⟨ad, vs, rfl, ht, rl⟩ := L.at S ra
  subst eb
  obtain ⟨v, hv, rv⟩ := rl.get hx
  obtain ⟨h1, h2⟩ := idx_of (m := 0) h0 hx hb
  exact tail_any ht.isList.typeIs slot_list_getitem.lookup (wpAny_getItem_list ht.isList h0 h1 (by simpa using hv) ⟨a, σ, rv, S, .refl, q⟩) (hs _ _)
noncomputable def AV.isNone : AV → Bool
  | .none => true
  | _ => false
theorem op_is_none {a : AV} (q : Q (.bool a.isNone) σ) : Op2 c (compareOp .Is) a .none σ Q := fun va vb s ra rb S => by
  cases rb
  refine is_none ⟨.bool _, σ, rfl, S, .refl, ?_⟩
  have e : (va == Value.none) = a.isNone := by
    clear q
    cases a with
    | unb => exact ra.elim
    | none => cases ra; rfl
    | bool b => cases ra; rfl
    | int i => obtain ⟨t, rfl⟩ := ra; rfl
    | str i => obtain ⟨t, rfl⟩ := ra; rfl
    | ty n => cases ra; rfl
    | bi n => cases ra; rfl
    | ref n => cases ra; rfl
    | tup l => obtain ⟨a, vs, rfl, _⟩ := ra; rfl
    | lst l => obtain ⟨a, vs, rfl, _⟩ := ra; rfl
    | rng lo hi => obtain ⟨a, t, u, k, rfl, _⟩ := ra; rfl
  rw [e]; exact q
theorem op_floordiv (hj : j ≠ 0) (hs : j.natAbs < 1073741824) (q : Q (.int (i.fdiv j)) σ) : Op2 c (binaryOp .FloorDiv) (.int i) (.int j) σ Q := fun va vb s ⟨t, ea⟩ ⟨u, eb⟩ S => by
  subst ea eb; exact floordiv_int hj ⟨.int (i.fdiv j), σ, ⟨_, rfl⟩, S.toks _, .refl, q⟩ (.inl (PyProof.noPylong_small hs))
theorem op_mod (hj : j ≠ 0) (q : Q (.int (i.fmod j)) σ) : Op2 c (binaryOp .Mod) (.int i) (.int j) σ Q := fun va vb s ⟨t, ea⟩ ⟨u, eb⟩ S => by
  subst ea eb; exact mod_int' hj ⟨.int (i.fmod j), σ, ⟨_, rfl⟩, S.toks _, .refl, q⟩
theorem op_pow (hj : 0 ≤ j) (hs : (Builtin.Int.intBits i : Int) * j ≤ 2 ^ 27) (q : Q (.int (i ^ j.toNat)) σ) : Op2 c (binaryOp .Pow) (.int i) (.int j) σ Q := fun va vb s ⟨t, ea⟩ ⟨u, eb⟩ S => by
  subst ea eb; exact pow_int hj hs ⟨.int (i ^ j.toNat), σ, ⟨_, rfl⟩, S.toks _, .refl, q⟩
/-- a call of a built-in upon values at hand -/
noncomputable def BS (c : Cx) (f : Value) (l : List AV) (σ : AS) (Q : AV → AS → Prop) : Prop :=
  ∀ vs s, RelL (own c σ.mem) s.heap l vs → Sat c σ s →
    wpAny (model prog c.w) c.A (call f vs []) (fun a s' => ∃ b σ', Rel (own c σ'.mem) s'.heap b a ∧ Sat c σ' s' ∧ Mv (own c σ.mem) s.heap (own c σ'.mem) s'.heap ∧ Q b σ') (fun _ _ => False) s
theorem T_callB (O : Ok c ks sk gl cs n) {f : Str} {np pos : Pos} {args : List Expr} {id : String} (hx : f ∈ gl) (g : GV f (.bi id))
    (h : TL c (spliced (backTo pos (starEach args c.env))) σ fun l σ₁ => BS c (.builtin id) l σ₁ Q)
    (hs : (starEach args c.env).all (fun x => !x.1) = true := by rfl) : TV c (eval (.Call (.Name f np) args [] pos) c.env) σ Q := by
  intro s S
  refine wpAny_Call_Name_kw ((T_glob (Q := fun a σ' => a = .bi id ∧ σ' = σ) O hx g ⟨rfl, rfl⟩).use S fun vf a σ' s' rf S' m' ⟨e1, e2⟩ => ?_)
  subst e1 e2
  cases rf
  refine callWith_builtin (all_any (backTo_all hs)) (evalArgs_sp (backTo_all hs) (h.use S' fun vs l σ₁ s₁ rl S₁ m₁ hc => ?_))
  exact wpAny_mono (hc vs s₁ rl S₁) (fun v s' ⟨b, σ', r', S', mv, q⟩ => ⟨b, σ', r', S', (m'.trans m₁).trans mv, q⟩) fun _ _ x => x
theorem T_callT (O : Ok c ks sk gl cs n) {f : Str} {np pos : Pos} {args : List Expr} {ty : String} (hx : f ∈ gl) (g : GV f (.ty ty))
    (h : TL c (spliced (backTo pos (starEach args c.env))) σ fun l σ₁ => BS c (.type ty) l σ₁ Q)
    (hs : (starEach args c.env).all (fun x => !x.1) = true := by rfl) : TV c (eval (.Call (.Name f np) args [] pos) c.env) σ Q := by
  intro s S
  refine wpAny_Call_Name_kw ((T_glob (Q := fun a σ' => a = .ty ty ∧ σ' = σ) O hx g ⟨rfl, rfl⟩).use S fun vf a σ' s' rf S' m' ⟨e1, e2⟩ => ?_)
  subst e1 e2
  cases rf
  refine PyProof.Rows.callWith_type (all_any (backTo_all hs)) (evalArgs_sp (backTo_all hs) (h.use S' fun vs l σ₁ s₁ rl S₁ m₁ hc => ?_))
  exact wpAny_mono (hc vs s₁ rl S₁) (fun v s' ⟨b, σ', r', S', mv, q⟩ => ⟨b, σ', r', S', (m'.trans m₁).trans mv, q⟩) fun _ _ x => x
theorem fits63' {k : Nat} (h : k ≤ sizeLine) : (k : Int) < 2 ^ 63 := by
  have hs : sizeLine = 16777216 := rfl
  omega
theorem bs_len_list {a : AV} {l : List AV} (L : LsV σ.mem a l) (hb : l.length ≤ sizeLine) (q : Q (.int l.length) σ) : BS c (.builtin "len") [a] σ Q := fun vs s rl S => by
  obtain ⟨v, r, rfl, ra, rfl⟩ := rl
  obtain ⟨ad, ws, rfl, hl, rw⟩ := L.at S ra
  have e : ws.toArray.size = l.length := by rw [List.size_toArray, rw.length]
  refine len_list hl.isList (by rw [e]; exact fits63' hb) ⟨.int l.length, σ, ⟨s.toks + 1, by rw [e]⟩, S.toks _, .refl, q⟩
theorem bs_len_str (hb : x.length ≤ sizeLine) (q : Q (.int x.length) σ) : BS c (.builtin "len") [.str x] σ Q := fun vs s rl S => by
  obtain ⟨v, r, rfl, ⟨t, rfl⟩, rfl⟩ := rl
  exact SBL.len (by have := fits63' hb; omega) ⟨.int x.length, σ, ⟨s.toks + 1, rfl⟩, S.toks _, .refl, q⟩
theorem bs_min (O : Ok c ks sk gl cs n) (q : Q (.int (if j < i then j else i)) σ) : BS c (.builtin "min") [.int i, .int j] σ Q := fun vs s rl S => by
  obtain ⟨v, r, rfl, ⟨t, rfl⟩, ⟨v2, r2, rfl, ⟨u, rfl⟩, rfl⟩⟩ := rl
  refine min_two_ints O.room.handled fun h' tk hk => ⟨.int (if j < i then j else i), σ, ?_, S.kept hk tk, .kept hk, q⟩
  split <;> exact ⟨_, rfl⟩
theorem bs_max (O : Ok c ks sk gl cs n) (q : Q (.int (if j > i then j else i)) σ) : BS c (.builtin "max") [.int i, .int j] σ Q := fun vs s rl S => by
  obtain ⟨v, r, rfl, ⟨t, rfl⟩, ⟨v2, r2, rfl, ⟨u, rfl⟩, rfl⟩⟩ := rl
  refine max_two_ints O.room.handled fun h' tk hk => ⟨.int (if j > i then j else i), σ, ?_, S.kept hk tk, .kept hk, q⟩
  split <;> exact ⟨_, rfl⟩
/-- list + list, frozen -/
theorem op_add_list {a b : AV} {l m : List AV} (L : LsV σ.mem a l) (M : LsV σ.mem b m) (hsz : l.length + m.length ≤ sizeLine) (q : Q (.lst (l ++ m)) σ) : Op2 c (binaryOp .Add) a b σ Q := fun va vb s ra rb S => by
  obtain ⟨ad, vs, rfl, hl, rl⟩ := L.at S ra
  obtain ⟨bd, ws, rfl, hm, rm⟩ := M.at S rb
  obtain ⟨k, ho⟩ := id hl
  obtain ⟨k2, ho2⟩ := id hm
  have e : vs.toArray ++ ws.toArray = (vs ++ ws).toArray := by simp
  refine concat_meets ⟨_, ho, rfl⟩ ⟨_, ho2, rfl⟩ noFill_list_add seq_list_add PySem.F.slot_list_add PySem.F.entry_list_add (PySem.F.args_list_add_2 _ _) (list_addW ad bd vs.toArray ws.toArray k k2 none none #[] #[] (by simpa [rl.length, rm.length] using hsz)) ⟨ho, ho2, ?_⟩
  rw [e]
  exact ⟨.lst (l ++ m), σ, ⟨_, vs ++ ws, rfl, fresh_not S, ⟨0, Heap.get?_push_size _ rfl⟩, RelL.mv (.push _) _ _ (rl.append rm)⟩, S.push _, .push _, q⟩
theorem strsAre {P : List Addr} {h : Heap} : ∀ {l : List Str} {vs : List Value}, RelL P h (l.map .str) vs → StrsAre vs l
  | [], _, r => by cases r; exact .nil
  | _ :: _, _, ⟨v, r, e, ⟨t, ev⟩, hl⟩ => by subst e ev; exact .cons _ t (strsAre hl)
theorem intsAre {P : List Addr} {h : Heap} : ∀ {l : List Int} {vs : List Value}, RelL P h (l.map .int) vs → IntsAre vs l
  | [], _, r => by cases r; exact .nil
  | _ :: _, _, ⟨v, r, e, ⟨t, ev⟩, hl⟩ => by subst e ev; exact .cons _ t (intsAre hl)
theorem any_beq {α : Type} [BEq α] [LawfulBEq α] [DecidableEq α] (l : List α) (k : α) : (l.any (· == k)) = decide (k ∈ l) := by
  by_cases h : k ∈ l
  · rw [decide_eq_true h, List.any_eq_true]; exact ⟨k, h, beq_self_eq_true k⟩
  · rw [decide_eq_false h, List.any_eq_false]; intro z hz e; exact h (by rw [← beq_iff_eq.mp e]; exact hz)
theorem op_in_strs {a : AV} {l : List Str} (L : LsV σ.mem a (l.map .str)) (q : Q (.bool (decide (x ∈ l))) σ) : Op2 c (compareOp .In) (.str x) a σ Q := fun va vb s ⟨t, ea⟩ rb S => by
  obtain ⟨ad, vs, rfl, hl, rl⟩ := L.at S rb
  subst ea
  refine in_list_strs hl.isList (strsAre rl) ⟨.bool _, σ, rfl, S, .refl, ?_⟩
  rw [any_beq]; exact q
theorem op_in_ints {a : AV} {l : List Int} (L : LsV σ.mem a (l.map .int)) (q : Q (.bool (decide (i ∈ l))) σ) : Op2 c (compareOp .In) (.int i) a σ Q := fun va vb s ⟨t, ea⟩ rb S => by
  obtain ⟨ad, vs, rfl, hl, rl⟩ := L.at S rb
  subst ea
  refine in_list_ints hl.isList (intsAre rl) ⟨.bool _, σ, rfl, S, .refl, ?_⟩
  rw [any_beq]; exact q
theorem op_notin_ints {a : AV} {l : List Int} (L : LsV σ.mem a (l.map .int)) (q : Q (.bool (!decide (i ∈ l))) σ) : Op2 c (compareOp .NotIn) (.int i) a σ Q := fun va vb s ⟨t, ea⟩ rb S => by
  obtain ⟨ad, vs, rfl, hl, rl⟩ := L.at S rb
  subst ea
  refine notin_list_ints hl.isList (intsAre rl) ⟨.bool _, σ, rfl, S, .refl, ?_⟩
  rw [any_beq]; exact q
theorem bs_sum (O : Ok c ks sk gl cs n) {a : AV} {l : List Int} (L : LsV σ.mem a (l.map .int)) (q : Q (.int l.sum) σ) : BS c (.builtin "sum") [a] σ Q := fun vs s rl S => by
  obtain ⟨v, r, rfl, ra, rfl⟩ := rl
  obtain ⟨ad, ws, rfl, hl, rw'⟩ := L.at S ra
  have hi := intsAre rw'
  obtain ⟨xs, e⟩ := hi.allInts.items
  have hl := hl.isList
  rw [e] at hl
  refine sum_intListG O.room.handled hl fun h' tk t' hk => ⟨.int l.sum, σ, ⟨t', ?_⟩, S.kept hk tk, .kept hk, q⟩
  have e2 : numsOf ws.toArray.toList = l := hi.numsOf
  rw [e, nums_intItems] at e2
  rw [preSum_eq, List.take_of_length_le (by simp), e2]
end
end Mine
end
section
open PySem PySem.W PyProof.Rows PySem.Calls
set_option maxRecDepth 100000
namespace Mine
/-- an iterator object -/
noncomputable def iterCls : Value → Bool
  | .type n => n == "list_iterator" || n == "range_iterator" || n == "callable_iterator"
  | _ => false
theorem noIterK (w : World) : ((KF w).all fun p => !iterCls p.2.cls) = true := by kernel_rfl
theorem K_noIter {w : World} {a : Addr} {o : Obj} (h : (KF w).lookup a = some o) : iterCls o.cls = false := by
  have : ∀ {l : Frag}, (l.all fun p => !iterCls p.2.cls) = true → l.lookup a = some o → iterCls o.cls = false := by
    intro l
    induction l with
    | nil => intro _ e; cases e
    | cons p r ih =>
      intro hl e
      rw [List.all_cons, Bool.and_eq_true] at hl
      rw [List.lookup_cons] at e
      split at e
      · cases e; simpa using hl.1
      · exact ih hl.2 e
  exact this (noIterK w) h
mutual
theorem Rel.but {P : List Addr} {h h' : Heap} {it : Addr} {oi : Obj} (hi : h.get? it = some oi) (hc : iterCls oi.cls = true) (hs : Heap.ExtBut it h h') : ∀ (a : AV) (v : Value), Rel P h a v → Rel P h' a v
  | .unb, _, r => r.elim
  | .none, _, r => r
  | .bool _, _, r => r
  | .int _, _, r => r
  | .str _, _, r => r
  | .ty _, _, r => r
  | .bi _, _, r => r
  | .ref _, _, r => r
  | .tup l, v, ⟨a, vs, e, hn, ⟨k, ho⟩, hl⟩ => ⟨a, vs, e, hn, ⟨k, hs a _ (fun z => by subst z; rw [hi] at ho; cases ho; cases hc) ho⟩, RelL.but hi hc hs l vs hl⟩
  | .lst l, v, ⟨a, vs, e, hn, ⟨k, ho⟩, hl⟩ => ⟨a, vs, e, hn, ⟨k, hs a _ (fun z => by subst z; rw [hi] at ho; cases ho; cases hc) ho⟩, RelL.but hi hc hs l vs hl⟩
  | .rng lo hi', v, ⟨a, t, u, k, e, hn, ho⟩ => ⟨a, t, u, k, e, hn, hs a _ (fun z => by subst z; rw [show h.get? a = _ from ho] at hi; cases hi; cases hc) ho⟩
theorem RelL.but {P : List Addr} {h h' : Heap} {it : Addr} {oi : Obj} (hi : h.get? it = some oi) (hc : iterCls oi.cls = true) (hs : Heap.ExtBut it h h') : ∀ (l : List AV) (vs : List Value), RelL P h l vs → RelL P h' l vs
  | [], _, r => r
  | x :: l, vs, ⟨v, r, e, hx, hl⟩ => ⟨v, r, e, Rel.but hi hc hs x v hx, RelL.but hi hc hs l r hl⟩
end
theorem FldRel.but {P : List Addr} {h h' : Heap} {it : Addr} {oi : Obj} (hi : h.get? it = some oi) (hc : iterCls oi.cls = true) (hs : Heap.ExtBut it h h') : ∀ {fs : List (Str × AV)} {es : List DictEntry}, FldRel P h fs es → FldRel P h' fs es
  | [], _, r => r
  | _ :: _, _, ⟨e, r, he, hk, hv, hr⟩ => ⟨e, r, he, hk, Rel.but hi hc hs _ _ hv, hr.but hi hc hs⟩
section
variable {c : Cx} {ks sk gl cs : List Str} {n : Nat} {σ : AS}
/-- the state behind a step that turns an iterator alone -/
theorem Sat.but {s : Shared} {h' : Heap} {it : Addr} {oi : Obj} (S : Sat c σ s) (hi : s.heap.get? it = some oi) (hc : iterCls oi.cls = true) (hd : ∃ vs, oi.data = .fields vs) (hn : it ∉ own c σ.mem) (hs : Heap.ExtBut it s.heap h') (tk : Nat) :
    Sat c σ { s with heap := h', toks := tk } := by
  obtain ⟨vs, hd⟩ := hd
  have ncell : ∀ a v, s.heap.IsCell a v → h'.IsCell a v := fun a v ⟨o, ho, hq⟩ => ⟨o, hs a o (fun z => by subst z; rw [hi] at ho; cases ho; rw [hd] at hq; cases hq) ho, hq⟩
  refine ⟨⟨fun a o e => ⟨(S.base.k a o e).1, hs a o (fun z => ?_) (S.base.k a o e).2⟩, ?_, ?_⟩, S.nd, ?_, fun a ha => (let ⟨v, q⟩ := S.cells a ha; ⟨v, ncell a v q⟩), fun p hp => ?_, S.gens, S.drawn, S.os⟩
  · subst z
    have := (S.base.k a o e).2
    rw [hi] at this; cases this
    rw [K_noIter e] at hc; cases hc
  · obtain ⟨hb, mb, ⟨o, es, ep, ho, hq, r⟩, q⟩ := S.base.b
    exact ⟨hb, mb, ⟨o, es, ep, hs _ o (fun z => by rw [z, hi] at ho; cases ho; rw [hd] at hq; cases hq) ho, hq, r⟩, q⟩
  · obtain ⟨bm, ob, e, hne, hnb, ho, hcl, r⟩ := S.base.bm
    exact ⟨bm, ob, e, hne, hnb, hs _ _ (fun z => by rw [z, hi] at ho; cases ho; rw [hcl] at hc; cases hc) ho, hcl, r⟩
  · obtain ⟨m, ⟨o, es, ep, ho, hq, r⟩, sl⟩ := S.slots
    refine ⟨m, ⟨o, es, ep, hs _ o (fun z => by rw [z, hi] at ho; cases ho; rw [hd] at hq; cases hq) ho, hq, r⟩, sl.mono fun y av sy => ?_⟩
    rcases sy with e | ⟨v, hk, hv, r⟩ | ⟨d, v, hk, hl, hd', hv, r⟩ | ⟨d, v, hk, hl, hd', hv, r, hn⟩
    · exact .unb e
    · exact .loc v hk hv (Rel.but hi hc hs _ _ r)
    · exact .cell d v hk hl hd' (ncell _ _ hv) (Rel.but hi hc hs _ _ r)
    · exact .free d v hk hl hd' (ncell _ _ hv) (Rel.but hi hc hs _ _ r) hn
  · have q := S.mem p hp
    have hne : p.1 ≠ it := fun z => hn (z ▸ .tail _ (List.mem_append_right _ (List.mem_map_of_mem hp)))
    cases e : p.2 with
    | list l => rw [e] at q; obtain ⟨ws, ⟨k, ho⟩, r⟩ := q; exact ⟨ws, ⟨k, hs _ _ hne ho⟩, RelL.but hi hc hs _ _ r⟩
    | raw o => rw [e] at q; exact hs _ _ hne q
    | flds fs => rw [e] at q; obtain ⟨es, n, ho, r⟩ := q; exact ⟨es, n, hs _ _ hne ho, r.but hi hc hs⟩
/-- an iterator that will yield these -/
inductive IterAt (P : List Addr) (h : Heap) (it : Addr) (rest : List AV) : Prop where
  | list (ad : Addr) (vs : List Value) (i : Nat) (l : List AV) : h.IsListIter it ad i → ad ∉ P → h.IsList ad vs.toArray → RelL P h l vs → rest = l.drop i → IterAt P h it rest
  | range (x : Int) (k : Nat) : IsRangeIter h it x k 1 → rest = (List.range k).map (fun j => AV.int (x + (j : Nat))) → IterAt P h it rest
theorem IterAt.obj {P : List Addr} {h : Heap} {it : Addr} {rest : List AV} (I : IterAt P h it rest) : ∃ oi, h.get? it = some oi ∧ iterCls oi.cls = true ∧ ∃ vs, oi.data = .fields vs := by
  rcases I with ⟨ad, vs, i, l, ⟨o, ho, hc, hd⟩, _⟩ | ⟨x, k, ho, _⟩
  · exact ⟨o, ho, by rw [hc]; rfl, _, hd⟩
  · exact ⟨_, ho, rfl, _, rfl⟩
theorem IterAt.mv {P P' : List Addr} {h h' : Heap} {it : Addr} {rest : List AV} (m : Mv P h P' h') (hn : it ∉ P) (I : IterAt P h it rest) : it ∉ P' ∧ IterAt P' h' it rest := by
  rcases I with ⟨ad, vs, i, l, ⟨o, ho, hc⟩, hna, ⟨ol, hol, hcl⟩, rl, e⟩ | ⟨x, k, ho, e⟩
  · exact ⟨(m _ _ hn ho).1, .list ad vs i l ⟨o, (m _ _ hn ho).2, hc⟩ (m _ _ hna hol).1 ⟨ol, (m _ _ hna hol).2, hcl⟩ (RelL.mv m _ _ rl) e⟩
  · exact ⟨(m _ _ hn ho).1, .range x k (m _ _ hn ho).2 e⟩
theorem iter_next {s : Shared} {it : Addr} {a : AV} {rest : List AV} {R : Option Value → Shared → Prop} {E : Value → Shared → Prop} (I : IterAt (own c σ.mem) s.heap it (a :: rest)) (hn : it ∉ own c σ.mem) (S : Sat c σ s)
    (k : ∀ v s', Rel (own c σ.mem) s'.heap a v → Sat c σ s' → IterAt (own c σ.mem) s'.heap it rest → (∀ b o, b ≠ it → s.heap.get? b = some o → s'.heap.get? b = some o) → R (some v) s') :
    wpAny (model prog c.w) c.A (pyNext (.ref it)) R E s := by
  obtain ⟨oi, hoi, hci, hdi⟩ := I.obj
  rcases I with ⟨ad, vs, i, l, hit, hna, hl, rl, e⟩ | ⟨x, k', hr, e⟩
  · have hx : l[i]? = some a := by
      have := congrArg (·[0]?) e
      simp only [List.getElem?_cons_zero, List.getElem?_drop, Nat.add_zero] at this
      exact this.symm
    obtain ⟨v, hv, rv⟩ := rl.get hx
    refine wpAny_pyNext_list_item hit hl (by simpa using hv) fun h' hit' hs => ?_
    have S' := S.but hoi hci hdi hn hs.extBut s.toks
    refine k v _ (Rel.but hoi hci hs.extBut _ _ rv) S' (.list ad vs (i + 1) l hit' hna ?_ (RelL.but hoi hci hs.extBut _ _ rl) ?_) fun b o hb e => (hs.2 b hb).trans e
    · obtain ⟨o, ho, hcl, q⟩ := hl
      exact ⟨o, hs.extBut ad o (fun z => by subst z; rw [hoi] at ho; cases ho; rw [hcl] at hci; cases hci) ho, hcl, q⟩
    · have := congrArg List.tail e
      simpa [List.tail_drop] using this
  · cases k' with
    | zero => simp at e
    | succ k' =>
      refine wpAny_pyNext_range_item hr (by (first | exact om66 | omega)) fun h' hr' hs => ?_
      rw [List.range_succ_eq_map, List.map_cons, List.cons.injEq] at e
      obtain ⟨e1, e2⟩ := e
      subst e1
      refine k _ _ ⟨s.toks, by simp⟩ (S.but hoi hci hdi hn hs.extBut _) (.range (x + 1) k' ?_ ?_) fun b o hb e => (hs.2 b hb).trans e
      · have : ((k' + 1 : Nat) : Int) - 1 = (k' : Int) := by (first | exact om67 | omega)
        rw [this] at hr'; exact hr'
      · rw [e2, List.map_map]
        refine List.map_congr_left fun j _ => ?_
        show AV.int (x + ((j + 1 : Nat) : Int)) = AV.int (x + 1 + (j : Int))
        congr 1; (first | exact om68 | omega)
theorem iter_end (O : Ok c ks sk gl cs n) {s : Shared} {it : Addr} {R : Option Value → Shared → Prop} {E : Value → Shared → Prop} (I : IterAt (own c σ.mem) s.heap it []) (hn : it ∉ own c σ.mem) (S : Sat c σ s)
    (k : ∀ s', Sat c σ s' → (∀ b o, b ≠ it → s.heap.get? b = some o → s'.heap.get? b = some o) → R none s') :
    wpAny (model prog c.w) c.A (pyNext (.ref it)) R E s := by
  obtain ⟨oi, hoi, hci, hdi⟩ := I.obj
  rcases I with ⟨ad, vs, i, l, hit, hna, hl, rl, e⟩ | ⟨x, k', hr, e⟩
  · have hlen : l.length ≤ i := List.drop_eq_nil_iff.mp e.symm
    refine wpAny_pyNext_list_end O.room.handled hit hl ?_ fun h' hs => k _ (S.but hoi hci hdi hn hs s.toks) fun b o hb e => hs b o hb e
    simp [rl.length, hlen]
  · have : k' = 0 := by
      have := congrArg List.length e
      simpa using this.symm
    subst this
    exact wpAny_pyNext_range_end O.room.handled hr (by simp) fun h' hs => k _ (S.but hoi hci hdi hn hs s.toks) fun b o hb e => hs b o hb e
/-- what a frozen value yields -/
inductive Yields : AV → List AV → Prop where
  | lst {l : List AV} : Yields (.lst l) l
  | rng {lo hi : Int} {k : Nat} : k = (hi - lo).toNat → Builtin.Range.small lo hi 1 = true → Builtin.Range.rangeSize lo hi 1 = k → Yields (.rng lo hi) ((List.range k).map fun j => .int (lo + (j : Nat)))
theorem iter_start {s : Shared} {a : AV} {v : Value} {l : List AV} {R : Value → Shared → Prop} {E : Value → Shared → Prop} (Y : Yields a l) (ra : Rel (own c σ.mem) s.heap a v) (S : Sat c σ s)
    (k : ∀ it s', Sat c σ s' → (∀ b o, s.heap.get? b = some o → s'.heap.get? b = some o) → s.heap.get? it = none → it ∉ own c σ.mem → IterAt (own c σ.mem) s'.heap it l → R (.ref it) s') :
    wpAny (model prog c.w) c.A (pyIter v) R E s := by
  have none : s.heap.get? s.heap.objs.size = none := Heap.get?_none_of_le (Nat.le_refl _)
  cases Y with
  | lst =>
    obtain ⟨ad, vs, rfl, hna, hl, rl⟩ := ra
    refine wpAny_pyIter_list hl.isList (k _ _ (S.push _) (fun b o e => Heap.get?_push_of_some _ e) none (fresh_not S) (.list ad vs 0 l ⟨_, Heap.get?_push_size _ rfl, rfl, rfl⟩ hna (hl.isList.push _) (RelL.mv (.push _) _ _ rl) (by simp)))
  | rng hk hs hz =>
    obtain ⟨ad, t, u, w', rfl, hna, hr⟩ := ra
    refine wpAny_pyIter_range hr hs (k _ _ (S.push _) (fun b o e => Heap.get?_push_of_some _ e) none (fresh_not S) (.range _ _ ?_ rfl))
    rw [hz]
    exact Heap.get?_push_size _ rfl
end
end Mine
end
section
open PySem PySem.W PyProof.Rows PySem.Calls
set_option maxRecDepth 100000
namespace Mine
section
variable {c : Cx} {ks sk gl cs : List Str} {n : Nat} {σ : AS}
/-- a value given to a target -/
noncomputable def TA (c : Cx) (target : Expr) (a : AV) (σ : AS) (K : AS → Prop) : Prop :=
  ∀ v s, Rel (own c σ.mem) s.heap a v → Sat c σ s → wpAny (model prog c.w) c.A (assign target c.env v) (fun _ s' => ∃ σ', Sat c σ' s' ∧ Mv (own c σ.mem) s.heap (own c σ'.mem) s'.heap ∧ K σ') (fun _ _ => False) s
theorem ta_name (O : Ok c ks sk gl cs n) {x : Str} {pos : Pos} {a : AV} {vals' : List AV} {K : AS → Prop} (p : Put ks σ.vals x a vals') (hx : x ∈ sk) (k : K ⟨vals', σ.mem⟩) : TA c (.Name x pos) a σ K :=
  fun v s r S => wpAny_assign_Name (T_store O p hx r S fun s' S' m' => ⟨_, S', m', k⟩)
theorem ta_tup2 (O : Ok c ks sk gl cs n) {e1 e2 : Expr} {x1 : Nat} {pos : Pos} {a b : AV} {K : AS → Prop} (h : TA c e1 a σ fun σ₁ => TA c e2 b σ₁ K)
    (hs : assignEach [e1, e2] c.env = [(false, assign e1 c.env), (false, assign e2 c.env)]) : TA c (.Tuple [e1, e2] x1 pos) (.tup [a, b]) σ K := by
  rintro v s ⟨ad, vs, ev, hn, ht, rl⟩ S
  subst ev
  obtain ⟨v1, r1, rfl, ra, ⟨v2, r2, rfl, rb, rfl⟩⟩ := rl
  refine wpAny_assign_Tuple (items := #[v1, v2]) O.room.handled ht.isTup (by rw [hs]; rfl) (by rw [hs]; rfl) fun h' hx => ?_
  rw [hs]
  have hk : ∀ b o, s.heap.get? b = some o → h'.get? b = some o := fun b o e => hx b o (Nat.ne_of_lt (Heap.lt_size e)) e
  refine wpAny_assignInOrder_more (wpAny_mono (h v1 _ (Rel.mv (.kept hk) _ _ ra) (S.kept hk s.toks)) (fun _ s₁ ⟨σ₁, S₁, m₁, h₁⟩ => ?_) fun _ _ x => x)
  refine wpAny_assignInOrder_more (wpAny_mono (h₁ v2 _ (Rel.mv ((Mv.kept hk).trans m₁) _ _ rb) S₁) (fun _ s₂ ⟨σ₂, S₂, m₂, k⟩ => ?_) fun _ _ x => x)
  exact wpAny_assignInOrder_none ⟨σ₂, S₂, ((Mv.kept hk).trans m₁).trans m₂, k⟩
theorem ta_tup3 (O : Ok c ks sk gl cs n) {e1 e2 e3 : Expr} {x1 : Nat} {pos : Pos} {a b d : AV} {K : AS → Prop} (h : TA c e1 a σ fun σ₁ => TA c e2 b σ₁ fun σ₂ => TA c e3 d σ₂ K)
    (hs : assignEach [e1, e2, e3] c.env = [(false, assign e1 c.env), (false, assign e2 c.env), (false, assign e3 c.env)]) : TA c (.Tuple [e1, e2, e3] x1 pos) (.tup [a, b, d]) σ K := by
  rintro v s ⟨ad, vs, ev, hn, ht, rl⟩ S
  subst ev
  obtain ⟨v1, r1, rfl, ra, ⟨v2, r2, rfl, rb, ⟨v3, r3, rfl, rd, rfl⟩⟩⟩ := rl
  refine wpAny_assign_Tuple (items := #[v1, v2, v3]) O.room.handled ht.isTup (by rw [hs]; rfl) (by rw [hs]; rfl) fun h' hx => ?_
  rw [hs]
  have hk : ∀ b o, s.heap.get? b = some o → h'.get? b = some o := fun b o e => hx b o (Nat.ne_of_lt (Heap.lt_size e)) e
  refine wpAny_assignInOrder_more (wpAny_mono (h v1 _ (Rel.mv (.kept hk) _ _ ra) (S.kept hk s.toks)) (fun _ s₁ ⟨σ₁, S₁, m₁, h₁⟩ => ?_) fun _ _ x => x)
  refine wpAny_assignInOrder_more (wpAny_mono (h₁ v2 _ (Rel.mv ((Mv.kept hk).trans m₁) _ _ rb) S₁) (fun _ s₂ ⟨σ₂, S₂, m₂, h₂⟩ => ?_) fun _ _ x => x)
  refine wpAny_assignInOrder_more (wpAny_mono (h₂ v3 _ (Rel.mv (((Mv.kept hk).trans m₁).trans m₂) _ _ rd) S₂) (fun _ s₃ ⟨σ₃, S₃, m₃, k⟩ => ?_) fun _ _ x => x)
  exact wpAny_assignInOrder_none ⟨σ₃, S₃, (((Mv.kept hk).trans m₁).trans m₂).trans m₃, k⟩
theorem T_While {test : Expr} {body orelse : List Stmt} {pos : Pos} {Q : AF → AS → Prop} (I : Nat → AS → Prop)
    (turn : ∀ k σ, I k σ → TB c (isTrue test c.env (eval test c.env)) σ fun b σ₁ => if b then TF c (execs body c.env) σ₁ (fun f σ₂ => match f with
      | .next | .cont => ∃ k', k' < k ∧ I k' σ₂
      | .brk => Q .next σ₂
      | .ret v => Q (.ret v) σ₂) else TF c (execs orelse c.env) σ₁ Q)
    (k : Nat) (h : I k σ) : TF c (exec (.While test body orelse pos) c.env) σ Q := by
  intro s S
  refine wpAny_While ?_
  refine codeAny_whileLoop (fun k s' => ∃ σ', I k σ' ∧ Sat c σ' s' ∧ Mv (own c σ.mem) s.heap (own c σ'.mem) s'.heap) (fun k s' ⟨σ', hI, S', m'⟩ => ?_) k ⟨σ, h, S, .refl⟩
  refine wpAny_mono (turn k σ' hI s' S') (fun b s₁ ⟨b', σ₁, e, S₁, m₁, q⟩ => ?_) fun _ _ x => x.elim
  subst e
  cases b with
  | true =>
    simp only [if_true] at q ⊢
    refine wpAny_mono (q s₁ S₁) (fun f s₂ ⟨f', σ₂, rf, S₂, m₂, q₂⟩ => ?_) fun _ _ x => x.elim
    cases f' with
    | next => cases rf; obtain ⟨k', hk, hI'⟩ := q₂; exact ⟨k', hk, σ₂, hI', S₂, (m'.trans m₁).trans m₂⟩
    | cont => cases rf; obtain ⟨k', hk, hI'⟩ := q₂; exact ⟨k', hk, σ₂, hI', S₂, (m'.trans m₁).trans m₂⟩
    | brk => cases rf; exact ⟨.next, σ₂, rfl, S₂, (m'.trans m₁).trans m₂, q₂⟩
    | ret a => obtain ⟨v, rfl, r⟩ := rf; exact ⟨.ret a, σ₂, ⟨v, rfl, r⟩, S₂, (m'.trans m₁).trans m₂, q₂⟩
  | false =>
    simp only [Bool.false_eq_true, if_false] at q ⊢
    exact wpAny_mono (q s₁ S₁) (fun f s₂ ⟨f', σ₂, rf, S₂, m₂, q₂⟩ => ⟨f', σ₂, rf, S₂, (m'.trans m₁).trans m₂, q₂⟩) fun _ _ x => x.elim
/-- for over a frozen list or a range: I of what is left -/
theorem T_For (O : Ok c ks sk gl cs n) {target iter : Expr} {body orelse : List Stmt} {pos : Pos} {Q : AF → AS → Prop} (I : List AV → AS → Prop)
    (start : TV c (eval iter c.env) σ fun a σ₁ => ∃ l, Yields a l ∧ I l σ₁)
    (turn : ∀ a l σ, I (a :: l) σ → TA c target a σ fun σ₁ => TF c (execs body c.env) σ₁ fun f σ₂ => match f with
      | .next | .cont => I l σ₂
      | .brk => Q .next σ₂
      | .ret v => Q (.ret v) σ₂)
    (fin : ∀ σ, I [] σ → TF c (execs orelse c.env) σ Q)
    (hs : ∀ x, foldedSetIterable iter c.env x = pure x) (ht : ∀ it v, letOwnedTupleGo target it v = pure ()) : TF c (exec (.For target iter body orelse pos) c.env) σ Q := by
  intro s S
  refine wpAny_For (start.use S fun v a σ₁ s₁ ra S₁ m₁ ⟨l, Y, hI⟩ => ?_) hs
  refine iter_start Y ra S₁ fun it s₂ S₂ hk hnone hn It => ?_
  refine codeAny_forLoop (fun k s' => ∃ l' σ', l'.length = k ∧ I l' σ' ∧ Sat c σ' s' ∧ Mv (own c σ.mem) s.heap (own c σ'.mem) s'.heap ∧ it ∉ own c σ'.mem ∧ IterAt (own c σ'.mem) s'.heap it l')
    (fun k s' ⟨l', σ', hl, hI', S', m', hn', It'⟩ => ?_) l.length ⟨l, σ₁, rfl, hI, S₂, m₁.trans (.kept hk), hn, It⟩ (ht _)
  have hit : ∀ b o, s.heap.get? b = some o → b ∉ own c σ.mem → b ≠ it := fun b o e hb z => by
    subst z
    have := (m₁ _ _ hb e).2
    rw [hnone] at this; cases this
  cases l' with
  | nil =>
    refine iter_end O It' hn' S' fun s₃ S₃ hb₃ => ?_
    refine wpAny_mono (fin σ' hI' s₃ S₃) (fun f s₄ ⟨f', σ₄, rf, S₄, m₄, q⟩ => ⟨f', σ₄, rf, S₄, ?_, q⟩) fun _ _ x => x.elim
    intro b o hb e
    obtain ⟨h1, h2⟩ := m' b o hb e
    exact m₄ b o h1 (hb₃ b o (hit b o e hb) h2)
  | cons a l' =>
    refine iter_next It' hn' S' fun v s₃ rv S₃ It₃ hb₃ => ?_
    have mv₃ : Mv (own c σ.mem) s.heap (own c σ'.mem) s₃.heap := fun b o hb e => ⟨(m' b o hb e).1, hb₃ b o (hit b o e hb) (m' b o hb e).2⟩
    refine wpAny_mono (turn a l' σ' hI' v s₃ rv S₃) (fun _ s₄ ⟨σ₄, S₄, m₄, h₄⟩ => ?_) fun _ _ x => x.elim
    refine wpAny_mono (h₄ s₄ S₄) (fun f s₅ ⟨f', σ₅, rf, S₅, m₅, q⟩ => ?_) fun _ _ x => x.elim
    have i5 := It₃.mv (m₄.trans m₅) hn'
    have big := (mv₃.trans m₄).trans m₅
    cases f' with
    | next => cases rf; exact ⟨l'.length, by simp at hl; (first | exact om69 ‹_› hl | omega), l', σ₅, rfl, q, S₅, big, i5.1, i5.2⟩
    | cont => cases rf; exact ⟨l'.length, by simp at hl; (first | exact om69 ‹_› hl | omega), l', σ₅, rfl, q, S₅, big, i5.1, i5.2⟩
    | brk => cases rf; exact ⟨.next, σ₅, rfl, S₅, big, q⟩
    | ret b => obtain ⟨v, rfl, r⟩ := rf; exact ⟨.ret b, σ₅, ⟨v, rfl, r⟩, S₅, big, q⟩
end
end Mine
end
section
open PySem PySem.W PyProof.Rows PySem.Calls
set_option maxRecDepth 100000
namespace Mine
/-- one owned object changed -/
inductive MUp : Mem → Addr → AO → AO → Mem → Prop where
  | head {a : Addr} {o o' : AO} {m : Mem} : MUp ((a, o) :: m) a o o' ((a, o') :: m)
  | tail {p : Addr × AO} {a : Addr} {o o' : AO} {m m' : Mem} : MUp m a o o' m' → MUp (p :: m) a o o' (p :: m')
theorem MUp.mem {m m' : Mem} {a : Addr} {o o' : AO} (u : MUp m a o o' m') : (a, o) ∈ m := by
  induction u with
  | head => exact .head _
  | tail _ ih => exact .tail _ ih
theorem MUp.dom {m m' : Mem} {a : Addr} {o o' : AO} (u : MUp m a o o' m') : m'.dom = m.dom := by
  induction u with
  | head => rfl
  | tail _ ih => exact congrArg (_ :: ·) ih
theorem MUp.cases {m m' : Mem} {a : Addr} {o o' : AO} (u : MUp m a o o' m') (nd : m.dom.Nodup) : ∀ p ∈ m', p = (a, o') ∨ (p ∈ m ∧ p.1 ≠ a) := by
  induction u with
  | head =>
    intro p hp
    rcases List.mem_cons.mp hp with rfl | hp
    · exact .inl rfl
    · exact .inr ⟨.tail _ hp, fun e => (List.nodup_cons.mp nd).1 (List.mem_map.mpr ⟨p, hp, e⟩)⟩
  | tail u ih =>
    intro p hp
    have nd' := List.nodup_cons.mp nd
    rcases List.mem_cons.mp hp with rfl | hp
    · exact .inr ⟨.head _, fun e => nd'.1 (List.mem_map.mpr ⟨_, u.mem, e.symm⟩)⟩
    · rcases ih nd'.2 p hp with e | ⟨h1, h2⟩
      · exact .inl e
      · exact .inr ⟨.tail _ h1, h2⟩
section
variable {c : Cx} {ks sk gl cs : List Str} {n : Nat} {σ : AS} {Q : AV → AS → Prop} {i j : Int} {x y : Str}
theorem Sat.setO {s : Shared} {a : Addr} {o o' : AO} {mem' : Mem} {h' : Heap} (S : Sat c σ s) (u : MUp σ.mem a o o' mem') (hs : Heap.SameBut a s.heap h') (ho : MemOk (own c σ.mem) h' a o') (tk : Nat) :
    Sat c ⟨σ.vals, mem'⟩ { s with heap := h', toks := tk } ∧ Mv (own c σ.mem) s.heap (own c mem') h' := by
  have np := nd_parts S.nd
  have ad : a ∈ σ.mem.dom := List.mem_map_of_mem u.mem
  have own' : own c mem' = own c σ.mem := by show _ :: (_ ++ _) = _; rw [u.dom]
  have mv : Mv (own c σ.mem) s.heap (own c σ.mem) h' := Mv.same (.tail _ (List.mem_append_right _ ad)) hs
  have hL : c.env.locals ≠ a := fun e => np.2.1 (e ▸ ad)
  have hC : ∀ b ∈ c.oc, b ≠ a := fun b hb e => np.2.2 b hb (e ▸ ad)
  rw [own']
  refine ⟨⟨by show Base _ (own c mem') _; rw [own']; exact S.base.mv mv, by show (own c mem').Nodup; rw [own']; exact S.nd, ?_, fun b hb => ?_, ?_, S.gens, S.drawn, S.os⟩, mv⟩
  · obtain ⟨m, hm, sl⟩ := S.slots
    refine ⟨m, hm.sameBut hs hL, ?_⟩
    show Slots c (own c mem') _ _ _ _
    rw [own']
    exact sl.mono fun y av sy => sy.mv mv fun b hb v _ q => q.sameBut hs (hC b hb)
  · obtain ⟨v, q⟩ := S.cells b hb
    exact ⟨v, q.sameBut hs (hC b hb)⟩
  · show MemAll (own c mem') _ _
    rw [own']
    intro p hp
    rcases u.cases (List.nodup_append.mp (List.nodup_cons.mp S.nd).2).2.1 p hp with e | ⟨h1, h2⟩
    · subst e; exact ho
    · exact (S.mem p h1).other mv fun ob e => (hs.2 _ h2).trans e
theorem Sat.listAt {s : Shared} {a : Addr} {l : List AV} (S : Sat c σ s) (hm : (a, AO.list l) ∈ σ.mem) : ∃ vs, ListAt s.heap a vs ∧ RelL (own c σ.mem) s.heap l vs := S.mem _ hm
/-- a list's items written anew by a step that turns it alone -/
theorem Sat.setL {s : Shared} {a : Addr} {l l' : List AV} {vs vs' : List Value} {mem' : Mem} {f : Array Value → Array Value} {k : Nat} (S : Sat c σ s) (u : MUp σ.mem a (.list l) (.list l') mem')
    (ho : s.heap.get? a = some ⟨.type "list", none, .seq vs.toArray k, #[]⟩) (hf : f vs.toArray = vs'.toArray) (r : RelL (own c σ.mem) s.heap l' vs') (tk : Nat) :
    Sat c ⟨σ.vals, mem'⟩ { s with heap := s.heap.update a (Obj.mapSeq f), toks := tk } ∧ Mv (own c σ.mem) s.heap (own c mem') (s.heap.update a (Obj.mapSeq f)) := by
  have hs : Heap.SameBut a s.heap (s.heap.update a (Obj.mapSeq f)) := Heap.SameBut.update ..
  refine S.setO u hs ⟨vs', ?_, RelL.mv (Mv.same (.tail _ (List.mem_append_right _ (List.mem_map_of_mem u.mem))) hs) _ _ r⟩ tk
  have hg : (s.heap.update a (Obj.mapSeq f)).get? a = some (Obj.mapSeq f ⟨.type "list", none, .seq vs.toArray k, #[]⟩) := by
    first | exact Heap.get?_update_self (Obj.mapSeq f) ho rfl | exact Heap.get?_update_self _ ho rfl
  refine ⟨if (f vs.toArray).size == vs.toArray.size then k else k + 1, ?_⟩
  rw [hg]
  show some (⟨.type "list", none, .seq (f vs.toArray) _, #[]⟩ : Obj) = _
  rw [hf]
theorem bs_append {a : Addr} {l : List AV} {v : AV} {mem' : Mem} (u : MUp σ.mem a (.list l) (.list (l ++ [v])) mem') (hsz : l.length ≤ sizeLine) (q : Q .none ⟨σ.vals, mem'⟩) : BS c (.builtin "list.append") [.ref a, v] σ Q := fun vs s rl S => by
  obtain ⟨va, r, rfl, ra, ⟨vv, r2, rfl, rv, rfl⟩⟩ := rl
  cases ra
  obtain ⟨ws, ⟨k, ho⟩, rw'⟩ := S.listAt u.mem
  refine wpAny_call_entry slot_list_append ⟨_, ho, rfl⟩ entry_list_append ?_ (args_list_append _ _)
  show wpAny _ _ (updateSeq a (·.push vv) >>= fun _ => ret .none) _ _ s
  have hz : ws.toArray.size ≤ sizeLine := by rw [List.size_toArray, rw'.length]; exact hsz
  refine wpAny_bind (wpAny_updateSeq ho rfl (wpAny_pure ⟨.none, rfl, .none, ⟨σ.vals, mem'⟩, rfl, ?_⟩) hz (by rw [Array.size_push]; (first | exact om2 hz | omega)))
  obtain ⟨S', m'⟩ := S.setL (f := (·.push vv)) (vs' := ws ++ [vv]) u ho (by simp) (rw'.append (.one rv)) s.toks
  exact ⟨S', m', q⟩
theorem bs_insert {a : Addr} {l : List AV} {v : AV} {k : Nat} {mem' : Mem} (u : MUp σ.mem a (.list l) (.list (l.take k ++ v :: l.drop k)) mem') (hk : k ≤ l.length) (hsz : l.length ≤ sizeLine) (q : Q .none ⟨σ.vals, mem'⟩) :
    BS c (.builtin "list.insert") [.ref a, .int k, v] σ Q := fun vs s rl S => by
  obtain ⟨va, r, rfl, ra, ⟨vk, r2, rfl, ⟨t, rfl⟩, ⟨vv, r3, rfl, rv, rfl⟩⟩⟩ := rl
  cases ra
  obtain ⟨ws, ⟨e, ho⟩, rw'⟩ := S.listAt u.mem
  have hz : ws.toArray.size ≤ sizeLine := by rw [List.size_toArray, rw'.length]; exact hsz
  have hs : sizeLine = 16777216 := rfl
  have hfit : ¬(!Builtin.List.listFitsIndex (k : Int)) = true := by
    have h1 : Builtin.List.listFitsIndex (k : Int) = true := by
      unfold Builtin.List.listFitsIndex
      simp only [Bool.and_eq_true, decide_eq_true_eq]
      constructor <;> omega
    rw [h1]; exact Bool.false_ne_true
  generalize hkk : (k : Int) = kk at hfit
  have M := PySem.AutoSeq1.list_insert_list_int_val_1 a ws.toArray e kk t vv hfit hz
  refine call_meets PySem.F.slot_list_insert ⟨_, ho, rfl⟩ PySem.F.entry_list_insert (PySem.F.args_list_insert_3 _ _ _) M ⟨ho, ?_⟩
  subst hkk
  refine ⟨.none, ⟨σ.vals, mem'⟩, rfl, ?_⟩
  have hkw : min ((k : Int).toNat) ws.length = k := by rw [Int.toNat_natCast, rw'.length]; (first | exact om5 hk | omega)
  obtain ⟨S', m'⟩ := S.setL (f := fun xs => have k := if (k : Int) < 0 then ((k : Int) + ((xs.size : Nat) : Int)).toNat else min (k : Int).toNat xs.size; (xs.extract 0 k).push vv ++ xs.extract k) (vs' := ws.take k ++ vv :: ws.drop k) u ho
    (by
      have h0 : ¬ ((k : Int) < 0) := by (first | exact om6 hkw | omega)
      simp only [if_neg h0, List.size_toArray, hkw]
      apply Array.ext'
      simp
      exact List.take_of_length_le (by simp)) (by
      have h1 := rw'.take k
      have h2 := rw'.drop k
      exact h1.append (.cons rv h2)) s.toks
  exact ⟨S', m', q⟩
/-- a method of an owned list -/
theorem T_methL {o : Expr} {name : Str} {apos pos : Pos} {args : List Expr} {id : String}
    (slot : PySem.Slot "list" name id) (hty : typeOf (.builtin id) = pure (.type "method_descriptor"))
    (h : TV c (eval o c.env) σ fun a σ₁ => ∃ ad l, a = .ref ad ∧ (ad, AO.list l) ∈ σ₁.mem ∧ TL c (spliced (backTo pos (starEach args c.env))) σ₁ fun vs σ₂ => BS c (.builtin id) (.ref ad :: vs) σ₂ Q)
    (hbase : attributeBase o name c.env (eval o c.env) = eval o c.env := by rfl) (hs : (starEach args c.env).all (fun x => !x.1) = true := by rfl) (hlen : args.length < 29 := by decide) (hline : (apos.endLine == pos.line) = true := by rfl) :
    TV c (eval (.Call (.Attribute o name apos) args [] pos) c.env) σ Q := by
  intro s S
  refine wpAny_Call_method hbase ?_ hline PySem.F.plainAttrs_list slot hty (h.use S fun va a σ₁ s₁ ra S₁ m₁ ⟨ad, l, e, hm, h₁⟩ => ?_)
  · rw [backTo_all hs]
    simp only [Bool.true_and, Bool.and_eq_true, decide_eq_true_eq]
    refine ⟨rfl, ?_⟩
    simp; (first | exact om7 hlen | omega)
  · subst e
    cases ra
    obtain ⟨ws, ⟨k, ho⟩, _⟩ := S₁.listAt hm
    refine ⟨⟨_, ho, rfl⟩, fun a' e => by cases e; exact ⟨_, ho, rfl⟩, ?_⟩
    refine callWith_builtin (all_any (backTo_all hs)) (evalArgs_sp (backTo_all hs) (h₁.use S₁ fun vs l σ₂ s₂ rl S₂ m₂ hc => ?_))
    exact wpAny_mono (hc (.ref ad :: vs) s₂ (RelL.cons rfl rl) S₂) (fun v s' ⟨b, σ', r', S', mv, q⟩ => ⟨b, σ', r', S', (m₁.trans m₂).trans mv, q⟩) fun _ _ x => x
/-- an expression as a statement, its value no reference -/
theorem T_ExprS {e : Expr} {pos : Pos} {R : AF → AS → Prop} (h : TV c (eval e c.env) σ fun a σ₁ => a = .none ∧ R .next σ₁) (hi : interactive c.env = false) (hsw : swapsWith e none pos.line c.env = pure false) : TF c (exec (.Expr e pos) c.env) σ R := by
  intro s S
  rw [show exec (.Expr e pos) c.env = (do
    standAt pos
    if interactive c.env then printExpr (eval e c.env)
    else if ← swapsWith e none pos.line c.env then do evalThenUse e c.env fun _ => point; pure .next
    else do dropValue e pos (← eval e c.env)) from rfl, hi, hsw]
  refine wpAny_bind (wpAny_standAt ?_)
  show wpAny _ _ (do dropValue e pos (← eval e c.env)) _ _ s
  refine wpAny_bind (h.use S fun v a σ₁ s₁ ra S₁ m₁ ⟨ea, q⟩ => ?_)
  subst ea
  cases ra
  have : dropValue e pos Value.none = pure .next := by unfold dropValue; cases e <;> rfl
  rw [this]
  exact wpAny_pure ⟨.next, σ₁, rfl, S₁, m₁, q⟩
end
end Mine
end
section
open PySem PySem.W PyProof.Rows PySem.Calls
set_option maxRecDepth 100000
namespace Mine
noncomputable def closF (env : Env) : List (Str × NameKind) → List (Str × Addr) → List (Str × Addr)
  | [], acc => acc
  | (n, k) :: r, acc => if k == .free then closF env r ((n, (env.cells.lookup n).getD 0) :: acc) else closF env r acc
theorem closureFor_eq {scope : Scope} {env : Env} (h : ∀ x ∈ scope.names, x.2 = .free → (env.cells.lookup x.1).isSome = true) : closureFor scope env = pure (closF env scope.names []) := by
  have key : ∀ (names : List (Str × NameKind)) (acc : List (Str × Addr)), (∀ x ∈ names, x.2 = .free → (env.cells.lookup x.1).isSome = true) →
      (forIn names acc fun x r => (match x with
        | (name, kind) => if (kind == NameKind.free) = true then do let a ← cellOf env name; pure (ForInStep.yield ((name, a) :: r)) else pure (ForInStep.yield r) : Sem (ForInStep (List (Str × Addr))))) = pure (closF env names acc) := by
    intro names
    induction names with
    | nil => intro acc _; rfl
    | cons x r ih =>
      obtain ⟨nm, k⟩ := x
      intro acc hh
      rw [List.forIn_cons]
      unfold closF
      by_cases hk : (k == NameKind.free) = true
      · have hs := hh (nm, k) (.head _) (beq_iff_eq.mp hk)
        obtain ⟨a, ha⟩ := Option.isSome_iff_exists.mp hs
        have ha' : env.cells.lookup nm = some a := ha
        simp only [hk, if_true, cellOf, ha', pure_bind, Option.getD_some]
        exact ih _ fun x hx => hh x (.tail _ hx)
      · simp only [hk, if_false, Bool.false_eq_true, pure_bind]
        exact ih _ fun x hx => hh x (.tail _ hx)
  unfold closureFor
  have := key scope.names [] h
  show (forIn scope.names [] _ >>= _) = _
  first
    | (rw [this]; rfl)
    | (refine Eq.trans (congrArg (· >>= _) (Eq.trans ?_ this)) rfl; rfl)
theorem closF_lookup {env : Env} {x : Str} : ∀ (names : List (Str × NameKind)) (acc : List (Str × Addr)), (names.map (·.1)).Nodup →
    (closF env names acc).lookup x = if names.lookup x = some .free then some ((env.cells.lookup x).getD 0) else acc.lookup x
  | [], acc, _ => by simp [closF]
  | (nm, k) :: r, acc, nd => by
    have nd' := List.nodup_cons.mp nd
    unfold closF
    by_cases hx : x = nm
    · subst hx
      have hr : r.lookup x = none := by
        cases h : r.lookup x with
        | none => rfl
        | some k' => exact absurd (List.mem_map_of_mem (mem_of_lookup h)) nd'.1
      by_cases hk : (k == NameKind.free) = true
      · rw [if_pos hk, closF_lookup r _ nd'.2, hr, if_neg (by simp), List.lookup_cons, beq_self_eq_true, List.lookup_cons, beq_self_eq_true]
        simp [beq_iff_eq.mp hk]
      · rw [if_neg hk, closF_lookup r _ nd'.2, hr, if_neg (by simp), List.lookup_cons, beq_self_eq_true]
        have : ¬ (some k = some NameKind.free) := fun e => hk (by rw [Option.some.inj e]; rfl)
        simp [this]
    · have hb : (x == nm) = false := beq_eq_false_iff_ne.mpr hx
      by_cases hk : (k == NameKind.free) = true
      · rw [if_pos hk, closF_lookup r _ nd'.2, List.lookup_cons, hb, List.lookup_cons, hb]
      · rw [if_neg hk, closF_lookup r _ nd'.2, List.lookup_cons, hb]
theorem cellsFrom_lookup {x : Str} : ∀ (names : List (Str × NameKind)) (n : Nat) (acc : List (Str × Addr)), (names.map (·.1)).Nodup →
    (names.lookup x = some .cell → ∃ a, n ≤ a ∧ (cellsFrom n names acc).lookup x = some a) ∧ (names.lookup x ≠ some .cell → (cellsFrom n names acc).lookup x = acc.lookup x)
  | [], n, acc, _ => ⟨fun h => by simp at h, fun _ => rfl⟩
  | (nm, k) :: r, n, acc, nd => by
    have nd' := List.nodup_cons.mp nd
    unfold cellsFrom
    by_cases hx : x = nm
    · subst hx
      have hr : r.lookup x = none := by
        cases h : r.lookup x with
        | none => rfl
        | some k' => exact absurd (List.mem_map_of_mem (mem_of_lookup h)) nd'.1
      have hne : r.lookup x ≠ some .cell := by rw [hr]; simp
      rw [List.lookup_cons, beq_self_eq_true]
      by_cases hk : (k == NameKind.cell) = true
      · rw [if_pos hk, (cellsFrom_lookup r _ _ nd'.2).2 hne, List.lookup_cons, beq_self_eq_true]
        exact ⟨fun _ => ⟨n, Nat.le_refl _, rfl⟩, fun h => absurd (by rw [beq_iff_eq.mp hk]) h⟩
      · rw [if_neg hk, (cellsFrom_lookup r _ _ nd'.2).2 hne]
        exact ⟨fun h => absurd (by rw [Option.some.inj h]; rfl) hk, fun _ => rfl⟩
    · have hb : (x == nm) = false := beq_eq_false_iff_ne.mpr hx
      rw [List.lookup_cons, hb]
      by_cases hk : (k == NameKind.cell) = true
      · rw [if_pos hk]
        obtain ⟨h1, h2⟩ := cellsFrom_lookup (x := x) r (n + 1) ((nm, n) :: acc) nd'.2
        refine ⟨fun h => ?_, fun h => ?_⟩
        · obtain ⟨a, ha, e⟩ := h1 h; exact ⟨a, by (first | exact om8 ha | omega), e⟩
        · rw [h2 h, List.lookup_cons, hb]
      · rw [if_neg hk]
        exact cellsFrom_lookup r n acc nd'.2
/-- every new cell lies in the heap, behind n -/
theorem pushCells_cell : ∀ (names : List (Str × NameKind)) (h : Heap) (acc : List (Str × Addr)) (y : Str) (a : Addr), (cellsFrom h.objs.size names acc).lookup y = some a → (acc.lookup y = some a) ∨ ((pushCells h names).IsCell a none ∧ h.objs.size ≤ a)
  | [], h, acc, y, a, e => .inl e
  | (nm, k) :: r, h, acc, y, a, e => by
    unfold cellsFrom at e
    unfold pushCells
    by_cases hk : (k == NameKind.cell) = true
    · rw [if_pos hk] at e ⊢
      have hsz : (h.push { cls := .type "cell", data := .cell none }).objs.size = h.objs.size + 1 := Heap.size_push ..
      rw [← hsz] at e
      rcases pushCells_cell r _ _ y a e with q | ⟨q1, q2⟩
      · rw [List.lookup_cons] at q
        split at q
        · cases q
          refine .inr ⟨⟨_, pushCells_keeps _ _ _ _ (Heap.get?_push_size _ rfl), rfl⟩, Nat.le_refl _⟩
        · exact .inl q
      · exact .inr ⟨q1, by rw [hsz] at q2; (first | exact om8 q2 | omega)⟩
    · rw [if_neg hk] at e ⊢
      exact pushCells_cell r h acc y a e
theorem cellsFrom_inj : ∀ (names : List (Str × NameKind)) (n : Nat) (acc : List (Str × Nat)) (x y : Str) (a : Nat), (∀ (z : Str) (b : Nat), acc.lookup z = some b → b < n) → n ≤ a → (cellsFrom n names acc).lookup x = some a → (cellsFrom n names acc).lookup y = some a → x = y
  | [], n, acc, x, y, a, hb, hn, h1, h2 => absurd (hb x a h1) (by (first | exact om9 hn | omega))
  | (nm, k) :: r, n, acc, x, y, a, hb, hn, h1, h2 => by
    unfold cellsFrom at h1 h2
    by_cases hk : (k == NameKind.cell) = true
    · rw [if_pos hk] at h1 h2
      by_cases ha : a = n
      · subst ha
        -- both come from the cell just laid: later cells lie behind
        have later : ∀ (r : List (Str × NameKind)) (m : Nat) (acc : List (Str × Nat)) (z : Str), a < m → (cellsFrom m r acc).lookup z = some a → acc.lookup z = some a := by
          intro r
          induction r with
          | nil => intro m acc z _ e; exact e
          | cons p r ih =>
            obtain ⟨q, kq⟩ := p
            intro m acc z hm e
            unfold cellsFrom at e
            split at e
            · have := ih (m + 1) _ z (by (first | exact om10 hm | omega)) e
              rw [List.lookup_cons] at this
              split at this
              · cases this; (first | exact om11 hm | omega)
              · exact this
            · exact ih m acc z hm e
        have e1 := later r _ _ x (Nat.lt_succ_self _) h1
        have e2 := later r _ _ y (Nat.lt_succ_self _) h2
        have at_ : ∀ z, List.lookup z ((nm, a) :: acc) = some a → z = nm := by
          intro z e
          rw [List.lookup_cons] at e
          split at e
          · rename_i hz; exact beq_iff_eq.mp hz
          · exact absurd (hb z a e) (Nat.lt_irrefl _)
        rw [at_ x e1, at_ y e2]
      · refine cellsFrom_inj r (n + 1) ((nm, n) :: acc) x y a (fun z b e => ?_) (by (first | exact om12 hn ha | omega)) h1 h2
        rw [List.lookup_cons] at e
        split at e
        · cases e; (first | exact om13 | omega)
        · have := hb z b e; (first | exact om10 this | omega)
    · rw [if_neg hk] at h1 h2
      exact cellsFrom_inj r n acc x y a hb hn h1 h2
theorem newEnv_comp {M : Model} {A : Around} {E : Value → Shared → Prop} {s : Shared} {scope : Scope} {globals : Addr} {cl : List (Str × Addr)} {qual : Str} {env : Env} {Q : Env → Shared → Prop}
    (hQ : Q (newEnv scope s.heap.objs.size globals (cellsFrom (s.heap.objs.size + 1) scope.names cl) qual none .none (some env) builtinsNs) { s with heap := pushCells (s.heap.push { cls := .type "dict", data := .dict #[] }) scope.names }) :
    wpAny M A (newFunctionEnv scope globals cl [] qual none .none (some env)) Q E s := by
  simp only [newFunctionEnv, Option.isSome_some, if_true]
  refine wpAny_bind (wpAny_alloc ?_)
  refine wpAny_bind (wpAny_layCells _ (fun name kind cells => by cases hkc : kind == NameKind.cell <;> simp [hkc]) _ _ _ _ ?_)
  rw [show ({ s with heap := s.heap.push { cls := .type "dict", data := .dict #[] } } : Shared).heap.objs.size = s.heap.objs.size + 1 from Heap.size_push ..]
  exact wpAny_bind (wpAny_pure (wpAny_pure hQ))
end Mine
end
section
open PySem PySem.W PyProof.Rows PySem.Calls
set_option maxRecDepth 100000
namespace Mine
noncomputable def compSt (scope : Scope) (caps ts igl ics : List Str) : Bool :=
  (scope.kind == .function) && decide (scope.names.map (·.1)).Nodup && scope.names.all (fun x => x.2 != .free || caps.contains x.1) &&
  caps.all (fun x => scope.names.lookup x == some .free && !(x == ("__debug__" : Str)) && !(x == ("__classdict__" : Str))) &&
  ts.all (fun x => (scope.names.lookup x == some .local || scope.names.lookup x == some .cell) && !(x == ("__debug__" : Str))) &&
  igl.all (fun x => scope.names.lookup x == some .globalImplicit && !(x == ("__debug__" : Str))) &&
  ics.all (fun x => scope.names.lookup x == some .free || scope.names.lookup x == some .cell) &&
  decide (caps ++ ts).Nodup
structure CompSt (scope : Scope) (caps ts igl ics : List Str) : Prop where
  kind : scope.kind = .function
  nd : (scope.names.map (·.1)).Nodup
  fr : ∀ x ∈ scope.names, x.2 = .free → x.1 ∈ caps
  capk : ∀ x ∈ caps, scope.names.lookup x = some .free ∧ (x == ("__debug__" : Str)) = false ∧ (x == ("__classdict__" : Str)) = false
  tsk : ∀ x ∈ ts, (scope.names.lookup x = some .local ∨ scope.names.lookup x = some .cell) ∧ (x == ("__debug__" : Str)) = false
  iglk : ∀ x ∈ igl, scope.names.lookup x = some .globalImplicit ∧ (x == ("__debug__" : Str)) = false
  icsk : ∀ x ∈ ics, scope.names.lookup x = some .free ∨ scope.names.lookup x = some .cell
  nk : (caps ++ ts).Nodup
theorem CompSt.of {scope : Scope} {caps ts igl ics : List Str} (h : compSt scope caps ts igl ics = true) : CompSt scope caps ts igl ics := by
  unfold compSt at h
  simp only [Bool.and_eq_true, List.all_eq_true, Bool.or_eq_true, beq_iff_eq, Bool.not_eq_true', decide_eq_true_eq, bne_iff_ne, List.contains_iff_mem] at h
  obtain ⟨⟨⟨⟨⟨⟨⟨h1, h2⟩, h3⟩, h4⟩, h5⟩, h6⟩, h7⟩, h8⟩ := h
  exact ⟨h1, h2, fun x hx e => (h3 x hx).resolve_left fun q => q e, fun x hx => ⟨(h4 x hx).1.1, (h4 x hx).1.2, (h4 x hx).2⟩, h5, h6, h7, h8⟩
theorem lookup_map_kind (g : Str → NameKind → NameKind) {x : Str} : ∀ (names : List (Str × NameKind)), (names.map fun p => (p.1, g p.1 p.2)).lookup x = (names.lookup x).map (g x)
  | [] => rfl
  | (nm, k) :: r => by
    rw [List.map_cons, List.lookup_cons, List.lookup_cons]
    cases h : x == nm with
    | true => rw [beq_iff_eq.mp h]; rfl
    | false => exact lookup_map_kind g r
theorem relabel_names (scope : Scope) (env : Env) : (relabel scope env).names = scope.names.map fun p => (p.1, if (p.2 == .free && env.scope.kind == .function && env.kindOf p.1 == some .cell) = true then .cell else p.2) := by
  unfold relabel
  show List.map _ _ = List.map _ _
  refine List.map_congr_left fun p _ => ?_
  obtain ⟨nm, k⟩ := p
  show (if _ then _ else _) = _
  split <;> rfl
theorem relabel_lookup (scope : Scope) (env : Env) {x : Str} {k : NameKind} (h : scope.names.lookup x = some k) :
    (relabel scope env).names.lookup x = some (if (k == .free && env.scope.kind == .function && env.kindOf x == some .cell) = true then .cell else k) := by
  rw [relabel_names, lookup_map_kind (fun n k => if (k == .free && env.scope.kind == .function && env.kindOf n == some .cell) = true then .cell else k), h]; rfl
/-- the captured values -/
inductive CapAt (ks : List Str) (vals : List AV) : List Str → List AV → Prop where
  | nil : CapAt ks vals [] []
  | cons {x : Str} {a : AV} {r : List Str} {l : List AV} : At ks vals x a → a ≠ .unb → CapAt ks vals r l → CapAt ks vals (x :: r) (a :: l)
theorem Slots.app {c : Cx} {P : List Addr} {h : Heap} {m : Str → Option Value} : ∀ {k1 k2 : List Str} {v1 v2 : List AV}, Slots c P h m k1 v1 → Slots c P h m k2 v2 → Slots c P h m (k1 ++ k2) (v1 ++ v2)
  | [], _, _, _, e, s => by cases e; exact s
  | _ :: _, _, _, _, ⟨u, r, e, s, sr⟩, s2 => by subst e; exact ⟨u, _, rfl, s, sr.app s2⟩
theorem Slots.unbs {c : Cx} {P : List Addr} {h : Heap} {m : Str → Option Value} : ∀ {ks : List Str}, Slots c P h m ks (ks.map fun _ => .unb)
  | [] => rfl
  | _ :: _ => ⟨.unb, _, rfl, .unb rfl, Slots.unbs⟩
noncomputable def innerEnv (scope : Scope) (C : Addr) (env : Env) : Env :=
  { newEnv scope C env.globals (cellsFrom (C + 1) scope.names (closF env scope.names [])) env.qual none .none (some env) builtinsNs with scope := relabel scope env }
noncomputable def innerCx (c : Cx) (scope : Scope) (C : Addr) (caps ts : List Str) : Cx :=
  ⟨c.w, c.A, innerEnv scope C c.env, caps ++ ts, ts.filterMap fun x => if scope.names.lookup x = some .cell then (innerEnv scope C c.env).cells.lookup x else none, c.gens, c.drawn, c.os⟩
section
variable {c : Cx} {ks sk gl cs : List Str} {n : Nat} {σ : AS}
theorem comp_enter (O : Ok c ks sk gl cs n) {s : Shared} (S : Sat c σ s) {scope : Scope} {caps ts igl ics : List Str} {cav : List AV} (st : CompSt scope caps ts igl ics) (cap : CapAt ks σ.vals caps cav) (hcs : ∀ x ∈ caps, x ∈ cs) :
    Ok (innerCx c scope s.heap.objs.size caps ts) (caps ++ ts) ts igl ics n ∧
    Sat (innerCx c scope s.heap.objs.size caps ts) ⟨cav ++ ts.map (fun _ => .unb), σ.mem⟩ { s with heap := pushCells (s.heap.push { cls := .type "dict", data := .dict #[] }) scope.names } ∧
    (∀ b ∈ s.heap.objs.size :: (innerCx c scope s.heap.objs.size caps ts).oc, s.heap.get? b = none) ∧
    (∀ x ∈ scope.names, x.2 = .free → (c.env.cells.lookup x.1).isSome = true) := by
  obtain ⟨m, hm, sl⟩ := S.slots
  -- what a captured name is in the outer frame
  have capCell : ∀ x a, At ks σ.vals x a → a ≠ .unb → x ∈ cs → ∃ d v, c.env.cells.lookup x = some d ∧ (d ∈ c.oc ∨ d ∉ own c σ.mem) ∧ s.heap.IsCell d (some v) ∧ Rel (own c σ.mem) s.heap a v := by
    intro x a hat hu hx
    rcases sl.at (O.keys ▸ hat) with e | ⟨v, hk, hv, r⟩ | ⟨d, v, hk, hl, hd, hv, r⟩ | ⟨d, v, hk, hl, hd, hv, r, hn⟩
    · exact absurd e hu
    · rcases (O.csk x hx).1 with q | q <;> rw [q] at hk <;> cases hk
    · exact ⟨d, v, hl, hd, hv, r⟩
    · exact ⟨d, v, hl, hd, hv, r⟩
  have capMem : ∀ {r : List Str} {l : List AV}, CapAt ks σ.vals r l → ∀ x ∈ r, ∃ a, At ks σ.vals x a ∧ a ≠ .unb := by
    intro r l h
    induction h with
    | nil => intro x hx; cases hx
    | cons h1 h2 _ ih =>
      intro x hx
      rcases List.mem_cons.mp hx with rfl | hx
      · exact ⟨_, h1, h2⟩
      · exact ih x hx
  have closSome : ∀ x ∈ scope.names, x.2 = .free → (c.env.cells.lookup x.1).isSome = true := by
    intro x hx e
    obtain ⟨a, ha, hu⟩ := capMem cap x.1 (st.fr x hx e)
    obtain ⟨d, v, hl, _⟩ := capCell x.1 a ha hu (hcs _ (st.fr x hx e))
    rw [hl]; rfl
  have hsz : (s.heap.push { cls := .type "dict", data := .dict #[] }).objs.size = s.heap.objs.size + 1 := Heap.size_push ..
  have cellsI : (innerEnv scope s.heap.objs.size c.env).cells = cellsFrom (s.heap.objs.size + 1) scope.names (closF c.env scope.names []) := rfl
  have kindI : ∀ {x : Str} {k : NameKind}, scope.names.lookup x = some k → (innerEnv scope s.heap.objs.size c.env).kindOf x = some (if (k == .free && c.env.scope.kind == .function && c.env.kindOf x == some .cell) = true then .cell else k) := fun h => relabel_lookup scope c.env h
  have keep : ∀ b o, s.heap.get? b = some o → (pushCells (s.heap.push { cls := .type "dict", data := .dict #[] }) scope.names).get? b = some o := fun b o e => pushCells_keeps _ _ _ _ (Heap.get?_push_of_some _ e)
  have capLook : ∀ x, scope.names.lookup x = some .free → (innerEnv scope s.heap.objs.size c.env).cells.lookup x = some ((c.env.cells.lookup x).getD 0) := by
    intro x hx
    rw [cellsI, (cellsFrom_lookup scope.names _ _ st.nd).2 (by rw [hx]; simp), closF_lookup _ _ st.nd, if_pos hx]
  have closLt : ∀ (z : Str) (b : Nat), (closF c.env scope.names []).lookup z = some b → b < s.heap.objs.size + 1 := by
    intro z b e
    rw [closF_lookup _ _ st.nd] at e
    split at e
    · rename_i hz
      have hmem := mem_of_lookup hz
      obtain ⟨a, ha, hu⟩ := capMem cap z (st.fr _ hmem rfl)
      obtain ⟨d, v, hl, _, hv, _⟩ := capCell z a ha hu (hcs _ (st.fr _ hmem rfl))
      rw [hl] at e; cases e
      obtain ⟨o, ho, _⟩ := hv
      exact Nat.lt_succ_of_lt (Heap.lt_size ho)
    · cases e
  have newCell : ∀ x, scope.names.lookup x = some .cell → ∃ a, s.heap.objs.size < a ∧ (innerEnv scope s.heap.objs.size c.env).cells.lookup x = some a ∧ (pushCells (s.heap.push { cls := .type "dict", data := .dict #[] }) scope.names).IsCell a none := by
    intro x hx
    obtain ⟨a, ha, e⟩ := (cellsFrom_lookup scope.names (s.heap.objs.size + 1) (closF c.env scope.names []) st.nd).1 hx
    refine ⟨a, ha, e, ?_⟩
    rw [← hsz] at e
    rcases pushCells_cell _ _ _ _ _ e with q | q
    · exact absurd (closLt x a q) (Nat.not_lt.mpr ha)
    · exact q.1
  have ocAt : ∀ a ∈ (innerCx c scope s.heap.objs.size caps ts).oc, ∃ x ∈ ts, scope.names.lookup x = some .cell ∧ (innerEnv scope s.heap.objs.size c.env).cells.lookup x = some a ∧ s.heap.objs.size < a := by
    intro a ha
    obtain ⟨x, hx, e⟩ := List.mem_filterMap.mp ha
    split at e
    · rename_i hc
      obtain ⟨b, hb, hb2, _⟩ := newCell x hc
      rw [hb2] at e; cases e
      exact ⟨x, hx, hc, hb2, hb⟩
    · cases e
  have fresh : ∀ b ∈ s.heap.objs.size :: (innerCx c scope s.heap.objs.size caps ts).oc, s.heap.get? b = none := by
    intro b hb
    refine Heap.get?_none_of_le ?_
    rcases List.mem_cons.mp hb with q | q
    · exact q ▸ Nat.le_refl _
    · obtain ⟨x, _, _, _, h⟩ := ocAt b q
      exact Nat.le_of_lt h
  have inj : ∀ x y a, s.heap.objs.size < a → (innerEnv scope s.heap.objs.size c.env).cells.lookup x = some a → (innerEnv scope s.heap.objs.size c.env).cells.lookup y = some a → x = y :=
    fun x y a ha h1 h2 => cellsFrom_inj scope.names (s.heap.objs.size + 1) (closF c.env scope.names []) x y a closLt ha h1 h2
  have mv : Mv (own c σ.mem) s.heap (own (innerCx c scope s.heap.objs.size caps ts) σ.mem) (pushCells (s.heap.push { cls := .type "dict", data := .dict #[] }) scope.names) := by
    intro b o hn e
    refine ⟨fun q => ?_, keep b o e⟩
    rcases List.mem_cons.mp q with q | q
    · rw [fresh b (q ▸ .head _)] at e; cases e
    · rcases List.mem_append.mp q with q | q
      · rw [fresh b (.tail _ q)] at e; cases e
      · exact hn (.tail _ (List.mem_append_right _ q))
  have memThere : ∀ b ∈ σ.mem.dom, ∃ o, s.heap.get? b = some o := fun b hb => by
    obtain ⟨p, hp, rfl⟩ := List.mem_map.mp hb
    exact (S.mem p hp).there
  refine ⟨⟨rfl, st.kind, st.nk, fun x hx => ?_, fun x hx => ?_, fun x hx => ?_, fun x hx => ?_, fun x y a ha h1 h2 => ?_, O.globals, O.builtins, O.room⟩, ⟨S.base.mv mv, ?_, ⟨fun _ => none, ?_, ?_⟩, ?_, fun p hp => (S.mem p hp).other mv fun ob e => keep _ _ e, S.gens, S.drawn, S.os⟩, fresh, closSome⟩
  · rcases (st.tsk x hx).1 with q | q
    · exact .inl (by rw [show (innerCx c scope s.heap.objs.size caps ts).env = innerEnv scope s.heap.objs.size c.env from rfl, kindI q]; rfl)
    · obtain ⟨a, ha, e, _⟩ := newCell x q
      refine .inr ⟨by rw [show (innerCx c scope s.heap.objs.size caps ts).env = innerEnv scope s.heap.objs.size c.env from rfl, kindI q]; rfl, a, List.mem_filterMap.mpr ⟨x, hx, by rw [if_pos q]; exact e⟩, e⟩
  · rw [show (innerCx c scope s.heap.objs.size caps ts).env = innerEnv scope s.heap.objs.size c.env from rfl, kindI (st.iglk x hx).1]; rfl
  · rcases List.mem_append.mp hx with q | q
    · rcases List.mem_append.mp q with q | q
      · exact (st.capk x q).2.1
      · exact (st.tsk x q).2
    · exact (st.iglk x q).2
  · rcases st.icsk x hx with q | q <;> rw [show (innerCx c scope s.heap.objs.size caps ts).env = innerEnv scope s.heap.objs.size c.env from rfl, kindI q]
    · refine ⟨?_, by rw [capLook x q]; rfl⟩
      split
      · exact .inl rfl
      · exact .inr rfl
    · obtain ⟨a, _, e, _⟩ := newCell x q
      exact ⟨.inl rfl, by rw [e]; rfl⟩
  · obtain ⟨_, _, _, _, hlt⟩ := ocAt a ha
    exact inj x y a hlt h1 h2
  · refine List.nodup_cons.mpr ⟨fun q => ?_, List.nodup_append.mpr ⟨?_, (List.nodup_append.mp (List.nodup_cons.mp S.nd).2).2.1, fun a ha b hb e => ?_⟩⟩
    · rcases List.mem_append.mp q with q | q
      · obtain ⟨_, _, _, _, hlt⟩ := ocAt _ q
        exact Nat.lt_irrefl _ hlt
      · obtain ⟨o, ho⟩ := memThere _ q
        have hf := fresh s.heap.objs.size (.head _)
        rw [show s.heap.get? s.heap.objs.size = some o from ho] at hf; cases hf
    · have ndts : ts.Nodup := (List.nodup_append.mp st.nk).2.1
      have : ∀ l : List Str, l.Nodup → (∀ x ∈ l, x ∈ ts) → (l.filterMap fun x => if scope.names.lookup x = some .cell then (innerEnv scope s.heap.objs.size c.env).cells.lookup x else none).Nodup := by
        intro l
        induction l with
        | nil => intro _ _; exact List.nodup_nil
        | cons x r ih =>
          intro nd hin
          have nd' := List.nodup_cons.mp nd
          have ih' := ih nd'.2 fun y hy => hin y (.tail _ hy)
          cases hq : (if scope.names.lookup x = some .cell then (innerEnv scope s.heap.objs.size c.env).cells.lookup x else none) with
          | none => rw [List.filterMap_cons, hq]; exact ih'
          | some a =>
            rw [List.filterMap_cons, hq]
            refine List.nodup_cons.mpr ⟨fun z => ?_, ih'⟩
            obtain ⟨y, hy, e⟩ := List.mem_filterMap.mp z
            split at hq
            · rename_i hcx
              split at e
              · obtain ⟨b, hb, hb2, _⟩ := newCell x hcx
                rw [hb2] at hq; cases hq
                exact nd'.1 (inj x y a hb hb2 e ▸ hy)
              · cases e
            · cases hq
      exact this ts ndts fun _ h => h
    · subst e
      obtain ⟨o, ho⟩ := memThere _ hb
      rw [fresh _ (.tail _ ha)] at ho; cases ho
  · exact (Heap.Ns.new s.heap (.type "dict")).keeps (pushCells_keeps _ _)
  · refine Slots.app ?_ Slots.unbs
    have capsIn : ∀ x ∈ caps, x ∈ caps := fun _ h => h
    revert capsIn
    generalize hcc : caps = cc at cap
    intro capsIn
    have : ∀ {r : List Str} {l : List AV}, CapAt ks σ.vals r l → (∀ x ∈ r, x ∈ caps) → Slots (innerCx c scope s.heap.objs.size caps ts) (own (innerCx c scope s.heap.objs.size caps ts) σ.mem) (pushCells (s.heap.push { cls := .type "dict", data := .dict #[] }) scope.names) (fun _ => none) r l := by
      intro r l h
      induction h with
      | nil => intro _; rfl
      | @cons x a r l h1 h2 _ ih =>
        intro hin
        refine ⟨a, l, rfl, ?_, ih fun y hy => hin y (.tail _ hy)⟩
        have hx := hin x (.head _)
        obtain ⟨d, v, hl, hd, hv, hr⟩ := capCell x a h1 h2 (hcs x hx)
        have hfree := (st.capk x hx).1
        have look : (innerEnv scope s.heap.objs.size c.env).cells.lookup x = some d := by rw [capLook x hfree, hl]; rfl
        have hk := kindI hfree
        have hout : d ∈ (innerCx c scope s.heap.objs.size caps ts).oc ∨ d ∉ own (innerCx c scope s.heap.objs.size caps ts) σ.mem := by
          right
          obtain ⟨o, ho, _⟩ := hv
          intro q
          rcases List.mem_cons.mp q with q | q
          · rw [fresh d (q ▸ .head _)] at ho; cases ho
          · rcases List.mem_append.mp q with q | q
            · rw [fresh d (.tail _ q)] at ho; cases ho
            · rcases hd with hd | hd
              · exact (nd_parts S.nd).2.2 d hd q
              · exact hd (.tail _ (List.mem_append_right _ q))
        by_cases hc : (NameKind.free == .free && c.env.scope.kind == .function && c.env.kindOf x == some .cell) = true
        · rw [if_pos hc] at hk
          exact .cell d v hk look hout (hv.keeps keep) (Rel.mv mv _ _ hr)
        · rw [if_neg hc] at hk
          exact .free d v hk look hout (hv.keeps keep) (Rel.mv mv _ _ hr) (st.capk x hx).2.2
    subst hcc
    exact this cap capsIn
  · intro a ha
    obtain ⟨x, _, hc, e, _⟩ := ocAt a ha
    obtain ⟨b, _, e2, hb⟩ := newCell x hc
    rw [e] at e2; cases e2
    exact ⟨_, hb⟩
end
end Mine
end
section
open PySem PySem.W PyProof.Rows PySem.Calls
set_option maxRecDepth 100000
namespace Mine
section
variable {c : Cx} {ks sk gl cs : List Str} {n : Nat} {σ : AS}
/-- the tests of a comprehension's clause -/
noncomputable def TTests (c : Cx) (ifs : List Expr) (σ : AS) (K : Bool → AS → Prop) : Prop :=
  TB c (forIn ifs true fun t r => if r = true then do let ok ← isTrue t c.env (eval t c.env); pure (ForInStep.yield ok) else pure (ForInStep.yield r)) σ K
theorem tests0 {K : Bool → AS → Prop} (k : K true σ) : TTests c [] σ K := fun s S => wpAny_tests_nil ⟨true, σ, rfl, S, .refl, k⟩
theorem tests1 {t : Expr} {K : Bool → AS → Prop} (h : TB c (isTrue t c.env (eval t c.env)) σ K) : TTests c [t] σ K := fun s S => wpAny_tests_one (h s S)
/-- an iterator is no owner of tuples -/
theorem letOwned {M : Model} {A : Around} {E : Value → Shared → Prop} {s : Shared} {target : Expr} {it : Addr} {oi : Obj} {v : Value} {Q : Unit → Shared → Prop} (hi : s.heap.get? it = some oi) (hc : iterCls oi.cls = true) (h : Q () s) :
    wpAny M A (letOwnedTupleGo target (.ref it) v) Q E s := by
  have key : wpAny M A (do
      let (.ref r, .ref a) := (Value.ref it, v) | return
      let o ← load r
      match o.cls, o.data with
      | .type n, .fields vs =>
        if ["enumerate", "zip", "dict_itemiterator", "dict_reverseitemiterator", "odict_iterator", "itertools.zip_longest", "itertools.pairwise"].contains n && vs[0]? == some (rawInt a) then
          rule "for.unpacks-the-owned-tuple"
          updateField r 0 .none
      | _, _ => pure () : Sem Unit) Q E s := by
    cases v with
    | ref a =>
      refine wpAny_bind (wpAny_load hi ?_)
      obtain ⟨cl, d, dt, sl⟩ := oi
      cases cl with
      | type nm =>
        have hn : nm = "list_iterator" ∨ nm = "range_iterator" ∨ nm = "callable_iterator" := by
          simp only [iterCls, Bool.or_eq_true, beq_iff_eq] at hc
          rcases hc with (h | h) | h
          · exact .inl h
          · exact .inr (.inl h)
          · exact .inr (.inr h)
        cases dt with
        | fields vs =>
          have : (["enumerate", "zip", "dict_itemiterator", "dict_reverseitemiterator", "odict_iterator", "itertools.zip_longest", "itertools.pairwise"].contains nm) = false := by
            rcases hn with rfl | rfl | rfl <;> decide
          simp only [this, Bool.false_and, Bool.false_eq_true, if_false]
          exact wpAny_pure h
        | _ => exact wpAny_pure h
      | _ => cases hc
    | _ => exact wpAny_pure h
  unfold letOwnedTupleGo
  cases target <;> first | exact key | exact wpAny_pure h
/-- an iterator iterates itself -/
theorem iter_self {P : List Addr} {s : Shared} {w : World} {A : Around} {E : Value → Shared → Prop} {it : Addr} {l : List AV} {R : Value → Shared → Prop} (I : IterAt P s.heap it l) (h : R (.ref it) s) : wpAny (model prog w) A (pyIter (.ref it)) R E s := by
  rcases I with ⟨ad, vs, i, l', hit, _⟩ | ⟨x, k, hr, _⟩
  · exact wpAny_pyIter_listiter hit h
  · exact wpAny_pyIter_rangeiter hr h
theorem compLoop_turns {w : World} {A : Around} {R : Result → Shared → Prop} {s : Shared} {elt target iter : Expr} {ifs : List Expr} {scope : Scope} {pos : Pos} {it acc : Value} {env : Env} (I : Nat → Shared → Prop)
    (turn : ∀ n s, I n s → wpAny (model prog w) A (pyNext it) (fun r s₁ => match r with
      | none => R (.ok .next) s₁
      | some v => wpAny (model prog w) A (letOwnedTupleGo target it v) (fun _ s₁ => wpAny (model prog w) A (assign target env v) (fun _ s₂ =>
          wpAny (model prog w) A (forIn ifs true fun c r => if r = true then do let ok ← isTrue c env (eval c env); pure (ForInStep.yield ok) else pure (ForInStep.yield r)) (fun ok s₃ =>
            if ok = true then wpAny (model prog w) A (eval elt env) (fun x s₄ =>
              wpAny (model prog w) A (call (.builtin "list.append") [acc, x]) (fun _ s₅ => ∃ m, m < n ∧ I m s₅) (fun _ _ => False) s₄) (fun _ _ => False) s₃
            else ∃ m, m < n ∧ I m s₃) (fun _ _ => False) s₂) (fun _ _ => False) s₁) (fun _ _ => False) s₁) (fun _ _ => False) s)
    (n : Nat) (h : I n s) :
    codeAny (model prog w) A (.compLoop (.ListComp elt [⟨target, iter, ifs, 0⟩] scope pos) 0 it acc env) R s := by
  refine codeAny_loop rfl I (fun n s hI => ?_) n h
  show wpAny _ A ((compTurn (.ListComp elt [⟨target, iter, ifs, 0⟩] scope pos) 0 it acc env).onRaise (fun x => do noteFrame x env; theTreesLotGoes x)) _ _ s
  refine wpAny_noted ?_
  rw [compTurn_list]
  refine wpAny_bind (wpAny_standAt (wpAny_bind (wpAny_mono (turn n s hI) (fun r s₁ h₁ => ?_) fun _ _ h' => h'.elim)))
  cases r with
  | none => exact wpAny_pure h₁
  | some v =>
    refine wpAny_bind (wpAny_mono h₁ (fun _ s₁' h₁' => ?_) fun _ _ h' => h'.elim)
    refine wpAny_bind (wpAny_mono h₁' (fun _ s₂ h₂ => wpAny_bind (wpAny_mono h₂ (fun ok s₃ h₃ => ?_) fun _ _ h' => h'.elim)) fun _ _ h' => h'.elim)
    cases ok with
    | false => exact wpAny_pure ⟨rfl, h₃⟩
    | true =>
      exact wpAny_bind (wpAny_bind (wpAny_mono h₃ (fun x s₄ h₄ => wpAny_bind (wpAny_mono h₄ (fun _ s₅ h₅ => wpAny_pure (wpAny_pure ⟨rfl, h₅⟩)) fun _ _ h' => h'.elim)) fun _ _ h' => h'.elim))
end
end Mine
end
section
open PySem PySem.W PyProof.Rows PySem.Calls
set_option maxRecDepth 100000
namespace Mine
section
variable {c : Cx} {ks sk gl cs : List Str} {n : Nat} {σ : AS}
/-- what holds behind the inner frame, back in the outer one -/
theorem comp_back {s₃ s₅ : Shared} {mem₁ mem₂ : Mem} {ic : Cx} {iσ : AS} {vals : List AV} (S : Sat c ⟨vals, mem₁⟩ s₃) (hw : ic.w = c.w) (hg : ic.gens = c.gens) (hd : ic.drawn = c.drawn) (hos : ic.os = c.os)
    (fresh : ∀ b ∈ ic.env.locals :: ic.oc, s₃.heap.get? b = none) (hmem : iσ.mem = mem₂) (Si : Sat ic iσ s₅) {h' : Heap} (hs : Heap.SameBut ic.env.locals s₅.heap h')
    (mv : ∀ b o, s₃.heap.get? b = some o → b ∉ mem₁.dom → b ∉ own ic mem₂ ∧ s₅.heap.get? b = some o) :
    Sat c ⟨vals, mem₂⟩ { s₅ with heap := h' } ∧ Mv (own c mem₁) s₃.heap (own c mem₂) h' := by
  subst hmem
  have m1 : Mv (own ic iσ.mem) s₅.heap (own ic iσ.mem) h' := Mv.same (.head _) hs
  have np := nd_parts Si.nd
  have P' : Pre c.w iσ.mem h' := by
    have p := Si.pre
    rw [hw] at p
    have sub : ∀ b ∈ iσ.mem.dom, b ∈ own ic iσ.mem := fun b hb => .tail _ (List.mem_append_right _ hb)
    refine ⟨?_, p.nd, fun q hq => ?_⟩
    · have := (Si.base.mv m1).mv (.weak sub)
      rw [hw] at this; exact this
    · exact ((Si.mem q hq).other (m1.trans (.weak sub)) fun ob e => (hs.2 _ fun z => np.2.1 (z ▸ List.mem_map_of_mem hq)).trans e)
  have mvd : Mv mem₁.dom s₃.heap iσ.mem.dom h' := by
    intro b o hb e
    obtain ⟨h1, h2⟩ := mv b o e hb
    obtain ⟨h3, h4⟩ := m1 b o h1 h2
    exact ⟨fun q => h3 (.tail _ (List.mem_append_right _ q)), h4⟩
  exact S.back (s' := { s₅ with heap := h' }) P' mvd ⟨by rw [S.gens, ← hg]; exact Si.gens, by rw [S.drawn, ← hd]; exact Si.drawn, by rw [S.os, ← hos]; exact Si.os⟩
theorem lookup_of_nodup {x : Str × NameKind} : ∀ {l : List (Str × NameKind)}, (l.map (·.1)).Nodup → x ∈ l → l.lookup x.1 = some x.2
  | p :: r, nd, h => by
    have nd' := List.nodup_cons.mp nd
    rcases List.mem_cons.mp h with rfl | h
    · rw [List.lookup_cons, beq_self_eq_true]
    · rw [List.lookup_cons, beq_eq_false_iff_ne.mpr fun e => nd'.1 (List.mem_map.mpr ⟨x, h, e⟩)]
      exact lookup_of_nodup nd'.2 h
/-- a list comprehension of one clause: I of what is left, what is made, the owned memory -/
theorem T_comp (O : Ok c ks sk gl cs n) {elt target iter : Expr} {ifs : List Expr} {scope : Scope} {pos : Pos} {caps ts igl ics : List Str} {Q : AV → AS → Prop}
    (hst : compSt scope caps ts igl ics = true) (hcs : ∀ x ∈ caps, x ∈ cs)
    (start : TV c (eval iter c.env) σ fun a σ₁ => ∃ (I : List AV → List AV → List AV → Mem → Prop) (l cav : List AV), Yields a l ∧ CapAt ks σ₁.vals caps cav ∧ I cav l [] σ₁.mem ∧
      (∀ (ic : Cx) (acc : Addr) (cav : List AV), ic.w = c.w → Ok ic (caps ++ ts) ts igl ics n → ∀ a rest out mem tv, tv.length = ts.length → I cav (a :: rest) out mem →
        TA ic target a ⟨cav ++ tv, (acc, .list out) :: mem⟩ fun σ₂ => TTests ic ifs σ₂ fun b σ₃ => if b then TV ic (eval elt ic.env) σ₃ fun e σ₄ =>
          ∃ tv' mem', tv'.length = ts.length ∧ σ₄ = ⟨cav ++ tv', (acc, .list out) :: mem'⟩ ∧ out.length ≤ sizeLine ∧ I cav rest (out ++ [e]) mem'
        else ∃ tv' mem', tv'.length = ts.length ∧ σ₃ = ⟨cav ++ tv', (acc, .list out) :: mem'⟩ ∧ I cav rest out mem') ∧
      ∀ out mem', I cav [] out mem' → Q (.lst out) ⟨σ₁.vals, mem'⟩)
    (hs : ∀ x, foldedSetIterable iter c.env x = pure x) : TV c (eval (.ListComp elt [⟨target, iter, ifs, 0⟩] scope pos) c.env) σ Q := by
  intro s S
  have st := CompSt.of hst
  show wpAny _ _ (comprehension (.ListComp elt [⟨target, iter, ifs, 0⟩] scope pos) scope c.env _ (newList []) false (eval iter c.env)) _ _ s
  have hclos : closureFor scope c.env = pure (closF c.env scope.names []) := closureFor_eq fun x hx e => (O.csk x.1 (hcs _ (st.fr x hx e))).2
  refine wpAny_comprehension_free (g := ⟨target, iter, ifs, 0⟩) (gs := []) rfl hs hclos st.kind (fun x hx e => by rw [lookup_of_nodup st.nd hx, e]) ?_
  refine start.use S fun v a σ₁ s₁ ra S₁ m₁ ⟨I, l, cav, Y, cap, hI, turn, hQ⟩ => ?_
  refine iter_start Y ra S₁ fun it s₂ S₂ hk₂ hnone hn It => ?_
  refine wpAny_newList ?_
  obtain ⟨S₃, m₃⟩ := S₂.pushOwn (l := []) (vs := []) rfl
  refine newEnv_comp ?_
  obtain ⟨Oi, Si, fr, _⟩ := comp_enter O S₃ st cap hcs
  have hnone' : ∀ b o, s.heap.get? b = some o → b ∉ own c σ.mem → b ≠ it := fun b o e hb z => by
    subst z
    have := (m₁ _ _ hb e).2
    rw [hnone] at this; cases this
  have hnone1 : s₁.heap.get? it = none := hnone
  generalize hacc : s₂.heap.objs.size = acc at *
  generalize hs3 : ({ s₂ with heap := s₂.heap.push { cls := .type "list", data := .seq ([] : List Value).toArray } } : Shared) = s₃ at *
  have m₃' : Mv (own c σ₁.mem) s₂.heap (own c ((acc, AO.list []) :: σ₁.mem)) s₃.heap := by rw [← hs3]; exact m₃
  generalize hic : innerCx c scope s₃.heap.objs.size caps ts = ic at *
  have envI : ic.env = innerEnv scope s₃.heap.objs.size c.env := by rw [← hic]; rfl
  have locI : ic.env.locals = s₃.heap.objs.size := by rw [envI]; rfl
  have wI : ic.w = c.w := by rw [← hic]; rfl
  have AI : ic.A = c.A := by rw [← hic]; rfl
  show codeAny (model prog c.w) c.A (.compStart (.ListComp elt [⟨target, iter, ifs, 0⟩] scope pos) 0 (.ref it) (.ref acc) (innerEnv scope s₃.heap.objs.size c.env)) (compPost (model prog c.w) c.A (fun _ _ => False) none _ (.ref acc) s₃.heap.objs.size) _
  rw [← envI]
  generalize hs4 : ({ s₃ with heap := pushCells (s₃.heap.push { cls := .type "dict", data := .dict #[] }) scope.names } : Shared) = s₄ at *
  have keep4 : ∀ b o, s₃.heap.get? b = some o → s₄.heap.get? b = some o := fun b o e => by rw [← hs4]; exact pushCells_keeps _ _ _ _ (Heap.get?_push_of_some _ e)
  have mv4 : Mv (own c ((acc, AO.list []) :: σ₁.mem)) s₃.heap (own ic ((acc, AO.list []) :: σ₁.mem)) s₄.heap := by
    intro b o hb e
    refine ⟨fun q => ?_, keep4 b o e⟩
    rcases List.mem_cons.mp q with q | q
    · rw [fr b (by rw [q, locI]; exact .head _)] at e; cases e
    · rcases List.mem_append.mp q with q | q
      · rw [fr b (.tail _ q)] at e; cases e
      · exact hb (.tail _ (List.mem_append_right _ q))
  obtain ⟨hn3, It3⟩ := It.mv m₃' hn
  obtain ⟨hn4, It4⟩ := It3.mv mv4 hn3
  have base : ∀ b o, s.heap.get? b = some o → b ∉ own c σ.mem → b ∉ own c ((acc, AO.list []) :: σ₁.mem) ∧ s₃.heap.get? b = some o := fun b o e hb => m₃' b o (m₁ b o hb e).1 (hk₂ b o (m₁ b o hb e).2)
  have loop : codeAny (model prog c.w) c.A (.compLoop (.ListComp elt [⟨target, iter, ifs, 0⟩] scope pos) 0 (.ref it) (.ref acc) ic.env) (compPost (model prog c.w) c.A (fun _ _ => False) none
      (fun a s' => ∃ b σ', Rel (own c σ'.mem) s'.heap b a ∧ Sat c σ' s' ∧ Mv (own c σ.mem) s.heap (own c σ'.mem) s'.heap ∧ Q b σ') (.ref acc) s₃.heap.objs.size) s₄ := by
    refine compLoop_turns (fun k s' => ∃ l' out mem tv, l'.length = k ∧ tv.length = ts.length ∧ I cav l' out mem ∧ Sat ic ⟨cav ++ tv, (acc, .list out) :: mem⟩ s' ∧ it ∉ own ic ((acc, AO.list out) :: mem) ∧
      IterAt (own ic ((acc, AO.list out) :: mem)) s'.heap it l' ∧ (∀ b o, s₃.heap.get? b = some o → b ∉ Mem.dom ((acc, AO.list []) :: σ₁.mem) → b ≠ it → b ∉ own ic ((acc, AO.list out) :: mem) ∧ s'.heap.get? b = some o)) ?_ l.length
      ⟨l, [], σ₁.mem, ts.map (fun _ => .unb), rfl, by simp, hI, Si, hn4, It4, fun b o e hb _ => ?_⟩
    · rintro k s' ⟨l', out, mem, tv, hl, htv, hI', S', hn', It', far⟩
      rw [← AI, ← wI]
      cases l' with
      | nil =>
        refine iter_end Oi It' hn' S' fun s₅ S₅ hb₅ => ?_
        obtain ⟨m, hm, _⟩ := S₅.slots
        refine ⟨m, by rw [← locI]; exact hm, fun h' hs' => ?_⟩
        have sub13 : ∀ b o, s₁.heap.get? b = some o → s₃.heap.get? b = some o := fun b o e => by rw [← hs3]; exact Heap.get?_push_of_some _ (hk₂ b o e)
        have accNone : s₁.heap.get? acc = none := by
          cases q : s₁.heap.get? acc with
          | none => rfl
          | some o => exact absurd (Heap.lt_size (hk₂ _ _ q)) (by rw [hacc]; exact Nat.lt_irrefl _)
        obtain ⟨S₆, m₆⟩ := comp_back (mem₁ := σ₁.mem) (vals := σ₁.vals) S₁ wI (by rw [← hic]; rfl) (by rw [← hic]; rfl) (by rw [← hic]; rfl) (fun b hb => by
            cases q : s₁.heap.get? b with
            | none => rfl
            | some o => rw [locI] at hb; have := fr b hb; rw [sub13 b o q] at this; cases this) rfl S₅ (by rw [locI]; exact hs') (fun b o e hb => by
            have hne : b ≠ it := fun z => by rw [z, hnone1] at e; cases e
            obtain ⟨h1, h2⟩ := far b o (sub13 b o e) (fun q => by
              rcases List.mem_cons.mp q with q | q
              · rw [show b = acc from q, accNone] at e; cases e
              · exact hb q) hne
            exact ⟨h1, hb₅ b o hne h2⟩)
        obtain ⟨S₇, m₇⟩ := S₆.drop (mem' := mem) (List.sublist_cons_self _ _)
        obtain ⟨ws, ⟨k', ho⟩, rw'⟩ := S₆.mem (acc, AO.list out) (.head _)
        refine ⟨.lst out, ⟨σ₁.vals, mem⟩, ⟨acc, ws, rfl, ?_, ⟨k', ho⟩, RelL.mv m₇ _ _ rw'⟩, S₇, m₁.trans (m₆.trans m₇), hQ out mem hI'⟩
        have nd := S₆.nd
        intro q
        have nd1 := List.nodup_cons.mp nd
        have nd2 := List.nodup_append.mp nd1.2
        rcases List.mem_cons.mp q with q | q
        · exact nd1.1 (by rw [← q]; exact List.mem_append_right _ (.head _))
        · rcases List.mem_append.mp q with q | q
          · exact nd2.2.2 _ q _ (.head _) rfl
          · exact (List.nodup_cons.mp nd2.2.1).1 q
      | cons a l' =>
        refine iter_next It' hn' S' fun v s₅ rv S₅ It₅ hb₅ => ?_
        obtain ⟨oi, hoi, hci, _⟩ := It₅.obj
        refine letOwned hoi hci ?_
        refine wpAny_mono (turn ic acc cav wI Oi a l' out mem tv htv hI' v s₅ rv S₅) (fun _ s₆ ⟨σ₆, S₆, m₆, h₆⟩ => ?_) fun _ _ x => x
        have h₆' : TTests ic ifs σ₆ _ := h₆
        unfold TTests at h₆'
        refine TT.use h₆' S₆ fun ok b σ₇ s₇ e S₇ m₇ h₇ => ?_
        subst e
        have far₅ : ∀ b o, s₃.heap.get? b = some o → b ∉ Mem.dom ((acc, AO.list []) :: σ₁.mem) → b ≠ it → b ∉ own ic ((acc, AO.list out) :: mem) ∧ s₅.heap.get? b = some o :=
          fun b o e hb hne => ⟨(far b o e hb hne).1, hb₅ b o hne (far b o e hb hne).2⟩
        have len : l'.length < k := by simp at hl; (first | exact om15 hl | omega)
        cases ok with
        | false =>
          simp only [Bool.false_eq_true, if_false] at h₇ ⊢
          obtain ⟨tv', mem', htv', e7, hI7⟩ := h₇
          subst e7
          obtain ⟨hn7, It7⟩ := It₅.mv (m₆.trans m₇) hn'
          exact ⟨l'.length, len, l', out, mem', tv', rfl, htv', hI7, S₇, hn7, It7, fun b o e hb hne => (m₆.trans m₇) b o (far₅ b o e hb hne).1 (far₅ b o e hb hne).2⟩
        | true =>
          simp only [if_true] at h₇ ⊢
          refine h₇.use S₇ fun x e σ₈ s₈ rx S₈ m₈ ⟨tv', mem', htv', e8, hsz, hI8⟩ => ?_
          subst e8
          refine wpAny_mono (bs_append (Q := fun a' σ' => a' = .none ∧ σ' = ⟨cav ++ tv', (acc, .list (out ++ [e])) :: mem'⟩) .head hsz ⟨rfl, rfl⟩ [.ref acc, x] s₈ (RelL.cons rfl (.one rx)) S₈) (fun r s₉ ⟨b', σ₉, _, S₉, m₉, e9, e9'⟩ => ?_) fun _ _ x => x
          subst e9'
          have mAll := ((m₆.trans m₇).trans m₈).trans m₉
          obtain ⟨hn9, It9⟩ := It₅.mv mAll hn'
          exact ⟨l'.length, len, l', out ++ [e], mem', tv', rfl, htv', hI8, S₉, hn9, It9, fun b o e hb hne => mAll b o (far₅ b o e hb hne).1 (far₅ b o e hb hne).2⟩
    · refine ⟨fun q => ?_, keep4 b o e⟩
      rcases List.mem_cons.mp q with q | q
      · rw [fr b (by rw [q, locI]; exact .head _)] at e; cases e
      · rcases List.mem_append.mp q with q | q
        · rw [fr b (.tail _ q)] at e; cases e
        · exact hb q
  exact codeAny_compStart_list loop (iter_self It4 loop)
end
end Mine
end
section
open PySem PySem.W PyProof.Rows PySem.Calls
set_option maxRecDepth 100000
namespace Mine
section
variable {c : Cx} {ks sk gl cs : List Str} {n : Nat} {σ : AS} {Q : AV → AS → Prop} {i j : Int} {x y : Str}
theorem Sat.pushT {s : Shared} (S : Sat c σ s) (o : Obj) (k : Nat) : Sat c σ { s with heap := s.heap.push o, toks := k } := (S.push o).toks k
/-- a part of a slice -/
noncomputable abbrev TPart (c : Cx) (e : Option Expr) (σ : AS) (K : Option Int → AS → Prop) : Prop := TT (fun _ _ (b : Option Int) (a : Value) => IsPart a b) c (evalPart e c.env) σ K
theorem tp_none {K : Option Int → AS → Prop} (k : K none σ) : TPart c none σ K := fun s S => wpAny_pure ⟨none, σ, .none, S, .refl, k⟩
theorem tp_some {e : Expr} {K : Option Int → AS → Prop} (h : TV c (eval e c.env) σ fun a σ' => ∃ i, a = .int i ∧ K (some i) σ') : TPart c (some e) σ K := fun s S =>
  wpAny_evalPart_some (h.use S fun v a σ₁ s₁ ra S₁ m₁ ⟨i, e, k⟩ => by subst e; obtain ⟨t, rfl⟩ := ra; exact ⟨some i, σ₁, .int i t, S₁, m₁, k⟩)
noncomputable def lslice (l : List AV) (lo hi : Option Int) : List AV := (l.take (hi.elim l.length Int.toNat)).drop (lo.elim 0 Int.toNat)
noncomputable def NonNeg (o : Option Int) : Prop := ∀ i, o = some i → 0 ≤ i
theorem nn_none : NonNeg none := nofun
theorem nn_some (h : 0 ≤ i) : NonNeg (some i) := fun _ e => by cases e; exact h
theorem clip_elim {n d : Nat} {o : Option Int} (h : NonNeg o) (hd : d ≤ n) : o.elim d (clipAt n) = min (o.elim d Int.toNat) n := by
  cases o with
  | none => simp only [Option.elim]; (first | exact om16 hd | omega)
  | some i =>
    simp only [Option.elim]
    have : i = (i.toNat : Int) := (Int.toNat_of_nonneg (h i rfl)).symm
    rw [this, clipAt_nat]; rfl
theorem slice_rel {P : List Addr} {h : Heap} {l : List AV} {vs : List Value} {lo hi : Option Int} (r : RelL P h l vs) (h1 : NonNeg lo) (h2 : NonNeg hi) : RelL P h (lslice l lo hi) (slicePick vs.toArray lo hi none).toList := by
  rw [slicePick_plain]
  have hl : vs.toArray.size = vs.length := List.size_toArray
  rw [hl, clip_elim h1 (Nat.zero_le _), clip_elim h2 (Nat.le_refl _)]
  show RelL P h _ (List.take _ (List.drop _ vs))
  have e : lslice l lo hi = ((l.drop (min (lo.elim 0 Int.toNat) l.length)).take (min (hi.elim l.length Int.toNat) l.length - min (lo.elim 0 Int.toNat) l.length)) := by
    unfold lslice
    generalize lo.elim 0 Int.toNat = a
    generalize hi.elim l.length Int.toNat = b
    rw [List.drop_take]
    rcases Nat.le_total a l.length with h | h
    · rw [Nat.min_eq_left h]
      rcases Nat.le_total b l.length with h' | h'
      · rw [Nat.min_eq_left h']
      · rw [Nat.min_eq_right h', List.take_of_length_le (by rw [List.length_drop]; (first | exact om17 h h' | omega)), List.take_of_length_le (by rw [List.length_drop]; (first | exact om18 | omega))]
    · rw [Nat.min_eq_right h, List.drop_of_length_le h, List.drop_of_length_le (Nat.le_refl _)]; simp
  rw [e, ← r.length]
  exact (r.drop _).take _
theorem T_SliceL {value : Expr} {lower upper : Option Expr} {p pos : Pos} (h : TV c (eval value c.env) σ fun a σ₁ => TPart c lower σ₁ fun lo σ₂ => TPart c upper σ₂ fun hi σ₃ =>
    ∃ l, LsV σ₃.mem a l ∧ l.length ≤ sizeLine ∧ NonNeg lo ∧ NonNeg hi ∧ Q (.lst (lslice l lo hi)) σ₃) :
    TV c (eval (.Subscript value (.Slice lower upper none p) pos) c.env) σ Q := by
  intro s S
  refine Subscript_ (h.use S fun va a σ₁ s₁ ra S₁ m₁ h₁ => wpAny_Slice (h₁.use S₁ fun vl lo σ₂ s₂ rl S₂ m₂ h₂ => h₂.use S₂ fun vu hi σ₃ s₃ ru S₃ m₃ ⟨l, L, hsz, n1, n2, q⟩ => wpAny_evalPart_none ?_))
  obtain ⟨ad, vs, rfl, hl, r⟩ := L.at S₃ (Rel.mv (m₂.trans m₃) _ _ ra)
  have S₄ := (S₃.push { cls := .type "slice", data := .fields #[vl, vu, .none] }).push { cls := .type "list", data := .seq (slicePick vs.toArray lo hi none) }
  have m₄ : Mv (own c σ₃.mem) s₃.heap (own c σ₃.mem) ((s₃.heap.push { cls := .type "slice", data := .fields #[vl, vu, .none] }).push { cls := .type "list", data := .seq (slicePick vs.toArray lo hi none) }) := (Mv.push _).trans (.push _)
  have hl' : (s₃.heap.push { cls := .type "slice", data := .fields #[vl, vu, .none] }).IsList ad vs.toArray := hl.isList.push _
  refine tail_any (T := "list") (Heap.IsList.typeIs (s := { s₃ with heap := s₃.heap.push { cls := .type "slice", data := .fields #[vl, vu, .none] } }) hl') slot_list_getitem.lookup
    (wpAny_getItem_list_slice hl' (Heap.IsSliceOf.new ..) rl ru .none (by simp) ?_ (by rw [List.size_toArray, r.length]; exact hsz)) (by with_unfolding_all rfl)
  refine ⟨.lst (lslice l lo hi), σ₃, ?_, S₄, ((m₁.trans m₂).trans m₃).trans m₄, q⟩
  refine ⟨_, (slicePick vs.toArray lo hi none).toList, rfl, ?_, ⟨0, ?_⟩, RelL.mv m₄ _ _ (slice_rel r n1 n2)⟩
  · exact fresh_not (S₃.push { cls := .type "slice", data := .fields #[vl, vu, .none] })
  · exact Heap.get?_push_size (s₃.heap.push { cls := .type "slice", data := .fields #[vl, vu, .none] }) (o := { cls := .type "list", data := .seq (slicePick vs.toArray lo hi none) }) rfl
/-- a slice of a text -/
noncomputable def stake (x : Str) (k : Nat) : Str := ⟨(x.cps.toList.take k).toArray⟩
noncomputable def sdrop (x : Str) (k : Nat) : Str := ⟨(x.cps.toList.drop k).toArray⟩
inductive SlS (x : Str) : Option Int → Option Int → Str → Prop where
  | to {i : Int} : 0 ≤ i → i ≤ x.length → SlS x none (some i) (stake x i.toNat)
  | from {i : Int} : 0 ≤ i → i ≤ x.length → SlS x (some i) none (sdrop x i.toNat)
theorem T_SliceS {value : Expr} {lower upper : Option Expr} {p pos : Pos} (h : TV c (eval value c.env) σ fun a σ₁ => TPart c lower σ₁ fun lo σ₂ => TPart c upper σ₂ fun hi σ₃ =>
    ∃ x y, a = .str x ∧ x.length ≤ sizeLine ∧ SlS x lo hi y ∧ Q (.str y) σ₃) (ht : ∀ o r, letTemporaryGo value o r = pure () := by intro _ _; rfl) :
    TV c (eval (.Subscript value (.Slice lower upper none p) pos) c.env) σ Q := by
  intro s S
  refine wpAny_Subscript_Slice (T := "str") F.slot_str_getitem.lookup (h.use S fun va a σ₁ s₁ ra S₁ m₁ h₁ => wpAny_Slice (h₁.use S₁ fun vl lo σ₂ s₂ rl S₂ m₂ h₂ => h₂.use S₂ fun vu hi σ₃ s₃ ru S₃ m₃ ⟨x, y, e, hsz, hy, q⟩ => ?_)) ht
  subst e
  obtain ⟨t, rfl⟩ := ra
  refine wpAny_evalPart_none ⟨typeIs_str _ _ _, ?_⟩
  have kbp : KeptByPush (fun s' => Sat c σ₃ s' ∧ Mv (own c σ.mem) s.heap (own c σ₃.mem) s'.heap) := fun s' o k ⟨a, b⟩ => ⟨a.pushT o k, b.trans (.push _)⟩
  have fm : Sat c σ₃ s₃ ∧ Mv (own c σ.mem) s.heap (own c σ₃.mem) s₃.heap := ⟨S₃, (m₁.trans m₂).trans m₃⟩
  have conv : ∀ {o i : Value} {R : Value → Shared → Prop} {s : Shared}, ItemOn (model prog c.w) c.A (fun _ _ => False) o i R s → wpAny (model prog c.w) c.A (getItem o i) R (fun _ _ => False) s := fun ⟨_, _, _, _, h⟩ => h
  have done : ∀ (z : Str), z = y → ∀ s' t', (Sat c σ₃ s' ∧ Mv (own c σ.mem) s.heap (own c σ₃.mem) s'.heap) → ∃ b σ', Rel (own c σ'.mem) s'.heap b (.str z t') ∧ Sat c σ' s' ∧ Mv (own c σ.mem) s.heap (own c σ'.mem) s'.heap ∧ Q b σ' :=
    fun z e s' t' ⟨a, b⟩ => ⟨.str y, σ₃, ⟨t', by rw [e]⟩, a, b, q⟩
  cases hy with
  | @to j h0 h1 =>
    cases rl
    cases ru with
    | int _ u =>
      refine conv (SBG.sliceItem_ns kbp fm (fun s' t' f => done _ ?_ s' t' f) hsz)
      have := beq_iff_eq.mp (slice_closes_to (x := x) (j := j) ⟨h0, by simpa [Str.length] using h1⟩)
      rw [this]; simp [stake]
  | @«from» i h0 h1 =>
    cases ru
    cases rl with
    | int _ u =>
      refine conv (SBG.sliceItem_sn kbp fm (fun s' t' f => done _ ?_ s' t' f) hsz)
      have := beq_iff_eq.mp (slice_closes_from (x := x) (i := i) ⟨h0, by simpa [Str.length] using h1⟩)
      rw [this]; simp only [sdrop]; congr 2; rw [List.take_of_length_le]; rw [List.length_drop]; (first | exact om19 h0 ‹_› | omega)
end
end Mine
end
section
open PySem PySem.W PyProof.Rows PySem.Calls PySem.SeqAt
set_option maxRecDepth 100000
namespace Mine
section
variable {c : Cx} {ks sk gl cs : List Str} {n : Nat} {σ : AS} {Q : AV → AS → Prop} {i j : Int} {x y : Str}
/-- truth -/
theorem tru_list {a : AV} {l : List AV} {K : Bool → AS → Prop} (L : LsV σ.mem a l) (hb : l.length ≤ sizeLine) (k : K (decide (l ≠ [])) σ) : Tru c a σ K := fun va s r S => by
  obtain ⟨ad, vs, rfl, hl, rl⟩ := L.at S r
  have e : vs.toArray.size = l.length := by rw [List.size_toArray, rl.length]
  refine wpAny_truthy_list hl.isList (by rw [e]; exact fits63' hb) ⟨_, σ, ?_, S.toks _, .refl, k⟩
  rw [show (!vs.toArray.isEmpty) = !vs.isEmpty by simp]
  cases l with
  | nil => cases rl; rfl
  | cons a l => obtain ⟨v, r, rfl, _⟩ := rl; rfl
theorem tb_plain {e : Expr} {K : Bool → AS → Prop} (h : TV c (eval e c.env) σ fun a σ₁ => Tru c a σ₁ K) (he : ∀ whole, isTrue e c.env whole = (do let v ← whole; standAt e.pos; holding [v] (truthy v)) := by intro _; rfl) : TB c (isTrue e c.env (eval e c.env)) σ K := by
  intro s S
  refine isTrue_plain (h.use S fun v a σ₁ s₁ ra S₁ m₁ h₁ => ?_) (he _)
  exact wpAny_mono (h₁ v s₁ ra S₁) (fun b s' ⟨b', σ', e, S', m', q⟩ => ⟨b', σ', e, S', m₁.trans m', q⟩) fun _ _ x => x
theorem tb_not {e : Expr} {pos : Pos} {wh : Sem Value} {K : Bool → AS → Prop} (h : TB c (isTrue e c.env (eval e c.env)) σ fun b σ₁ => K (!b) σ₁) : TB c (isTrue (.UnaryOp .Not e pos) c.env wh) σ K :=
  fun s S => isTrue_not (h.use S fun a b σ₁ s₁ e S₁ m₁ q => ⟨!b, σ₁, by rw [e], S₁, m₁, q⟩)
theorem tb_and0 {pos : Pos} {wh : Sem Value} {K : Bool → AS → Prop} (k : K true σ) : TB c (isTrue (.BoolOp .And [] pos) c.env wh) σ K := fun s S => isTrue_and_nil ⟨true, σ, rfl, S, .refl, k⟩
theorem tb_or0 {pos : Pos} {wh : Sem Value} {K : Bool → AS → Prop} (k : K false σ) : TB c (isTrue (.BoolOp .Or [] pos) c.env wh) σ K := fun s S => isTrue_or_nil ⟨false, σ, rfl, S, .refl, k⟩
theorem tb_and {e : Expr} {rest : List Expr} {pos : Pos} {wh : Sem Value} {K : Bool → AS → Prop} (h : TB c (isTrue e c.env (eval e c.env)) σ fun b σ₁ => if b then TB c (isTrue (.BoolOp .And rest pos) c.env wh) σ₁ K else K false σ₁) :
    TB c (isTrue (.BoolOp .And (e :: rest) pos) c.env wh) σ K := by
  intro s S
  refine isTrue_and (h.use S fun a b σ₁ s₁ e S₁ m₁ q => ?_)
  subst e
  cases a with
  | true => exact (show TB c _ σ₁ K from q).use S₁ fun a b σ' s' r S' m' q => ⟨b, σ', r, S', m₁.trans m', q⟩
  | false => exact ⟨false, σ₁, rfl, S₁, m₁, q⟩
theorem tb_or {e : Expr} {rest : List Expr} {pos : Pos} {wh : Sem Value} {K : Bool → AS → Prop} (h : TB c (isTrue e c.env (eval e c.env)) σ fun b σ₁ => if b then K true σ₁ else TB c (isTrue (.BoolOp .Or rest pos) c.env wh) σ₁ K) :
    TB c (isTrue (.BoolOp .Or (e :: rest) pos) c.env wh) σ K := by
  intro s S
  refine isTrue_or (h.use S fun a b σ₁ s₁ e S₁ m₁ q => ?_)
  subst e
  cases a with
  | false => exact (show TB c _ σ₁ K from q).use S₁ fun a b σ' s' r S' m' q => ⟨b, σ', r, S', m₁.trans m', q⟩
  | true => exact ⟨true, σ₁, rfl, S₁, m₁, q⟩
/-- e₁ and .. as a value -/
theorem T_And1 {e : Expr} {pos : Pos} (h : TV c (eval e c.env) σ Q) : TV c (eval (.BoolOp .And [e] pos) c.env) σ Q := fun s S => BoolOp_one (h s S)
theorem T_Or1 {e : Expr} {pos : Pos} (h : TV c (eval e c.env) σ Q) : TV c (eval (.BoolOp .Or [e] pos) c.env) σ Q := fun s S => BoolOp_one (h s S)
theorem T_And {e₁ e₂ : Expr} {rest : List Expr} {pos : Pos} (h : TV c (eval e₁ c.env) σ fun a σ₁ => Tru c a σ₁ fun b σ₂ => σ₂ = σ₁ ∧ if b then TV c (eval (.BoolOp .And (e₂ :: rest) pos) c.env) σ₁ Q else Q a σ₁) :
    TV c (eval (.BoolOp .And (e₁ :: e₂ :: rest) pos) c.env) σ Q := by
  intro s S
  refine BoolOp_and (h.use S fun v a σ₁ s₁ ra S₁ m₁ h₁ => ?_)
  refine wpAny_mono (h₁ v s₁ ra S₁) (fun b s' ⟨b', σ', e, S', m', e', q⟩ => ?_) fun _ _ x => x
  subst e e'
  cases b with
  | true => exact (show TV c _ σ' Q from q).use S' fun a b σ'' s'' r S'' m'' q => ⟨b, σ'', r, S'', (m₁.trans m').trans m'', q⟩
  | false => exact ⟨a, σ', Rel.mv m' _ _ ra, S', m₁.trans m', q⟩
theorem T_Or {e₁ e₂ : Expr} {rest : List Expr} {pos : Pos} (h : TV c (eval e₁ c.env) σ fun a σ₁ => Tru c a σ₁ fun b σ₂ => σ₂ = σ₁ ∧ if b then Q a σ₁ else TV c (eval (.BoolOp .Or (e₂ :: rest) pos) c.env) σ₁ Q) :
    TV c (eval (.BoolOp .Or (e₁ :: e₂ :: rest) pos) c.env) σ Q := by
  intro s S
  refine BoolOp_or (h.use S fun v a σ₁ s₁ ra S₁ m₁ h₁ => ?_)
  refine wpAny_mono (h₁ v s₁ ra S₁) (fun b s' ⟨b', σ', e, S', m', e', q⟩ => ?_) fun _ _ x => x
  subst e e'
  cases b with
  | false => exact (show TV c _ σ' Q from q).use S' fun a b σ'' s'' r S'' m'' q => ⟨b, σ'', r, S'', (m₁.trans m').trans m'', q⟩
  | true => exact ⟨a, σ', Rel.mv m' _ _ ra, S', m₁.trans m', q⟩
/-- equality of two values -/
noncomputable def EqV (a b : AV) (k : Bool) : Prop := ∀ P (s : Shared) va vb (A : Around), A.units + 4 < cLine → Rel P s.heap a va → Rel P s.heap b vb → EqAt A s va vb k
theorem eqv_int : EqV (.int i) (.int j) (i == j) := fun P s va vb A _ ⟨t, ea⟩ ⟨u, eb⟩ => by subst ea eb; exact EqAt.int_int _ _ _ _
theorem eqv_str : EqV (.str x) (.str y) (x == y) := fun P s va vb A _ ⟨t, ea⟩ ⟨u, eb⟩ => by subst ea eb; exact EqAt.str_str _ _ _ _
theorem eqv_bool {a b : Bool} : EqV (.bool a) (.bool b) (a == b) := fun P s va vb A _ ea eb => by cases ea; cases eb; exact EqAt.bool_bool _ _
theorem rel_at {P : List Addr} {h : Heap} {l : List AV} {vs : List Value} (r : RelL P h l vs) {j : Nat} (hj : j < vs.toArray.size) (hj' : j < l.length) : Rel P h l[j] vs.toArray[j] := by
  obtain ⟨v, hv, rv⟩ := r.get (List.getElem?_eq_getElem hj')
  have : vs.toArray[j] = v := by
    have hj2 : j < vs.length := by simpa using hj
    rw [List.getElem?_eq_getElem hj2] at hv
    simpa using Option.some.inj hv
  rw [this]; exact rv
/-- pairwise equality of lists of the same length -/
inductive EqVs : List AV → List AV → Bool → Prop where
  | nil : EqVs [] [] true
  | cons {a b : AV} {l m : List AV} {k k' : Bool} : EqV a b k → EqVs l m k' → EqVs (a :: l) (b :: m) (k && k')
theorem EqVs.len {l m : List AV} {k : Bool} (h : EqVs l m k) : l.length = m.length := by induction h <;> simp_all
theorem EqVs.ex {l m : List AV} {k : Bool} (h : EqVs l m k) : ∃ e : Nat → Bool, (∀ j (h1 : j < l.length) (h2 : j < m.length), EqV l[j] m[j] (e j)) ∧ (List.range l.length).all e = k := by
  induction h with
  | nil => exact ⟨fun _ => true, fun j h => by simp at h, rfl⟩
  | @cons a b l m k k' h1 _ ih =>
    obtain ⟨e, he, hk⟩ := ih
    refine ⟨fun j => match j with | 0 => k | j + 1 => e j, fun j hj1 hj2 => ?_, ?_⟩
    · cases j with
      | zero => exact h1
      | succ j => exact he j (by simpa using hj1) (by simpa using hj2)
    · rw [List.length_cons, List.range_succ_eq_map, List.all_cons, List.all_map, ← hk]; rfl
theorem eqvs_map {α : Type} [BEq α] [LawfulBEq α] {f : α → AV} (hf : ∀ a b, EqV (f a) (f b) (a == b)) : ∀ {l m : List α}, l.length = m.length → EqVs (l.map f) (m.map f) (l == m)
  | [], [], _ => .nil
  | a :: l, b :: m, h => by
    have : ((a :: l) == (b :: m)) = ((a == b) && (l == m)) := rfl
    rw [this]
    exact .cons (hf a b) (eqvs_map hf (by simpa using h))
end
/-- a tuple of three ints -/
noncomputable abbrev tr3 (p : Int × Int × Int) : AV := .tup [.int p.1, .int p.2.1, .int p.2.2]
noncomputable def lt3 (p q : Int × Int × Int) : Bool := decide (p.1 < q.1) || (p.1 == q.1 && (decide (p.2.1 < q.2.1) || (p.2.1 == q.2.1 && decide (p.2.2 < q.2.2))))
theorem rel3 {P : List Addr} {h : Heap} {p : Int × Int × Int} {v : Value} (r : Rel P h (tr3 p) v) : ∃ a t u w n, v = .ref a ∧ a ∉ P ∧ h.get? a = some ⟨.type "tuple", none, .seq #[.int p.1 t, .int p.2.1 u, .int p.2.2 w] n, #[]⟩ := by
  obtain ⟨a, vs, rfl, hn, ⟨k, ho⟩, ⟨v1, r1, rfl, ⟨t, rfl⟩, ⟨v2, r2, rfl, ⟨u, rfl⟩, ⟨v3, r3, rfl, ⟨w, rfl⟩, rfl⟩⟩⟩⟩ := r
  exact ⟨a, t, u, w, k, rfl, hn, ho⟩
theorem eqv_tr3 {p q : Int × Int × Int} : EqV (tr3 p) (tr3 q) (p == q) := fun P s va vb A hu ra rb => by
  obtain ⟨a, t, u, w, n, rfl, _, ho⟩ := rel3 ra
  obtain ⟨b, t2, u2, w2, n2, rfl, _, ho2⟩ := rel3 rb
  by_cases hab : a = b
  · subst hab
    rw [ho] at ho2
    have e : p = q := by
      obtain ⟨p1, p2, p3⟩ := p
      obtain ⟨q1, q2, q3⟩ := q
      simp only [Option.some.injEq, Obj.mk.injEq, Data.seq.injEq, Array.mk.injEq, List.cons.injEq, Value.int.injEq] at ho2
      obtain ⟨_, _, ⟨⟨⟨e1, _⟩, ⟨e2, _⟩, ⟨e3, _⟩, _⟩, _⟩, _⟩ := ho2
      rw [e1, e2, e3]
    subst e
    rw [beq_self_eq_true]
    exact EqAt.same _
  · have h := EqAt.of_refs hab (RcAt.tuples (A := A) (s := s) (e := fun j => match j with | 0 => p.1 == q.1 | 1 => p.2.1 == q.2.1 | _ => p.2.2 == q.2.2) ⟨_, ho, rfl, n, rfl⟩ ⟨_, ho2, rfl, n2, rfl⟩ (by (first | exact om20 hu | omega)) fun j h1 h2 => by
      match j, h1, h2 with
      | 0, _, _ => exact EqAt.int_int _ _ _ _
      | 1, _, _ => exact EqAt.int_int _ _ _ _
      | 2, _, _ => exact EqAt.int_int _ _ _ _)
    have e : ((List.range (min 3 3)).all (fun j => match j with | 0 => p.1 == q.1 | 1 => p.2.1 == q.2.1 | _ => p.2.2 == q.2.2) && (3 == 3)) = (p == q) := by
      obtain ⟨p1, p2, p3⟩ := p
      obtain ⟨q1, q2, q3⟩ := q
      show ((p1 == q1) && ((p2 == q2) && ((p3 == q3) && true)) && true) = ((p1 == q1) && ((p2 == q2) && (p3 == q3)))
      simp
    rw [← e]
    exact h
theorem rc_lt_int {prog : Program} {w : World} {A : Around} {E : Value → Shared → Prop} {s : Shared} {a b : Int} {t u : Tok} {Q : Value → Shared → Prop} (h : Q (.bool (decide (a < b))) s) : wpAny (model prog w) A (richCompare .Lt (.int a t) (.int b u)) Q E s := lt_int h
noncomputable def ltz : List ((Int × Tok) × (Int × Tok)) → Bool
  | [] => false
  | p :: r => if p.1.1 == p.2.1 then ltz r else decide (p.1.1 < p.2.1)
noncomputable abbrev zval (p : (Int × Tok) × (Int × Tok)) : Value × Value := (.int p.1.1 p.1.2, .int p.2.1 p.2.2)
set_option maxHeartbeats 1000000 in
theorem tuple_lt3 (l b : Addr) (n n2 : Nat) (p1 p2 p3 q1 q2 q3 : Int) (t u v t2 u2 v2 : Tok) :
    Meets (Builtin.«tuple.__lt__» ⟨[.ref l, .ref b], []⟩)
      (fun A R s => s.heap.get? l = some { cls := .type "tuple", dict := none, data := .seq #[.int p1 t, .int p2 u, .int p3 v] n, slots := #[] } ∧ s.heap.get? b = some { cls := .type "tuple", dict := none, data := .seq #[.int q1 t2, .int q2 u2, .int q3 v2] n2, slots := #[] } ∧
        R (.ok (.ret (.bool (lt3 (p1, p2, p3) (q1, q2, q3))))) s) := by
  intro prog w A R s h
  obtain ⟨hp, g, d, tk, os⟩ := s; obtain ⟨hl, hb, h⟩ := h
  have f2 := AutoSeq1.sub_tuple_tuple
  wp_walk using AutoSeq1.wpAny_loadPart' hl, AutoSeq1.wpAny_loadPart' hb, wpAny_forIn_list _ (fun rest b s' => b.1 = none ∧ s' = ⟨hp, g, d, tk, os⟩ ∧ ∃ L, rest = List.map zval L ∧
      R (.ok (.ret (.bool (ltz L)))) ⟨hp, g, d, tk, os⟩) _
  case turn =>
    rintro ⟨y, x⟩ rest b s' ⟨hb', rfl, L, hz, hR⟩
    cases L with
    | nil => cases hz
    | cons p L =>
      obtain ⟨⟨pa, ta⟩, ⟨qa, ua⟩⟩ := p
      simp only [List.map_cons, List.cons.injEq, Prod.mk.injEq] at hz
      obtain ⟨⟨rfl, rfl⟩, hrest⟩ := hz
      refine wpAny_bind (EqAt.int_int (A := A.in1) (s := ⟨hp, g, d, tk, os⟩) pa ta qa ua prog w _ _ ?_)
      unfold ltz at hR
      by_cases he : (pa == qa) = true
      · simp only [he, if_true] at hR
        rw [he]
        wp_walk
        exact ⟨rfl, rfl, L, hrest, hR⟩
      · have he' : (pa == qa) = false := by simpa using he
        simp only [he', Bool.false_eq_true, if_false] at hR
        rw [he']
        wp_walk using rc_lt_int
        exact hR
  case fin =>
    rintro ⟨b1, b2⟩ s' ⟨hb', rfl, L, hz, hR⟩
    simp only at hb'
    subst hb'
    cases L with
    | cons p L => cases hz
    | nil =>
      wp_walk
      exact hR
  case h =>
    refine ⟨rfl, rfl, [((p1, t), (q1, t2)), ((p2, u), (q2, u2)), ((p3, v), (q3, v2))], rfl, ?_⟩
    have e : ltz [((p1, t), (q1, t2)), ((p2, u), (q2, u2)), ((p3, v), (q3, v2))] = lt3 (p1, p2, p3) (q1, q2, q3) := by
      simp only [ltz, lt3, beq_iff_eq]
      by_cases h1 : p1 = q1
      · by_cases h2 : p2 = q2
        · by_cases h3 : p3 = q3
          · simp [h1, h2, h3]
          · simp [h1, h2, h3]
        · simp [h1, h2]
      · simp [h1]
    rw [e]
    simpa using h
section
variable {c : Cx} {ks sk gl cs : List Str} {n : Nat} {σ : AS} {Q : AV → AS → Prop} {i j : Int} {x y : Str}
theorem op_lt_tr3 (O : Ok c ks sk gl cs n) {p q : Int × Int × Int} (h : Q (.bool (lt3 p q)) σ) : Op2 c (compareOp .Lt) (tr3 p) (tr3 q) σ Q := fun va vb s ra rb S => by
  obtain ⟨a, t, u, w, n, rfl, _, ho⟩ := rel3 ra
  obtain ⟨b, t2, u2, w2, n2, rfl, _, ho2⟩ := rel3 rb
  exact richCompare_meets_room (op := .Lt) ⟨_, ho, rfl⟩ ⟨_, ho2, rfl⟩ F.slot_tuple_lt F.entry_tuple_lt (F.args_tuple_lt_2 _ _) (tuple_lt3 a b n n2 p.1 p.2.1 p.2.2 q.1 q.2.1 q.2.2 t u w t2 u2 w2)
    ⟨ho, ho2, (fun x => nomatch x), .bool _, σ, rfl, S, .refl, h⟩ (by have := O.room.units; (first | exact om21 this | omega))
theorem eqvs_all {l m : List AV} {k : Bool} (E : EqVs l m k) {s : Shared} {vs ws : List Value} {P : List Addr} {A : Around} (hu : A.units + 5 < cLine) (rl : RelL P s.heap l vs) (rm : RelL P s.heap m ws) :
    vs.toArray.size = ws.toArray.size ∧ ∃ e : Nat → Bool, (∀ j (h1 : j < vs.toArray.size) (h2 : j < ws.toArray.size), EqAt A.in1 s vs.toArray[j] ws.toArray[j] (e j)) ∧ (List.range vs.toArray.size).all e = k := by
  have e1 : vs.toArray.size = l.length := by rw [List.size_toArray, rl.length]
  have e2 : ws.toArray.size = m.length := by rw [List.size_toArray, rm.length]
  obtain ⟨e, he, hk⟩ := E.ex
  refine ⟨by rw [e1, e2, E.len], e, fun j h1 h2 => ?_, by rw [e1]; exact hk⟩
  exact he j (e1 ▸ h1) (e2 ▸ h2) P s _ _ A.in1 (by show A.units + 1 + 4 < cLine; (first | exact om22 hu | omega)) (rel_at rl h1 (e1 ▸ h1)) (rel_at rm h2 (e2 ▸ h2))
theorem op_eq_list (O : Ok c ks sk gl cs n) {a b : AV} {l m : List AV} {k : Bool} (L : LsV σ.mem a l) (M : LsV σ.mem b m) (hk : (l.length = m.length ∧ EqVs l m k) ∨ (l.length ≠ m.length ∧ k = false)) (q : Q (.bool k) σ) : Op2 c (compareOp .Eq) a b σ Q := fun va vb s ra rb S => by
  obtain ⟨ad, vs, rfl, hl, rl⟩ := L.at S ra
  obtain ⟨bd, ws, rfl, hm, rm⟩ := M.at S rb
  have hu := O.room.units
  rcases hk with ⟨_, E⟩ | ⟨hne, e⟩
  · obtain ⟨hs, e, he, rfl⟩ := eqvs_all E (A := c.A) (by (first | exact om23 hu | omega)) rl rm
    exact eq_listAt hl.isList hm.isList hs (by (first | exact om21 hu | omega)) he ⟨.bool _, σ, rfl, S, .refl, q⟩
  · subst e
    exact eq_list_lengthsAt hl.isList hm.isList (by simp [rl.length, rm.length, hne]) (by (first | exact om21 hu | omega)) ⟨.bool _, σ, rfl, S, .refl, q⟩
theorem op_ne_list (O : Ok c ks sk gl cs n) {a b : AV} {l m : List AV} {k : Bool} (L : LsV σ.mem a l) (M : LsV σ.mem b m) (hk : (l.length = m.length ∧ EqVs l m k) ∨ (l.length ≠ m.length ∧ k = false)) (q : Q (.bool (!k)) σ) : Op2 c (compareOp .NotEq) a b σ Q := fun va vb s ra rb S => by
  obtain ⟨ad, vs, rfl, hl, rl⟩ := L.at S ra
  obtain ⟨bd, ws, rfl, hm, rm⟩ := M.at S rb
  have hu := O.room.units
  rcases hk with ⟨_, E⟩ | ⟨hne, e⟩
  · obtain ⟨hs, e, he, rfl⟩ := eqvs_all E (A := c.A) (by (first | exact om23 hu | omega)) rl rm
    exact RcNeAt.lists hl.isList hm.isList hs (by (first | exact om21 hu | omega)) he prog c.w _ _ ⟨.bool _, σ, rfl, S, .refl, q⟩
  · subst e
    exact RcNeAt.lists_lengths hl.isList hm.isList (by simp [rl.length, rm.length, hne]) (by (first | exact om21 hu | omega)) prog c.w _ _ ⟨.bool true, σ, rfl, S, .refl, q⟩
/-- list != [] -/
theorem op_ne_nil (O : Ok c ks sk gl cs n) {a : AV} {l : List AV} (L : LsV σ.mem a l) (q : Q (.bool (decide (l ≠ []))) σ) : Op2 c (compareOp .NotEq) a (.lst []) σ Q := by
  refine op_ne_list O (k := decide (l = [])) L .frozen ?_ ?_
  · cases l with
    | nil => exact .inl ⟨rfl, .nil⟩
    | cons a l => exact .inr ⟨by simp, by simp⟩
  · cases l with
    | nil => simpa using q
    | cons a l => simpa using q
theorem T_AugName (O : Ok c ks sk gl cs n) {x : Str} {op : Operator} {value : Expr} {pos' pos : Pos} {R : AF → AS → Prop} {av : AV} (at' : At ks σ.vals x av) (hu : av ≠ .unb)
    (h : TV c (eval value c.env) σ fun b σ₁ => Op2 c (inplaceOp op) av b σ₁ fun r σ₂ => ∃ vals', Put ks σ₂.vals x r vals' ∧ R .next ⟨vals', σ₂.mem⟩) (hx : x ∈ sk) :
    TF c (exec (.AugAssign (.Name x pos') op value pos) c.env) σ R := by
  intro s S
  refine wpAny_AugAssign_Name ((T_load (Q := fun a σ' => a = av ∧ σ' = σ) O at' hu ⟨rfl, rfl⟩).use S fun v a σ' s' ra S' m' ⟨e1, e2⟩ => ?_)
  subst e1 e2
  refine h.use S' fun vb b σ₁ s₁ rb S₁ m₁ h₁ => ?_
  refine wpAny_mono (h₁ v vb s₁ (Rel.mv m₁ _ _ ra) rb S₁) (fun r s₂ ⟨r', σ₂, rr, S₂, m₂, vals', p, q⟩ => ?_) fun _ _ x => x
  exact T_store O p hx rr S₂ fun s' S' m'' => ⟨.next, _, rfl, S', ((m'.trans m₁).trans m₂).trans m'', q⟩
theorem T_AssignT {elts : List Expr} {k : Nat} {tpos pos : Pos} {value : Expr} {R : AF → AS → Prop} (h : TV c (eval value c.env) σ fun a σ₁ => TA c (.Tuple elts k tpos) a σ₁ fun σ₂ => R .next σ₂)
    (hs : swapsWithSole [.Tuple elts k tpos] value pos.line c.env = pure false := by rfl) (hw : swappedStores [.Tuple elts k tpos] value c.env = pure none := by rfl) :
    TF c (exec (.Assign [.Tuple elts k tpos] value pos) c.env) σ R := by
  intro s S
  refine Assign_Tuple (h.use S fun v a σ₁ s₁ ra S₁ m₁ h₁ => ?_) hs hw
  exact wpAny_mono (h₁ v s₁ ra S₁) (fun _ s₂ ⟨σ₂, S₂, m₂, q⟩ => ⟨.next, σ₂, rfl, S₂, m₁.trans m₂, q⟩) fun _ _ x => x
end
end Mine
end
section
open PySem PySem.W PyProof.Rows PySem.Calls PySem.SeqAt
set_option maxRecDepth 100000
namespace Mine
section
variable {c : Cx} {ks sk gl cs : List Str} {n : Nat} {σ : AS} {Q : AV → AS → Prop} {i j : Int} {x y : Str}
/-- range -/
theorem bs_range1 (q : Q (.rng 0 i) σ) : BS c (.type "range") [.int i] σ Q := fun vs s rl S => by
  obtain ⟨v, r, rfl, ⟨t, rfl⟩, rfl⟩ := rl
  exact call_range_1 ⟨.rng 0 i, σ, ⟨_, _, _, _, rfl, fresh_not S, IsRange.new _ _ _ _ _ _ _⟩, S.pushT _ _, .push _, q⟩
theorem bs_range2 (q : Q (.rng i j) σ) : BS c (.type "range") [.int i, .int j] σ Q := fun vs s rl S => by
  obtain ⟨v, r, rfl, ⟨t, rfl⟩, ⟨v2, r2, rfl, ⟨u, rfl⟩, rfl⟩⟩ := rl
  exact call_range_2 ⟨.rng i j, σ, ⟨_, _, _, _, rfl, fresh_not S, IsRange.new _ _ _ _ _ _ _⟩, S.pushT _ _, .push _, q⟩
theorem yields_rng {lo hi : Int} (h0 : -(2 ^ 62) ≤ lo) (h1 : lo < 2 ^ 62) (h2 : -(2 ^ 62) ≤ hi) (h3 : hi < 2 ^ 62) : Yields (.rng lo hi) ((List.range (hi - lo).toNat).map fun j => .int (lo + (j : Nat))) := by
  refine .rng rfl (small_one h0 h1 h2 h3) ?_
  rw [rangeSize_one]
  split <;> (first | exact om24 ‹_› | exact om25 ‹_› | omega)
theorem yields_nat {k : Nat} (h : k ≤ sizeLine) : Yields (.rng 0 k) ((List.range k).map fun j => .int (j : Nat)) := by
  have hs : sizeLine = 16777216 := rfl
  have := yields_rng (lo := 0) (hi := k) (by omega) (by omega) (by omega) (by omega)
  have e : ((k : Int) - 0).toNat = k := by (first | exact om30 h hs | omega)
  rw [e] at this
  simpa using this
/-- 'x in text' for one sign -/
theorem op_in_sign {a : Nat} (q : Q (.bool (decide (a ∈ x.cps.toList))) σ) : Op2 c (compareOp .In) (.str ⟨#[a]⟩) (.str x) σ Q := fun va vb s ⟨t, ea⟩ ⟨u, eb⟩ S => by
  subst ea eb
  refine PyProof.Rows.in_str ⟨.bool _, σ, rfl, S, .refl, ?_⟩
  rw [StrLaws.found_one]; exact q
theorem rel_rep {P : List Addr} {h : Heap} {l : List AV} {vs : List Value} (r : RelL P h l vs) : ∀ {k : Nat}, RelL P h (List.replicate k l).flatten (List.replicate k vs).flatten
  | 0 => rfl
  | k + 1 => by
    rw [List.replicate_succ, List.replicate_succ, List.flatten_cons, List.flatten_cons]
    exact r.append (rel_rep r)
/-- list * int -/
theorem rep_foldl (items : Array Value) (k : Nat) : List.foldl (fun x1 x2 => x1 ++ x2) #[] (List.replicate k items) = ((List.replicate k items.toList).flatten).toArray := by
  have : ∀ (l : List (Array Value)) (a : Array Value), List.foldl (fun x1 x2 => x1 ++ x2) a l = (a.toList ++ (l.map Array.toList).flatten).toArray := by
    intro l
    induction l with
    | nil => intro a; simp
    | cons b l ih => intro a; rw [List.foldl_cons, ih]; simp
  rw [this]; simp
theorem op_mul_list {a : AV} {l : List AV} {k : Nat} (L : LsV σ.mem a l) (hk : l.length * k ≤ 1000) (hk2 : k ≤ 1000) (q : Q (.lst (List.replicate k l).flatten) σ) : Op2 c (binaryOp .Mult) a (.int k) σ Q := fun va vb s ra ⟨u, eb⟩ S => by
  obtain ⟨ad, vs, rfl, ⟨n, hl⟩, rl⟩ := L.at S ra
  subst eb
  have hs : sizeLine = 16777216 := rfl
  have hsz : vs.toArray.size * (k : Int).toNat ≤ 1000 := by rw [List.size_toArray, rl.length]; simpa using hk
  have hlong : ¬ (Builtin.List.listTooLong (vs.toArray.size * (k : Int).toNat)) = true := by
    generalize vs.toArray.size * (k : Int).toNat = z at hsz
    unfold Builtin.List.listTooLong
    simp only [decide_eq_true_eq]
    (first | exact om31 hs hsz | omega)
  generalize hkk : (k : Int) = kk at *
  have h1 : ¬ vs.toArray.size * kk.toNat > (2 ^ 63 - 1) / 8 := Nat.not_lt.mpr (Nat.le_trans hsz (by decide +kernel))
  have h0 : ¬ (!Builtin.List.listFitsIndex kk) = true := by
    have : Builtin.List.listFitsIndex kk = true := by
      unfold Builtin.List.listFitsIndex
      simp only [Bool.and_eq_true, decide_eq_true_eq]
      constructor <;> omega
    rw [this]; exact Bool.false_ne_true
  have M := AutoListH.list___mul___list_int_3 ad vs.toArray n kk u h0 h1 hlong
  refine wpAny_binaryOp_repeat_ref (T := "list") (U := "int") (by decide) ⟨_, hl, rfl⟩ (fun s' => typeIs_int s' kk u) noFill_list_mul F.fills_int_mul F.slot_int_rmul repeat_list F.slot_int_index.lookup
    (call_meets F.slot_int_rmul (typeIs_int s kk u) F.entry_int_rmul (F.args_int_rmul_2 _ _) (int___rmul___int_list kk u ad vs.toArray n)
      ⟨hl, rfl, ⟨_, hl, rfl⟩, call_meets F.slot_list_mul ⟨_, hl, rfl⟩ F.entry_list_mul (F.args_list_mul_2 _ _) M ⟨hl, ?_⟩⟩)
  subst hkk
  have hr := rel_rep (k := k) rl
  have e : (if vs.toArray.isEmpty = true then 0 else (k : Int).toNat) = if vs = [] then 0 else k := by
    cases vs <;> simp
  have e2 : List.foldl (fun x1 x2 => x1 ++ x2) #[] (List.replicate (if vs.toArray.isEmpty = true then 0 else (k : Int).toNat) vs.toArray) = ((List.replicate k vs).flatten).toArray := by
    rw [rep_foldl, e]
    cases vs with
    | nil => simp
    | cons v r => simp
  refine ⟨.lst (List.replicate k l).flatten, σ, ⟨_, (List.replicate k vs).flatten, rfl, fresh_not S, ⟨0, ?_⟩, RelL.mv (.push _) _ _ hr⟩, S.push _, .push _, q⟩
  rw [← e2]
  exact Heap.get?_push_size _ rfl
/-- 'text'.split() -/
theorem T_split {x : Str} {k : Nat} {xpos apos pos : Pos} {ws : List Str} (hw : Txt.words x = ws) (hx : x.length ≤ sizeLine) (hn : (Builtin.Str.spaceWords x (x.length + 1)).length ≤ sizeLine) (q : Q (.lst (ws.map .str)) σ)
    (hline : (apos.endLine == pos.line) = true := by rfl) : TV c (eval (.Call (.Attribute (.Constant (.str x) k xpos) (Str.ofString "split") apos) [] [] pos) c.env) σ Q := by
  intro s S
  refine wpAny_Call_method_lateS rfl rfl hline (wpAny_Constant_str ?_)
  refine ⟨"str", _, F.plainAttrs_str, F.slot_str_split, F.type_str_split, typeIs_str _ _ _, (fun _ e => nomatch e),
    method0_meets F.slot_str_split F.entry_str_split (typeIs_str _ _ _) (F.args_str_split_1 _) (meets_str_split_space x _ hx hn) ?_⟩
  have fin : ∀ (l : List (Str × Tok)) tk, l.map (·.1) = ws → ∃ b σ', Rel (own c σ'.mem) (s.heap.push { cls := .type "list", data := .seq (strValues l).toArray }) b (.ref s.heap.objs.size) ∧ Sat c σ' { s with heap := s.heap.push { cls := .type "list", data := .seq (strValues l).toArray }, toks := tk } ∧ Mv (own c σ.mem) s.heap (own c σ'.mem) (s.heap.push { cls := .type "list", data := .seq (strValues l).toArray }) ∧ Q b σ' := by
    intro l tk hl
    refine ⟨.lst (ws.map .str), σ, ⟨_, strValues l, rfl, fresh_not S, ⟨0, Heap.get?_push_size _ rfl⟩, ?_⟩, S.pushT _ _, .push _, q⟩
    subst hl
    clear q hw
    generalize Heap.push s.heap _ = hh
    induction l with
    | nil => rfl
    | cons p l ih => exact ⟨_, _, rfl, ⟨p.2, rfl⟩, ih⟩
  cases hw' : Builtin.Str.spaceWords x (x.length + 1) == [(0, x.length)]
  · simp only [Bool.false_eq_true, if_false]
    rw [strsFrom_eq]
    exact fin (numbered _ (PySem.wordsOf x)) _ ((numbered_texts _ _).trans (Eq.trans (if_neg (by rw [hw']; exact Bool.false_ne_true)).symm hw))
  · simp only [if_true]
    exact fin [(x, _)] _ ((if_pos hw').symm.trans hw)
/-- list.extend of a frozen or owned list -/
theorem bs_extend {a : Addr} {b : AV} {l m : List AV} {mem' : Mem} (u : MUp σ.mem a (.list l) (.list (l ++ m)) mem') (M : LsV σ.mem b m) (hsz : l.length + m.length ≤ sizeLine) (q : Q .none ⟨σ.vals, mem'⟩) : BS c (.builtin "list.extend") [.ref a, b] σ Q := fun vs s rl S => by
  obtain ⟨va, r, rfl, ra, ⟨vb, r2, rfl, rb, rfl⟩⟩ := rl
  cases ra
  obtain ⟨ws, ⟨k, ho⟩, rw'⟩ := S.listAt u.mem
  obtain ⟨bd, us, rfl, ⟨k2, ho2⟩, ru⟩ := M.at S rb
  have hz : ws.toArray.size = l.length := by rw [List.size_toArray, rw'.length]
  have hz2 : us.toArray.size = m.length := by rw [List.size_toArray, ru.length]
  have hl : ¬(!ws.toArray.isEmpty && Builtin.List.listTooLong (ws.toArray.size + us.toArray.size)) = true := by
    rw [hz, hz2]
    unfold Builtin.List.listTooLong
    simp only [Bool.and_eq_true, decide_eq_true_eq, not_and]
    intro _; (first | exact om34 hsz hz hz2 | omega)
  have M := AutoSeq1.list_extend_list_list_0 a ws.toArray k bd us.toArray k2 hl (by rw [hz]; (first | exact om35 hsz hz hz2 | omega)) (by rw [hz, hz2]; (first | exact om36 hsz hz hz2 | omega))
  refine call_meets F.slot_list_extend ⟨_, ho, rfl⟩ F.entry_list_extend (F.args_list_extend_2 _ _) M ⟨ho, ho2, ?_⟩
  obtain ⟨S', m'⟩ := S.setL (f := fun x => x ++ us.toArray) (vs' := ws ++ us) u ho (by simp) (rw'.append ru) s.toks
  exact ⟨.none, ⟨σ.vals, mem'⟩, rfl, S', m', q⟩
theorem rel_rev {P : List Addr} {h : Heap} : ∀ {l : List AV} {vs : List Value}, RelL P h l vs → RelL P h l.reverse vs.reverse
  | [], _, r => by cases r; rfl
  | a :: l, _, ⟨v, r, e, hx, hl⟩ => by subst e; rw [List.reverse_cons, List.reverse_cons]; exact (rel_rev hl).append (.one hx)
theorem bs_reverse {a : Addr} {l : List AV} {mem' : Mem} (u : MUp σ.mem a (.list l) (.list l.reverse) mem') (hsz : l.length ≤ sizeLine) (q : Q .none ⟨σ.vals, mem'⟩) : BS c (.builtin "list.reverse") [.ref a] σ Q := fun vs s rl S => by
  obtain ⟨va, r, rfl, ra, rfl⟩ := rl
  cases ra
  obtain ⟨ws, ⟨k, ho⟩, rw'⟩ := S.listAt u.mem
  have hz : ws.toArray.size = l.length := by rw [List.size_toArray, rw'.length]
  refine call_meets F.slot_list_reverse ⟨_, ho, rfl⟩ F.entry_list_reverse (F.args_list_reverse_1 _) (AutoSeq1.list_reverse_list_0 a ws.toArray k (by rw [hz]; exact hsz)) ⟨ho, ?_⟩
  obtain ⟨S', m'⟩ := S.setL (f := fun x => x.reverse) (vs' := ws.reverse) u ho (by simp) (rel_rev rw') s.toks
  exact ⟨.none, ⟨σ.vals, mem'⟩, rfl, S', m', q⟩
/-- pop() -/
theorem bs_popLast {a : Addr} {l : List AV} {v : AV} {mem' : Mem} (u : MUp σ.mem a (.list (l ++ [v])) (.list l) mem') (hsz : l.length < sizeLine) (q : Q v ⟨σ.vals, mem'⟩) : BS c (.builtin "list.pop") [.ref a] σ Q := fun vs s rl S => by
  obtain ⟨va, r, rfl, ra, rfl⟩ := rl
  cases ra
  obtain ⟨ws, ⟨k, ho⟩, rw'⟩ := S.listAt u.mem
  have hlen : ws.length = l.length + 1 := by rw [rw'.length]; simp
  have hz : ws.toArray.size = l.length + 1 := by rw [List.size_toArray, hlen]
  obtain ⟨y, hy, ry⟩ := rw'.get (i := l.length) (a := v) (by simp)
  have hy' : ws.toArray[ws.toArray.size - 1]? = some y := by rw [hz]; simpa using hy
  refine call_meets F.slot_list_pop ⟨_, ho, rfl⟩ F.entry_list_pop (F.args_list_pop_1 _) (MeetsSeq.list_pop_last a ws.toArray k y hy' (by rw [hz]; (first | exact om37 hsz hlen hz | omega))) ⟨ho, ?_⟩
  have hr : RelL (own c σ.mem) s.heap l ws.dropLast := by
    have := rw'.take l.length
    rw [List.take_left] at this
    rw [List.dropLast_eq_take, hlen]
    exact this
  obtain ⟨S', m'⟩ := S.setL (f := fun xs => xs.eraseIdxIfInBounds (ws.toArray.size - 1)) (vs' := ws.dropLast) u ho (by
    apply Array.ext'
    simp only [hz, Nat.add_sub_cancel, Array.toList_eraseIdxIfInBounds]
    show ws.eraseIdx l.length = ws.dropLast
    rw [List.eraseIdx_eq_take_drop_succ, List.dropLast_eq_take, hlen, List.drop_of_length_le (by (first | exact om38 hlen | omega))]; simp) hr s.toks
  exact ⟨v, ⟨σ.vals, mem'⟩, Rel.mv m' _ _ ry, S', m', q⟩
/-- pop(0) -/
theorem bs_pop0 {a : Addr} {l : List AV} {v : AV} {mem' : Mem} (u : MUp σ.mem a (.list (v :: l)) (.list l) mem') (hsz : l.length < sizeLine) (q : Q v ⟨σ.vals, mem'⟩) : BS c (.builtin "list.pop") [.ref a, .int 0] σ Q := fun vs s rl S => by
  obtain ⟨va, r, rfl, ra, ⟨v0, r0, rfl, ⟨t, rfl⟩, rfl⟩⟩ := rl
  cases ra
  obtain ⟨ws, ⟨k, ho⟩, ⟨y, ws', rfl, ry, rw'⟩⟩ := S.listAt u.mem
  have hz : (y :: ws').toArray.size = l.length + 1 := by rw [List.size_toArray, List.length_cons, rw'.length]
  have hk : seqIndex? 0 (y :: ws').toArray.size = some 0 := by
    rw [hz]; unfold seqIndex?
    exact if_pos (by simp only [Bool.and_eq_true, decide_eq_true_eq]; omega)
  refine call_meets F.slot_list_pop ⟨_, ho, rfl⟩ F.entry_list_pop (F.args_list_pop_2 _ _) (MeetsSeq.list_pop_at a (y :: ws').toArray k 0 t 0 y (by decide) hk (by simp) (by rw [hz]; (first | exact om40 hsz hz | omega))) ⟨ho, ?_⟩
  obtain ⟨S', m'⟩ := S.setL (f := fun xs => xs.eraseIdxIfInBounds 0) (vs' := ws') u ho (by
    apply Array.ext'
    simp) rw' s.toks
  exact ⟨v, ⟨σ.vals, mem'⟩, Rel.mv m' _ _ ry, S', m', q⟩
/-- list(text), owned -/
theorem bs_listStr (O : Ok c ks sk gl cs n) (hsz : x.length ≤ sizeLine) (q : ∀ a, a ∉ σ.mem.dom → Q (.ref a) ⟨σ.vals, (a, .list (x.cps.toList.map fun k => .str ⟨#[k]⟩)) :: σ.mem⟩) : BS c (.type "list") [.str x] σ Q := fun vs s rl S => by
  obtain ⟨v, r, rfl, ⟨t, rfl⟩, rfl⟩ := rl
  refine call_list_str O.room.handled x t (hn := hsz) fun h' tk acc' c' hk hS' hacc => ?_
  have fr := fresh_not S
  have S₁ := S.kept hk tk
  have hN : s.heap.get? s.heap.objs.size = none := Heap.get?_none_of_le (Nat.le_refl _)
  have hr : RelL (own c σ.mem) h' (x.cps.toList.map fun k => .str ⟨#[k]⟩) acc'.toList := by
    have key : ∀ (l : List Nat) (vs : List Value), vs.length = l.length → (∀ (j : Nat) (v : Value), vs[j]? = some v → ∃ k u, l[j]? = some k ∧ v = .str ⟨#[k]⟩ u) → RelL (own c σ.mem) h' (l.map fun k => .str ⟨#[k]⟩) vs := by
      intro l
      induction l with
      | nil => intro vs hl _; exact List.eq_nil_of_length_eq_zero hl
      | cons k l ih =>
        intro vs hl hv
        cases vs with
        | nil => cases hl
        | cons v vs =>
          obtain ⟨k', u, e1, e2⟩ := hv 0 v rfl
          cases e1
          exact ⟨v, vs, rfl, ⟨u, e2⟩, ih vs (by simpa using hl) fun j w hw => hv (j + 1) w hw⟩
    refine key _ _ (by simp [hacc.1]) fun j v hv => ?_
    obtain ⟨k, u, hc, rfl⟩ := hacc.2 j v (by simpa using hv)
    exact ⟨k, u, by simpa using hc, rfl⟩
  have own' : own c ((s.heap.objs.size, AO.list (x.cps.toList.map fun k => .str ⟨#[k]⟩)) :: σ.mem) = c.env.locals :: (c.oc ++ s.heap.objs.size :: σ.mem.dom) := rfl
  have mem_own : ∀ b, b ∈ own c ((s.heap.objs.size, AO.list (x.cps.toList.map fun k => .str ⟨#[k]⟩)) :: σ.mem) → b = s.heap.objs.size ∨ b ∈ own c σ.mem := by
    intro b q
    rcases List.mem_cons.mp q with q | q
    · exact .inr (q ▸ .head _)
    · rcases List.mem_append.mp q with q | q
      · exact .inr (.tail _ (List.mem_append_left _ q))
      · rcases List.mem_cons.mp q with q | q
        · exact .inl q
        · exact .inr (.tail _ (List.mem_append_right _ q))
  have mv : Mv (own c σ.mem) s.heap (own c ((s.heap.objs.size, AO.list (x.cps.toList.map fun k => .str ⟨#[k]⟩)) :: σ.mem)) h' := by
    intro b o hn e
    refine ⟨fun q => ?_, hk b o e⟩
    rcases mem_own b q with q | q
    · rw [q, hN] at e; cases e
    · exact hn q
  refine ⟨.ref s.heap.objs.size, _, rfl, ⟨S.base.mv mv, ?_, (let ⟨m, hm, sl⟩ := S.slots; ⟨m, hm.keeps hk, sl.mono fun y av sy => sy.mv mv fun a _ v _ q => q.keeps hk⟩), S₁.cells, ?_, S.gens, S.drawn, S.os⟩, mv, q _ fun z => fr (.tail _ (List.mem_append_right _ z))⟩
  · have q := List.nodup_cons.mp S.nd
    have q2 := List.nodup_append.mp q.2
    refine List.nodup_cons.mpr ⟨fun z => ?_, List.nodup_append.mpr ⟨q2.1, List.nodup_cons.mpr ⟨fun z => fr (.tail _ (List.mem_append_right _ z)), q2.2.1⟩, fun a ha b hb e => ?_⟩⟩
    · rcases List.mem_append.mp z with z | z
      · exact q.1 (List.mem_append_left _ z)
      · rcases List.mem_cons.mp z with z | z
        · exact fr (by rw [show s.heap.objs.size = c.env.locals from z.symm]; exact .head _)
        · exact q.1 (List.mem_append_right _ z)
    · subst e
      rcases List.mem_cons.mp hb with z | z
      · exact fr (.tail _ (List.mem_append_left _ ((show a = s.heap.objs.size from z) ▸ ha)))
      · exact q2.2.2 a ha a z rfl
  · intro p hp
    rcases List.mem_cons.mp hp with rfl | hp
    · have hne : ∀ (l : List AV) (ws : List Value), RelL (own c σ.mem) h' l ws → (∀ a ∈ l, ∃ z, a = .str z) → RelL (own c ((s.heap.objs.size, AO.list (x.cps.toList.map fun k => .str ⟨#[k]⟩)) :: σ.mem)) h' l ws := by
        intro l
        induction l with
        | nil => intro ws r _; exact r
        | cons a l ih =>
          rintro ws ⟨v, r, e, ha, hl⟩ hs
          obtain ⟨z, rfl⟩ := hs a (.head _)
          exact ⟨v, r, e, ha, ih r hl fun b hb => hs b (.tail _ hb)⟩
      exact ⟨acc'.toList, ⟨c', by simpa using hS'⟩, hne _ _ hr fun a ha => by obtain ⟨k, _, rfl⟩ := List.mem_map.mp ha; exact ⟨_, rfl⟩⟩
    · exact (S.mem p hp).other mv fun ob e => hk _ _ e
end
end Mine
end
section
open PySem PySem.W PyProof.Rows PySem.Calls PySem.SeqAt
set_option maxRecDepth 100000
namespace Mine
theorem gv_fn {x : Str} {a : Addr} (h : ∀ w, nsIn (KF w) mainGlobals x = some (some (.ref a))) : GV x (.ref a) := .top (fun _ => .ref a) h (fun _ _ _ => rfl)
theorem gv_bisect_right : GV (Str.ofString "bisect_right") (.ref 23) := gv_fn fun w => by kernel_rfl
theorem gv_insort_left : GV (Str.ofString "insort_left") (.ref 32) := gv_fn fun w => by kernel_rfl
theorem gv_netrclex : GV (Str.ofString "_netrclex") (.ref 79) := gv_fn fun w => by kernel_rfl
theorem gv_exact : GV (Str.ofString "EXACT_TOKEN_TYPES") (.ref 84) := gv_fn fun w => by kernel_rfl
theorem gv_isnonterminal : GV (Str.ofString "ISNONTERMINAL") (.ref 93) := gv_fn fun w => by kernel_rfl
theorem gv_iseof : GV (Str.ofString "ISEOF") (.ref 100) := gv_fn fun w => by kernel_rfl
theorem gv_bracketed : GV (Str.ofString "_law_bracketed") (.ref 107) := gv_fn fun w => by kernel_rfl
theorem gv_changed : GV (Str.ofString "_law_changed") (.ref 112) := gv_fn fun w => by kernel_rfl
theorem gv_pattern : GV (Str.ofString "_law_pattern") (.ref 119) := gv_fn fun w => by kernel_rfl
theorem gv_lexer : GV (Str.ofString "_law_lexer") (.ref 126) := gv_fn fun w => by kernel_rfl
theorem gv_number : GV (Str.ofString "_law_number") (.ref 133) := gv_fn fun w => by kernel_rfl
theorem gv_meets : GV (Str.ofString "_law_meets") (.ref 140) := gv_fn fun w => by kernel_rfl
theorem gv_linked : GV (Str.ofString "_law_linked") (.ref 147) := gv_fn fun w => by kernel_rfl
theorem gv_starred : GV (Str.ofString "_law_starred") (.ref 154) := gv_fn fun w => by kernel_rfl
theorem gv_chain : GV (Str.ofString "_law_chain") (.ref 161) := gv_fn fun w => by kernel_rfl
theorem gv_either : GV (Str.ofString "_law_either") (.ref 168) := gv_fn fun w => by kernel_rfl
theorem gv_led : GV (Str.ofString "_law_led") (.ref 173) := gv_fn fun w => by kernel_rfl
theorem gv_taken : GV (Str.ofString "_law_taken") (.ref 178) := gv_fn fun w => by kernel_rfl
theorem gv_int {x : Str} {i : Int} (t : Tok) (h : ∀ w, nsIn (KF w) mainGlobals x = some (some (.int i t))) : GV x (.int i) := .top (fun _ => .int i t) h (fun _ _ _ => ⟨t, rfl⟩)
theorem gv_endmarker : GV (Str.ofString "ENDMARKER") (.int 0) := gv_int 292 fun w => by kernel_rfl
theorem gv_nt : GV (Str.ofString "NT_OFFSET") (.int 256) := gv_int 390 fun w => by kernel_rfl
theorem gv_min : GV (Str.ofString "min") (.bi "min") := .blt (.builtin "min") (fun w => by kernel_rfl) (by kernel_rfl) (by decide) (fun _ _ => rfl)
theorem gv_max : GV (Str.ofString "max") (.bi "max") := .blt (.builtin "max") (fun w => by kernel_rfl) (by kernel_rfl) (by decide) (fun _ _ => rfl)
theorem gv_sum : GV (Str.ofString "sum") (.bi "sum") := .blt (.builtin "sum") (fun w => by kernel_rfl) (by kernel_rfl) (by decide) (fun _ _ => rfl)
theorem gv_iter : GV (Str.ofString "iter") (.bi "iter") := .blt (.builtin "iter") (fun w => by kernel_rfl) (by kernel_rfl) (by decide) (fun _ _ => rfl)
theorem gv_range : GV (Str.ofString "range") (.ty "range") := .blt (.type "range") (fun w => by kernel_rfl) (by kernel_rfl) (by decide) (fun _ _ => rfl)
theorem gv_list : GV (Str.ofString "list") (.ty "list") := .blt (.type "list") (fun w => by kernel_rfl) (by kernel_rfl) (by decide) (fun _ _ => rfl)
theorem fn23 : IsFn 23 := fun w => ⟨_, _, rfl, rfl⟩
theorem fn32 : IsFn 32 := fun w => ⟨_, _, rfl, rfl⟩
theorem fn41 : IsFn 41 := fun w => ⟨_, _, rfl, rfl⟩
theorem fn93 : IsFn 93 := fun w => ⟨_, _, rfl, rfl⟩
theorem fn100 : IsFn 100 := fun w => ⟨_, _, rfl, rfl⟩
theorem fn107 : IsFn 107 := fun w => ⟨_, _, rfl, rfl⟩
theorem fn112 : IsFn 112 := fun w => ⟨_, _, rfl, rfl⟩
theorem fn119 : IsFn 119 := fun w => ⟨_, _, rfl, rfl⟩
theorem fn126 : IsFn 126 := fun w => ⟨_, _, rfl, rfl⟩
theorem fn133 : IsFn 133 := fun w => ⟨_, _, rfl, rfl⟩
theorem fn140 : IsFn 140 := fun w => ⟨_, _, rfl, rfl⟩
theorem fn147 : IsFn 147 := fun w => ⟨_, _, rfl, rfl⟩
theorem fn154 : IsFn 154 := fun w => ⟨_, _, rfl, rfl⟩
theorem fn161 : IsFn 161 := fun w => ⟨_, _, rfl, rfl⟩
theorem fn168 : IsFn 168 := fun w => ⟨_, _, rfl, rfl⟩
theorem fn173 : IsFn 173 := fun w => ⟨_, _, rfl, rfl⟩
theorem fn178 : IsFn 178 := fun w => ⟨_, _, rfl, rfl⟩
/-- EXACT_TOKEN_TYPES at a text -/
noncomputable def TokAt (x : Str) (r : Option Int) : Prop := ∃ v : Option Value, (∀ w, nsIn (KF w) 84 x = some v) ∧ ((r = none ∧ v = none) ∨ ∃ i t, r = some i ∧ v = some (.int i t))
theorem tok84 (w : World) : ∃ es n, (KF w).lookup 84 = some ⟨.type "dict", none, .dict es n, #[]⟩ ∧ KeysLit w.params es.toList :=
  ⟨_, _, rfl, by repeat (first | exact True.intro | refine And.intro ⟨_, _, rfl, rfl⟩ ?_)⟩
theorem tok_none {x : Str} (h : ∀ w, nsIn (KF w) 84 x = some none) : TokAt x none := ⟨none, h, .inl ⟨rfl, rfl⟩⟩
theorem tok_some {x : Str} {i : Int} (t : Tok) (h : ∀ w, nsIn (KF w) 84 x = some (some (.int i t))) : TokAt x (some i) := ⟨_, h, .inr ⟨i, t, rfl, rfl⟩⟩
theorem tok_quote : TokAt (Str.ofString "\"") none := tok_none fun w => by kernel_rfl
theorem tok_hash : TokAt (Str.ofString "#") none := tok_none fun w => by kernel_rfl
theorem tok_back : TokAt (Str.ofString "\\") none := tok_none fun w => by kernel_rfl
theorem tok_ab : TokAt (Str.ofString "a b") none := tok_none fun w => by kernel_rfl
theorem tok_nil : TokAt (Str.ofString "") none := tok_none fun w => by kernel_rfl
theorem tok_star : TokAt (Str.ofString "*") (some 16) := tok_some 312 fun w => by kernel_rfl
theorem tok_arrow : TokAt (Str.ofString "->") (some 51) := tok_some 382 fun w => by kernel_rfl
theorem tok_bar : TokAt (Str.ofString "|") (some 18) := tok_some 316 fun w => by kernel_rfl
theorem tok_open : TokAt (Str.ofString "(") (some 7) := tok_some 294 fun w => by kernel_rfl
theorem tok_close : TokAt (Str.ofString ")") (some 8) := tok_some 296 fun w => by kernel_rfl
section
variable {c : Cx} {ks sk gl cs : List Str} {n : Nat} {σ : AS} {Q : AV → AS → Prop} {i j : Int} {x y : Str}
theorem tokMap {s : Shared} (S : Sat c σ s) {r : Option Int} (T : TokAt x r) : ∃ f, s.heap.MapOf (strKind prog c.w) 84 f ∧ ((r = none ∧ f x = none) ∨ ∃ i t, r = some i ∧ f x = some (.int i t)) := by
  obtain ⟨es, n, hl, hk⟩ := tok84 c.w
  obtain ⟨v, hv, h⟩ := T
  refine ⟨_, mapOf_K (prog := prog) S.base.kin hl hk, ?_⟩
  have e := find_K hl (hv c.w)
  rcases h with ⟨e1, e2⟩ | ⟨i, t, e1, e2⟩
  · exact .inl ⟨e1, by rw [e, e2]⟩
  · exact .inr ⟨i, t, e1, by rw [e, e2]⟩
theorem op_in_tok {r : Option Int} (T : TokAt x r) (q : Q (.bool r.isSome) σ) : Op2 c (compareOp .In) (.str x) (.ref 84) σ Q := fun va vb s ⟨t, ea⟩ eb S => by
  subst ea; cases eb
  obtain ⟨f, hm, h⟩ := tokMap S T
  refine wpAny_in_of (strKind_is prog c.w x t) (by decide) hm ⟨.bool r.isSome, σ, ?_, S.toks _, .refl, q⟩
  rcases h with ⟨rfl, e⟩ | ⟨i, t, rfl, e⟩ <;> rw [e] <;> rfl
theorem op_item_tok {value slice : Expr} (T : TokAt x (some i)) (q : Q (.int i) σ) (hs : PlainIdx slice) : Op2 c (subscriptTail value slice) (.ref 84) (.str x) σ Q := fun va vb s ea ⟨t, eb⟩ S => by
  cases ea; subst eb
  obtain ⟨f, hm, h⟩ := tokMap S T
  rcases h with ⟨e1, e⟩ | ⟨i', t', e1, e⟩
  · cases e1
  · cases e1
    exact tail_any hm.typeIs slot_dict_getitem.lookup (wpAny_getItem_of (strKind_is prog c.w x t) hm e ⟨.int i, σ, ⟨t', rfl⟩, S.toks _, .refl, q⟩) (hs _ _)
theorem bs_tokget {r : Option Int} (T : TokAt x r) (q : Q (.int (r.getD i)) σ) : BS c (.builtin "dict.get") [.ref 84, .str x, .int i] σ Q := fun vs s rl S => by
  obtain ⟨v, r0, rfl, ev, ⟨v2, r2, rfl, ⟨t, rfl⟩, ⟨v3, r3, rfl, ⟨u, rfl⟩, rfl⟩⟩⟩ := rl
  cases ev
  obtain ⟨f, hm, h⟩ := tokMap S T
  refine call_meetsIn PySem.F.slot_dict_get hm.typeIs PySem.F.entry_dict_get (PySem.F.args_dict_get_3 _ _ _) (meets_dict_get_default (strKind prog c.w) 84 (strKind_is prog c.w x t) (by decide) (.int i u)) ⟨f, hm, .int (r.getD i), σ, ?_, S.toks _, .refl, q⟩
  rcases h with ⟨rfl, e⟩ | ⟨i, t, rfl, e⟩
  · rw [e]; exact ⟨u, rfl⟩
  · rw [e]; exact ⟨t, rfl⟩
theorem T_tokGet (O : Ok c ks sk gl cs n) {np apos pos : Pos} {args : List Expr} (hx : Str.ofString "EXACT_TOKEN_TYPES" ∈ gl)
    (h : TL c (spliced (backTo pos (starEach args c.env))) σ fun vs σ₂ => BS c (.builtin "dict.get") (.ref 84 :: vs) σ₂ Q)
    (hbase : attributeBase (.Name (Str.ofString "EXACT_TOKEN_TYPES") np) (Str.ofString "get") c.env (eval (.Name (Str.ofString "EXACT_TOKEN_TYPES") np) c.env) = eval (.Name (Str.ofString "EXACT_TOKEN_TYPES") np) c.env := by rfl)
    (hs : (starEach args c.env).all (fun x => !x.1) = true := by rfl) (hlen : args.length < 29 := by decide) (hline : (apos.endLine == pos.line) = true := by rfl) :
    TV c (eval (.Call (.Attribute (.Name (Str.ofString "EXACT_TOKEN_TYPES") np) (Str.ofString "get") apos) args [] pos) c.env) σ Q := by
  intro s S
  refine wpAny_Call_method hbase ?_ hline PySem.F.plainAttrs_dict PySem.F.slot_dict_get PySem.F.type_dict_get ((T_glob (Q := fun a σ' => a = .ref 84 ∧ σ' = σ) O hx gv_exact ⟨rfl, rfl⟩).use S fun va a σ₁ s₁ ra S₁ m₁ ⟨e1, e2⟩ => ?_)
  · rw [backTo_all hs]
    simp only [Bool.true_and, Bool.and_eq_true, decide_eq_true_eq]
    refine ⟨rfl, ?_⟩
    simp; (first | exact om7 hlen | omega)
  · subst e1 e2
    cases ra
    obtain ⟨es, n, hl, _⟩ := tok84 c.w
    have ho := S₁.base.kin _ _ hl
    refine ⟨⟨_, ho, rfl⟩, fun a' e => by cases e; exact ⟨_, ho, rfl⟩, ?_⟩
    refine callWith_builtin (all_any (backTo_all hs)) (evalArgs_sp (backTo_all hs) (h.use S₁ fun vs l σ₂ s₂ rl S₂ m₂ hc => ?_))
    exact wpAny_mono (hc (.ref 84 :: vs) s₂ (RelL.cons rfl rl) S₂) (fun v s' ⟨b, σ', r', S', mv, q⟩ => ⟨b, σ', r', S', (m₁.trans m₂).trans mv, q⟩) fun _ _ x => x
/-- an owned list is frozen -/
inductive Frz (a : Addr) (l : List AV) : List AV → List AV → Prop where
  | nil : Frz a l [] []
  | hit {r r' : List AV} : Frz a l r r' → Frz a l (.ref a :: r) (.lst l :: r')
  | skip {v : AV} {r r' : List AV} : Frz a l r r' → Frz a l (v :: r) (v :: r')
inductive MDel (a : Addr) (o : AO) : Mem → Mem → Prop where
  | head {m : Mem} : MDel a o ((a, o) :: m) m
  | tail {p : Addr × AO} {m m' : Mem} : MDel a o m m' → MDel a o (p :: m) (p :: m')
theorem MDel.sub {a : Addr} {o : AO} {m m' : Mem} (d : MDel a o m m') : m'.Sublist m := by
  induction d with
  | head => exact List.sublist_cons_self _ _
  | tail _ ih => exact ih.cons_cons _
theorem MDel.mem {a : Addr} {o : AO} {m m' : Mem} (d : MDel a o m m') : (a, o) ∈ m := by
  induction d with
  | head => exact .head _
  | tail _ ih => exact .tail _ ih
theorem MDel.not {a : Addr} {o : AO} {m m' : Mem} (d : MDel a o m m') (nd : m.dom.Nodup) : a ∉ m'.dom := by
  induction d with
  | head => exact (List.nodup_cons.mp nd).1
  | @tail p m m' d ih =>
    intro q
    have nd' := List.nodup_cons.mp nd
    rcases List.mem_cons.mp q with q | q
    · exact nd'.1 (q ▸ List.mem_map_of_mem (f := fun x : Addr × AO => x.1) d.mem)
    · exact ih nd'.2 q
theorem Sat.freeze {s : Shared} {a : Addr} {l : List AV} {vals' : List AV} {mem' : Mem} (S : Sat c σ s) (d : MDel a (.list l) σ.mem mem') (f : Frz a l σ.vals vals') :
    Sat c ⟨vals', mem'⟩ s ∧ Mv (own c σ.mem) s.heap (own c mem') s.heap := by
  obtain ⟨S', mv⟩ := S.drop d.sub
  refine ⟨⟨S'.base, S'.nd, ?_, S'.cells, S'.mem, S'.gens, S'.drawn, S'.os⟩, mv⟩
  obtain ⟨m, hm, sl⟩ := S'.slots
  refine ⟨m, hm, ?_⟩
  obtain ⟨ws, hl, rl⟩ := S.mem _ d.mem
  have np := nd_parts S.nd
  have hna : a ∉ own c mem' := by
    intro q
    have ad : a ∈ σ.mem.dom := List.mem_map_of_mem d.mem
    rcases List.mem_cons.mp q with q | q
    · exact np.2.1 (q ▸ ad)
    · rcases List.mem_append.mp q with q | q
      · exact np.2.2 a q ad
      · exact d.not (List.nodup_append.mp (List.nodup_cons.mp S.nd).2).2.1 q
  have hr : Rel (own c mem') s.heap (.lst l) (.ref a) := ⟨a, ws, rfl, hna, hl, RelL.mv mv _ _ rl⟩
  have key : ∀ {ks : List Str} {r r' : List AV}, Frz a l r r' → Slots c (own c mem') s.heap m ks r → Slots c (own c mem') s.heap m ks r' := by
    intro ks
    induction ks with
    | nil => intro r r' f h; cases h; cases f; rfl
    | cons x ks ih =>
      rintro r r' f ⟨v, r0, e, hs, hr0⟩
      subst e
      cases f with
      | hit f =>
        refine ⟨_, _, rfl, ?_, ih f hr0⟩
        rcases hs with e | ⟨v, hk, hv, r⟩ | ⟨d, v, hk, hc, h1, hv, r⟩ | ⟨d, v, hk, hc, h1, hv, r, hn⟩
        · cases e
        · cases r; exact .loc _ hk hv hr
        · cases r; exact .cell d _ hk hc h1 hv hr
        · cases r; exact .free d _ hk hc h1 hv hr hn
      | skip f => exact ⟨_, _, rfl, hs, ih f hr0⟩
  exact key f sl
theorem TT.freeze {α β : Type} {RR : List Addr → Heap → β → α → Prop} {t : Sem α} {P : β → AS → Prop} {a : Addr} {l : List AV} {vals' : List AV} {mem' : Mem} (d : MDel a (.list l) σ.mem mem') (f : Frz a l σ.vals vals') (h : TT RR c t ⟨vals', mem'⟩ P) : TT RR c t σ P :=
  fun s S => (h.use (S.freeze d f).1 fun a b σ' s' r S' m q => ⟨b, σ', r, S', (S.freeze d f).2.trans m, q⟩)
end
end Mine
end
section
open PySem PySem.W PyProof.Rows PySem.Calls PySem.SeqAt
set_option maxRecDepth 100000
namespace Mine
section
variable {c : Cx} {ks sk gl cs : List Str} {n : Nat} {σ : AS} {Q : AV → AS → Prop} {i j : Int} {x y : Str}
/-- a comprehension of one clause that leaves the owned memory alone -/
theorem T_compP (O : Ok c ks sk gl cs n) {elt target iter : Expr} {ifs : List Expr} {scope : Scope} {pos : Pos} {caps ts igl ics : List Str} (p : AV → Bool) (f : AV → AV)
    (hst : compSt scope caps ts igl ics = true) (hcs : ∀ x ∈ caps, x ∈ cs)
    (start : TV c (eval iter c.env) σ fun a σ₁ => ∃ l cav, Yields a l ∧ CapAt ks σ₁.vals caps cav ∧ l.length ≤ sizeLine ∧
      (∀ (ic : Cx) (acc : Addr), ic.w = c.w → Ok ic (caps ++ ts) ts igl ics n → ∀ a ∈ l, ∀ out tv, tv.length = ts.length → TA ic target a ⟨cav ++ tv, (acc, .list out) :: σ₁.mem⟩ fun σ₂ => TTests ic ifs σ₂ fun b σ₃ => b = p a ∧
        if p a then TV ic (eval elt ic.env) σ₃ fun e σ₄ => e = f a ∧ ∃ tv', tv'.length = ts.length ∧ σ₄ = ⟨cav ++ tv', (acc, .list out) :: σ₁.mem⟩ else ∃ tv', tv'.length = ts.length ∧ σ₃ = ⟨cav ++ tv', (acc, .list out) :: σ₁.mem⟩) ∧
      Q (.lst ((l.filter p).map f)) σ₁)
    (hs : ∀ x, foldedSetIterable iter c.env x = pure x) : TV c (eval (.ListComp elt [⟨target, iter, ifs, 0⟩] scope pos) c.env) σ Q := by
  refine T_comp O hst hcs (start.mono fun a σ₁ ⟨l, cav, Y, cap, hsz, turns, q⟩ => ⟨fun cav' rest out mem => ∃ done, cav' = cav ∧ l = done ++ rest ∧ out = (done.filter p).map f ∧ mem = σ₁.mem, l, cav, Y, cap, ⟨[], rfl, rfl, rfl, rfl⟩, ?_, ?_⟩) hs
  · rintro ic acc cav' hw Oi a rest out mem tv htv ⟨done, e1, e2, e3, e4⟩
    subst e1 e4
    have hm : a ∈ l := by rw [e2]; exact List.mem_append_right _ (.head _)
    have hlen : out.length ≤ sizeLine := by
      rw [e3, List.length_map]
      refine Nat.le_trans (List.length_filter_le _ _) (Nat.le_trans ?_ hsz)
      rw [e2, List.length_append]; (first | exact om41 ‹_› | omega)
    have T := turns ic acc hw Oi a hm out tv htv
    intro v s r S
    refine wpAny_mono (T v s r S) (fun _ s' ⟨σ', S', m', h⟩ => ⟨σ', S', m', ?_⟩) fun _ _ x => x
    refine TT.mono (show TB ic _ σ' _ from h) fun b σ₃ ⟨hb, h⟩ => ?_
    subst hb
    cases hp : p a with
    | true =>
      rw [hp] at h
      simp only [if_true] at h ⊢
      refine h.mono fun e σ₄ ⟨he, tv', h1, h2⟩ => ⟨tv', _, h1, h2, hlen, done ++ [a], trivial, by rw [e2]; simp, ?_, rfl⟩
      rw [e3, he]; simp [hp]
    | false =>
      rw [hp] at h
      simp only [Bool.false_eq_true, if_false] at h ⊢
      obtain ⟨tv', h1, h2⟩ := h
      exact ⟨tv', _, h1, h2, done ++ [a], trivial, by rw [e2]; simp, by rw [e3]; simp [hp], rfl⟩
  · rintro out mem' ⟨done, _, e2, e3, e4⟩
    rw [List.append_nil] at e2
    subst e2 e3 e4
    exact q
end
theorem T_ExprSO {c : Cx} {ks sk gl cs : List Str} {n : Nat} {σ : AS} (O : Ok c ks sk gl cs n) {e : Expr} {pos : Pos} {R : AF → AS → Prop} (h : TV c (eval e c.env) σ fun a σ₁ => a = .none ∧ R .next σ₁) (hsw : swapsWith e none pos.line c.env = pure false) : TF c (exec (.Expr e pos) c.env) σ R :=
  T_ExprS h (by unfold interactive; rw [O.kind]; rfl) hsw
theorem ite_t {p : Prop} [Decidable p] {A B : Prop} (h : p) (a : A) : if p then A else B := by rw [if_pos h]; exact a
theorem ite_f {p : Prop} [Decidable p] {A B : Prop} (h : ¬ p) (b : B) : if p then A else B := by rw [if_neg h]; exact b
theorem ite_by {p : Bool} {A B : Prop} (a : p = true → A) (b : p = false → B) : if p = true then A else B := by
  cases p with
  | true => exact a rfl
  | false => exact b rfl
theorem dec_by {p : Prop} [Decidable p] {A B : Prop} (a : p → A) (b : ¬ p → B) : if decide p = true then A else B := by
  by_cases h : p
  · rw [decide_eq_true h]; exact a h
  · rw [decide_eq_false h]; exact b h
theorem FS_in {w : World} {n : Nat} {fa : Addr} {args : List AV} {mem : Mem} {Q : AV → Mem → Prop} {oc : Value} {od : Option Addr} {osl : Array (Option Value)} {fd : FuncData} {body : List Stmt} (pn ks gl cs : List Str) (vals0 : List AV) {rest : List Str} {dav : List AV} {dv : List Value}
    (ho : (KF w).lookup fa = some ⟨oc, od, .func fd, osl⟩) (hb : fd.body = .stmts body) (hst : fnSt fd ks gl cs = true) (hcd : codeIn (KF w) fd.code fd.qualname = true) (hks : ks = pn ++ rest)
    (hl : args.length + dav.length = pn.length) (hdv : ∀ P h, RelL P h dav dv) (hv : (args ++ dav) ++ rest.map (fun _ => .unb) = vals0) (hbind : ∀ vals : List Value, vals.length = args.length → ∀ S, peek (KF w) S (bindArgs fd ⟨vals, []⟩) = some (pn.zip (vals ++ dv)))
    (h : ∀ c : Cx, c.w = w → Ok c ks ks gl cs n → TF c (execs body c.env) ⟨vals0, mem⟩ (fun f σ => match f with | .ret a => Q a σ.mem | _ => Q .none σ.mem)) :
    FS w (n + 1) (.ref fa) args mem Q := FS_enter ho hb hst hcd hks hl hdv hbind (hv ▸ h)
theorem FS_ink {w : World} {n : Nat} {fa : Addr} {args : List AV} {mem : Mem} {Q : AV → Mem → Prop} {oc : Value} {od : Option Addr} {osl : Array (Option Value)} {fd : FuncData} {body : List Stmt} (pn ks gl cs lk : List Str) (vals0 : List AV) {rest : List Str} {dav : List AV} {dv : List Value}
    (ho : (KF w).lookup fa = some ⟨oc, od, .func fd, osl⟩) (hb : fd.body = .stmts body) (hst : fnSt fd ks gl cs = true) (hcd : codeIn (KF w) fd.code fd.qualname = true) (hks : ks = pn ++ rest)
    (hl : args.length + dav.length = pn.length) (hdv : ∀ P h, RelL P h dav dv) (hv : (args ++ dav) ++ rest.map (fun _ => .unb) = vals0) (hbind : ∀ vals : List Value, vals.length = args.length → ∀ S, peek (KF w) S (bindArgs fd ⟨vals, []⟩) = some (pn.zip (vals ++ dv)))
    (hlk : lk.all (fun x => fd.scope.names.lookup x == some .local) = true)
    (h : ∀ c : Cx, c.w = w → Ok c ks ks gl cs n → (∀ x ∈ lk, c.env.kindOf x = some .local) → TF c (execs body c.env) ⟨vals0, mem⟩ (fun f σ => match f with | .ret a => Q a σ.mem | _ => Q .none σ.mem)) :
    FS w (n + 1) (.ref fa) args mem Q := FS_enterK ho hb hst hcd hks hl hdv hbind fun c hw O hk => hv ▸ h c hw O fun x hx => (hk x).trans (by simpa using List.all_eq_true.mp hlk x hx)
end Mine
end
section
open PySem PySem.W PyProof.Rows PySem.Calls PySem.SeqAt
set_option maxRecDepth 100000
namespace Mine
theorem turn_emit {elt target iter : Expr} {ifs : List Expr} {gens : List Comprehension} {d : Nat} {scope : Scope} {pos : Pos} {it acc : Value} {env : Env} (hg : gens[d]? = some ⟨target, iter, ifs, 0⟩) (hn : gens[d + 1]? = none) :
    compTurn (.ListComp elt gens scope pos) d it acc env = (do
      standAt iter.pos
      match ← pyNext it with
      | none => pure (.done .next)
      | some v =>
        letOwnedTupleGo target it v
        assign target env v
        let ok ← forIn ifs true fun c r => if r = true then do let ok ← isTrue c env (eval c env); pure (ForInStep.yield ok) else pure (ForInStep.yield r)
        if ok then
          (do let _ ← call (.builtin "list.append") [acc, ← eval elt env])
        again (.compLoop (.ListComp elt gens scope pos) d it acc env)) := by
  unfold compTurn
  simp only [hg, hn]
  rfl
theorem turn_more {elt target iter target' iter' : Expr} {ifs ifs' : List Expr} {gens : List Comprehension} {d : Nat} {scope : Scope} {pos : Pos} {it acc : Value} {env : Env} (hg : gens[d]? = some ⟨target, iter, ifs, 0⟩) (hn : gens[d + 1]? = some ⟨target', iter', ifs', 0⟩) :
    compTurn (.ListComp elt gens scope pos) d it acc env = (do
      standAt iter.pos
      match ← pyNext it with
      | none => pure (.done .next)
      | some v =>
        letOwnedTupleGo target it v
        assign target env v
        let ok ← forIn ifs true fun c r => if r = true then do let ok ← isTrue c env (eval c env); pure (ForInStep.yield ok) else pure (ForInStep.yield r)
        if ok then do
              let x ← eval iter' env
              standAt iter'.pos
              let x ← foldedSetIterable iter' env x
              let y ← holding [x] (pyIter x)
              let _ ← runOwn (.compStart (.ListComp elt gens scope pos) (d + 1) y acc env) env
              again (.compLoop (.ListComp elt gens scope pos) d it acc env)
        else again (.compLoop (.ListComp elt gens scope pos) d it acc env)) := by
  unfold compTurn
  simp only [hg, hn]
  rfl
theorem compStart_at {w : World} {A : Around} {R : Result → Shared → Prop} {s : Shared} {elt target iter : Expr} {ifs : List Expr} {gens : List Comprehension} {d : Nat} {scope : Scope} {pos : Pos} {it acc : Value} {env : Env} (hg : gens[d]? = some ⟨target, iter, ifs, 0⟩)
    (h0 : codeAny (model prog w) A (.compLoop (.ListComp elt gens scope pos) d it acc env) R s)
    (h : wpAny (model prog w) A (pyIter it) (fun it' s' => codeAny (model prog w) A (.compLoop (.ListComp elt gens scope pos) d it' acc env) R s') (notedBy (model prog w) A env fun x s' => R (.error x) s') s) :
    codeAny (model prog w) A (.compStart (.ListComp elt gens scope pos) d it acc env) R s := by
  refine codeAny_of_tree ?_
  show wpAny _ _ ((compStart (.ListComp elt gens scope pos) d it acc env).onRaise (fun x => do noteFrame x env; standAt theWindowsPlace)) _ _ s
  refine wpAny_notedAt ?_
  have e : (clausesOf (.ListComp elt gens scope pos))[d]? = some ⟨target, iter, ifs, 0⟩ := hg
  unfold compStart
  rw [e]
  show wpAny _ _ (ask >>= _) _ _ s
  refine wpAny_bind (wpAny_askSetting (wpAny_ite ?_))
  split
  · first
      | exact wpAny_bind (wpAny_pure (wpAny_pure (And.intro rfl h0)))
      | exact wpAny_pure (And.intro rfl h0)
  · first
      | exact wpAny_bind (wpAny_rule (wpAny_bind (wpAny_standAt (wpAny_bind (wpAny_mono h (fun it' s' h' => wpAny_pure (And.intro rfl h')) fun _ _ x => x)))))
      | (refine wpAny_bind (wpAny_rule ?_); show wpAny _ _ (standAt iter.pos >>= _) _ _ s; exact wpAny_bind (wpAny_standAt (wpAny_bind (wpAny_mono h (fun it' s' h' => wpAny_pure (And.intro rfl h')) fun _ _ x => x))))
/-- all but the iterator stays -/
noncomputable def MvB (it : Addr) (P : List Addr) (h : Heap) (P' : List Addr) (h' : Heap) : Prop := ∀ b o, b ∉ P → b ≠ it → h.get? b = some o → b ∉ P' ∧ h'.get? b = some o
/-- a loop of a comprehension runs to its end -/
noncomputable def LoopR (ic : Cx) (e : Expr) (d : Nat) (it acc : Addr) (σ : AS) (s : Shared) (Post : AS → Prop) : Prop :=
  codeAny (model prog ic.w) ic.A (.compLoop e d (.ref it) (.ref acc) ic.env) (fun r s₅ => r = .ok .next ∧ ∃ σ', Sat ic σ' s₅ ∧ MvB it (own ic σ.mem) s.heap (own ic σ'.mem) s₅.heap ∧ Post σ') s
mutual
theorem Rel.mvb {P P' : List Addr} {h h' : Heap} {it : Addr} (hn0 : h.get? it = none) (m : ∀ b o, b ∉ P → b ≠ it → h.get? b = some o → b ∉ P' ∧ h'.get? b = some o) : ∀ (a : AV) (v : Value), Rel P h a v → Rel P' h' a v
  | .unb, _, r => r.elim
  | .none, _, r => r
  | .bool _, _, r => r
  | .int _, _, r => r
  | .str _, _, r => r
  | .ty _, _, r => r
  | .bi _, _, r => r
  | .ref _, _, r => r
  | .tup l, v, ⟨a, vs, e, hn, ⟨k, ho⟩, hl⟩ => have q := m a _ hn (fun z => by rw [z, hn0] at ho; cases ho) ho; ⟨a, vs, e, q.1, ⟨k, q.2⟩, RelL.mvb hn0 m l vs hl⟩
  | .lst l, v, ⟨a, vs, e, hn, ⟨k, ho⟩, hl⟩ => have q := m a _ hn (fun z => by rw [z, hn0] at ho; cases ho) ho; ⟨a, vs, e, q.1, ⟨k, q.2⟩, RelL.mvb hn0 m l vs hl⟩
  | .rng lo hi, v, ⟨a, t, u, k, e, hn, ho⟩ => have q := m a _ hn (fun z => by subst z; rw [show h.get? a = _ from ho] at hn0; cases hn0) ho; ⟨a, t, u, k, e, q.1, q.2⟩
theorem RelL.mvb {P P' : List Addr} {h h' : Heap} {it : Addr} (hn0 : h.get? it = none) (m : ∀ b o, b ∉ P → b ≠ it → h.get? b = some o → b ∉ P' ∧ h'.get? b = some o) : ∀ (l : List AV) (vs : List Value), RelL P h l vs → RelL P' h' l vs
  | [], _, r => r
  | x :: l, vs, ⟨v, r, e, hx, hl⟩ => ⟨v, r, e, Rel.mvb hn0 m x v hx, RelL.mvb hn0 m l r hl⟩
end
section
variable {c : Cx} {ks sk gl cs : List Str} {n : Nat} {σ : AS} {Q : AV → AS → Prop} {i j : Int} {x y : Str}
theorem loop_emit (O : Ok c ks sk gl cs n) {elt target iter : Expr} {ifs : List Expr} {gens : List Comprehension} {d : Nat} {scope : Scope} {pos : Pos} {it acc : Addr} (hg : gens[d]? = some ⟨target, iter, ifs, 0⟩) (hn : gens[d + 1]? = none) (I : List AV → AS → Prop)
    (turn : ∀ a rest σ, I (a :: rest) σ → TA c target a σ fun σ₂ => TTests c ifs σ₂ fun b σ₃ => if b then TV c (eval elt c.env) σ₃ fun e σ₄ => ∃ l mem', MUp σ₄.mem acc (.list l) (.list (l ++ [e])) mem' ∧ l.length ≤ sizeLine ∧ I rest ⟨σ₄.vals, mem'⟩ else I rest σ₃)
    {l : List AV} {s : Shared} (hI : I l σ) (S : Sat c σ s) (hni : it ∉ own c σ.mem) (It : IterAt (own c σ.mem) s.heap it l) : LoopR c (.ListComp elt gens scope pos) d it acc σ s (I []) := by
  unfold LoopR
  refine codeAny_loop rfl (fun k s' => ∃ l' σ', l'.length = k ∧ I l' σ' ∧ Sat c σ' s' ∧ it ∉ own c σ'.mem ∧ IterAt (own c σ'.mem) s'.heap it l' ∧ MvB it (own c σ.mem) s.heap (own c σ'.mem) s'.heap) ?_ l.length
    ⟨l, σ, rfl, hI, S, hni, It, fun b o hb _ e => ⟨hb, e⟩⟩
  rintro k s' ⟨l', σ', hl, hI', S', hn', It', far⟩
  show wpAny _ c.A ((compTurn (.ListComp elt gens scope pos) d (.ref it) (.ref acc) c.env).onRaise (fun x => do noteFrame x c.env; theTreesLotGoes x)) _ _ s'
  refine wpAny_noted ?_
  rw [turn_emit hg hn]
  refine wpAny_bind (wpAny_standAt (wpAny_bind ?_))
  cases l' with
  | nil => exact iter_end O It' hn' S' fun s₅ S₅ hb₅ => wpAny_pure ⟨rfl, σ', S₅, fun b o hb hne e => ⟨(far b o hb hne e).1, hb₅ b o hne (far b o hb hne e).2⟩, hI'⟩
  | cons a l' =>
    refine iter_next It' hn' S' fun v s₅ rv S₅ It₅ hb₅ => ?_
    obtain ⟨oi, hoi, hci, _⟩ := It₅.obj
    refine wpAny_bind (letOwned hoi hci ?_)
    refine wpAny_bind (wpAny_mono (turn a l' σ' hI' v s₅ rv S₅) (fun _ s₆ ⟨σ₆, S₆, m₆, h₆⟩ => ?_) fun _ _ x => x.elim)
    have h₆' : TTests c ifs σ₆ _ := h₆
    unfold TTests at h₆'
    have far₅ : ∀ b o, b ∉ own c σ.mem → b ≠ it → s.heap.get? b = some o → b ∉ own c σ'.mem ∧ s₅.heap.get? b = some o := fun b o hb hne e => ⟨(far b o hb hne e).1, hb₅ b o hne (far b o hb hne e).2⟩
    have len : l'.length < k := by simp at hl; (first | exact om15 hl | omega)
    refine wpAny_bind (wpAny_mono (h₆' s₆ S₆) (fun ok s₇ ⟨b, σ₇, e, S₇, m₇, h₇⟩ => ?_) fun _ _ x => x.elim)
    subst e
    cases ok with
    | false =>
      simp only [Bool.false_eq_true, if_false] at h₇ ⊢
      obtain ⟨hn7, It7⟩ := It₅.mv (m₆.trans m₇) hn'
      exact wpAny_pure ⟨rfl, l'.length, len, l', σ₇, rfl, h₇, S₇, hn7, It7, fun b o hb hne e => (m₆.trans m₇) b o (far₅ b o hb hne e).1 (far₅ b o hb hne e).2⟩
    | true =>
      simp only [if_true] at h₇ ⊢
      refine wpAny_bind (wpAny_bind (wpAny_mono (h₇ s₇ S₇) (fun x s₈ ⟨e, σ₈, rx, S₈, m₈, ls, mem', u, hsz, hI8⟩ => ?_) fun _ _ x => x.elim))
      refine wpAny_bind (wpAny_mono (bs_append (Q := fun a' σ' => a' = .none ∧ σ' = ⟨σ₈.vals, mem'⟩) u hsz ⟨rfl, rfl⟩ [.ref acc, x] s₈ (RelL.cons rfl (.one rx)) S₈) (fun r s₉ ⟨b', σ₉, _, S₉, m₉, e9, e9'⟩ => ?_) fun _ _ x => x.elim)
      subst e9'
      have mAll := ((m₆.trans m₇).trans m₈).trans m₉
      obtain ⟨hn9, It9⟩ := It₅.mv mAll hn'
      exact wpAny_pure (wpAny_pure ⟨rfl, l'.length, len, l', _, rfl, hI8, S₉, hn9, It9, fun b o hb hne e => mAll b o (far₅ b o hb hne e).1 (far₅ b o hb hne e).2⟩)
theorem loop_more (O : Ok c ks sk gl cs n) {elt target iter target' iter' : Expr} {ifs ifs' : List Expr} {gens : List Comprehension} {scope : Scope} {pos : Pos} {it acc : Addr} (hg : gens = [⟨target, iter, ifs, 0⟩, ⟨target', iter', ifs', 0⟩]) (I : List AV → AS → Prop)
    (turn : ∀ a rest σ, I (a :: rest) σ → TA c target a σ fun σ₂ => TTests c ifs σ₂ fun b σ₃ => if b then TV c (eval iter' c.env) σ₃ fun x σ₄ => ∃ l', Yields x l' ∧ ∀ it' s', Sat c σ₄ s' → it' ∉ own c σ₄.mem → IterAt (own c σ₄.mem) s'.heap it' l' → LoopR c (.ListComp elt gens scope pos) 1 it' acc σ₄ s' (I rest) else I rest σ₃)
    (hs : ∀ x, foldedSetIterable iter' c.env x = pure x)
    {l : List AV} {s : Shared} (hI : I l σ) (S : Sat c σ s) (hni : it ∉ own c σ.mem) (It : IterAt (own c σ.mem) s.heap it l) : LoopR c (.ListComp elt gens scope pos) 0 it acc σ s (I []) := by
  subst hg
  unfold LoopR
  refine codeAny_loop rfl (fun k s' => ∃ l' σ', l'.length = k ∧ I l' σ' ∧ Sat c σ' s' ∧ it ∉ own c σ'.mem ∧ IterAt (own c σ'.mem) s'.heap it l' ∧ MvB it (own c σ.mem) s.heap (own c σ'.mem) s'.heap) ?_ l.length
    ⟨l, σ, rfl, hI, S, hni, It, fun b o hb _ e => ⟨hb, e⟩⟩
  rintro k s' ⟨l', σ', hl, hI', S', hn', It', far⟩
  show wpAny _ c.A ((compTurn (.ListComp elt [⟨target, iter, ifs, 0⟩, ⟨target', iter', ifs', 0⟩] scope pos) 0 (.ref it) (.ref acc) c.env).onRaise (fun x => do noteFrame x c.env; theTreesLotGoes x)) _ _ s'
  refine wpAny_noted ?_
  rw [turn_more rfl rfl]
  refine wpAny_bind (wpAny_standAt (wpAny_bind ?_))
  cases l' with
  | nil => exact iter_end O It' hn' S' fun s₅ S₅ hb₅ => wpAny_pure ⟨rfl, σ', S₅, fun b o hb hne e => ⟨(far b o hb hne e).1, hb₅ b o hne (far b o hb hne e).2⟩, hI'⟩
  | cons a l' =>
    refine iter_next It' hn' S' fun v s₅ rv S₅ It₅ hb₅ => ?_
    obtain ⟨oi, hoi, hci, _⟩ := It₅.obj
    refine wpAny_bind (letOwned hoi hci ?_)
    refine wpAny_bind (wpAny_mono (turn a l' σ' hI' v s₅ rv S₅) (fun _ s₆ ⟨σ₆, S₆, m₆, h₆⟩ => ?_) fun _ _ x => x.elim)
    have h₆' : TTests c ifs σ₆ _ := h₆
    unfold TTests at h₆'
    have far₅ : ∀ b o, b ∉ own c σ.mem → b ≠ it → s.heap.get? b = some o → b ∉ own c σ'.mem ∧ s₅.heap.get? b = some o := fun b o hb hne e => ⟨(far b o hb hne e).1, hb₅ b o hne (far b o hb hne e).2⟩
    have len : l'.length < k := by simp at hl; (first | exact om15 hl | omega)
    refine wpAny_bind (wpAny_mono (h₆' s₆ S₆) (fun ok s₇ ⟨b, σ₇, e, S₇, m₇, h₇⟩ => ?_) fun _ _ x => x.elim)
    subst e
    cases ok with
    | false =>
      simp only [Bool.false_eq_true, if_false] at h₇ ⊢
      obtain ⟨hn7, It7⟩ := It₅.mv (m₆.trans m₇) hn'
      exact wpAny_pure ⟨rfl, l'.length, len, l', σ₇, rfl, h₇, S₇, hn7, It7, fun b o hb hne e => (m₆.trans m₇) b o (far₅ b o hb hne e).1 (far₅ b o hb hne e).2⟩
    | true =>
      simp only [if_true] at h₇ ⊢
      refine wpAny_bind (wpAny_mono (h₇ s₇ S₇) (fun x s₈ ⟨e, σ₈, rx, S₈, m₈, l2, Y, hL⟩ => ?_) fun _ _ x => x.elim)
      have m58 := (m₆.trans m₇).trans m₈
      obtain ⟨hn8, It8⟩ := It₅.mv m58 hn'
      refine wpAny_bind (wpAny_standAt (wpAny_bind (wpAny_of_eq (hs x) (wpAny_bind (wpAny_holding (iter_start Y rx S₈ fun it' s₉ S₉ hk₉ hnone hn9 It9 => ?_))))))
      have hne' : it ≠ it' := fun z => by
        subst z
        obtain ⟨oi, hoi, _⟩ := It8.obj
        rw [hoi] at hnone; cases hnone
      have It89 : IterAt (own c σ₈.mem) s₉.heap it l' := (It8.mv (Mv.kept hk₉) hn8).2
      have L := hL it' s₉ S₉ hn9 It9
      unfold LoopR at L
      have L2 : codeAny (model prog c.w) c.A (.compLoop (.ListComp elt [⟨target, iter, ifs, 0⟩, ⟨target', iter', ifs', 0⟩] scope pos) 1 (.ref it') (.ref acc) c.env) (fun r s' => match r with | .ok f => wpAny (model prog c.w) c.A (again (.compLoop (.ListComp elt [⟨target, iter, ifs, 0⟩, ⟨target', iter', ifs', 0⟩] scope pos) 0 (.ref it) (.ref acc) c.env)) (fun fin s' => match fin with
          | .done f => (f = .next ∧ ∃ σ', Sat c σ' s' ∧ MvB it (own c σ.mem) s.heap (own c σ'.mem) s'.heap ∧ I [] σ')
          | .again c' => c' = (.compLoop (.ListComp elt [⟨target, iter, ifs, 0⟩, ⟨target', iter', ifs', 0⟩] scope pos) 0 (.ref it) (.ref acc) c.env) ∧ ∃ m, m < k ∧ ∃ l' σ', l'.length = m ∧ I l' σ' ∧ Sat c σ' s' ∧ it ∉ own c σ'.mem ∧ IterAt (own c σ'.mem) s'.heap it l' ∧ MvB it (own c σ.mem) s.heap (own c σ'.mem) s'.heap) (fun _ _ => False) s' | .error e => False) s₉ := by
        refine codeAny_mono L fun r s₁₀ ⟨er, σ', S', mb, hI⟩ => ?_
        subst er
        have mb' : ∀ b o, b ∉ own c σ₈.mem → b ≠ it' → s₈.heap.get? b = some o → b ∉ own c σ'.mem ∧ s₁₀.heap.get? b = some o := fun b o h1 h2 e => mb b o h1 h2 (hk₉ b o e)
        refine wpAny_pure ⟨rfl, l'.length, len, l', σ', rfl, hI, S', ?_, ?_, fun b o hb hne e => ?_⟩
        · obtain ⟨oi, hoi, _⟩ := It8.obj
          exact (mb' it _ hn8 hne' hoi).1
        · rcases It8 with ⟨ad, vs, i, l0, ⟨o, ho, hc⟩, hna, ⟨ol, hol, hcl⟩, rl, e⟩ | ⟨x, k0, ho, e⟩
          · have hne2 : ad ≠ it' := fun z => by rw [z] at hol; rw [hol] at hnone; cases hnone
            refine .list ad vs i l0 ⟨o, (mb' _ _ hn8 hne' ho).2, hc⟩ (mb' _ _ hna hne2 hol).1 ⟨ol, (mb' _ _ hna hne2 hol).2, hcl⟩ ?_ e
            exact RelL.mvb hnone mb' _ _ rl
          · exact .range x k0 (mb' _ _ hn8 hne' ho).2 e
        · obtain ⟨h1, h2⟩ := far₅ b o hb hne e
          obtain ⟨h3, h4⟩ := m58 b o h1 h2
          exact mb' b o h3 (fun z => by rw [z] at h4; rw [h4] at hnone; cases hnone) h4
      refine wpAny_bind (wpAny_runOwn ?_)
      refine codeAny_mono (R := fun r s' => match r with | .ok f => wpAny (model prog c.w) c.A (again (.compLoop (.ListComp elt [⟨target, iter, ifs, 0⟩, ⟨target', iter', ifs', 0⟩] scope pos) 0 (.ref it) (.ref acc) c.env)) (fun fin s' => match fin with
          | .done f => (f = .next ∧ ∃ σ', Sat c σ' s' ∧ MvB it (own c σ.mem) s.heap (own c σ'.mem) s'.heap ∧ I [] σ')
          | .again c' => c' = (.compLoop (.ListComp elt [⟨target, iter, ifs, 0⟩, ⟨target', iter', ifs', 0⟩] scope pos) 0 (.ref it) (.ref acc) c.env) ∧ ∃ m, m < k ∧ ∃ l' σ', l'.length = m ∧ I l' σ' ∧ Sat c σ' s' ∧ it ∉ own c σ'.mem ∧ IterAt (own c σ'.mem) s'.heap it l' ∧ MvB it (own c σ.mem) s.heap (own c σ'.mem) s'.heap) (fun _ _ => False) s' | .error e => False) (compStart_at rfl L2 (iter_self It9 L2)) fun r s' h => ?_
      cases r with
      | error e => exact h.elim
      | ok f =>
        refine wpAny_mono h (fun fin s' hf => ?_) fun _ _ x => x.elim
        cases fin with
        | done f => exact ⟨by rw [hf.1], hf.2⟩
        | again c' => exact hf
mutual
theorem Rel.butN {P : List Addr} {h h' : Heap} {it : Addr} (hn : NoSeq h it) (hs : Heap.ExtBut it h h') : ∀ (a : AV) (v : Value), Rel P h a v → Rel P h' a v
  | .unb, _, r => r.elim
  | .none, _, r => r
  | .bool _, _, r => r
  | .int _, _, r => r
  | .str _, _, r => r
  | .ty _, _, r => r
  | .bi _, _, r => r
  | .ref _, _, r => r
  | .tup l, v, ⟨a, vs, e, hp, ⟨k, ho⟩, hl⟩ => ⟨a, vs, e, hp, ⟨k, hs a _ (fun z => by subst z; exact (hn _ ho).1 _ _ rfl) ho⟩, RelL.butN hn hs l vs hl⟩
  | .lst l, v, ⟨a, vs, e, hp, ⟨k, ho⟩, hl⟩ => ⟨a, vs, e, hp, ⟨k, hs a _ (fun z => by subst z; exact (hn _ ho).1 _ _ rfl) ho⟩, RelL.butN hn hs l vs hl⟩
  | .rng lo hi', v, ⟨a, t, u, k, e, hp, ho⟩ => ⟨a, t, u, k, e, hp, hs a _ (fun z => by subst z; exact (hn _ ho).2 _ rfl) ho⟩
theorem RelL.butN {P : List Addr} {h h' : Heap} {it : Addr} (hn : NoSeq h it) (hs : Heap.ExtBut it h h') : ∀ (l : List AV) (vs : List Value), RelL P h l vs → RelL P h' l vs
  | [], _, r => r
  | x :: l, vs, ⟨v, r, e, hx, hl⟩ => ⟨v, r, e, Rel.butN hn hs x v hx, RelL.butN hn hs l r hl⟩
end
theorem FldRel.butN {P : List Addr} {h h' : Heap} {it : Addr} (hn : NoSeq h it) (hs : Heap.ExtBut it h h') : ∀ {fs : List (Str × AV)} {es : List DictEntry}, FldRel P h fs es → FldRel P h' fs es
  | [], _, r => r
  | _ :: _, _, ⟨e, r, he, hk, hv, hr⟩ => ⟨e, r, he, hk, Rel.butN hn hs _ _ hv, hr.butN hn hs⟩
/-- a namespace outside is written anew -/
theorem Sat.butNs {s s0 : Shared} {σ0 : AS} {h' : Heap} {C : Addr} {m : Str → Option Value} (S : Sat c σ s) (S0 : Sat c σ0 s0) (h0 : s0.heap.get? C = none) (hC : s.heap.Ns C m) (hn : C ∉ own c σ.mem) (hs : Heap.SameBut C s.heap h') : Sat c σ { s with heap := h' } := by
  obtain ⟨oC, es, ep, ho, hd, _⟩ := hC
  have nsq : NoSeq s.heap C := fun o e => by rw [ho] at e; cases e; exact ⟨fun _ _ q => (by rw [hd] at q; cases q), fun _ q => (by rw [hd] at q; cases q)⟩
  have ex := hs.extBut
  have ncell : ∀ a v, s.heap.IsCell a v → h'.IsCell a v := fun a v ⟨o, hao, hq⟩ => ⟨o, ex a o (fun z => by subst z; rw [ho] at hao; cases hao; rw [hd] at hq; cases hq) hao, hq⟩
  refine ⟨⟨fun a o e => ⟨(S.base.k a o e).1, ex a o (fun z => ?_) (S.base.k a o e).2⟩, ?_, ?_⟩, S.nd, ?_, fun a ha => (let ⟨v, q⟩ := S.cells a ha; ⟨v, ncell a v q⟩), fun p hp => ?_, S.gens, S.drawn, S.os⟩
  · subst z
    have := (S0.base.k a o e).2
    rw [h0] at this; cases this
  · obtain ⟨hb, mb, ⟨o, es, ep, ho', hq, r⟩, q⟩ := S.base.b
    obtain ⟨_, _, ⟨o0, _, _, ho0, _⟩, _⟩ := S0.base.b
    exact ⟨hb, mb, ⟨o, es, ep, ex _ o (fun z => by rw [z, h0] at ho0; cases ho0) ho', hq, r⟩, q⟩
  · obtain ⟨bm, ob, e, hne, hnb, hob, r⟩ := S.base.bm
    obtain ⟨bm0, ob0, e0, _, _, hob0, _⟩ := S0.base.bm
    rw [e] at e0; cases e0
    exact ⟨bm, ob, e, hne, hnb, ex _ _ (fun z => by rw [z, h0] at hob0; cases hob0) hob, r⟩
  · obtain ⟨m, ⟨o, es, ep, ho', hq, r⟩, sl⟩ := S.slots
    refine ⟨m, ⟨o, es, ep, ex _ o (fun z => hn (by rw [← z]; exact .head _)) ho', hq, r⟩, sl.mono fun y av sy => ?_⟩
    rcases sy with e | ⟨v, hk, hv, r⟩ | ⟨d, v, hk, hl, hd', hv, r⟩ | ⟨d, v, hk, hl, hd', hv, r, hn'⟩
    · exact .unb e
    · exact .loc v hk hv (Rel.butN nsq ex _ _ r)
    · exact .cell d v hk hl hd' (ncell _ _ hv) (Rel.butN nsq ex _ _ r)
    · exact .free d v hk hl hd' (ncell _ _ hv) (Rel.butN nsq ex _ _ r) hn'
  · have q := S.mem p hp
    have hne : p.1 ≠ C := fun z => hn (z ▸ .tail _ (List.mem_append_right _ (List.mem_map_of_mem hp)))
    cases e : p.2 with
    | list l => rw [e] at q; obtain ⟨ws, ⟨k, hko⟩, r⟩ := q; exact ⟨ws, ⟨k, ex _ _ hne hko⟩, RelL.butN nsq ex _ _ r⟩
    | raw o => rw [e] at q; exact ex _ _ hne q
    | flds fs => rw [e] at q; obtain ⟨es, n, hko, r⟩ := q; exact ⟨es, n, ex _ _ hne hko, r.butN nsq ex⟩
theorem comp_core (O : Ok c ks sk gl cs n) {elt target iter : Expr} {ifs : List Expr} {gens gs : List Comprehension} {scope : Scope} {pos pos' : Pos} {caps ts igl ics : List Str} {use : Option (Value → Sem Unit)} {R : Value → Shared → Prop} {s : Shared}
    (hgens : gens = ⟨target, iter, ifs, 0⟩ :: gs) (hst : compSt scope caps ts igl ics = true) (hcs : ∀ x ∈ caps, x ∈ cs) (Fin : List AV → AS → Prop) (S : Sat c σ s)
    (start : TV c (eval iter c.env) σ fun a σ₁ => ∃ l cav, Yields a l ∧ CapAt ks σ₁.vals caps cav ∧
      ∀ ic acc it s', ic.w = c.w → Ok ic (caps ++ ts) ts igl ics n → Sat ic ⟨cav ++ ts.map (fun _ => .unb), (acc, .list []) :: σ₁.mem⟩ s' → it ∉ own ic ((acc, AO.list []) :: σ₁.mem) → IterAt (own ic ((acc, AO.list []) :: σ₁.mem)) s'.heap it l →
        LoopR ic (.ListComp elt gens scope pos) 0 it acc ⟨cav ++ ts.map (fun _ => .unb), (acc, .list []) :: σ₁.mem⟩ s' fun σ' => ∃ out mem', σ'.mem = (acc, .list out) :: mem' ∧ Fin out ⟨σ₁.vals, mem'⟩)
    (fin : ∀ acc C out σ' s₅ m, Sat c ⟨σ'.vals, (acc, .list out) :: σ'.mem⟩ s₅ → Mv (own c σ.mem) s.heap (own c ((acc, .list out) :: σ'.mem)) s₅.heap → s₅.heap.Ns C m → C ∉ own c ((acc, AO.list out) :: σ'.mem) → (∀ b o, b ∉ own c σ.mem → s.heap.get? b = some o → b ≠ C) → (∃ (σ0 : AS) (s0 : Shared), Sat c σ0 s0 ∧ s0.heap.get? C = none) → Fin out σ' →
      compPost (model prog c.w) c.A (fun _ _ => False) use R (.ref acc) C (.ok .next) s₅)
    (hs : ∀ x, foldedSetIterable iter c.env x = pure x) : wpAny (model prog c.w) c.A (comprehension (.ListComp elt gens scope pos) scope c.env pos' (newList []) false (eval iter c.env) use) R (fun _ _ => False) s := by
  subst hgens
  have st := CompSt.of hst
  have hclos : closureFor scope c.env = pure (closF c.env scope.names []) := closureFor_eq fun x hx e => (O.csk x.1 (hcs _ (st.fr x hx e))).2
  refine wpAny_comprehension_free (g := ⟨target, iter, ifs, 0⟩) (gs := gs) rfl hs hclos st.kind (fun x hx e => by rw [lookup_of_nodup st.nd hx, e]) ?_
  refine start.use S fun v a σ₁ s₁ ra S₁ m₁ ⟨l, cav, Y, cap, loop⟩ => ?_
  refine iter_start Y ra S₁ fun it s₂ S₂ hk₂ hnone hn It => ?_
  refine wpAny_newList ?_
  obtain ⟨S₃, m₃⟩ := S₂.pushOwn (l := []) (vs := []) rfl
  refine newEnv_comp ?_
  obtain ⟨Oi, Si, fr, _⟩ := comp_enter O S₃ st cap hcs
  have hnone1 : s₁.heap.get? it = none := hnone
  generalize hacc : s₂.heap.objs.size = acc at *
  generalize hs3 : ({ s₂ with heap := s₂.heap.push { cls := .type "list", data := .seq ([] : List Value).toArray } } : Shared) = s₃ at *
  have m₃' : Mv (own c σ₁.mem) s₂.heap (own c ((acc, AO.list []) :: σ₁.mem)) s₃.heap := by rw [← hs3]; exact m₃
  generalize hic : innerCx c scope s₃.heap.objs.size caps ts = ic at *
  have envI : ic.env = innerEnv scope s₃.heap.objs.size c.env := by rw [← hic]; rfl
  have locI : ic.env.locals = s₃.heap.objs.size := by rw [envI]; rfl
  have wI : ic.w = c.w := by rw [← hic]; rfl
  have AI : ic.A = c.A := by rw [← hic]; rfl
  show codeAny (model prog c.w) c.A (.compStart (.ListComp elt (⟨target, iter, ifs, 0⟩ :: gs) scope pos) 0 (.ref it) (.ref acc) (innerEnv scope s₃.heap.objs.size c.env)) (compPost (model prog c.w) c.A (fun _ _ => False) use _ (.ref acc) s₃.heap.objs.size) _
  rw [← envI]
  generalize hs4 : ({ s₃ with heap := pushCells (s₃.heap.push { cls := .type "dict", data := .dict #[] }) scope.names } : Shared) = s₄ at *
  have keep4 : ∀ b o, s₃.heap.get? b = some o → s₄.heap.get? b = some o := fun b o e => by rw [← hs4]; exact pushCells_keeps _ _ _ _ (Heap.get?_push_of_some _ e)
  have mv4 : Mv (own c ((acc, AO.list []) :: σ₁.mem)) s₃.heap (own ic ((acc, AO.list []) :: σ₁.mem)) s₄.heap := by
    intro b o hb e
    refine ⟨fun q => ?_, keep4 b o e⟩
    rcases List.mem_cons.mp q with q | q
    · rw [fr b (by rw [q, locI]; exact .head _)] at e; cases e
    · rcases List.mem_append.mp q with q | q
      · rw [fr b (.tail _ q)] at e; cases e
      · exact hb (.tail _ (List.mem_append_right _ q))
  obtain ⟨hn3, It3⟩ := It.mv m₃' hn
  obtain ⟨hn4, It4⟩ := It3.mv mv4 hn3
  have L := loop ic acc it s₄ wI Oi Si hn4 It4
  unfold LoopR at L
  rw [wI, AI] at L
  have L2 := codeAny_mono L (R' := compPost (model prog c.w) c.A (fun _ _ => False) use R (.ref acc) s₃.heap.objs.size) fun r s₅ ⟨er, σ', S₅, mb, out, mem', em, hF⟩ => by
    subst er
    have sub13 : ∀ b o, s₁.heap.get? b = some o → s₃.heap.get? b = some o := fun b o e => by rw [← hs3]; exact Heap.get?_push_of_some _ (hk₂ b o e)
    have accNone : s₁.heap.get? acc = none := by
      cases q : s₁.heap.get? acc with
      | none => rfl
      | some o => exact absurd (Heap.lt_size (hk₂ _ _ q)) (by rw [hacc]; exact Nat.lt_irrefl _)
    obtain ⟨m, hm, _⟩ := S₅.slots
    have far : ∀ b o, s₁.heap.get? b = some o → b ∉ σ₁.mem.dom → b ∉ own ic σ'.mem ∧ s₅.heap.get? b = some o := by
      intro b o e hb
      have h3 := sub13 b o e
      refine mb b o (fun q => ?_) (fun z => by rw [z, hnone1] at e; cases e) (keep4 b o h3)
      rcases List.mem_cons.mp q with q | q
      · rw [fr b (by rw [q, locI]; exact .head _)] at h3; cases h3
      · rcases List.mem_append.mp q with q | q
        · rw [fr b (.tail _ q)] at h3; cases h3
        · rcases List.mem_cons.mp q with q | q
          · rw [show b = acc from q, accNone] at e; cases e
          · exact hb q
    obtain ⟨S₆, m₆⟩ := comp_back (mem₁ := σ₁.mem) (vals := σ₁.vals) (h' := s₅.heap) S₁ wI (by rw [← hic]; rfl) (by rw [← hic]; rfl) (by rw [← hic]; rfl) (fun b hb => by
        cases q : s₁.heap.get? b with
        | none => rfl
        | some o => rw [locI] at hb; have := fr b hb; rw [sub13 b o q] at this; cases this) rfl S₅ ⟨rfl, fun _ _ => rfl⟩ (fun b o e hb => far b o e hb)
    rw [em] at S₆ m₆
    have locNot : ic.env.locals ∉ own c ((acc, AO.list out) :: mem') := by
      intro q
      have np := nd_parts S₅.nd
      rw [em] at np
      rcases List.mem_cons.mp q with q | q
      · obtain ⟨mm, ⟨oo, es, ep, hoo, _⟩, _⟩ := S₃.slots
        have hc : s₃.heap.get? c.env.locals = some oo := hoo
        rw [← q, locI] at hc
        exact Nat.lt_irrefl _ (Heap.lt_size hc)
      · rcases List.mem_append.mp q with q | q
        · obtain ⟨v, oo, hoo, _⟩ := S₃.cells _ q
          rw [locI] at hoo
          exact Nat.lt_irrefl _ (Heap.lt_size hoo)
        · exact np.2.1 q
    have locNone : ∀ b o, b ∉ own c σ.mem → s.heap.get? b = some o → b ≠ s₃.heap.objs.size := fun b o hb e z => by
      have h1 := m₁ b o hb e
      exact absurd (Heap.lt_size (sub13 _ _ h1.2)) (by rw [z]; exact Nat.lt_irrefl _)
    have locNone3 : s₃.heap.get? s₃.heap.objs.size = none := Heap.get?_none_of_le (Nat.le_refl _)
    exact fin acc s₃.heap.objs.size out ⟨σ₁.vals, mem'⟩ s₅ m S₆ (m₁.trans m₆) (by rw [← locI]; exact hm) (by rw [← locI]; exact locNot) locNone ⟨_, _, S₃, locNone3⟩ hF
  exact compStart_at rfl L2 (iter_self It4 L2)
/-- acc, frozen -/
theorem acc_frozen {acc : Addr} {out : List AV} {vals : List AV} {mem : Mem} {s : Shared} (S : Sat c ⟨vals, (acc, .list out) :: mem⟩ s) : Sat c ⟨vals, mem⟩ s ∧ Mv (own c ((acc, AO.list out) :: mem)) s.heap (own c mem) s.heap ∧ Rel (own c mem) s.heap (.lst out) (.ref acc) := by
  obtain ⟨S', mv⟩ := S.drop (mem' := mem) (List.sublist_cons_self _ _)
  obtain ⟨ws, ⟨k, ho⟩, rw'⟩ := S.mem (acc, AO.list out) (.head _)
  refine ⟨S', mv, acc, ws, rfl, ?_, ⟨k, ho⟩, RelL.mv mv _ _ rw'⟩
  intro q
  have nd1 := List.nodup_cons.mp S.nd
  have nd2 := List.nodup_append.mp nd1.2
  rcases List.mem_cons.mp q with q | q
  · exact nd1.1 (by rw [← q]; exact List.mem_append_right _ (.head _))
  · rcases List.mem_append.mp q with q | q
    · exact nd2.2.2 _ q _ (.head _) rfl
    · exact (List.nodup_cons.mp nd2.2.1).1 q
theorem nsq_of {h : Heap} {C : Addr} {m : Str → Option Value} (hC : h.Ns C m) : NoSeq h C := by
  obtain ⟨oC, es, ep, ho, hd, _⟩ := hC
  exact fun o e => by rw [ho] at e; cases e; exact ⟨fun _ _ q => (by rw [hd] at q; cases q), fun _ q => (by rw [hd] at q; cases q)⟩
/-- a comprehension as an expression -/
theorem T_compE (O : Ok c ks sk gl cs n) {elt target iter : Expr} {ifs : List Expr} {gs : List Comprehension} {scope : Scope} {pos : Pos} {caps ts igl ics : List Str}
    (hst : compSt scope caps ts igl ics = true) (hcs : ∀ x ∈ caps, x ∈ cs)
    (start : TV c (eval iter c.env) σ fun a σ₁ => ∃ l cav, Yields a l ∧ CapAt ks σ₁.vals caps cav ∧
      ∀ ic acc it s', ic.w = c.w → Ok ic (caps ++ ts) ts igl ics n → Sat ic ⟨cav ++ ts.map (fun _ => .unb), (acc, .list []) :: σ₁.mem⟩ s' → it ∉ own ic ((acc, AO.list []) :: σ₁.mem) → IterAt (own ic ((acc, AO.list []) :: σ₁.mem)) s'.heap it l →
        LoopR ic (.ListComp elt (⟨target, iter, ifs, 0⟩ :: gs) scope pos) 0 it acc ⟨cav ++ ts.map (fun _ => .unb), (acc, .list []) :: σ₁.mem⟩ s' fun σ' => ∃ out mem', σ'.mem = (acc, .list out) :: mem' ∧ Q (.lst out) ⟨σ₁.vals, mem'⟩)
    (hs : ∀ x, foldedSetIterable iter c.env x = pure x) : TV c (eval (.ListComp elt (⟨target, iter, ifs, 0⟩ :: gs) scope pos) c.env) σ Q := by
  intro s S
  show wpAny _ _ (comprehension (.ListComp elt (⟨target, iter, ifs, 0⟩ :: gs) scope pos) scope c.env _ (newList []) false (eval iter c.env)) _ _ s
  refine comp_core O rfl hst hcs (fun out σ' => Q (.lst out) σ') S start ?_ hs
  rintro acc C out σ' s₅ m S₅ m₅ hC hn hne ⟨σ0, s0, S0, h0⟩ q
  refine ⟨m, hC, fun h' hs' => ?_⟩
  obtain ⟨S₆, m₆, r₆⟩ := acc_frozen S₅
  have hn6 : C ∉ own c σ'.mem := fun q => hn (by
    rcases List.mem_cons.mp q with q | q
    · exact q ▸ .head _
    · rcases List.mem_append.mp q with q | q
      · exact .tail _ (List.mem_append_left _ q)
      · exact .tail _ (List.mem_append_right _ (.tail _ q)))
  have S₇ := S₆.butNs S0 h0 hC hn6 hs'
  refine ⟨.lst out, σ', Rel.butN (nsq_of hC) hs'.extBut _ _ r₆, S₇, fun b o hb e => ?_, q⟩
  obtain ⟨h1, h2⟩ := (m₅.trans m₆) b o hb e
  exact ⟨h1, hs'.extBut b o (hne b o hb e) h2⟩
/-- a comprehension given to a local name -/
theorem T_compA (O : Ok c ks sk gl cs n) {elt target iter : Expr} {ifs : List Expr} {gs : List Comprehension} {scope : Scope} {pos pos' spos : Pos} {caps ts igl ics : List Str} {x : Str} {R : AF → AS → Prop}
    (hst : compSt scope caps ts igl ics = true) (hcs : ∀ x ∈ caps, x ∈ cs) (hx : x ∈ sk)
    (start : TV c (eval iter c.env) σ fun a σ₁ => ∃ l cav, Yields a l ∧ CapAt ks σ₁.vals caps cav ∧
      ∀ ic acc it s', ic.w = c.w → Ok ic (caps ++ ts) ts igl ics n → Sat ic ⟨cav ++ ts.map (fun _ => .unb), (acc, .list []) :: σ₁.mem⟩ s' → it ∉ own ic ((acc, AO.list []) :: σ₁.mem) → IterAt (own ic ((acc, AO.list []) :: σ₁.mem)) s'.heap it l →
        LoopR ic (.ListComp elt (⟨target, iter, ifs, 0⟩ :: gs) scope pos) 0 it acc ⟨cav ++ ts.map (fun _ => .unb), (acc, .list []) :: σ₁.mem⟩ s' fun σ' => ∃ out mem', σ'.mem = (acc, .list out) :: mem' ∧ ∃ vals', Put ks σ₁.vals x (.lst out) vals' ∧ R .next ⟨vals', mem'⟩)
    (hs : ∀ x, foldedSetIterable iter c.env x = pure x) (hl : c.env.kindOf x = some .local) (hline : (pos'.line == pos.line) = true) (hno : scope.names.any (fun p => p.1 == x && (p.2 == .local || p.2 == .cell)) = false) :
    TF c (exec (.Assign [.Name x pos'] (.ListComp elt (⟨target, iter, ifs, 0⟩ :: gs) scope pos) spos) c.env) σ R := by
  intro s S
  rw [exec_Assign]
  refine wpAny_bind (wpAny_standAt ?_)
  have hsw : swapsWithSole [.Name x pos'] (.ListComp elt (⟨target, iter, ifs, 0⟩ :: gs) scope pos) spos.line c.env = pure true := by
    have hb : c.env.blockKind = .function := by unfold Env.blockKind; rw [O.kind]; rfl
    show pure (c.env.blockKind == .function && c.env.kindOf x == some .local && pos'.line == pos.line && !scope.names.any (fun p => p.1 == x && (p.2 == .local || p.2 == .cell))) = _
    rw [hb, hl, hline, hno]; rfl
  rw [hsw]
  refine wpAny_bind (wpAny_pure ?_)
  simp only [if_true]
  refine wpAny_bind ?_
  unfold evalThenUse
  refine wpAny_bind (comp_core O rfl hst hcs (fun out σ' => ∃ vals', Put ks σ'.vals x (.lst out) vals' ∧ R .next ⟨vals', σ'.mem⟩) S start ?_ hs)
  rintro acc C out σ' s₅ m S₅ m₅ hC hn hne ⟨σ0, s0, S0, h0⟩ ⟨vals', p, q⟩
  obtain ⟨S₆, m₆, r₆⟩ := acc_frozen S₅
  have hn6 : C ∉ own c σ'.mem := fun q => hn (by
    rcases List.mem_cons.mp q with q | q
    · exact q ▸ .head _
    · rcases List.mem_append.mp q with q | q
      · exact .tail _ (List.mem_append_left _ q)
      · exact .tail _ (List.mem_append_right _ (.tail _ q)))
  show wpAny (model prog c.w) c.A (assignAll (.ref acc) [assign (.Name x pos') c.env]) _ _ s₅
  refine wpAny_assign_Name (T_store O p hx r₆ S₆ fun s' S' m' => ?_)
  obtain ⟨oC, es, ep, ho, hr⟩ := id hC
  have hC' : s'.heap.Ns C m := ⟨oC, es, ep, (m' C oC hn6 ho).2, hr⟩
  refine ⟨m, hC', fun h' hs' => wpAny_pure (wpAny_pure ?_)⟩
  refine ⟨.next, _, rfl, S'.butNs S0 h0 hC' hn6 hs', fun b o hb e => ?_, q⟩
  obtain ⟨h1, h2⟩ := ((m₅.trans m₆).trans m') b o hb e
  exact ⟨h1, hs'.extBut b o (hne b o hb e) h2⟩
end
end Mine
end
section
open PySem PySem.W PyProof.Rows PySem.Calls PySem.SeqAt
set_option maxRecDepth 100000
namespace Mine
/-- a turn of a comprehension that leaves the owned memory alone -/
noncomputable def PureTurn (ic : Cx) (target elt : Expr) (ifs : List Expr) (ts : List Str) (cav : List AV) (acc : Addr) (mem : Mem) (p : AV → Bool) (f : AV → AV) (a : AV) : Prop :=
  ∀ out tv, tv.length = ts.length → TA ic target a ⟨cav ++ tv, (acc, .list out) :: mem⟩ fun σ₂ => TTests ic ifs σ₂ fun b σ₃ => b = p a ∧
    if p a then TV ic (eval elt ic.env) σ₃ fun e σ₄ => e = f a ∧ ∃ tv', tv'.length = ts.length ∧ σ₄ = ⟨cav ++ tv', (acc, .list out) :: mem⟩ else ∃ tv', tv'.length = ts.length ∧ σ₃ = ⟨cav ++ tv', (acc, .list out) :: mem⟩
section
variable {c : Cx} {ks sk gl cs : List Str} {n : Nat} {σ : AS} {Q : AV → AS → Prop} {i j : Int} {x y : Str}
theorem loop_pure (O : Ok c ks sk gl cs n) {elt target iter : Expr} {ifs : List Expr} {scope : Scope} {pos : Pos} {it acc : Addr} {ts : List Str} {cav tv0 l : List AV} {mem : Mem} {p : AV → Bool} {f : AV → AV} (hl : l.length ≤ sizeLine) (h0 : tv0.length = ts.length)
    (turns : ∀ a ∈ l, PureTurn c target elt ifs ts cav acc mem p f a) {s : Shared} {Post : AS → Prop} (post : ∀ σ', σ'.mem = (acc, .list ((l.filter p).map f)) :: mem → Post σ') (S : Sat c ⟨cav ++ tv0, (acc, .list []) :: mem⟩ s) (hni : it ∉ own c ((acc, AO.list []) :: mem)) (It : IterAt (own c ((acc, AO.list []) :: mem)) s.heap it l) :
    LoopR c (.ListComp elt [⟨target, iter, ifs, 0⟩] scope pos) 0 it acc ⟨cav ++ tv0, (acc, .list []) :: mem⟩ s Post := by
  have L := loop_emit (it := it) (acc := acc) (gens := [⟨target, iter, ifs, 0⟩]) (d := 0) (scope := scope) (pos := pos) O rfl rfl (fun rest σ => ∃ done tv, l = done ++ rest ∧ tv.length = ts.length ∧ σ = ⟨cav ++ tv, (acc, .list ((done.filter p).map f)) :: mem⟩) ?_ (elt := elt) (l := l) (σ := ⟨cav ++ tv0, (acc, .list []) :: mem⟩) ⟨[], tv0, rfl, h0, rfl⟩ S hni It
  · unfold LoopR at L ⊢
    refine codeAny_mono L fun r s' ⟨e, σ', S', m', done, tv, e1, _, e2⟩ => ⟨e, σ', S', m', post σ' ?_⟩
    rw [List.append_nil] at e1
    rw [e2, e1]
  · rintro a rest σ' ⟨done, tv, e1, htv, e2⟩
    subst e2
    have hm : a ∈ l := by rw [e1]; exact List.mem_append_right _ (.head _)
    have T := turns a hm ((done.filter p).map f) tv htv
    intro v s' r S'
    refine wpAny_mono (T v s' r S') (fun _ s'' ⟨σ'', S'', m'', h⟩ => ⟨σ'', S'', m'', ?_⟩) fun _ _ x => x
    refine TT.mono (show TB c _ σ'' _ from h) fun b σ₃ ⟨hb, h⟩ => ?_
    subst hb
    cases hp : p a with
    | true =>
      rw [hp] at h
      simp only [if_true] at h ⊢
      refine h.mono fun e σ₄ ⟨he, tv', h1, h2⟩ => ?_
      subst h2
      refine ⟨_, _, .head, ?_, done ++ [a], tv', by rw [e1]; simp, h1, ?_⟩
      · rw [List.length_map]
        refine Nat.le_trans (List.length_filter_le _ _) (Nat.le_trans ?_ hl)
        rw [e1, List.length_append]; (first | exact om42 ‹_› | omega)
      · rw [he]; simp [hp]
    | false =>
      rw [hp] at h
      simp only [Bool.false_eq_true, if_false] at h ⊢
      obtain ⟨tv', h1, h2⟩ := h
      exact ⟨done ++ [a], tv', by rw [e1]; simp, h1, by rw [h2]; simp [hp]⟩
/-- a pure comprehension, as an expression -/
theorem T_compEP (O : Ok c ks sk gl cs n) {elt target iter : Expr} {ifs : List Expr} {scope : Scope} {pos : Pos} (caps ts igl ics : List Str) (p : AV → Bool) (f : AV → AV)
    (hst : compSt scope caps ts igl ics = true) (hcs : ∀ x ∈ caps, x ∈ cs)
    (start : TV c (eval iter c.env) σ fun a σ₁ => ∃ l cav, Yields a l ∧ CapAt ks σ₁.vals caps cav ∧ l.length ≤ sizeLine ∧
      (∀ (ic : Cx) (acc : Addr), ic.w = c.w → Ok ic (caps ++ ts) ts igl ics n → ∀ a ∈ l, PureTurn ic target elt ifs ts cav acc σ₁.mem p f a) ∧ Q (.lst ((l.filter p).map f)) σ₁)
    (hs : ∀ x, foldedSetIterable iter c.env x = pure x) : TV c (eval (.ListComp elt [⟨target, iter, ifs, 0⟩] scope pos) c.env) σ Q :=
  T_compE O hst hcs (start.mono fun a σ₁ ⟨l, cav, Y, cap, hl, turns, q⟩ => ⟨l, cav, Y, cap, fun ic acc it s' hw Oi S hn It =>
    loop_pure Oi hl (by simp) (turns ic acc hw Oi) (fun σ' e => ⟨_, _, e, q⟩) S hn It⟩) hs
/-- a pure comprehension, given to a local name -/
theorem T_compAP (O : Ok c ks sk gl cs n) {elt target iter : Expr} {ifs : List Expr} {scope : Scope} {pos pos' spos : Pos} (caps ts igl ics : List Str) (p : AV → Bool) (f : AV → AV) {x : Str} {R : AF → AS → Prop}
    (hst : compSt scope caps ts igl ics = true) (hcs : ∀ x ∈ caps, x ∈ cs) (hx : x ∈ sk)
    (start : TV c (eval iter c.env) σ fun a σ₁ => ∃ l cav, Yields a l ∧ CapAt ks σ₁.vals caps cav ∧ l.length ≤ sizeLine ∧
      (∀ (ic : Cx) (acc : Addr), ic.w = c.w → Ok ic (caps ++ ts) ts igl ics n → ∀ a ∈ l, PureTurn ic target elt ifs ts cav acc σ₁.mem p f a) ∧ ∃ vals', Put ks σ₁.vals x (.lst ((l.filter p).map f)) vals' ∧ R .next ⟨vals', σ₁.mem⟩)
    (hs : ∀ x, foldedSetIterable iter c.env x = pure x) (hl : c.env.kindOf x = some .local) (hline : (pos'.line == pos.line) = true) (hno : scope.names.any (fun p => p.1 == x && (p.2 == .local || p.2 == .cell)) = false) :
    TF c (exec (.Assign [.Name x pos'] (.ListComp elt [⟨target, iter, ifs, 0⟩] scope pos) spos) c.env) σ R :=
  T_compA O hst hcs hx (start.mono fun a σ₁ ⟨l, cav, Y, cap, hl, turns, q⟩ => ⟨l, cav, Y, cap, fun ic acc it s' hw Oi S hn It =>
    loop_pure Oi hl (by simp) (turns ic acc hw Oi) (fun σ' e => ⟨_, _, e, q⟩) S hn It⟩) hs hl hline hno
end
theorem ptrue {p : Bool} {A B : Prop} (h : p = true) (a : A) : true = p ∧ if p = true then A else B := by subst h; exact ⟨rfl, a⟩
theorem pfalse {p : Bool} {A B : Prop} (h : p = false) (b : B) : false = p ∧ if p = true then A else B := by subst h; exact ⟨rfl, b⟩
theorem pcase {p : Bool} {A B : Prop} (a : p = true → A) (b : p = false → B) : p = p ∧ if p = true then A else B := by
  cases p with
  | true => exact ⟨rfl, a rfl⟩
  | false => exact ⟨rfl, b rfl⟩
section
variable {c : Cx} {ks sk gl cs : List Str} {n : Nat} {σ : AS} {Q : AV → AS → Prop} {i j : Int} {x y : Str}
/-- text[i] -/
theorem op_item_str {value slice : Expr} (h0 : 0 ≤ i) (h1 : i < x.length) (hb : x.length ≤ sizeLine) (q : Q (.str (Txt.item x i)) σ)
    (hs : ∀ (o i : Value), subscripted slice false o i = operate [o, i] (getItem o i)) (ht : ∀ (t : Tok) (r : Value), letTemporaryGo value (.str x t) r = pure ()) : Op2 c (subscriptTail value slice) (.str x) (.int i) σ Q := fun va vb s ⟨t, ea⟩ ⟨u, eb⟩ S => by
  subst ea eb
  have hz : sizeLine = 16777216 := rfl
  refine item_str ?_ (by (first | exact om43 h0 | omega)) h1 (fun _ => ⟨.str (Txt.item x i), σ, ⟨_, rfl⟩, S.toks _, .refl, q⟩) (hs _ _) (ht _)
  have : (-(2 ^ 63 : Int)) ≤ i ∧ i < 2 ^ 63 := by omega
  simp [fitsSsize]; omega
end
theorem map_str_inj : ∀ (l m : List Str), l.map AV.str = m.map AV.str → l = m
  | [], [], _ => rfl
  | [], _ :: _, h => by cases h
  | _ :: _, [], h => by cases h
  | a :: l, b :: m, h => by
    simp only [List.map_cons, List.cons.injEq, AV.str.injEq] at h
    rw [h.1, map_str_inj l m h.2]
theorem map_int_inj : ∀ (l m : List Int), l.map AV.int = m.map AV.int → l = m
  | [], [], _ => rfl
  | [], _ :: _, h => by cases h
  | _ :: _, [], h => by cases h
  | a :: l, b :: m, h => by
    simp only [List.map_cons, List.cons.injEq, AV.int.injEq] at h
    rw [h.1, map_int_inj l m h.2]
end Mine
end
section
open PySem PySem.W PyProof.Rows PySem.Calls PySem.SeqAt
set_option maxRecDepth 100000
namespace Mine
theorem FldRel.get {P : List Addr} {h : Heap} {x : Str} {v : AV} : ∀ {fs : List (Str × AV)} {es : List DictEntry}, FldRel P h fs es → fs.lookup x = some v → ∃ val, getL x es = some (some val) ∧ Rel P h v val
  | [], _, _, e => by cases e
  | (y, a) :: fs, _, ⟨e, r, he, ⟨t, hk⟩, hv, hr⟩, hl => by
    subst he
    rw [List.lookup_cons] at hl
    unfold getL
    rw [List.find?_cons]
    have hs : e.key.isStr x = (y == x) := by rw [hk]; rfl
    rw [hs]
    by_cases hxy : x = y
    · subst hxy
      rw [beq_self_eq_true] at hl ⊢
      cases hl
      exact ⟨_, rfl, hv⟩
    · have h1 : (x == y) = false := beq_eq_false_iff_ne.mpr hxy
      have h2 : (y == x) = false := beq_eq_false_iff_ne.mpr fun e => hxy e.symm
      rw [h1] at hl
      rw [h2]
      obtain ⟨val, h3, h4⟩ := hr.get hl
      refine ⟨val, ?_, h4⟩
      unfold getL at h3
      split at h3
      · rename_i e' he'; rw [he']; exact h3
      · split at h3 <;> cases h3
theorem FldRel.noRef {P : List Addr} {h : Heap} : ∀ {fs : List (Str × AV)} {es : List DictEntry}, FldRel P h fs es → es.any (·.refKey) = false
  | [], _, e => by cases e; rfl
  | (y, a) :: fs, _, ⟨e, r, he, ⟨t, hk⟩, hv, hr⟩ => by
    subst he
    rw [List.any_cons, hr.noRef]
    have : e.refKey = false := by obtain ⟨_, k, _⟩ := e; cases hk; rfl
    rw [this]; rfl
theorem FldRel.none {P : List Addr} {h : Heap} {x : Str} {fs : List (Str × AV)} {es : List DictEntry} (R : FldRel P h fs es) (hl : fs.lookup x = none) : getL x es = some none := by
  have hf : es.find? (·.key.isStr x) = Option.none := by
    induction fs generalizing es with
    | nil => cases R; rfl
    | cons p fs ih =>
      obtain ⟨e, r, he, ⟨t, hk⟩, hv, hr⟩ := R
      subst he
      obtain ⟨y, a⟩ := p
      rw [List.lookup_cons] at hl
      rw [List.find?_cons]
      have hs : e.key.isStr x = (y == x) := by rw [hk]; rfl
      rw [hs]
      by_cases hxy : x = y
      · subst hxy; rw [beq_self_eq_true] at hl; cases hl
      · have h1 : (x == y) = false := beq_eq_false_iff_ne.mpr hxy
        have h2 : (y == x) = false := beq_eq_false_iff_ne.mpr fun e => hxy e.symm
        rw [h1] at hl
        rw [h2]
        exact ih hr hl
  unfold getL
  rw [hf, R.noRef]
  rfl
noncomputable def fput (x : Str) (v : AV) : List (Str × AV) → List (Str × AV)
  | [] => [(x, v)]
  | p :: fs => if p.1 == x then (p.1, v) :: fs else p :: fput x v fs
theorem FldRel.put {P : List Addr} {h : Heap} {x : Str} {v : AV} {val : Value} {hsh : Int} {t : Tok} (rv : Rel P h v val) : ∀ {fs : List (Str × AV)} {es : List DictEntry}, FldRel P h fs es → FldRel P h (fput x v fs) (putL x hsh (.str x t) val es)
  | [], _, e => by cases e; exact ⟨_, _, rfl, ⟨t, rfl⟩, rv, rfl⟩
  | (y, a) :: fs, _, ⟨e, r, he, ⟨t', hk⟩, hv, hr⟩ => by
    subst he
    have hs : e.key.isStr x = (y == x) := by rw [hk]; rfl
    unfold fput putL
    rw [hs]
    by_cases hxy : (y == x) = true
    · rw [if_pos hxy, if_pos hxy]
      exact ⟨_, _, rfl, ⟨t', hk⟩, rv, hr⟩
    · rw [if_neg hxy, if_neg hxy]
      exact ⟨_, _, rfl, ⟨t', hk⟩, hv, hr.put rv⟩
theorem FldRel.len {P : List Addr} {h : Heap} : ∀ {fs : List (Str × AV)} {es : List DictEntry}, FldRel P h fs es → es.length = fs.length
  | [], _, e => by cases e; rfl
  | _ :: _, _, ⟨e, r, he, _, _, hr⟩ => by subst he; simp [hr.len]
/-- the class _netrclex -/
structure OwnName (x : Str) : Prop where
  find : ∀ w, findIn (KF w) (.ref 79) x = some none
structure MethName (x : Str) (f : Addr) : Prop where
  find : ∀ w, findIn (KF w) (.ref 79) x = some (some (.ref f))
  fn : ∀ w, isFn (KF w) (.ref f) = true
  get : ∀ w, specialIn (KF w) (.ref f) "__get__" = some (some (.builtin "function.__get__"))
  tak : ∀ w, takesIn (KF w) (.ref f) = some false
  cop : copiedNames.contains x = false
theorem cl_plain (w : World) (x : Str) : plainGet (KF w) 79 x = true := by
  show (findIn (KF w) (.ref 79) "__getattribute__" == some (some (.builtin "object.__getattribute__")) && findIn (KF w) (.ref 79) "__getattr__" == some none) = true
  kernel_rfl
theorem cl_dict (w : World) : hasDictIn (KF w) 79 = true := by kernel_rfl
theorem cl_over (w : World) : plainOver (KF w) 79 = true := by kernel_rfl
theorem cl_set (w : World) : findIn (KF w) (.ref 79) "__setattr__" = some (some (.builtin "object.__setattr__")) := by kernel_rfl
theorem cl_makes (w : World) : makesIn (KF w) 79 = true := by kernel_rfl
theorem cl_init (w : World) : findIn (KF w) (.ref 79) "__init__" = some (some (.ref 55)) := by kernel_rfl
theorem cl_initfn (w : World) : typeIn (KF w) (.ref 55) = some (.type "function") := by kernel_rfl
theorem on_lineno : OwnName (Str.ofString "lineno") := ⟨fun w => by kernel_rfl⟩
theorem on_instream : OwnName (Str.ofString "instream") := ⟨fun w => by kernel_rfl⟩
theorem on_whitespace : OwnName (Str.ofString "whitespace") := ⟨fun w => by kernel_rfl⟩
theorem on_pushback : OwnName (Str.ofString "pushback") := ⟨fun w => by kernel_rfl⟩
theorem on_read : OwnName (Str.ofString "read") := ⟨fun w => by kernel_rfl⟩
theorem mn_read_char : MethName (Str.ofString "_read_char") 62 := ⟨fun w => by kernel_rfl, fun w => by kernel_rfl, fun w => by kernel_rfl, fun w => by kernel_rfl, by decide +kernel⟩
theorem mn_get_token : MethName (Str.ofString "get_token") 69 := ⟨fun w => by kernel_rfl, fun w => by kernel_rfl, fun w => by kernel_rfl, fun w => by kernel_rfl, by decide +kernel⟩
theorem mn_push_token : MethName (Str.ofString "push_token") 76 := ⟨fun w => by kernel_rfl, fun w => by kernel_rfl, fun w => by kernel_rfl, fun w => by kernel_rfl, by decide +kernel⟩
/-- an object of it -/
structure Inst (m : Mem) (a : Addr) (fs : List (Str × AV)) where
  dx : Addr
  obj : (a, AO.raw (instObj 79 dx)) ∈ m
  dict : (dx, AO.flds fs) ∈ m
section
variable {c : Cx} {ks sk gl cs : List Str} {n : Nat} {σ : AS} {Q : AV → AS → Prop} {i j : Int} {x y : Str}
theorem Inst.at {m : Mem} {a : Addr} {fs : List (Str × AV)} (I : Inst σ.mem a fs) {s : Shared} (S : Sat c σ s) : ∃ es n, InstAt s.heap a (instObj 79 I.dx) 79 (some (dictOf es n)) ∧ s.heap.get? I.dx = some (dictOf es n) ∧ FldRel (own c σ.mem) s.heap fs es := by
  have ho : s.heap.get? a = some (instObj 79 I.dx) := S.mem _ I.obj
  obtain ⟨es, n, hd, r⟩ := S.mem _ I.dict
  exact ⟨es, n, ⟨ho, rfl, rfl, hd⟩, hd, r⟩
noncomputable def NotBi : AV → Prop
  | .bi _ => False
  | _ => True
theorem handed {P : List Addr} {h : Heap} {a : AV} {v : Value} (r : Rel P h a v) (hn : NotBi a) : handedIn v = true := by
  cases a with
  | unb => exact r.elim
  | none => cases r; rfl
  | bool b => cases r; rfl
  | int i => obtain ⟨t, rfl⟩ := r; rfl
  | str i => obtain ⟨t, rfl⟩ := r; rfl
  | ty n => cases r; rfl
  | bi n => exact hn.elim
  | ref n => cases r; rfl
  | tup l => obtain ⟨a, vs, rfl, _⟩ := r; rfl
  | lst l => obtain ⟨a, vs, rfl, _⟩ := r; rfl
  | rng lo hi => obtain ⟨a, t, u, k, rfl, _⟩ := r; rfl
/-- a field read -/
noncomputable def GetF (c : Cx) (o : AV) (x : Str) (σ : AS) (Q : AV → AS → Prop) : Prop :=
  ∀ vo s expr, Rel (own c σ.mem) s.heap o vo → Sat c σ s → wpAny (model prog c.w) c.A (getAttr vo x expr) (fun a s' => ∃ b σ', Rel (own c σ'.mem) s'.heap b a ∧ Sat c σ' s' ∧ Mv (own c σ.mem) s.heap (own c σ'.mem) s'.heap ∧ Q b σ') (fun _ _ => False) s
theorem getf_own {a : Addr} {fs : List (Str × AV)} {v : AV} (I : Inst σ.mem a fs) (N : OwnName x) (hl : fs.lookup x = some v) (hn : NotBi v) (q : Q v σ) : GetF c (.ref a) x σ Q := fun vo s expr ro S => by
  cases ro
  obtain ⟨es, n, IA, hd, r⟩ := I.at S (m := [])
  obtain ⟨val, hg, rv⟩ := r.get hl
  exact get_value S.base.kin IA (plainGet_of (cl_plain c.w x)).1 (findObj_own (cl_dict c.w) (N.find c.w) rfl (by rw [lookIn_dict]; exact hg)) (handed rv hn) ⟨v, σ, rv, S.toks _, .refl, q⟩
/-- a new owned object -/
theorem Sat.pushO {s : Shared} (S : Sat c σ s) (o : Obj) (ao : AO) (k : Nat) (hself : (s.heap.push o).get? s.heap.objs.size = some o) (ho : ∀ P h, h.get? s.heap.objs.size = some o → MemOk P h s.heap.objs.size ao) : Sat c ⟨σ.vals, (s.heap.objs.size, ao) :: σ.mem⟩ { s with heap := s.heap.push o, toks := k } ∧ Mv (own c σ.mem) s.heap (own c ((s.heap.objs.size, ao) :: σ.mem)) (s.heap.push o) := by
  have fr := fresh_not S
  have S₁ := S.pushT o k
  have hN : s.heap.get? s.heap.objs.size = none := Heap.get?_none_of_le (Nat.le_refl _)
  have hk : ∀ b o', s.heap.get? b = some o' → (s.heap.push o).get? b = some o' := fun b o' e => Heap.get?_push_of_some _ e
  have mem_own : ∀ b, b ∈ own c ((s.heap.objs.size, ao) :: σ.mem) → b = s.heap.objs.size ∨ b ∈ own c σ.mem := by
    intro b q
    rcases List.mem_cons.mp q with q | q
    · exact .inr (q ▸ .head _)
    · rcases List.mem_append.mp q with q | q
      · exact .inr (.tail _ (List.mem_append_left _ q))
      · rcases List.mem_cons.mp q with q | q
        · exact .inl q
        · exact .inr (.tail _ (List.mem_append_right _ q))
  have mv : Mv (own c σ.mem) s.heap (own c ((s.heap.objs.size, ao) :: σ.mem)) (s.heap.push o) := by
    intro b o' hn e
    refine ⟨fun q => ?_, hk b o' e⟩
    rcases mem_own b q with q | q
    · rw [q, hN] at e; cases e
    · exact hn q
  refine ⟨⟨S.base.mv mv, ?_, (let ⟨m, hm, sl⟩ := S.slots; ⟨m, hm.keeps hk, sl.mono fun y av sy => sy.mv mv fun a _ v _ q => q.keeps hk⟩), S₁.cells, ?_, S.gens, S.drawn, S.os⟩, mv⟩
  · have q := List.nodup_cons.mp S.nd
    have q2 := List.nodup_append.mp q.2
    refine List.nodup_cons.mpr ⟨fun z => ?_, List.nodup_append.mpr ⟨q2.1, List.nodup_cons.mpr ⟨fun z => fr (.tail _ (List.mem_append_right _ z)), q2.2.1⟩, fun a ha b hb e => ?_⟩⟩
    · rcases List.mem_append.mp z with z | z
      · exact q.1 (List.mem_append_left _ z)
      · rcases List.mem_cons.mp z with z | z
        · exact fr (by rw [show s.heap.objs.size = c.env.locals from z.symm]; exact .head _)
        · exact q.1 (List.mem_append_right _ z)
    · subst e
      rcases List.mem_cons.mp hb with z | z
      · exact fr (.tail _ (List.mem_append_left _ ((show a = s.heap.objs.size from z) ▸ ha)))
      · exact q2.2.2 a ha a z rfl
  · intro p hp
    rcases List.mem_cons.mp hp with rfl | hp
    · exact ho _ _ hself
    · exact (S.mem p hp).other mv fun ob e => hk _ _ e
theorem Sat.pushRaw {s : Shared} (S : Sat c σ s) (o : Obj) (k : Nat) (hself : (s.heap.push o).get? s.heap.objs.size = some o) : Sat c ⟨σ.vals, (s.heap.objs.size, .raw o) :: σ.mem⟩ { s with heap := s.heap.push o, toks := k } ∧ Mv (own c σ.mem) s.heap (own c ((s.heap.objs.size, AO.raw o) :: σ.mem)) (s.heap.push o) :=
  S.pushO o (.raw o) k hself fun P h e => e
theorem getf_bound {a f : Addr} {fs : List (Str × AV)} (I : Inst σ.mem a fs) (N : MethName x f) (hl : fs.lookup x = none) (q : ∀ b, b ∉ σ.mem.dom → Q (.ref b) ⟨σ.vals, (b, .raw (methodObj (.ref f) (.ref a))) :: σ.mem⟩) : GetF c (.ref a) x σ Q := fun vo s expr ro S => by
  cases ro
  obtain ⟨es, n, IA, hd, r⟩ := I.at S (m := [])
  refine get_bind S.base.kin IA (plainGet_of (cl_plain c.w x)).1 (findObj_fn (cl_dict c.w) (N.find c.w) (N.get c.w) (N.tak c.w) N.cop (by rw [lookIn_dict]; exact r.none hl)) (plainGet_of (cl_plain c.w x)).2
    (wpAny_call (fn_get (s := { s with toks := s.toks + 1 }) S.base.kin (beq_iff_eq.mp (N.fn c.w)) (handed_on rfl ?_)))
  obtain ⟨S', m'⟩ := S.pushRaw (methodObj (.ref f) (.ref a)) (s.toks + 1) (Heap.get?_push_size _ rfl)
  exact ⟨.ref s.heap.objs.size, _, rfl, S', m', q _ fun z => fresh_not S (.tail _ (List.mem_append_right _ z))⟩
/-- o.x -/
theorem T_attr {value : Expr} {pos : Pos} (h : TV c (eval value c.env) σ fun o σ₁ => GetF c o x σ₁ Q)
    (he : eval (.Attribute value x pos) c.env = (do
      let o ← eval value c.env
      standAt pos.atName
      let r ← holding [o] (getAttr o x true)
      letTemporaryGo value o r
      pure r)) : TV c (eval (.Attribute value x pos) c.env) σ Q := by
  intro s S
  refine Attribute_any_ (h.use S fun vo o σ₁ s₁ ro S₁ m₁ h₁ => ?_) he
  exact wpAny_mono (h₁ vo s₁ true ro S₁) (fun v s' ⟨b', σ', r', S', m', q'⟩ => ⟨b', σ', r', S', m₁.trans m', q'⟩) fun _ _ x => x
/-- o.x = v -/
noncomputable def SetF (c : Cx) (o : AV) (x : Str) (v : AV) (σ : AS) (K : AS → Prop) : Prop :=
  ∀ vo vv s, Rel (own c σ.mem) s.heap o vo → Rel (own c σ.mem) s.heap v vv → Sat c σ s → wpAny (model prog c.w) c.A (setAttr vo x vv) (fun _ s' => ∃ σ', Sat c σ' s' ∧ Mv (own c σ.mem) s.heap (own c σ'.mem) s'.heap ∧ K σ') (fun _ _ => False) s
theorem setf_own {a : Addr} {fs : List (Str × AV)} {v : AV} {K : AS → Prop} {mem' : Mem} (I : Inst σ.mem a fs) (N : OwnName x) (u : MUp σ.mem I.dx (.flds fs) (.flds (fput x v fs)) mem') (hz : fs.length ≤ 100) (k : K ⟨σ.vals, mem'⟩) : SetF c (.ref a) x v σ K := fun vo vv s ro rv S => by
  cases ro
  obtain ⟨hp, g, d, tk, os⟩ := s
  obtain ⟨es, n, IA, hd, r⟩ := I.at S (m := [])
  refine set_plain S.base.kin IA (cl_set c.w) ?_
  have hlook : (lookIn x (dictOf es n)).isSome = true := by
    rw [lookIn_dict]
    cases q : fs.lookup x with
    | none => rw [r.none q]; rfl
    | some v' => obtain ⟨val, hg, _⟩ := r.get q; rw [hg]; rfl
  have ht : takerIn (KF c.w) 79 x = some none := by unfold takerIn; rw [N.find c.w]; rfl
  refine osa_open S.base.kin IA (cl_over c.w) ht fun b => ?_
  obtain ⟨cd, hc, hd'⟩ := any_some (cl_dict c.w)
  have hx := IA.at_
  -- the store, step by step as the model does it
  refine wpAny_bind (wpAny_pure (wpAny_bind (wpAny_bind (wpAny_loadPart hx (wpAny_bind ((looks_clsIn (show (KF c.w).In hp from S.base.kin) hc).at ?_))))))
  rw [hd']
  refine wpAny_pure (a := some I.dx) (wpAny_bind (wpAny_pure (wpAny_bind ?_)))
  unfold nsSet
  refine wpAny_bind (wpAny_bind (wpAny_askSetting (wpAny_pure (wpAny_bind (wpAny_mkText (wpAny_bind (wpAny_loadPart hd ?_)))))))
  dsimp only
  have c0 : (!es.toArray.any (·.key.isStr x) && es.toArray.any (·.refKey)) = false := by
    have : es.toArray.any (·.refKey) = false := by rw [← Array.any_toList]; exact r.noRef
    rw [this, Bool.and_false]
  rw [aRefKeyMayBeTheName_at, c0]
  have hz' : es.length ≤ 100 := by rw [r.len]; exact hz
  have eput : Obj.putName x (PyData.keyHash c.w.params x) (.str x (tk + 1)) vv (dictOf es n) = dictOf (putL x (PyData.keyHash c.w.params x) (.str x (tk + 1)) vv es) (putN x es n) := putName_dict ..
  have hupd : (hp.update I.dx (Obj.putName x (PyData.keyHash c.w.params x) (.str x (tk + 1)) vv)).get? I.dx = some (dictOf (putL x (PyData.keyHash c.w.params x) (.str x (tk + 1)) vv es) (putN x es n)) := by
    rw [← eput]
    exact Heap.get?_update_self _ hd (by rw [eput]; rfl)
  refine wpAny_updatePart hd ?_
  have hlen : (putL x (PyData.keyHash c.w.params x) (.str x (tk + 1)) vv es).length ≤ 101 := by
    have : ∀ es : List DictEntry, (putL x (PyData.keyHash c.w.params x) (.str x (tk + 1)) vv es).length ≤ es.length + 1 := by
      intro es
      induction es with
      | nil => simp [putL]
      | cons e r ih => unfold putL; split <;> simp <;> (first | exact om46 ih | omega)
    have := this es
    (first | exact om47 hz' this | omega)
  refine wpAny_bind (wpAny_lookBehind hupd (pastItsLine_dict (by rw [List.size_toArray, sizeLine_eq]; (first | exact om48 hlen | omega))) ?_)
  have hs : Heap.SameBut I.dx hp (hp.update I.dx (Obj.putName x (PyData.keyHash c.w.params x) (.str x (tk + 1)) vv)) := Heap.SameBut.update ..
  have ad : I.dx ∈ σ.mem.dom := List.mem_map_of_mem u.mem
  have mv : Mv (own c σ.mem) hp (own c σ.mem) (hp.update I.dx (Obj.putName x (PyData.keyHash c.w.params x) (.str x (tk + 1)) vv)) := Mv.same (.tail _ (List.mem_append_right _ ad)) hs
  obtain ⟨S', m'⟩ := S.setO u hs ⟨_, _, hupd, (r.put rv).mv mv⟩ (tk + 2)
  exact wpAny_pure ⟨_, S', m', k⟩
theorem T_AssignAttr {o value : Expr} {pos' pos : Pos} {R : AF → AS → Prop} (h : TV c (eval value c.env) σ fun v σ₁ => TV c (eval o c.env) σ₁ fun a σ₂ => SetF c a x v σ₂ fun σ₃ => R .next σ₃)
    (hs : swapsWith value (some (.Attribute o x pos')) pos.line c.env = pure false) : TF c (exec (.Assign [.Attribute o x pos'] value pos) c.env) σ R := by
  intro s S
  refine plainObj_wpAny_Assign_Attribute (h.use S fun v av σ₁ s₁ rv S₁ m₁ h₁ => h₁.use S₁ fun vo a σ₂ s₂ ro S₂ m₂ h₂ => ?_) hs
  exact wpAny_mono (h₂ vo v s₂ ro (Rel.mv m₂ _ _ rv) S₂) (fun _ s₃ ⟨σ₃, S₃, m₃, q⟩ => ⟨.next, σ₃, rfl, S₃, (m₁.trans m₂).trans m₃, q⟩) fun _ _ x => x
theorem T_AugAttr {o value : Expr} {op : Operator} {pos' pos : Pos} {R : AF → AS → Prop} (h : TV c (eval o c.env) σ fun a σ₁ => ∃ ad, a = .ref ad ∧ GetF c a x σ₁ fun old σ₂ => TV c (eval value c.env) σ₂ fun v σ₃ => Op2 c (inplaceOp op) old v σ₃ fun r σ₄ => SetF c a x r σ₄ fun σ₅ => R .next σ₅) :
    TF c (exec (.AugAssign (.Attribute o x pos') op value pos) c.env) σ R := by
  intro s S
  refine wpAny_AugAssign_AttributeAny (h.use S fun vo a σ₁ s₁ ro S₁ m₁ ⟨ad, e, h₁⟩ => ?_)
  subst e
  cases ro
  refine wpAny_mono (h₁ _ s₁ true rfl S₁) (fun old s₂ ⟨oldA, σ₂, r₂, S₂, m₂, h₂⟩ => ?_) fun _ _ x => x
  refine h₂.use S₂ fun v av σ₃ s₃ rv S₃ m₃ h₃ => ?_
  refine wpAny_mono (h₃ old v s₃ (Rel.mv m₃ _ _ r₂) rv S₃) (fun r s₄ ⟨ra, σ₄, rr, S₄, m₄, h₄⟩ => ?_) fun _ _ x => x
  exact wpAny_mono (h₄ _ r s₄ rfl rr S₄) (fun _ s₅ ⟨σ₅, S₅, m₅, q⟩ => ⟨.next, σ₅, rfl, S₅, (((m₁.trans m₂).trans m₃).trans m₄).trans m₅, q⟩) fun _ _ x => x
/-- what a method's name on an object gives to be called -/
noncomputable def GetM (c : Cx) (o : AV) (x : Str) (σ : AS) (Q : Addr → List AV → AS → Prop) : Prop :=
  ∀ vo s pl, Rel (own c σ.mem) s.heap o vo → Sat c σ s → wpAny (model prog c.w) c.A (getMethod vo x pl) (fun r s' => ∃ f l σ', r.1 = .ref f ∧ RelL (own c σ'.mem) s'.heap l r.2 ∧ Sat c σ' s' ∧ Mv (own c σ.mem) s.heap (own c σ'.mem) s'.heap ∧ Q f l σ') (fun _ _ => False) s
inductive FnAt (w : World) (m : Mem) (f : Addr) (o : Obj) : Prop where
  | k : (KF w).lookup f = some o → FnAt w m f o
  | mem : (f, AO.raw o) ∈ m → FnAt w m f o
theorem FnAt.at {f : Addr} {o : Obj} {s : Shared} (F : FnAt c.w σ.mem f o) (S : Sat c σ s) : s.heap.get? f = some o := by
  rcases F with h | h
  · exact S.base.kin _ _ h
  · exact S.mem _ h
theorem getm_meth {a f : Addr} {fs : List (Str × AV)} {Q : Addr → List AV → AS → Prop} (I : Inst σ.mem a fs) (N : MethName x f) (hl : fs.lookup x = none) (q : Q f [.ref a] σ) : GetM c (.ref a) x σ Q := fun vo s pl ro S => by
  cases ro
  obtain ⟨es, n, IA, hd, r⟩ := I.at S (m := [])
  refine method_fn S.base.kin IA (plainGet_of (cl_plain c.w x)).1 (plainGet_of (cl_plain c.w x)).2 (N.find c.w) (beq_iff_eq.mp (N.fn c.w)) (by show (lookIn x (dictOf es n)).map _ = _; rw [lookIn_dict, r.none hl]; rfl) ⟨f, [.ref a], σ, rfl, .one rfl, S, .refl, q⟩
theorem getm_own {a f : Addr} {fs : List (Str × AV)} {Q : Addr → List AV → AS → Prop} (I : Inst σ.mem a fs) (N : OwnName x) (hl : fs.lookup x = some (.ref f)) (q : Q f [] σ) : GetM c (.ref a) x σ Q := fun vo s pl ro S => by
  cases ro
  obtain ⟨es, n, IA, hd, r⟩ := I.at S (m := [])
  refine method_usual S.base.kin IA (plainGet_of (cl_plain c.w x)).1 (plainGet_of (cl_plain c.w x)).2 (N.find c.w) rfl ?_
  refine wpAny_mono (getf_own (Q := fun v σ' => v = .ref f ∧ σ' = σ) I N hl trivial ⟨rfl, rfl⟩ _ s false rfl S) (fun v s' ⟨b, σ', rv, S', m', e1, e2⟩ => ?_) fun _ _ x => x
  subst e1 e2
  cases rv
  exact ⟨f, [], σ', rfl, rfl, S', m', q⟩
/-- o.x(args) of an object -/
theorem T_methI (O : Ok c ks sk gl cs n) {o : Expr} {apos pos : Pos} {args : List Expr}
    (h : TV c (eval o c.env) σ fun a σ₁ => GetM c a x σ₁ fun f l₀ σ₂ => ∃ fo fd, fo.data = .func fd ∧ TL c (spliced (backTo pos (starEach args c.env))) σ₂ fun l σ₃ => FnAt c.w σ₃.mem f fo ∧ ∃ k, k ≤ n ∧ FS c.w k (.ref f) (l₀ ++ l) σ₃.mem fun a m' => Q a ⟨σ₃.vals, m'⟩)
    {pl : Sem Bool} (he : eval (.Call (.Attribute o x apos) args [] pos) c.env = (do
      let ov ← eval o c.env
      standAt apos.atName
      let (f, first) ← holding [ov] (getMethod ov x pl)
      callWith pos f first (backTo pos (starEach args c.env)) [])) (hs : (starEach args c.env).all (fun x => !x.1) = true) : TV c (eval (.Call (.Attribute o x apos) args [] pos) c.env) σ Q := by
  intro s S
  refine MethodCall_ (h.use S fun vo a σ₁ s₁ ro S₁ m₁ h₁ => ?_) he
  refine wpAny_mono (h₁ vo s₁ pl ro S₁) (fun r s₂ ⟨f, l, σ₂, e, rl, S₂, m₂, fo, fd, hfd, h₂⟩ => ?_) fun _ _ x => x
  obtain ⟨fv, first⟩ := r
  cases e
  refine callWith_function_kw (o := fo) (fd := fd) (evalArgs_sp (backTo_all hs) (h₂.use S₂ fun vs l' σ₃ s₃ rl' S₃ m₃ ⟨hfn, k, hk, hc⟩ => ⟨⟨hfn.at S₃, hfd⟩, ?_⟩))
  exact wpAny_mono (call_FS (O.room.le hk) S₃ ((RelL.mv m₃ _ _ rl).append rl') hc) (fun v s' ⟨b, σ', r', S', mv, q⟩ => ⟨b, σ', r', S', ((m₁.trans m₂).trans m₃).trans mv, q⟩) fun _ _ x => x
end
end Mine
end
section
open PySem PySem.W PyProof.Rows PySem.Calls PySem.SeqAt
set_option maxRecDepth 100000
namespace Mine
theorem Room.in1 {A : Around} {n : Nat} (R : Room A (n + 1)) : Room A.in1 n := ⟨R.handled, by have := R.depth; show A.depth + n < _; (first | exact om49 this | omega), by have := R.units; show A.units + 1 + 8 * n + 8 < _; (first | exact om50 this | omega)⟩
theorem Room.call79 {A : Around} {n : Nat} {rest : List Value} {kw : List (Str × Value)} (R : Room A (n + 1)) : Room (A.under (.builtin "type.__call__" ⟨.ref 79 :: rest, kw⟩)) n := by
  have hw : (Code.builtin "type.__call__" ⟨.ref 79 :: rest, kw⟩).weight ≤ 1 := by
    show (Code.builtin "type.__call__" ⟨.ref 79 :: rest, kw⟩).frames + _ + _ + _ ≤ 1
    have h1 : (Code.builtin "type.__call__" ⟨.ref 79 :: rest, kw⟩).frames = 0 := by kernel_rfl
    have h2 : (Code.builtin "type.__call__" ⟨.ref 79 :: rest, kw⟩).isGuard = false := by kernel_rfl
    have h3 : (Code.builtin "type.__call__" ⟨.ref 79 :: rest, kw⟩).isCaller = false := by kernel_rfl
    rw [h1, h2, h3]
    simp only [Bool.false_eq_true, if_false]
    split <;> (first | exact om51 | exact om52 | omega)
  have hu : (Code.builtin "type.__call__" ⟨.ref 79 :: rest, kw⟩).cUnits = 1 := by kernel_rfl
  refine ⟨R.handled, ?_, ?_⟩
  · show A.depth + _ + n < _
    have := R.depth; (first | exact om53 hw this | omega)
  · show A.units + _ + 8 * n + 8 < _
    rw [hu]
    have := R.units; (first | exact om50 this | omega)
/-- a new object, beside all owned ones -/
theorem Pre.pushO {w : World} {m : Mem} {h : Heap} (P : Pre w m h) (o : Obj) (ao : AO) (hself : (h.push o).get? h.objs.size = some o) (ho : ∀ P h', h'.get? h.objs.size = some o → MemOk P h' h.objs.size ao) :
    Pre w ((h.objs.size, ao) :: m) (h.push o) ∧ Mv m.dom h (Mem.dom ((h.objs.size, ao) :: m)) (h.push o) := by
  have hN : h.get? h.objs.size = none := Heap.get?_none_of_le (Nat.le_refl _)
  have mv : Mv m.dom h (Mem.dom ((h.objs.size, ao) :: m)) (h.push o) := by
    intro b o' hn e
    refine ⟨fun q => ?_, Heap.get?_push_of_some _ e⟩
    rcases List.mem_cons.mp q with q | q
    · rw [show b = h.objs.size from q, hN] at e; cases e
    · exact hn q
  refine ⟨⟨P.base.mv mv, List.nodup_cons.mpr ⟨fun q => ?_, P.nd⟩, fun p hp => ?_⟩, mv⟩
  · obtain ⟨p, hp, e⟩ := List.mem_map.mp q
    obtain ⟨o', ho'⟩ := (P.mem p hp).there
    have : h.get? h.objs.size = some o' := by rw [← ho']; exact congrArg _ e.symm
    rw [hN] at this; cases this
  · rcases List.mem_cons.mp hp with rfl | hp
    · exact ho _ _ hself
    · exact (P.mem p hp).other mv fun ob e => Heap.get?_push_of_some _ e
/-- a call of the class -/
theorem FS_class {w : World} {n : Nat} {args : List AV} {mem : Mem} {Q : AV → Mem → Prop}
    (h : ∀ x dx, x ∉ mem.dom → FS w n (.ref 55) (.ref x :: args) ((x, .raw (instObj 79 dx)) :: (dx, .flds []) :: mem) fun a m => a = .none ∧ Q (.ref x) m) : FS w (n + 1) (.ref 79) args mem Q := by
  intro A s vals R P rl
  obtain ⟨hp, g, d, tk, os⟩ := s
  obtain ⟨P1, m1⟩ := P.pushO emptyDict (.flds []) (Heap.get?_push_size _ rfl) fun P h' e => ⟨[], 0, e, rfl⟩
  obtain ⟨P2, m2⟩ := P1.pushO (instObj 79 hp.objs.size) (.raw (instObj 79 hp.objs.size)) (Heap.get?_push_size _ rfl) fun P h' e => e
  have hsz : (hp.push emptyDict).objs.size = hp.objs.size + 1 := Heap.size_push ..
  rw [hsz] at P2 m2
  refine make_core (makes_of P.base.kin (cl_makes w)) (looks_findIn P.base.kin (cl_init w)) (fun self => bind_fn P.base.kin self (cl_initfn w)) (.inl rfl) ?_
  have mm := m1.trans m2
  have hx : hp.objs.size + 1 ∉ mem.dom := fun q => by
    have := List.nodup_cons.mp P2.nd
    exact this.1 (.tail _ q)
  refine codeAny_mono (h (hp.objs.size + 1) hp.objs.size hx (A.under _) ⟨(hp.push emptyDict).push (instObj 79 hp.objs.size), g, d, tk, os⟩ (.ref (hp.objs.size + 1) :: vals) (Room.call79 R) P2 (RelL.cons rfl (RelL.mv mm _ _ rl))) fun r s' ⟨v, av, mem', e, rv, P', mv, sm, ea, q⟩ => ?_
  subst e ea
  cases rv
  exact ⟨rfl, .ref (hp.objs.size + 1), .ref (hp.objs.size + 1), mem', rfl, rfl, P', mm.trans mv, sm, q⟩
section
variable {c : Cx} {ks sk gl cs : List Str} {n : Nat} {σ : AS} {Q : AV → AS → Prop} {i j : Int} {x y : Str}
theorem keep79 (w : World) : keepIn (KF w) (.ref 79) = true := by kernel_rfl
theorem T_callC (O : Ok c ks sk gl cs n) {f : Str} {np pos : Pos} {args : List Expr} (hx : f ∈ gl) (g : GV f (.ref 79))
    (h : TL c (spliced (backTo pos (starEach args c.env))) σ fun l σ₁ => ∃ k, k ≤ n ∧ FS c.w k (.ref 79) l σ₁.mem fun a m' => Q a ⟨σ₁.vals, m'⟩)
    (hs : (starEach args c.env).all (fun x => !x.1) = true := by rfl) : TV c (eval (.Call (.Name f np) args [] pos) c.env) σ Q := by
  intro s S
  refine wpAny_Call_Name_kw ((T_glob (Q := fun a σ' => a = .ref 79 ∧ σ' = σ) O hx g ⟨rfl, rfl⟩).use S fun vf a σ' s' rf S' m' ⟨e1, e2⟩ => ?_)
  subst e1 e2
  cases rf
  refine callWith_of (P := fun h => (KF c.w).In h) (by rw [all_any (backTo_all hs)]; rfl) (keeps_K (keep79 c.w)) (evalArgs_sp (backTo_all hs) (h.use S' fun vs l σ₁ s₁ rl S₁ m₁ ⟨k, hk, hc⟩ => ⟨S₁.base.kin, ?_⟩))
  exact wpAny_mono (call_FS (O.room.le hk) S₁ rl hc) (fun v s' ⟨b, σ', r', S', mv, q⟩ => ⟨b, σ', r', S', (m'.trans m₁).trans mv, q⟩) fun _ _ x => x
/-- iter(method, '') -/
noncomputable abbrev cit (q : Addr) (t : Tok) : Obj := { cls := .type "callable_iterator", data := .fields #[.ref q, .str Str.empty t, .bool false] }
theorem call_of_method : typeLookup (.type "method") "__call__" = pure (some (.builtin "method.__call__")) := by rw [typeLookup_type, builtinLookup_eq_fast]; kernel_rfl
theorem args_iter2 (a b : Value) : argsOk "iter" ⟨[a, b], []⟩ := by unfold argsOk; kernel_rfl
theorem slot_cit_next : PySem.Slot "callable_iterator" "__next__" "callable_iterator.__next__" :=
  .of (owner := "callable_iterator") (n := "__next__") (by rw [typeLookup_type, builtinLookup_eq_fast]; kernel_rfl) (by decide +kernel) (by decide +kernel) (by decide +kernel)
    (by first | exact .inl (by decide +kernel) | exact .inr (by decide +kernel)) (by rw [isSubtype_type]; kernel_rfl)
theorem slot_cit_iter : PySem.Slot "callable_iterator" "__iter__" "callable_iterator.__iter__" :=
  .of (owner := "callable_iterator") (n := "__iter__") (by rw [typeLookup_type, builtinLookup_eq_fast]; kernel_rfl) (by decide +kernel) (by decide +kernel) (by decide +kernel)
    (by first | exact .inl (by decide +kernel) | exact .inr (by decide +kernel)) (by rw [isSubtype_type]; kernel_rfl)
theorem entry_cit_next : entryFor table "callable_iterator.__next__" = some Builtin.«callable_iterator.__next__» := entryFor_of_fast (by kernel_rfl)
theorem entry_cit_iter : entryFor table "callable_iterator.__iter__" = some Builtin.«dict_keyiterator.__iter__» :=
  entryFor_alias (id' := "dict_keyiterator.__iter__") (by kernel_rfl) rfl (by decide +kernel) (by kernel_rfl)
theorem args_cit_next (a : Value) : argsOk "callable_iterator.__next__" ⟨[a], []⟩ := by unfold argsOk; kernel_rfl
theorem args_cit_iter (a : Value) : argsOk "callable_iterator.__iter__" ⟨[a], []⟩ := by unfold argsOk; kernel_rfl
theorem bs_iter2 {q f a : Addr} (hm : (q, AO.raw (methodObj (.ref f) (.ref a))) ∈ σ.mem) (k : ∀ it t, it ∉ σ.mem.dom → Q (.ref it) ⟨σ.vals, (it, .raw (cit q t)) :: σ.mem⟩) : BS c (.builtin "iter") [.ref q, .str Str.empty] σ Q := fun vs s rl S => by
  obtain ⟨v, r0, rfl, ev, ⟨v2, r2, rfl, ⟨t, rfl⟩, rfl⟩⟩ := rl
  cases ev
  have hq : s.heap.get? q = some (methodObj (.ref f) (.ref a)) := S.mem _ hm
  refine call_function_entry (by decide +kernel) (by decide +kernel) kdk_entry_iter (args_iter2 _ _) ?_
  unfold Builtin.«iter»
  refine wpAny_bind (m := someArgs "iter" 1 2 _) (wpAny_of_eq (a := [Value.ref q, .str Str.empty t]) (by first | rfl | kernel_rfl!) ?_)
  dsimp only
  refine wpAny_bind (wpAny_specialOf (T := "method") ⟨_, hq, rfl⟩ call_of_method ?_)
  simp only [Option.isNone_some, Bool.false_eq_true, if_false]
  refine wpAny_bind (wpAny_rule ?_)
  obtain ⟨S', m'⟩ := S.pushRaw (cit q t) s.toks (Heap.get?_push_size _ rfl)
  show wpAny _ _ (newObj (.type "callable_iterator") (.fields #[.ref q, .str Str.empty t, .bool false]) >>= fun v => ret v) _ _ s
  refine wpAny_bind (wpAny_newObj_type ?_ (by size_fits))
  exact wpAny_pure ⟨_, rfl, .ref s.heap.objs.size, _, rfl, S', m', k _ _ fun z => fresh_not S (.tail _ (List.mem_append_right _ z))⟩
theorem iter_cit {it q : Addr} {t : Tok} {s : Shared} {R : Value → Shared → Prop} {E : Value → Shared → Prop} (hm : (it, AO.raw (cit q t)) ∈ σ.mem) (S : Sat c σ s) (h : R (.ref it) s) : wpAny (model prog c.w) c.A (pyIter (.ref it)) R E s := by
  have ho : s.heap.get? it = some (cit q t) := S.mem _ hm
  refine wpAny_pyIter_slot (T := "callable_iterator") ⟨_, ho, rfl⟩ slot_cit_iter (wpAny_call_entry slot_cit_iter ⟨_, ho, rfl⟩ entry_cit_iter ?_ (args_cit_iter _))
  show wpAny _ _ (ret (.ref it)) _ _ s
  exact wpAny_pure ⟨_, rfl, "callable_iterator", _, ⟨_, ho, rfl⟩, slot_cit_next.lookup, h⟩
theorem cb_eq (f : Value) : callBorrowed f [] = (call f []).keep [borrowed] := by
  unfold callBorrowed call runValue run
  refine congrArg (Sem.call _ _ _ _) (funext fun r => ?_)
  cases r with
  | error e => rfl
  | ok f => cases f <;> rfl
theorem borrows_method {M : Model} {A : Around} {E : Value → Shared → Prop} {s : Shared} {q f : Addr} {self : Value} {fo : Obj} {fd : FuncData} {R : Bool → Shared → Prop} (hq : s.heap.get? q = some (methodObj (.ref f) self)) (hf : s.heap.get? f = some fo) (hfd : fo.data = .func fd) (h : R true s) :
    wpAny M A (borrowsExactly (.ref q)) R E s := by
  unfold borrowsExactly
  refine wpAny_bind (wpAny_load hq ?_)
  dsimp only
  rw [if_pos (by decide)]
  refine wpAny_bind (wpAny_load (a := f) hf ?_)
  rw [hfd]
  exact wpAny_pure h
/-- the next item of an iterator that calls -/
noncomputable def NX (c : Cx) (it : Addr) (σ : AS) (K : Option AV → AS → Prop) : Prop :=
  ∀ s, Sat c σ s → wpAny (model prog c.w) c.A (pyNext (.ref it)) (fun r s' => ∃ o σ', (match o, r with | none, none => True | some a, some v => Rel (own c σ'.mem) s'.heap a v | _, _ => False) ∧ Sat c σ' s' ∧ Mv (own c σ.mem) s.heap (own c σ'.mem) s'.heap ∧ K o σ') (fun _ _ => False) s
noncomputable abbrev citEnd : Obj := { cls := .type "callable_iterator", data := .fields #[.none, .none, .bool true] }
theorem nx_cit {m : Nat} {it q f a : Addr} {t : Tok} {K : Option AV → AS → Prop} (R : Room c.A (m + 1)) (hf : IsFn f) (hit : (it, AO.raw (cit q t)) ∈ σ.mem) (hq : (q, AO.raw (methodObj (.ref f) (.ref a))) ∈ σ.mem)
    (h : FS c.w m (.ref f) [.ref a] σ.mem fun r m' => ∃ x, r = .str x ∧ (it, AO.raw (cit q t)) ∈ m' ∧ (q, AO.raw (methodObj (.ref f) (.ref a))) ∈ m' ∧
      if x = Str.empty then ∃ m'', MUp m' it (.raw (cit q t)) (.raw citEnd) m'' ∧ K none ⟨σ.vals, m''⟩ else K (some (.str x)) ⟨σ.vals, m'⟩) : NX c it σ K := fun s S => by
  have ho : s.heap.get? it = some (cit q t) := S.mem _ hit
  have hqo : s.heap.get? q = some (methodObj (.ref f) (.ref a)) := S.mem _ hq
  obtain ⟨fo, fd, hfo, hfd⟩ := hf c.w
  have hfo' : s.heap.get? f = some fo := S.base.kin _ _ hfo
  unfold pyNext
  refine wpAny_bind (wpAny_attempt (wpAny_callSpecial?_slot (name := Str.ofString "__next__") ⟨_, ho, rfl⟩ slot_cit_next
    (wpAny_call_entry slot_cit_next ⟨_, ho, rfl⟩ entry_cit_next ?_ (args_cit_next _))))
  unfold Builtin.«callable_iterator.__next__»
  refine wpAny_bind (wpAny_pure ?_)
  refine wpAny_bind (wpAny_field ho rfl (x := .bool false) rfl ?_)
  rw [if_neg (show ¬ ((Value.bool false == Value.bool true) = true) from Bool.false_ne_true)]
  show wpAny _ _ (field (.ref it) 0 >>= _) _ _ s
  refine wpAny_bind (wpAny_field ho rfl (x := .ref q) rfl ?_)
  refine wpAny_bind (wpAny_attempt ?_)
  unfold callOutOfASlot
  refine wpAny_bind (borrows_method hqo hfo' hfd ?_)
  simp only [if_true]
  rw [cb_eq]
  refine wpAny_keep (wpAny_call (method_call hqo ?_))
  have big : ∀ b ∈ σ.mem.dom, b ∈ own c σ.mem := fun b hb => .tail _ (List.mem_append_right _ hb)
  refine codeAny_mono (h c.A.in1 s [.ref a] R.in1 S.pre (.one rfl)) fun r s' ⟨v, av, m', e, rv, P', mv, sm, x, ex, h1, h2, hK⟩ => ?_
  subst e ex
  obtain ⟨S', mv'⟩ := S.back P' mv sm
  obtain ⟨u, rfl⟩ := rv
  have ho' : s'.heap.get? it = some (cit q t) := S'.mem _ h1
  have hq' : s'.heap.get? q = some (methodObj (.ref f) (.ref a)) := S'.mem _ h2
  have hf' : s'.heap.get? f = some fo := S'.base.kin _ _ hfo
  show wpAny _ _ (field (.ref it) 2 >>= _) _ _ s'
  refine wpAny_bind (wpAny_field ho' rfl (x := .bool false) rfl ?_)
  rw [if_neg (show ¬ ((Value.bool false == Value.bool true) = true) from Bool.false_ne_true)]
  show wpAny _ _ (field (.ref it) 1 >>= _) _ _ s'
  refine wpAny_bind (wpAny_field ho' rfl (x := .str Str.empty t) rfl ?_)
  refine wpAny_bind (wpAny_holding (EqAt.str_str (A := c.A.in1) (s := s') Str.empty t x u prog c.w _ _ ?_))
  by_cases hx : x = Str.empty
  · subst hx
    rw [if_pos rfl] at hK
    obtain ⟨m'', um, hK⟩ := hK
    rw [beq_self_eq_true]
    simp only [Bool.not_true, Bool.false_eq_true, if_false]
    refine wpAny_bind (wpAny_rule ?_)
    show wpAny _ _ ((do
      slotLetsGo "callable_iterator.__next__" (← field (.ref it) 0) fun | .builtin "callable_iterator.__next__" x => x.pos.head? == some (.ref it) | _ => false
      setField (.ref it) 0 .none; setField (.ref it) 1 .none; setField (.ref it) 2 (.bool true)) >>= _) _ _ s'
    refine wpAny_bind (wpAny_bind (wpAny_field ho' rfl (x := .ref q) rfl ?_))
    unfold slotLetsGo
    refine wpAny_bind (wpAny_bind (borrows_method hq' hf' hfd ?_))
    simp only [if_true]
    refine wpAny_pure ?_
    have g1 : (s'.heap.update it (Obj.mapFields (·.setIfInBounds 0 .none))).get? it = some { cls := .type "callable_iterator", data := .fields #[.none, .str Str.empty t, .bool false] } := Heap.get?_update_self _ ho' rfl
    refine wpAny_bind (wpAny_setField ho' rfl (by show 0 < 3; (first | exact om55 | omega)) ?_)
    have g2 : ((s'.heap.update it (Obj.mapFields (·.setIfInBounds 0 .none))).update it (Obj.mapFields (·.setIfInBounds 1 .none))).get? it = some { cls := .type "callable_iterator", data := .fields #[.none, .none, .bool false] } := Heap.get?_update_self _ g1 rfl
    refine wpAny_bind (wpAny_setField (s := { s' with heap := s'.heap.update it (Obj.mapFields (·.setIfInBounds 0 .none)) }) g1 rfl (by show 1 < 3; (first | exact om56 | omega)) ?_)
    have g3 : (((s'.heap.update it (Obj.mapFields (·.setIfInBounds 0 .none))).update it (Obj.mapFields (·.setIfInBounds 1 .none))).update it (Obj.mapFields (·.setIfInBounds 2 (.bool true)))).get? it = some citEnd := Heap.get?_update_self _ g2 rfl
    refine wpAny_setField (s := { s' with heap := (s'.heap.update it (Obj.mapFields (·.setIfInBounds 0 .none))).update it (Obj.mapFields (·.setIfInBounds 1 .none)) }) g2 rfl (by show 2 < 3; (first | exact om57 | omega)) ?_
    have sb : Heap.SameBut it s'.heap (((s'.heap.update it (Obj.mapFields (·.setIfInBounds 0 .none))).update it (Obj.mapFields (·.setIfInBounds 1 .none))).update it (Obj.mapFields (·.setIfInBounds 2 (.bool true)))) :=
      ((Heap.SameBut.update ..).trans (Heap.SameBut.update ..)).trans (Heap.SameBut.update ..)
    obtain ⟨S3, m3⟩ := S'.setO um sb g3 s'.toks
    generalize hH : ((s'.heap.update it (Obj.mapFields (·.setIfInBounds 0 .none))).update it (Obj.mapFields (·.setIfInBounds 1 .none))).update it (Obj.mapFields (·.setIfInBounds 2 (.bool true))) = H at *
    show wpAny _ _ (newExc (.type "StopIteration") [] >>= _) _ _ _
    refine wpAny_bind ?_
    simp only [newExc, newTuple]
    refine wpAny_bind (wpAny_newObj_type ?_ (by size_fits))
    refine wpAny_bind (m := firstArgMember _ _) (wpAny_of_eq (a := Value.none) (by first | rfl | (simp only [firstArgMember]; rfl)) ?_)
    refine wpAny_newObj_type ?_ (by size_fits)
    simp only [raiseNew]
    refine wpAny_bind (wpAny_handled ?_)
    rw [show c.A.in1.handled = none from R.handled]
    refine wpAny_bind (wpAny_pure (wpAny_throw ?_))
    refine wpAny_bind (wpAny_isInstance (T := "StopIteration") (b := true) ⟨_, Heap.get?_push_size _ rfl, rfl⟩ isSubtype_stop ?_)
    exact wpAny_pure ⟨none, _, trivial, (S3.push _).push _, ((mv'.trans m3).trans (.push _)).trans (.push _), hK⟩
  · have hb : (Str.empty == x) = false := beq_eq_false_iff_ne.mpr fun e => hx e.symm
    rw [if_neg hx] at hK
    rw [hb]
    simp only [Bool.not_false, if_true]
    exact wpAny_pure ⟨_, rfl, wpAny_pure ⟨some (.str x), _, ⟨u, rfl⟩, S', mv', hK⟩⟩
/-- for over an iterator that calls -/
theorem T_ForN (O : Ok c ks sk gl cs n) {target iter : Expr} {body orelse : List Stmt} {pos : Pos} {R : AF → AS → Prop} (I : Addr → Nat → AS → Prop) (k₀ : Nat)
    (start : TV c (eval iter c.env) σ fun a σ₁ => ∃ it q t, a = .ref it ∧ (it, AO.raw (cit q t)) ∈ σ₁.mem ∧ I it k₀ σ₁)
    (turn : ∀ it k σ, I it k σ → NX c it σ fun o σ₁ => match o with
      | none => TF c (execs orelse c.env) σ₁ R
      | some a => TA c target a σ₁ fun σ₂ => TF c (execs body c.env) σ₂ fun f σ₃ => match f with
        | .next | .cont => ∃ k', k' < k ∧ I it k' σ₃
        | .brk => R .next σ₃
        | .ret v => R (.ret v) σ₃)
    (hs : ∀ x, foldedSetIterable iter c.env x = pure x) (ht : ∀ it v, letOwnedTupleGo target it v = pure ()) : TF c (exec (.For target iter body orelse pos) c.env) σ R := by
  intro s S
  refine wpAny_For (start.use S fun v a σ₁ s₁ ra S₁ m₁ ⟨it, q, t, e, hm, hI⟩ => ?_) hs
  subst e
  cases ra
  refine iter_cit hm S₁ ?_
  refine codeAny_forLoop (fun k s' => ∃ σ', I it k σ' ∧ Sat c σ' s' ∧ Mv (own c σ.mem) s.heap (own c σ'.mem) s'.heap) (fun k s' ⟨σ', hI', S', m'⟩ => ?_) k₀ ⟨σ₁, hI, S₁, m₁⟩ (ht _)
  refine wpAny_mono (turn it k σ' hI' s' S') (fun r s₃ ⟨o, σ₃, ro, S₃, m₃, h₃⟩ => ?_) fun _ _ x => x.elim
  cases r with
  | none =>
    cases o with
    | some a => exact ro.elim
    | none =>
      exact wpAny_mono ((show TF c (execs orelse c.env) σ₃ R from h₃) s₃ S₃) (fun f s₄ ⟨f', σ₄, rf, S₄, m₄, q⟩ => ⟨f', σ₄, rf, S₄, (m'.trans m₃).trans m₄, q⟩) fun _ _ x => x.elim
  | some v =>
    cases o with
    | none => exact ro.elim
    | some a =>
      refine wpAny_mono ((show TA c target a σ₃ _ from h₃) v s₃ ro S₃) (fun _ s₄ ⟨σ₄, S₄, m₄, h₄⟩ => ?_) fun _ _ x => x.elim
      refine wpAny_mono (h₄ s₄ S₄) (fun f s₅ ⟨f', σ₅, rf, S₅, m₅, q⟩ => ?_) fun _ _ x => x.elim
      have big := ((m'.trans m₃).trans m₄).trans m₅
      cases f' with
      | next => cases rf; obtain ⟨k', hk, hI⟩ := q; exact ⟨k', hk, σ₅, hI, S₅, big⟩
      | cont => cases rf; obtain ⟨k', hk, hI⟩ := q; exact ⟨k', hk, σ₅, hI, S₅, big⟩
      | brk => cases rf; exact ⟨.next, σ₅, rfl, S₅, big, q⟩
      | ret b => obtain ⟨v, rfl, r⟩ := rf; exact ⟨.ret b, σ₅, ⟨v, rfl, r⟩, S₅, big, q⟩
end
end Mine
end
section
open PySem PySem.W PyProof.Rows PySem.Calls PySem.SeqAt
set_option maxRecDepth 100000
namespace Mine
section
variable {c : Cx} {ks sk gl cs : List Str} {n : Nat} {σ : AS} {Q : AV → AS → Prop} {i j : Int} {x y : Str}
theorem Sat.next {s s' : Shared} {mem' : Mem} (S : Sat c σ s) (mv : Mv (own c σ.mem) s.heap (own c mem') s'.heap) (keep : ∀ b ∈ c.env.locals :: c.oc, ∀ o, s.heap.get? b = some o → s'.heap.get? b = some o)
    (nd : (own c mem').Nodup) (mem : MemAll (own c mem') s'.heap mem') (sm : Same s s') : Sat c ⟨σ.vals, mem'⟩ s' := by
  have cellK : ∀ a ∈ c.oc, ∀ v, s.heap.IsCell a v → s'.heap.IsCell a v := fun a ha v ⟨o, ho, hd⟩ => ⟨o, keep a (.tail _ ha) o ho, hd⟩
  obtain ⟨m, ⟨oL, es, ep, hL, hLr⟩, sl⟩ := S.slots
  refine ⟨S.base.mv mv, nd, ⟨m, ⟨oL, es, ep, keep _ (.head _) _ hL, hLr⟩, sl.mono fun y av sy => sy.mv mv fun a ha v _ q => cellK a ha _ q⟩, fun a ha => ?_, mem, sm.1.trans S.gens, sm.2.1.trans S.drawn, sm.2.2.trans S.os⟩
  obtain ⟨v, q⟩ := S.cells a ha
  exact ⟨v, cellK a ha v q⟩
/-- a lambda made -/
theorem T_lambda (O : Ok c ks sk gl cs n) {params : Arguments} {body : Expr} {scope : Scope} {pos : Pos} {clos : List (Str × Addr)} {mem' : Obj → Mem} (hdef : defaultsOf params c.env = ([], [])) (hcl : closureFor scope c.env = pure clos) (hcode : c.env.code = .ref 125)
    (u : ∀ o, MUp σ.mem 121 (.raw (tabObj #[])) (.raw o) (mem' o))
    (q : ∀ fo c' pm ctv oc vs t (tps : Array Value), fo ≠ c' → fo ∉ σ.mem.dom → c' ∉ σ.mem.dom → oc.data = .fields vs → vs[1]? = some (.str (c.env.qual ++ "<lambda>") t) →
      Q (.ref fo) ⟨σ.vals, (fo, .raw (kla_obj "<lambda>" (c.env.qual ++ "<lambda>") params body scope clos pm c' ctv)) :: (c', .raw oc) :: mem' (tabObj tps)⟩) :
    TV c (eval (.Lambda params body scope pos) c.env) σ Q := by
  intro s S
  refine kla_eval hdef ?_
  obtain ⟨mg, G⟩ := S.base.gns
  have h121 : s.heap.get? 121 = some (tabObj #[]) := S.mem _ (u (tabObj #[])).mem
  have hCK : codeHdIn (KF c.w) 125 121 = true := by kernel_rfl
  have hC := codeHd_of_K S.base.kin hCK
  obtain ⟨bm, ob, e, hne, hnb, hob, hcls, hdict, hdata⟩ := S.base.bm
  have hbm := mg_of S.base.kin G e
  have bm1 : bm ≠ mainGlobals := fun z => by
    obtain ⟨o, es, ep, ho, hd, _⟩ := G
    rw [z, ho] at hob; cases hob; rw [hdata] at hd; cases hd
  have bm2 : bm ≠ 121 := fun z => by rw [z, h121] at hob; cases hob; cases hcls
  have gP : mainGlobals ≠ 121 := by decide
  refine kla_makeFunction (mg := mg) hcl O.globals G hcode hC h121 trivial rfl gP ⟨bm, ob, hbm, hne, bm1, bm2, hob, hcls, hdict, hdata⟩ fun c' ctv h' tk hx hge hlt hrec htb => ?_
  obtain ⟨c2, oc, vs, t, ec, hoc, hd, hv⟩ := hrec
  cases ec
  -- the new heap
  have hself : (h'.push (kla_obj "<lambda>" (c.env.qual ++ "<lambda>") params body scope clos ((mg "__name__").getD .none) c' ctv)).get? h'.objs.size = some (kla_obj "<lambda>" (c.env.qual ++ "<lambda>") params body scope clos ((mg "__name__").getD .none) c' ctv) := Heap.get?_push_size _ rfl
  generalize hfo : kla_obj "<lambda>" (c.env.qual ++ "<lambda>") params body scope clos ((mg "__name__").getD .none) c' ctv = fobj at hself ⊢
  generalize htab : tabObj (#[] ++ #[rawInt pos.line, rawInt pos.col, Value.ref c']) = tab at htb
  have nd := S.nd
  have np := nd_parts S.nd
  have u0 := u tab
  have d121 : (121 : Addr) ∈ σ.mem.dom := List.mem_map_of_mem u0.mem
  have hlt' : s.heap.objs.size < h'.objs.size := Nat.lt_of_le_of_lt hge hlt
  have old : ∀ b o, s.heap.get? b = some o → b < s.heap.objs.size := fun b o e => Heap.lt_size e
  have ownOld : ∀ b ∈ own c σ.mem, b < s.heap.objs.size := by
    intro b hb
    rcases List.mem_cons.mp hb with q | q
    · obtain ⟨m, ⟨oL, _, _, hL, _⟩, _⟩ := S.slots
      exact old b _ (q ▸ hL)
    · rcases List.mem_append.mp q with q | q
      · obtain ⟨v, o, ho, _⟩ := S.cells _ q; exact old b _ ho
      · obtain ⟨p, hp, e⟩ := List.mem_map.mp q
        obtain ⟨o, ho⟩ := (S.mem p hp).there
        exact old b o (e ▸ ho)
  have keep : ∀ b o, b ≠ 121 → s.heap.get? b = some o → (h'.push fobj).get? b = some o := fun b o hb e => Heap.get?_push_of_some _ (hx b o hb e)
  have domN : (Mem.dom ((h'.objs.size, AO.raw fobj) :: (c', AO.raw oc) :: mem' tab)) = h'.objs.size :: c' :: σ.mem.dom := by
    show h'.objs.size :: c' :: (mem' tab).dom = _
    rw [u0.dom]
  have memOwn : ∀ b, b ∈ own c ((h'.objs.size, AO.raw fobj) :: (c', AO.raw oc) :: mem' tab) → b = h'.objs.size ∨ b = c' ∨ b ∈ own c σ.mem := by
    intro b hb
    have hb : b ∈ c.env.locals :: (c.oc ++ Mem.dom ((h'.objs.size, AO.raw fobj) :: (c', AO.raw oc) :: mem' tab)) := hb
    rw [domN] at hb
    rcases List.mem_cons.mp hb with q | q
    · exact .inr (.inr (q ▸ .head _))
    · rcases List.mem_append.mp q with q | q
      · exact .inr (.inr (.tail _ (List.mem_append_left _ q)))
      · rcases List.mem_cons.mp q with q | q
        · exact .inl q
        · rcases List.mem_cons.mp q with q | q
          · exact .inr (.inl q)
          · exact .inr (.inr (.tail _ (List.mem_append_right _ q)))
  have mv : Mv (own c σ.mem) s.heap (own c ((h'.objs.size, AO.raw fobj) :: (c', AO.raw oc) :: mem' tab)) (h'.push fobj) := by
    intro b o hn e
    have hb := old b o e
    refine ⟨fun q => ?_, keep b o (fun z => hn (z ▸ .tail _ (List.mem_append_right _ d121))) e⟩
    rcases memOwn b q with q | q | q
    · rw [q] at hb; exact Nat.lt_irrefl _ (Nat.lt_trans hb hlt')
    · rw [q] at hb; exact Nat.lt_irrefl _ (Nat.lt_of_lt_of_le hb hge)
    · exact hn q
  have S' : Sat c ⟨σ.vals, (h'.objs.size, .raw fobj) :: (c', .raw oc) :: mem' tab⟩ { s with heap := h'.push fobj, toks := tk } := by
    refine S.next mv (fun b hb o e => keep b o (fun z => ?_) e) ?_ ?_ ⟨rfl, rfl, rfl⟩
    · subst z
      rcases List.mem_cons.mp hb with q | q
      · exact np.2.1 (q ▸ d121)
      · exact np.2.2 _ q d121
    · show (c.env.locals :: (c.oc ++ Mem.dom ((h'.objs.size, AO.raw fobj) :: (c', AO.raw oc) :: mem' tab))).Nodup
      rw [domN]
      have q := List.nodup_cons.mp nd
      have q2 := List.nodup_append.mp q.2
      have big1 : ∀ b ∈ own c σ.mem, b ≠ h'.objs.size := fun b hb z => by have := ownOld b hb; rw [z] at this; exact Nat.lt_irrefl _ (Nat.lt_trans this hlt')
      have big2 : ∀ b ∈ own c σ.mem, b ≠ c' := fun b hb z => by have := ownOld b hb; rw [z] at this; exact Nat.lt_irrefl _ (Nat.lt_of_lt_of_le this hge)
      refine List.nodup_cons.mpr ⟨fun z => ?_, List.nodup_append.mpr ⟨q2.1, List.nodup_cons.mpr ⟨fun z => ?_, List.nodup_cons.mpr ⟨fun z => big2 c' (.tail _ (List.mem_append_right _ z)) rfl, q2.2.1⟩⟩, fun a ha b hb e => ?_⟩⟩
      · rcases List.mem_append.mp z with z | z
        · exact q.1 (List.mem_append_left _ z)
        · rcases List.mem_cons.mp z with z | z
          · exact big1 _ (.head _) z
          · rcases List.mem_cons.mp z with z | z
            · exact big2 _ (.head _) z
            · exact q.1 (List.mem_append_right _ z)
      · rcases List.mem_cons.mp z with z | z
        · exact Nat.lt_irrefl _ (show h'.objs.size < h'.objs.size by rw [show (h'.objs.size : Nat) = c' from z]; exact z ▸ hlt)
        · exact big1 _ (.tail _ (List.mem_append_right _ z)) rfl
      · subst e
        rcases List.mem_cons.mp hb with z | z
        · exact big1 a (.tail _ (List.mem_append_left _ ha)) z
        · rcases List.mem_cons.mp z with z | z
          · exact big2 a (.tail _ (List.mem_append_left _ ha)) z
          · exact q2.2.2 a ha a z rfl
    · intro p hp
      rcases List.mem_cons.mp hp with rfl | hp
      · exact hself
      · rcases List.mem_cons.mp hp with rfl | hp
        · exact Heap.get?_push_of_some _ hoc
        · rcases u0.cases (List.nodup_append.mp (List.nodup_cons.mp nd).2).2.1 p hp with e | ⟨h1, h2⟩
          · subst e; exact Heap.get?_push_of_some _ htb
          · exact (S.mem p h1).other mv fun ob e => keep _ _ h2 e
  have notDom : ∀ b, s.heap.objs.size ≤ b → b ∉ σ.mem.dom := fun b hb z => Nat.lt_irrefl _ (Nat.lt_of_lt_of_le (ownOld b (.tail _ (List.mem_append_right _ z))) hb)
  exact ⟨.ref h'.objs.size, _, rfl, S', mv, by rw [← hfo, ← htab]; exact q _ c' _ ctv oc vs t _ (fun z => Nat.lt_irrefl _ (z ▸ hlt)) (notDom _ (Nat.le_of_lt hlt')) (notDom _ hge) hd hv⟩
/-- a captured name whose cell is owned memory -/
theorem T_freeName (O : Ok c ks sk gl cs n) {pos : Pos} {ca : Addr} {o : Obj} {v : AV} {val : Value} (hk : c.env.kindOf x = some .free) (hl : c.env.cells.lookup x = some ca) (hm : (ca, AO.raw o) ∈ σ.mem) (ho : o.data = .cell (some val)) (hv : ∀ P h, Rel P h v val)
    (h1 : (x == ("__classdict__" : Str)) = false) (h2 : (x == ("__debug__" : Str)) = false) (q : Q v σ) : TV c (eval (.Name x pos) c.env) σ Q := fun s S =>
  wpAny_Name (wpAny_loadName_free O.kind hk hl ⟨o, S.mem _ hm, ho⟩ ⟨v, σ, hv _ _, S, .refl, q⟩ h1) h2
end
/-- a call of a lambda that lies in owned memory -/
theorem FS_lam {w : World} {n : Nat} {fo c' : Addr} {name qual p : Str} {params : Arguments} {body : Expr} {scope : Scope} {cl : List (Str × Addr)} {pm ctv : Value} {oc : Obj} {vs : Array Value} {t : Tok} {arg : AV} {mem : Mem} {Q : AV → Mem → Prop}
    (hfo : (fo, AO.raw (kla_obj name qual params body scope cl pm c' ctv)) ∈ mem) (hc : (c', AO.raw oc) ∈ mem) (hd : oc.data = .fields vs) (hv : vs[1]? = some (.str qual t))
    (hbind : ∀ v, bindArgs (kla_fn name qual params body scope cl pm (.ref c') ctv) ⟨[v], []⟩ = pure [(p, v)]) (hloc : scope.names.lookup p = some .local) (hdbg : (p == ("__debug__" : Str)) = false)
    (hco : scope.isCoroutine = false) (hgen : scope.isGenerator = false) (hk : scope.kind = .function) (hcell : ∀ x ∈ scope.names, x.2 ≠ .cell)
    (h : ∀ c : Cx, c.w = w → Ok c [p] [p] [] [] n → (∀ x, c.env.kindOf x = scope.names.lookup x) → c.env.cells = cl → TV c (eval body c.env) ⟨[arg], mem⟩ fun a σ => Q a σ.mem) :
    FS w (n + 1) (.ref fo) [arg] mem Q := by
  intro A s vals R P rl
  obtain ⟨v, r, rfl, rv, rfl⟩ := rl
  have ho : s.heap.get? fo = some (kla_obj name qual params body scope cl pm c' ctv) := P.mem _ hfo
  have hoc : s.heap.get? c' = some oc := P.mem _ hc
  refine kla_callFunE (by have := R.depth; (first | exact om58 this | omega)) ho rfl hco hgen rfl ⟨c', oc, vs, t, rfl, hoc, hd, hv⟩ ?_
  rw [hbind]
  refine wpAny_pure (wpAny_newFunctionEnv hcell (by intro y hy; rw [List.mem_singleton] at hy; subst hy; exact hloc) (fun h₁ hns hsb => ⟨(P.base.noLimit).fresh _ hsb, ?_⟩) hk)
  show codeAny _ _ (.expr body (envX qual scope s.heap.objs.size fo (.ref c') cl)) _ _
  have hN : s.heap.get? s.heap.objs.size = none := Heap.get?_none_of_le (Nat.le_refl _)
  have hk₁ : ∀ b o, s.heap.get? b = some o → h₁.get? b = some o := fun b o e => hsb.extBut b o (Nat.ne_of_lt (Heap.lt_size e)) (Heap.get?_push_of_some _ e)
  let env := envX qual scope s.heap.objs.size fo (.ref c') cl
  let c : Cx := ⟨w, A.deeper env, env, [p], [], s.gens, s.drawn, s.os⟩
  have mv₁ : Mv mem.dom s.heap (own c mem) h₁ := by
    intro b o hn e
    refine ⟨fun q => ?_, hk₁ b o e⟩
    rcases List.mem_cons.mp q with q | q
    · rw [show b = s.heap.objs.size from q, hN] at e; cases e
    · exact hn q
  have O : Ok c [p] [p] [] [] n := by
    refine ⟨rfl, hk, (show [p].Nodup by simp), fun x hx => ?_, (fun x hx => nomatch hx), fun x hx => ?_, (fun x hx => nomatch hx), (fun x y a ha => nomatch ha), rfl, rfl, ⟨R.handled, ?_, ?_⟩⟩
    · rw [List.mem_singleton] at hx; subst hx; exact .inl hloc
    · rw [List.append_nil, List.mem_singleton] at hx; subst hx; exact hdbg
    · show A.depth + 1 + n < recursionLimit
      have := R.depth; (first | exact om59 this | omega)
    · show A.units + 3 + 8 * n + 8 < cLine
      have := R.units; (first | exact om60 this | omega)
  have S : Sat c ⟨[arg], mem⟩ { s with heap := h₁, toks := s.toks + 1 } := by
    refine ⟨P.base.mv mv₁, ?_, ⟨_, hns, ?_⟩, (fun a ha => nomatch ha), fun q hq => (P.mem q hq).other mv₁ fun ob e => hk₁ _ _ e, rfl, rfl, rfl⟩
    · refine List.nodup_cons.mpr ⟨fun q => ?_, P.nd⟩
      obtain ⟨z, hz, e⟩ := List.mem_map.mp q
      obtain ⟨o, ho⟩ := (P.mem z hz).there
      have : s.heap.get? s.heap.objs.size = some o := by rw [← ho]; exact congrArg _ e.symm
      rw [hN] at this; cases this
    · refine ⟨arg, [], rfl, ?_, rfl⟩
      exact .loc v hloc (by show List.lookup p [(p, v)] = some v; rw [List.lookup_cons, beq_self_eq_true]) (Rel.mv mv₁ _ _ rv)
  refine kla_codeExpr (wpAny_mono (h c rfl O (fun _ => rfl) rfl _ S) (fun a s' ⟨b, σ', rf, S', m', q⟩ => ?_) fun _ _ x => x.elim)
  have subd : ∀ b ∈ σ'.mem.dom, b ∈ own c σ'.mem := fun b hb => .tail _ (List.mem_append_right _ hb)
  exact ⟨a, b, σ'.mem, rfl, Rel.mv (.weak subd) _ _ rf, S'.pre, (mv₁.trans m').trans (.weak subd), ⟨S'.gens, S'.drawn, S'.os⟩, q⟩
theorem MUp.pre {m m' : Mem} {a : Addr} {o o' : AO} (u : MUp m a o o' m') : ∀ pre : Mem, MUp (pre ++ m) a o o' (pre ++ m')
  | [] => u
  | _ :: pre => .tail (u.pre pre)
/-- entering a def; what is owned at the end may be given up in part -/
theorem FS_inD {w : World} {n : Nat} {fa : Addr} {args : List AV} {mem : Mem} {Q : AV → Mem → Prop} {oc : Value} {od : Option Addr} {osl : Array (Option Value)} {fd : FuncData} {body : List Stmt} (pn ks gl cs : List Str) (vals0 : List AV) {rest : List Str} {dav : List AV} {dv : List Value}
    (ho : (KF w).lookup fa = some ⟨oc, od, .func fd, osl⟩) (hb : fd.body = .stmts body) (hst : fnSt fd ks gl cs = true) (hcd : codeIn (KF w) fd.code fd.qualname = true) (hks : ks = pn ++ rest)
    (hl : args.length + dav.length = pn.length) (hdv : ∀ P h, RelL P h dav dv) (hv : (args ++ dav) ++ rest.map (fun _ => .unb) = vals0) (hbind : ∀ vals : List Value, vals.length = args.length → ∀ S, peek (KF w) S (bindArgs fd ⟨vals, []⟩) = some (pn.zip (vals ++ dv)))
    (h : ∀ c : Cx, c.w = w → Ok c ks ks gl cs n → TF c (execs body c.env) ⟨vals0, mem⟩ (fun f σ => ∃ mem', mem'.Sublist σ.mem ∧ match f with | .ret a => Q a mem' | _ => Q .none mem')) :
    FS w (n + 1) (.ref fa) args mem Q :=
  FS_enterX ho hb hst hcd hks hl hdv hbind fun c hw O _ => (hv ▸ h c hw O).mono fun f σ ⟨mem', sub, q⟩ s' S' =>
    ⟨mem', fun b hb => .tail _ (List.mem_append_right _ ((sub.map _).subset hb)), hw ▸ (S'.drop sub).1.pre, by cases f <;> exact q⟩
end Mine
end
section
open PySem PySem.W PyProof.Rows PySem.Calls PySem.SeqAt
set_option maxRecDepth 100000
namespace Mine
/-- what a goal behind a statement comes to: named, so that terms stay small -/
noncomputable def Land (C R : AF → AS → Prop) : Prop := ∀ f σ, C f σ → R f σ
theorem land {C R : AF → AS → Prop} {f : AF} {σ : AS} (h : Land C R) (x : C f σ) : R f σ := h _ _ x
theorem T_consR {c : Cx} {σ : AS} {st : Stmt} {rest : List Stmt} {Q : AF → AS → Prop} (h : ∀ R : AF → AS → Prop, Land (fun f σ₁ => match f with | .next => TF c (execs rest c.env) σ₁ Q | f => Q f σ₁) R → TF c (exec st c.env) σ R) :
    TF c (execs (st :: rest) c.env) σ Q := T_cons (h _ fun _ _ x => x)
theorem len1 {α : Type} {l : List α} (h : l.length = 1) : ∃ a, l = [a] := by
  cases l with
  | nil => cases h
  | cons a l => cases l with
    | nil => exact ⟨a, rfl⟩
    | cons _ _ => exact absurd (Nat.succ.inj h) (Nat.succ_ne_zero _)
theorem lenS {α : Type} {l : List α} {n : Nat} (h : l.length = n + 1) : ∃ a r, l = a :: r ∧ r.length = n := by
  cases l with
  | nil => cases h
  | cons a l => exact ⟨a, l, rfl, Nat.succ.inj h⟩
theorem len2 {α : Type} {l : List α} (h : l.length = 2) : ∃ a b, l = [a, b] := by
  obtain ⟨a, r, rfl, k⟩ := lenS h
  obtain ⟨b, rfl⟩ := len1 k
  exact ⟨a, b, rfl⟩
theorem len3 {α : Type} {l : List α} (h : l.length = 3) : ∃ a b c, l = [a, b, c] := by
  obtain ⟨a, r, rfl, k⟩ := lenS h
  obtain ⟨b, c, rfl⟩ := len2 k
  exact ⟨a, b, c, rfl⟩
theorem len4 {α : Type} {l : List α} (h : l.length = 4) : ∃ a b c d, l = [a, b, c, d] := by
  obtain ⟨a, r, rfl, k⟩ := lenS h
  obtain ⟨b, c, d, rfl⟩ := len3 k
  exact ⟨a, b, c, d, rfl⟩
theorem gvs : ∀ p ∈ ([(Str.ofString "len", .bi "len"), (Str.ofString "range", .ty "range"), (Str.ofString "min", .bi "min"), (Str.ofString "max", .bi "max"), (Str.ofString "sum", .bi "sum"), (Str.ofString "list", .ty "list"), (Str.ofString "iter", .bi "iter"), (Str.ofString "bisect_left", .ref 41), (Str.ofString "bisect_right", .ref 23), (Str.ofString "insort_left", .ref 32), (Str.ofString "_netrclex", .ref 79), (Str.ofString "EXACT_TOKEN_TYPES", .ref 84), (Str.ofString "ISNONTERMINAL", .ref 93), (Str.ofString "ISEOF", .ref 100), (Str.ofString "_law_bracketed", .ref 107), (Str.ofString "_law_changed", .ref 112), (Str.ofString "_law_pattern", .ref 119), (Str.ofString "_law_lexer", .ref 126), (Str.ofString "_law_number", .ref 133), (Str.ofString "_law_meets", .ref 140), (Str.ofString "_law_linked", .ref 147), (Str.ofString "_law_starred", .ref 154), (Str.ofString "_law_chain", .ref 161), (Str.ofString "_law_either", .ref 168), (Str.ofString "_law_led", .ref 173), (Str.ofString "_law_taken", .ref 178), (Str.ofString "ENDMARKER", .int 0), (Str.ofString "NT_OFFSET", .int 256)] : List (Str × AV)), GV p.1 p.2 :=
  List.forall_mem_cons.mpr ⟨gv_len, List.forall_mem_cons.mpr ⟨gv_range, List.forall_mem_cons.mpr ⟨gv_min, List.forall_mem_cons.mpr ⟨gv_max, List.forall_mem_cons.mpr ⟨gv_sum, List.forall_mem_cons.mpr ⟨gv_list, List.forall_mem_cons.mpr ⟨gv_iter, List.forall_mem_cons.mpr ⟨gv_bisect_left, List.forall_mem_cons.mpr ⟨gv_bisect_right, List.forall_mem_cons.mpr ⟨gv_insort_left, List.forall_mem_cons.mpr ⟨gv_netrclex, List.forall_mem_cons.mpr ⟨gv_exact, List.forall_mem_cons.mpr ⟨gv_isnonterminal, List.forall_mem_cons.mpr ⟨gv_iseof, List.forall_mem_cons.mpr ⟨gv_bracketed, List.forall_mem_cons.mpr ⟨gv_changed, List.forall_mem_cons.mpr ⟨gv_pattern, List.forall_mem_cons.mpr ⟨gv_lexer, List.forall_mem_cons.mpr ⟨gv_number, List.forall_mem_cons.mpr ⟨gv_meets, List.forall_mem_cons.mpr ⟨gv_linked, List.forall_mem_cons.mpr ⟨gv_starred, List.forall_mem_cons.mpr ⟨gv_chain, List.forall_mem_cons.mpr ⟨gv_either, List.forall_mem_cons.mpr ⟨gv_led, List.forall_mem_cons.mpr ⟨gv_taken, List.forall_mem_cons.mpr ⟨gv_endmarker, List.forall_mem_cons.mpr ⟨gv_nt, List.forall_mem_nil _⟩⟩⟩⟩⟩⟩⟩⟩⟩⟩⟩⟩⟩⟩⟩⟩⟩⟩⟩⟩⟩⟩⟩⟩⟩⟩⟩⟩
theorem fns : ∀ a ∈ ([23, 32, 41, 93, 100, 107, 112, 119, 126, 133, 140, 147, 154, 161, 168, 173, 178] : List Addr), IsFn a :=
  List.forall_mem_cons.mpr ⟨fn23, List.forall_mem_cons.mpr ⟨fn32, List.forall_mem_cons.mpr ⟨fn41, List.forall_mem_cons.mpr ⟨fn93, List.forall_mem_cons.mpr ⟨fn100, List.forall_mem_cons.mpr ⟨fn107, List.forall_mem_cons.mpr ⟨fn112, List.forall_mem_cons.mpr ⟨fn119, List.forall_mem_cons.mpr ⟨fn126, List.forall_mem_cons.mpr ⟨fn133, List.forall_mem_cons.mpr ⟨fn140, List.forall_mem_cons.mpr ⟨fn147, List.forall_mem_cons.mpr ⟨fn154, List.forall_mem_cons.mpr ⟨fn161, List.forall_mem_cons.mpr ⟨fn168, List.forall_mem_cons.mpr ⟨fn173, List.forall_mem_cons.mpr ⟨fn178, List.forall_mem_nil _⟩⟩⟩⟩⟩⟩⟩⟩⟩⟩⟩⟩⟩⟩⟩⟩⟩
end Mine
end
section
open PySem PySem.W PyProof.Rows PySem.Calls PySem.SeqAt
set_option maxRecDepth 100000
set_option maxHeartbeats 8000000
namespace Mine
-- MACROS
set_option compiler.extract_closed false
local macro_rules | `(tactic| walk_at "at") => `(tactic| first | exact At.head | (apply At.tail; walk_at "at"))
local macro_rules | `(tactic| walk_at "put") => `(tactic| first | exact Put.head | (apply Put.tail; walk_at "put"))
local macro_rules | `(tactic| walk_at "mem") => `(tactic| first | exact List.Mem.head _ | (apply List.Mem.tail; walk_at "mem"))
local macro_rules | `(tactic| walk_at "mup") => `(tactic| first | exact MUp.head | (apply MUp.tail; walk_at "mup"))
local macro_rules | `(tactic| walk_at "mdel") => `(tactic| first | exact MDel.head | (apply MDel.tail; walk_at "mdel"))
local macro_rules | `(tactic| walk_at "frz") => `(tactic| first | exact Frz.nil | (apply Frz.hit; walk_at "frz") | (apply Frz.skip; walk_at "frz"))
local macro_rules | `(tactic| walk_at "cap") => `(tactic| first | exact CapAt.nil | (refine' CapAt.cons ?a ?u ?_; (case a => walk_at "at"); (case u => first | assumption | nofun); walk_at "cap"))
local macro_rules | `(tactic| walk_at "au") => `(tactic| ((case a => walk_at "at"); (case u => first | assumption | nofun)))
local macro_rules | `(tactic| walk_at "nm") => `(tactic| ((with_reducible refine' T_name (by assumption) ?a ?u ?_); walk_at "au"))
local macro_rules | `(tactic| walk_at "gv") => `(tactic| exact gvs (_, _) (by walk_at "mem"))
local macro_rules | `(tactic| walk_at "fn") => `(tactic| exact fns _ (by walk_at "mem"))
local macro_rules | `(tactic| walk_at "ag") => `(tactic| ((case a => walk_at "mem"); (case g => walk_at "gv")))
local macro_rules | `(tactic| walk_at "s") => `(tactic| first
  | (with_reducible first | (refine T_consR ?_; intro R9 h9) | refine T_nil ?_ | refine T_Return ?_ | refine T_If ?_ | refine T_Continue ?_)
  | ((with_reducible refine' T_Assign (by assumption) ?_ ?a ?b); (case a => walk_at "mem"); (case b => rfl))
  | ((with_reducible refine' T_AugName (by assumption) ?a ?u ?_ ?m); walk_at "au"; (case m => walk_at "mem"))
  | (walk_at "nm")
  | ((with_reducible refine' T_glob (by assumption) ?a ?g ?_); walk_at "ag")
  | (with_reducible first | refine T_int ?_ | refine T_str ?_ | refine T_none ?_ | refine T_bool ?_ | refine T_BinOp ?_ | refine T_IfExp ?_ | refine tb_not ?_ | refine tb_and ?_ | refine tb_and0 ?_ | refine tb_or ?_ | refine tb_or0 ?_ | refine tru_bool ?_ | refine T_sp0 ?_ | refine T_And1 ?_ | refine T_Or1 ?_ | refine T_And ?_ | refine T_Or ?_ | refine tests0 ?_ | refine tests1 ?_ | refine tp_none ?_ | refine tp_some ?_ | refine T_Tuple ?_)
  | ((with_reducible first | refine' T_Compare ?_ ?a | refine' T_isTrue_Compare ?_ ?a | refine' T_sp ?_ ?a | refine' T_ExprSO (by assumption) ?_ ?a); (case a => rfl))
  | ((with_reducible refine' T_AssignT ?_ ?a ?b); (case a => rfl); (case b => rfl))
  | ((with_reducible refine' T_callB (by assumption) ?a ?g ?_ ?b); walk_at "ag"; (case b => rfl))
  | ((with_reducible refine' T_callT (by assumption) ?a ?g ?_ ?b); walk_at "ag"; (case b => rfl))
  | ((with_reducible refine' T_call (by assumption) ?a ?g ?f ?_ ?b); walk_at "ag"; (case f => walk_at "fn"); (case b => rfl))
  | (with_reducible first | refine ite_t (by decide) ?_ | refine ite_f (by decide) ?_ | refine land (by assumption) ?_)
  | (refine ⟨_, by walk_at "put", ?_⟩)
  | (with_reducible refine ⟨_, rfl, ?_⟩))
local macro_rules | `(tactic| walk_at "go") => `(tactic| (repeat walk_at "s"; try dsimp only))
-- END MACROS
section
/-- l parts at k: the first k are lt, the rest are not -/
noncomputable def Parts (lt : AV → Bool) (l : List AV) (k : Nat) : Prop := k ≤ l.length ∧ ∀ i e, l[i]? = some e → lt e = decide (i < k)
theorem bisect_left_spec {w : World} {n : Nat} {a x : AV} {l : List AV} {lt : AV → Bool} {k : Nat} {mem : Mem} {Q : AV → Mem → Prop} (ha : a ≠ .unb) (hx : x ≠ .unb) (L : LsV mem a l) (hsz : l.length ≤ sizeLine) (hp : Parts lt l k)
    (hlt : ∀ (c : Cx) (ks sk gl cs : List Str) (m : Nat) (σ : AS) (Q : AV → AS → Prop) (e : AV), Ok c ks sk gl cs m → e ∈ l → Q (.bool (lt e)) σ → Op2 c (compareOp .Lt) e x σ Q) (q : Q (.int k) mem) : FS w (n + 1) (.ref 41) [a, x] mem Q := by
  refine FS_in [Str.ofString "a", Str.ofString "x", Str.ofString "lo", Str.ofString "hi", Str.ofString "key"]
    [Str.ofString "a", Str.ofString "x", Str.ofString "lo", Str.ofString "hi", Str.ofString "key", Str.ofString "mid"] [Str.ofString "len"] [] [a, x, .int 0, .none, .none, .unb] rfl rfl (by kernel_rfl) (by kernel_rfl) rfl
    (dav := [.int 0, .none, .none]) rfl (dv := [.int 0 216, .none, .none]) (fun _ _ => ⟨_, _, rfl, ⟨_, rfl⟩, _, _, rfl, rfl, _, _, rfl, rfl, rfl⟩) rfl (fun vals h => ?_) (fun c hw O => ?_)
  · obtain ⟨a0, a1, rfl⟩ := len2 h
    exact fun S => by kernel_rfl
  · walk_at "go"
    refine op_lt_int ?_
    walk_at "go"
    refine op_is_none ?_
    walk_at "go"
    refine bs_len_list L hsz ?_
    walk_at "go"
    refine op_is_none ?_
    walk_at "go"
    refine (T_While (fun m σ => ∃ (lo hi : Int) (u : AV), σ = ⟨[a, x, .int lo, .int hi, .none, u], mem⟩ ∧ 0 ≤ lo ∧ lo ≤ k ∧ k ≤ hi ∧ hi ≤ l.length ∧ m = (hi - lo).toNat) ?_ l.length
      ⟨0, l.length, .unb, rfl, by (clear hsz; (first | exact om145 | omega)), by (clear hsz; (first | exact om146 | omega)), by have := hp.1; (clear hsz; (first | exact om147 this | omega)), by (clear hsz; (first | exact om148 | omega)), by (clear hsz; (first | exact om149 | omega))⟩)
    rintro m σ ⟨lo, hi, u, e, h1, h2, h3, h4, h5⟩
    subst e
    walk_at "go"
    refine op_lt_int ?_
    walk_at "go"
    refine dec_by (fun hlh => ?_) fun hlh => ?_
    · walk_at "go"
      refine op_add_int ?_
      walk_at "go"
      refine (op_floordiv (by decide) (by decide) ?_)
      have hmid : (lo + hi).fdiv 2 = (lo + hi) / 2 := Int.fdiv_eq_ediv_of_nonneg _ (by decide)
      rw [hmid]
      generalize hm : (lo + hi) / 2 = mid
      have b1 : lo ≤ mid := by (clear hmid h5 h4 h3 h2 h1 hsz; (first | exact om150 hlh hm | omega))
      have b2 : mid < hi := by (clear b1 hmid h5 h4 h3 h2 h1 hsz; (first | exact om151 hlh hm | omega))
      walk_at "go"
      refine T_Subscript ?_
      walk_at "go"
      have hlt' : mid.toNat < l.length := by (clear hmid hlh h5 h3 h2 hsz; (first | exact om152 h1 h4 hm b1 b2 | omega))
      obtain ⟨e, he⟩ : ∃ e, l[mid.toNat]? = some e := ⟨_, List.getElem?_eq_getElem hlt'⟩
      refine op_item_list L (by (clear hlt' b2 b1 hmid hlh h5 h4 h2 hsz; (first | exact om153 h1 h3 hm | omega))) he ?_ hsz (fun _ _ => rfl)
      walk_at "go"
      refine hlt c _ _ _ _ _ _ _ e O (List.mem_of_getElem? he) ?_
      rw [hp.2 _ _ he]
      walk_at "go"
      refine dec_by (fun hk => ?_) fun hk => ?_
      · walk_at "go"
        refine op_add_int ?_
        walk_at "go"
        exact ⟨_, by (clear hk hlt' hmid h4 h2 hsz; (first | exact om154 h5 hlh hm b1 b2 | omega)), mid + 1, hi, _, rfl, by (clear hk hlt' b2 b1 hmid hlh h5 h4 h2 hsz; (first | exact om155 h1 h3 hm | omega)), by (clear hlt' b2 hm hmid hlh h5 h4 h3 h2 hsz; (first | exact om156 h1 b1 hk | omega)), by (clear hk hlt' b2 b1 hm hmid hlh h5 h4 h2 h1 hsz; (first | exact om157 h3 | omega)), by (clear hk hlt' b2 b1 hm hmid hlh h5 h3 h2 h1 hsz; (first | exact om158 h4 | omega)), rfl⟩
      · walk_at "go"
        exact ⟨_, by (clear hlt' hmid h4 h3 hsz; (first | exact om159 h1 h2 h5 hlh hm b1 b2 hk | omega)), lo, mid, _, rfl, by (clear hk hlt' b2 b1 hm hmid hlh h5 h4 h3 h2 hsz; (first | exact om160 h1 | omega)), by (clear hk hlt' b2 b1 hm hmid hlh h5 h4 h3 h1 hsz; (first | exact om158 h2 | omega)), by (clear hlt' b2 hmid hlh h5 h4 h2 hsz; (first | exact om161 h1 h3 hm b1 hk | omega)), by (clear hk hlt' b1 hm hmid hlh h5 h3 h2 h1 hsz; (first | exact om162 h4 b2 | omega)), rfl⟩
    · walk_at "go"
      have : lo = k := by (clear h5 h4 h1 hsz; (first | exact om163 h2 h3 hlh | omega))
      subst this
      exact q
theorem bisect_left_spec4 {w : World} {n : Nat} {a x : AV} {l : List AV} {lt : AV → Bool} {k : Nat} {mem : Mem} {Q : AV → Mem → Prop} (ha : a ≠ .unb) (hx : x ≠ .unb) (L : LsV mem a l) (hsz : l.length ≤ sizeLine) (hp : Parts lt l k)
    (hlt : ∀ (c : Cx) (ks sk gl cs : List Str) (m : Nat) (σ : AS) (Q : AV → AS → Prop) (e : AV), Ok c ks sk gl cs m → e ∈ l → Q (.bool (lt e)) σ → Op2 c (compareOp .Lt) e x σ Q) (q : Q (.int k) mem) : FS w (n + 1) (.ref 41) [a, x, .int 0, .none] mem Q := by
  refine FS_in [Str.ofString "a", Str.ofString "x", Str.ofString "lo", Str.ofString "hi", Str.ofString "key"]
    [Str.ofString "a", Str.ofString "x", Str.ofString "lo", Str.ofString "hi", Str.ofString "key", Str.ofString "mid"] [Str.ofString "len"] [] [a, x, .int 0, .none, .none, .unb] rfl rfl (by kernel_rfl) (by kernel_rfl) rfl
    (dav := [.none]) rfl (dv := [.none]) (fun _ _ => ⟨_, _, rfl, rfl, rfl⟩) rfl (fun vals h => ?_) (fun c hw O => ?_)
  · obtain ⟨a0, a1, a2, a3, rfl⟩ := len4 h
    exact fun S => by kernel_rfl
  · walk_at "go"
    refine op_lt_int ?_
    walk_at "go"
    refine op_is_none ?_
    walk_at "go"
    refine bs_len_list L hsz ?_
    walk_at "go"
    refine op_is_none ?_
    walk_at "go"
    refine (T_While (fun m σ => ∃ (lo hi : Int) (u : AV), σ = ⟨[a, x, .int lo, .int hi, .none, u], mem⟩ ∧ 0 ≤ lo ∧ lo ≤ k ∧ k ≤ hi ∧ hi ≤ l.length ∧ m = (hi - lo).toNat) ?_ l.length
      ⟨0, l.length, .unb, rfl, by (clear hsz; (first | exact om145 | omega)), by (clear hsz; (first | exact om146 | omega)), by have := hp.1; (clear hsz; (first | exact om147 this | omega)), by (clear hsz; (first | exact om148 | omega)), by (clear hsz; (first | exact om149 | omega))⟩)
    rintro m σ ⟨lo, hi, u, e, h1, h2, h3, h4, h5⟩
    subst e
    walk_at "go"
    refine op_lt_int ?_
    walk_at "go"
    refine dec_by (fun hlh => ?_) fun hlh => ?_
    · walk_at "go"
      refine op_add_int ?_
      walk_at "go"
      refine (op_floordiv (by decide) (by decide) ?_)
      have hmid : (lo + hi).fdiv 2 = (lo + hi) / 2 := Int.fdiv_eq_ediv_of_nonneg _ (by decide)
      rw [hmid]
      generalize hm : (lo + hi) / 2 = mid
      have b1 : lo ≤ mid := by (clear hmid h5 h4 h3 h2 h1 hsz; (first | exact om150 hlh hm | omega))
      have b2 : mid < hi := by (clear b1 hmid h5 h4 h3 h2 h1 hsz; (first | exact om151 hlh hm | omega))
      walk_at "go"
      refine T_Subscript ?_
      walk_at "go"
      have hlt' : mid.toNat < l.length := by (clear hmid hlh h5 h3 h2 hsz; (first | exact om152 h1 h4 hm b1 b2 | omega))
      obtain ⟨e, he⟩ : ∃ e, l[mid.toNat]? = some e := ⟨_, List.getElem?_eq_getElem hlt'⟩
      refine op_item_list L (by (clear hlt' b2 b1 hmid hlh h5 h4 h2 hsz; (first | exact om153 h1 h3 hm | omega))) he ?_ hsz (fun _ _ => rfl)
      walk_at "go"
      refine hlt c _ _ _ _ _ _ _ e O (List.mem_of_getElem? he) ?_
      rw [hp.2 _ _ he]
      walk_at "go"
      refine dec_by (fun hk => ?_) fun hk => ?_
      · walk_at "go"
        refine op_add_int ?_
        walk_at "go"
        exact ⟨_, by (clear hk hlt' hmid h4 h2 hsz; (first | exact om154 h5 hlh hm b1 b2 | omega)), mid + 1, hi, _, rfl, by (clear hk hlt' b2 b1 hmid hlh h5 h4 h2 hsz; (first | exact om155 h1 h3 hm | omega)), by (clear hlt' b2 hm hmid hlh h5 h4 h3 h2 hsz; (first | exact om156 h1 b1 hk | omega)), by (clear hk hlt' b2 b1 hm hmid hlh h5 h4 h2 h1 hsz; (first | exact om157 h3 | omega)), by (clear hk hlt' b2 b1 hm hmid hlh h5 h3 h2 h1 hsz; (first | exact om158 h4 | omega)), rfl⟩
      · walk_at "go"
        exact ⟨_, by (clear hlt' hmid h4 h3 hsz; (first | exact om159 h1 h2 h5 hlh hm b1 b2 hk | omega)), lo, mid, _, rfl, by (clear hk hlt' b2 b1 hm hmid hlh h5 h4 h3 h2 hsz; (first | exact om160 h1 | omega)), by (clear hk hlt' b2 b1 hm hmid hlh h5 h4 h3 h1 hsz; (first | exact om158 h2 | omega)), by (clear hlt' b2 hmid hlh h5 h4 h2 hsz; (first | exact om161 h1 h3 hm b1 hk | omega)), by (clear hk hlt' b1 hm hmid hlh h5 h3 h2 h1 hsz; (first | exact om162 h4 b2 | omega)), rfl⟩
    · walk_at "go"
      have : lo = k := by (clear h5 h4 h1 hsz; (first | exact om163 h2 h3 hlh | omega))
      subst this
      exact q
theorem bisect_right_spec {w : World} {n : Nat} {a x : AV} {l : List AV} {lt : AV → Bool} {k : Nat} {mem : Mem} {Q : AV → Mem → Prop} (ha : a ≠ .unb) (hx : x ≠ .unb) (L : LsV mem a l) (hsz : l.length ≤ sizeLine) (hp : Parts lt l k)
    (hlt : ∀ (c : Cx) (ks sk gl cs : List Str) (m : Nat) (σ : AS) (Q : AV → AS → Prop) (e : AV), Ok c ks sk gl cs m → e ∈ l → Q (.bool (!lt e)) σ → Op2 c (compareOp .Lt) x e σ Q) (q : Q (.int k) mem) : FS w (n + 1) (.ref 23) [a, x] mem Q := by
  refine FS_in [Str.ofString "a", Str.ofString "x", Str.ofString "lo", Str.ofString "hi", Str.ofString "key"]
    [Str.ofString "a", Str.ofString "x", Str.ofString "lo", Str.ofString "hi", Str.ofString "key", Str.ofString "mid"] [Str.ofString "len"] [] [a, x, .int 0, .none, .none, .unb] rfl rfl (by kernel_rfl) (by kernel_rfl) rfl
    (dav := [.int 0, .none, .none]) rfl (dv := [.int 0 189, .none, .none]) (fun _ _ => ⟨_, _, rfl, ⟨_, rfl⟩, _, _, rfl, rfl, _, _, rfl, rfl, rfl⟩) rfl (fun vals h => ?_) (fun c hw O => ?_)
  · obtain ⟨a0, a1, rfl⟩ := len2 h
    exact fun S => by kernel_rfl
  · walk_at "go"
    refine op_lt_int ?_
    walk_at "go"
    refine op_is_none ?_
    walk_at "go"
    refine bs_len_list L hsz ?_
    walk_at "go"
    refine op_is_none ?_
    walk_at "go"
    refine (T_While (fun m σ => ∃ (lo hi : Int) (u : AV), σ = ⟨[a, x, .int lo, .int hi, .none, u], mem⟩ ∧ 0 ≤ lo ∧ lo ≤ k ∧ k ≤ hi ∧ hi ≤ l.length ∧ m = (hi - lo).toNat) ?_ l.length
      ⟨0, l.length, .unb, rfl, by (clear hsz; (first | exact om145 | omega)), by (clear hsz; (first | exact om146 | omega)), by have := hp.1; (clear hsz; (first | exact om147 this | omega)), by (clear hsz; (first | exact om148 | omega)), by (clear hsz; (first | exact om149 | omega))⟩)
    rintro m σ ⟨lo, hi, u, e, h1, h2, h3, h4, h5⟩
    subst e
    walk_at "go"
    refine op_lt_int ?_
    walk_at "go"
    refine dec_by (fun hlh => ?_) fun hlh => ?_
    · walk_at "go"
      refine op_add_int ?_
      walk_at "go"
      refine (op_floordiv (by decide) (by decide) ?_)
      have hmid : (lo + hi).fdiv 2 = (lo + hi) / 2 := Int.fdiv_eq_ediv_of_nonneg _ (by decide)
      rw [hmid]
      generalize hm : (lo + hi) / 2 = mid
      have b1 : lo ≤ mid := by (clear hmid h5 h4 h3 h2 h1 hsz; (first | exact om150 hlh hm | omega))
      have b2 : mid < hi := by (clear b1 hmid h5 h4 h3 h2 h1 hsz; (first | exact om151 hlh hm | omega))
      walk_at "go"
      refine T_Subscript ?_
      walk_at "go"
      have hlt' : mid.toNat < l.length := by (clear hmid hlh h5 h3 h2 hsz; (first | exact om152 h1 h4 hm b1 b2 | omega))
      obtain ⟨e, he⟩ : ∃ e, l[mid.toNat]? = some e := ⟨_, List.getElem?_eq_getElem hlt'⟩
      refine op_item_list L (by (clear hlt' b2 b1 hmid hlh h5 h4 h2 hsz; (first | exact om153 h1 h3 hm | omega))) he ?_ hsz (fun _ _ => rfl)
      walk_at "go"
      refine hlt c _ _ _ _ _ _ _ e O (List.mem_of_getElem? he) ?_
      rw [hp.2 _ _ he]
      walk_at "go"
      refine ite_by (fun hk => ?_) fun hk => ?_
      · have hk : ¬ mid.toNat < k := by simpa using hk
        walk_at "go"
        exact ⟨_, by (clear hlt' hmid h4 h3 hsz; (first | exact om159 h1 h2 h5 hlh hm b1 b2 hk | omega)), lo, mid, _, rfl, by (clear hk hlt' b2 b1 hm hmid hlh h5 h4 h3 h2 hsz; (first | exact om160 h1 | omega)), by (clear hk hlt' b2 b1 hm hmid hlh h5 h4 h3 h1 hsz; (first | exact om158 h2 | omega)), by (clear hlt' b2 hmid hlh h5 h4 h2 hsz; (first | exact om161 h1 h3 hm b1 hk | omega)), by (clear hk hlt' b1 hm hmid hlh h5 h3 h2 h1 hsz; (first | exact om162 h4 b2 | omega)), rfl⟩
      · have hk : mid.toNat < k := by simpa using hk
        walk_at "go"
        refine op_add_int ?_
        walk_at "go"
        exact ⟨_, by (clear hk hlt' hmid h4 h2 hsz; (first | exact om154 h5 hlh hm b1 b2 | omega)), mid + 1, hi, _, rfl, by (clear hk hlt' b2 b1 hmid hlh h5 h4 h2 hsz; (first | exact om155 h1 h3 hm | omega)), by (clear hlt' b2 hm hmid hlh h5 h4 h3 h2 hsz; (first | exact om156 h1 b1 hk | omega)), by (clear hk hlt' b2 b1 hm hmid hlh h5 h4 h2 h1 hsz; (first | exact om157 h3 | omega)), by (clear hk hlt' b2 b1 hm hmid hlh h5 h3 h2 h1 hsz; (first | exact om158 h4 | omega)), rfl⟩
    · walk_at "go"
      have : lo = k := by (clear h5 h4 h1 hsz; (first | exact om163 h2 h3 hlh | omega))
      subst this
      exact q
theorem isnonterminal_spec {w : World} {n : Nat} {i : Int} {mem : Mem} {Q : AV → Mem → Prop} (q : Q (.bool (decide (i ≥ 256))) mem) : FS w (n + 1) (.ref 93) [.int i] mem Q := by
  refine FS_in [Str.ofString "x"] [Str.ofString "x"] [Str.ofString "NT_OFFSET"] [] [.int i] rfl rfl (by kernel_rfl) (by kernel_rfl) rfl (dav := []) rfl (dv := []) (fun _ _ => rfl) rfl (fun vals h => ?_) (fun c hw O => ?_)
  · obtain ⟨a0, rfl⟩ := len1 h
    exact fun S => by kernel_rfl
  · walk_at "go"
    refine op_ge_int ?_
    walk_at "go"
    exact q
theorem iseof_spec {w : World} {n : Nat} {i : Int} {mem : Mem} {Q : AV → Mem → Prop} (q : Q (.bool (decide (i = 0))) mem) : FS w (n + 1) (.ref 100) [.int i] mem Q := by
  refine FS_in [Str.ofString "x"] [Str.ofString "x"] [Str.ofString "ENDMARKER"] [] [.int i] rfl rfl (by kernel_rfl) (by kernel_rfl) rfl (dav := []) rfl (dv := []) (fun _ _ => rfl) rfl (fun vals h => ?_) (fun c hw O => ?_)
  · obtain ⟨a0, rfl⟩ := len1 h
    exact fun S => by kernel_rfl
  · walk_at "go"
    refine op_eq_int ?_
    walk_at "go"
    exact q
theorem insort_left_spec {w : World} {n : Nat} {a : Addr} {x : AV} {l : List AV} {lt : AV → Bool} {k : Nat} {mem mem' : Mem} {Q : AV → Mem → Prop} (hx : x ≠ .unb) (u : MUp mem a (.list l) (.list (l.take k ++ x :: l.drop k)) mem') (hsz : l.length ≤ sizeLine) (hp : Parts lt l k)
    (hlt : ∀ (c : Cx) (ks sk gl cs : List Str) (m : Nat) (σ : AS) (Q : AV → AS → Prop) (e : AV), Ok c ks sk gl cs m → e ∈ l → Q (.bool (lt e)) σ → Op2 c (compareOp .Lt) e x σ Q) (q : Q .none mem') : FS w (n + 2) (.ref 32) [.ref a, x] mem Q := by
  refine FS_in [Str.ofString "a", Str.ofString "x", Str.ofString "lo", Str.ofString "hi", Str.ofString "key"]
    [Str.ofString "a", Str.ofString "x", Str.ofString "lo", Str.ofString "hi", Str.ofString "key"] [Str.ofString "bisect_left"] [] [.ref a, x, .int 0, .none, .none] rfl rfl (by kernel_rfl) (by kernel_rfl) rfl
    (dav := [.int 0, .none, .none]) rfl (dv := [.int 0 203, .none, .none]) (fun _ _ => ⟨_, _, rfl, ⟨_, rfl⟩, _, _, rfl, rfl, _, _, rfl, rfl, rfl⟩) rfl (fun vals h => ?_) (fun c hw O => ?_)
  · obtain ⟨a0, a1, rfl⟩ := len2 h
    exact fun S => by kernel_rfl
  · walk_at "go"
    refine op_is_none ?_
    walk_at "go"
    subst hw
    refine ⟨n + 1, Nat.le_refl _, bisect_left_spec4 nofun hx (.owned u.mem) hsz hp hlt ?_⟩
    walk_at "go"
    refine T_methL F.slot_list_insert F.type_list_insert ?_
    walk_at "go"
    refine ⟨a, l, rfl, u.mem, ?_⟩
    walk_at "go"
    refine bs_insert u hp.1 hsz ?_
    refine ⟨rfl, ?_⟩
    walk_at "go"
    exact q
end
section
structure Piece where
  lvl : Int
  txt : Str
  ws : List Str
noncomputable def Piece.av (p : Piece) : AV := .tup [.int p.lvl, .str p.txt, .lst (p.ws.map .str)]
noncomputable def every : List Str := ["a", "b", "aa", "ab", "ba", "bb", "aaa", "aab", "aba", "abb", "baa", "bab", "bba", "bbb"].map Str.ofString
noncomputable def cuts (lo : Nat) (w : Str) : List Int := (List.range (w.length + 1 - lo)).map fun j => (lo : Int) + (j : Nat)
noncomputable def cutOk (u v : List Str) (w : Str) (k : Int) : Bool := decide (stake w k.toNat ∈ u) && decide (sdrop w k.toNat ∈ v)
noncomputable def splitIn (u v : List Str) (lo : Nat) (w : Str) : Bool := decide ((cuts lo w).filter (cutOk u v w) ≠ [])
noncomputable def starStep (ws found : List Str) (w : Str) : List Str := if splitIn ws found 1 w then found ++ [w] else found
noncomputable def starW (ws : List Str) : List Str := every.foldl (starStep ws) [Str.ofString ""]
noncomputable def altW (a b : List Str) : List Str := (Str.ofString "" :: every).filter fun w => decide (w ∈ a) || decide (w ∈ b)
noncomputable def catW (a b : List Str) : List Str := (Str.ofString "" :: every).filter (splitIn a b 0)
noncomputable def brk (lvl : Int) (txt : Str) (least : Int) : Str := if lvl ≥ least then txt else Str.ofString "\\( " ++ txt ++ Str.ofString "\\) "
noncomputable def starP (p : Piece) : Piece := ⟨2, brk p.lvl p.txt 2 ++ Str.ofString "\\* ", starW p.ws⟩
noncomputable def altP (a b : Piece) : Piece := ⟨0, a.txt ++ Str.ofString "\\| " ++ b.txt, altW a.ws b.ws⟩
noncomputable def catP (a b : Piece) : Piece := ⟨1, brk a.lvl a.txt 1 ++ Str.ofString "\\-\\> " ++ brk b.lvl b.txt 1, catW a.ws b.ws⟩
theorem lslice_to (l : List AV) {i : Int} {k : Nat} (h : i = k) : lslice l none (some i) = l.take k := by subst h; simp [lslice]
theorem lslice_from (l : List AV) {i : Int} {k : Nat} (h : i = k) : lslice l (some i) none = l.drop k := by
  subst h
  simp only [lslice, Option.elim, Int.toNat_natCast]
  rw [List.take_of_length_le (Nat.le_refl _)]
theorem bracketed_spec {w : World} {n : Nat} {p : Piece} {least : Int} {mem : Mem} {Q : AV → Mem → Prop} (hsz : p.txt.length + 6 ≤ sizeLine)
    (q : Q (.str (brk p.lvl p.txt least)) mem) : FS w (n + 1) (.ref 107) [p.av, .int least] mem Q := by
  unfold Piece.av
  refine FS_in [Str.ofString "piece", Str.ofString "least"] [Str.ofString "piece", Str.ofString "least"] [] [] [.tup [.int p.lvl, .str p.txt, .lst (p.ws.map .str)], .int least] rfl rfl (by kernel_rfl) (by kernel_rfl) rfl (dav := []) rfl (dv := []) (fun _ _ => rfl) rfl (fun vals h => ?_) (fun c hw O => ?_)
  · obtain ⟨a0, a1, rfl⟩ := len2 h
    exact fun S => by kernel_rfl
  · walk_at "go"
    refine T_Subscript ?_
    walk_at "go"
    refine op_item_tup (by decide) rfl ?_ (Nat.le_of_ble_eq_true rfl) (fun _ _ => rfl)
    walk_at "go"
    refine op_ge_int ?_
    walk_at "go"
    refine dec_by (fun h => ?_) fun h => ?_
    · refine T_Subscript ?_
      walk_at "go"
      refine op_item_tup (by decide) rfl ?_ (Nat.le_of_ble_eq_true rfl) (fun _ _ => rfl)
      rw [brk, if_pos h] at q
      walk_at "go"
      exact q
    · walk_at "go"
      refine T_Subscript ?_
      walk_at "go"
      refine op_item_tup (by decide) rfl ?_ (Nat.le_of_ble_eq_true rfl) (fun _ _ => rfl)
      have e1 : (Str.ofString "\\( ").length = 3 := by decide +kernel
      have e2 : (Str.ofString "\\) ").length = 3 := by decide +kernel
      refine op_add_str (by (first | exact om241 hsz e1 | omega)) ?_
      walk_at "go"
      refine op_add_str (by rw [Str.length_append]; (first | exact om242 hsz e1 e2 | omega)) ?_
      rw [brk, if_neg h] at q
      walk_at "go"
      exact q
theorem changed_spec {w : World} {n : Nat} {ps : List Piece} {x : Int} {mem : Mem} {Q : AV → Mem → Prop} (hl : 1 ≤ ps.length) (hl2 : ps.length ≤ 4) (hsz : ∀ p ∈ ps, p.txt.length ≤ 1000000)
    (star : ∀ A p B, ps = A ++ p :: B → (A.length : Int) = x / 3 % ps.length → x % 3 = 2 → Q (.lst ((A ++ starP p :: B).map Piece.av)) mem)
    (one : ps.length = 1 → x % 3 ≠ 2 → Q (.lst (ps.map Piece.av)) mem)
    (alt : ∀ A p q B, ps = A ++ p :: q :: B → (A.length : Int) = x / 3 % (ps.length - 1) → x % 3 = 0 → Q (.lst ((A ++ altP p q :: B).map Piece.av)) mem)
    (cat : ∀ A p q B, ps = A ++ p :: q :: B → (A.length : Int) = x / 3 % (ps.length - 1) → x % 3 = 1 → Q (.lst ((A ++ catP p q :: B).map Piece.av)) mem) :
    FS w (n + 2) (.ref 112) [.lst (ps.map Piece.av), .int x] mem Q := by
  refine FS_ink [Str.ofString "pieces", Str.ofString "x"]
    [Str.ofString "pieces", Str.ofString "x", Str.ofString "every", Str.ofString "place", Str.ofString "words", Str.ofString "found", Str.ofString "word", Str.ofString "starred", Str.ofString "one", Str.ofString "other", Str.ofString "meant", Str.ofString "joined"]
    [Str.ofString "len", Str.ofString "range", Str.ofString "_law_bracketed"] [Str.ofString "words", Str.ofString "found", Str.ofString "word", Str.ofString "one", Str.ofString "other"] [Str.ofString "meant"]
    [.lst (ps.map Piece.av), .int x, .unb, .unb, .unb, .unb, .unb, .unb, .unb, .unb, .unb, .unb] rfl rfl (by kernel_rfl) (by kernel_rfl) rfl (dav := []) rfl (dv := []) (fun _ _ => rfl) rfl (fun vals h => ?_) (by kernel_rfl) (fun c hw O hk => ?_)
  · obtain ⟨a0, a1, rfl⟩ := len2 h
    exact fun S => by kernel_rfl
  · walk_at "go"
    refine T_split (ws := every) (by decide +kernel) (by decide +kernel) (by decide +kernel) ?_ rfl
    walk_at "go"
    refine op_mod (by decide) ?_
    walk_at "go"
    refine op_eq_int ?_
    walk_at "go"
    rw [Int.fmod_eq_emod_of_nonneg _ (by decide : (0 : Int) ≤ 3)]
    refine dec_by (fun h2 => ?_) fun h2 => ?_
    · -- a star
      have hs : sizeLine = 16777216 := rfl
      walk_at "go"
      refine op_floordiv (by decide) (by decide) ?_
      walk_at "go"
      refine bs_len_list .frozen (by rw [List.length_map]; (first | exact om243 hl hl2 hs | omega)) ?_
      refine op_mod (by rw [List.length_map]; (first | exact om244 hl hl2 | omega)) ?_
      rw [List.length_map, Int.fdiv_eq_ediv_of_nonneg _ (by decide), Int.fmod_eq_emod_of_nonneg _ (by (first | exact om245 hl hl2 | omega) : (0 : Int) ≤ (ps.length : Int))]
      have hp0 : 0 ≤ x / 3 % (ps.length : Int) := Int.emod_nonneg _ (by (first | exact om244 hl hl2 | omega))
      have hp1 : x / 3 % (ps.length : Int) < ps.length := Int.emod_lt_of_pos _ (by (first | exact om246 hl hl2 | omega))
      generalize hpl : x / 3 % (ps.length : Int) = pl at *
      obtain ⟨k, rfl⟩ : ∃ k : Nat, pl = (k : Int) := ⟨pl.toNat, by (first | exact om247 hp0 | omega)⟩
      have hk' : k < ps.length := by (first | exact om248 hp1 | omega)
      obtain ⟨p, hpk⟩ : ∃ p, ps[k]? = some p := ⟨_, List.getElem?_eq_getElem hk'⟩
      have hps : ps = ps.take k ++ p :: ps.drop (k + 1) := by
        rw [List.getElem?_eq_getElem hk'] at hpk
        rw [← Option.some.inj hpk, List.getElem_cons_drop, List.take_append_drop]
      walk_at "go"
      refine T_Subscript (T_Subscript ?_)
      walk_at "go"
      refine op_item_list .frozen (by (first | exact om249 hp0 | omega)) (a := p.av) (by simp [hpk]) ?_ (by rw [List.length_map]; (first | exact om243 hl hl2 hs | omega)) (fun _ _ => rfl)
      walk_at "go"
      refine op_item_tup (by decide) rfl ?_ (Nat.le_of_ble_eq_true rfl) (fun _ _ => rfl)
      walk_at "go"
      refine T_ListO ?_
      walk_at "go"
      refine ⟨by decide, fun fa hfa => ?_⟩
      walk_at "go"
      have hev : ∀ wd ∈ every, wd.length ≤ 3 := by decide +kernel
      refine T_For O (fun rest σ => ∃ (done : List Str) (u : AV), (every.map AV.str) = (done.map AV.str) ++ rest ∧ σ = ⟨[.lst (ps.map Piece.av), .int x, .lst (every.map .str), .int k, .lst (p.ws.map .str), .ref fa, u, .unb, .unb, .unb, .unb, .unb], (fa, .list ((done.foldl (starStep p.ws) [Str.ofString ""]).map .str)) :: mem⟩) ?_ ?_ ?_ (fun _ => rfl) (fun _ _ => rfl)
      · walk_at "go"
        exact ⟨_, .lst, [], .unb, rfl, rfl⟩
      · rintro a rest σ' ⟨done, u, e1, e2⟩
        subst e2
        obtain ⟨wd, rfl, hwd⟩ : ∃ wd, a = AV.str wd ∧ wd ∈ every := by
          have : a ∈ every.map AV.str := by rw [e1]; exact List.mem_append_right _ (.head _)
          obtain ⟨wd, h1, h2⟩ := List.mem_map.mp this
          exact ⟨wd, h2.symm, h1⟩
        refine ta_name O (by walk_at "put") (by walk_at "mem") ?_
        walk_at "go"
        refine T_compEP O [Str.ofString "found", Str.ofString "word", Str.ofString "words"] [Str.ofString "k"] [] [] (fun a => match a with | .int k => cutOk p.ws (done.foldl (starStep p.ws) [Str.ofString ""]) wd k | _ => false) (fun a => a) (by kernel_rfl) (by decide) ?_ (fun _ => rfl)
        walk_at "go"
        have hwl := hev wd hwd
        refine bs_len_str (by (first | exact om250 hs hwl | omega)) ?_
        walk_at "go"
        refine op_add_int ?_
        walk_at "go"
        refine bs_range2 ?_
        have Y : Yields (.rng 1 ((wd.length : Int) + 1)) ((cuts 1 wd).map .int) := by
          have := yields_rng (lo := 1) (hi := (wd.length : Int) + 1) (by omega) (by omega) (by omega) (by omega)
          have e : ((wd.length : Int) + 1 - 1).toNat = wd.length + 1 - 1 := by (first | exact om255 hwl | omega)
          rw [e] at this
          unfold cuts
          rw [List.map_map]
          exact this
        refine ⟨_, [.ref fa, .str wd, .lst (p.ws.map .str)], Y, by walk_at "cap", by simp [cuts]; (first | exact om250 hs hwl | omega), fun ic acc hwi Oi a ha => ?_, ?_⟩
        · obtain ⟨kk, hkk, rfl⟩ := List.mem_map.mp ha
          have hb : 0 ≤ kk ∧ kk ≤ wd.length := by
            obtain ⟨j, hj, rfl⟩ := List.mem_map.mp hkk
            have := List.mem_range.mp hj
            (first | exact om256 hwl this | omega)
          intro out tv htv
          match tv, htv with
          | [t], _ =>
          refine ta_name Oi (by walk_at "put") (by walk_at "mem") ?_
          refine tests1 ?_
          refine tb_and ?_
          refine T_isTrue_Compare ?_
          refine T_SliceS ?_
          walk_at "go"
          refine ⟨wd, _, rfl, by (first | exact om250 hs hwl | omega), .to hb.1 hb.2, ?_⟩
          walk_at "go"
          refine op_in_strs .frozen ?_
          walk_at "go"
          refine dec_by (fun hu => ?_) fun hu => ?_
          · refine tb_and ?_
            refine T_isTrue_Compare ?_
            refine T_SliceS ?_
            walk_at "go"
            refine ⟨wd, _, rfl, by (first | exact om250 hs hwl | omega), .from hb.1 hb.2, ?_⟩
            walk_at "go"
            refine op_in_strs (.owned (.tail _ (.head _))) ?_
            walk_at "go"
            refine dec_by (fun hv => ?_) fun hv => ?_
            · walk_at "go"
              have e : cutOk p.ws (done.foldl (starStep p.ws) [Str.ofString ""]) wd kk = true := by simp [cutOk, hu, hv]
              refine ptrue e ?_
              walk_at "go"
              exact ⟨rfl, [_], rfl, rfl⟩
            · have e : cutOk p.ws (done.foldl (starStep p.ws) [Str.ofString ""]) wd kk = false := by simp [cutOk, hv]
              exact pfalse e ⟨[_], rfl, rfl⟩
          · have e : cutOk p.ws (done.foldl (starStep p.ws) [Str.ofString ""]) wd kk = false := by simp [cutOk, hu]
            exact pfalse e ⟨[_], rfl, rfl⟩
        walk_at "go"
        refine T_List ?_
        walk_at "go"
        refine ⟨by decide, ?_⟩
        refine op_ne_nil O .frozen ?_
        walk_at "go"
        have hsp : decide (List.map (fun a => a) (List.filter (fun a => match a with | AV.int k => cutOk p.ws (done.foldl (starStep p.ws) [Str.ofString ""]) wd k | _ => false) ((cuts 1 wd).map AV.int)) ≠ []) = splitIn p.ws (done.foldl (starStep p.ws) [Str.ofString ""]) 1 wd := by
          unfold splitIn
          rw [List.map_id', List.filter_map]
          simp only [ne_eq, List.map_eq_nil_iff]
          rfl
        rw [hsp]
        refine ite_by (fun hsi => ?_) fun hsi => ?_
        · walk_at "go"
          refine T_methL F.slot_list_append F.type_list_append ?_
          walk_at "go"
          refine ⟨fa, _, rfl, .head _, ?_⟩
          walk_at "go"
          refine bs_append .head ?_ ?_
          · have : ∀ (l acc : List Str), (l.foldl (starStep p.ws) acc).length ≤ acc.length + l.length := by
              intro l
              induction l with
              | nil => intro acc; simp
              | cons w l ih =>
                intro acc
                refine Nat.le_trans (ih _) ?_
                unfold starStep
                split <;> simp <;> (first | exact om257 | omega)
            have h1 := this done [Str.ofString ""]
            have h2 := congrArg List.length e1
            simp [every] at h2
            simp at h1
            rw [List.length_map]; (first | exact om258 hs h2 h1 | omega)
          · refine ⟨rfl, ?_⟩
            walk_at "go"
            refine ⟨done ++ [wd], .str wd, by rw [e1]; simp, ?_⟩
            rw [List.foldl_append]
            simp only [List.foldl_cons, List.foldl_nil]
            rw [starStep, if_pos hsi]
            simp
        · walk_at "go"
          refine ⟨done ++ [wd], .str wd, by rw [e1]; simp, ?_⟩
          rw [List.foldl_append]
          simp only [List.foldl_cons, List.foldl_nil]
          rw [starStep, if_neg (by rw [hsi]; exact Bool.false_ne_true)]
      · rintro σ' ⟨done, u, e1, e2⟩
        rw [List.append_nil] at e1
        subst e2
        have hd : done = every := by
          have : ∀ (l m : List Str), l.map AV.str = m.map AV.str → l = m := by
            intro l
            induction l with
            | nil => intro m h; cases m with
              | nil => rfl
              | cons _ _ => cases h
            | cons a l ih => intro m h; cases m with
              | nil => cases h
              | cons b m =>
                simp only [List.map_cons, List.cons.injEq, AV.str.injEq] at h
                rw [h.1, ih m h.2]
          exact (this _ _ e1).symm
        subst hd
        refine TT.freeze (a := fa) (by walk_at "mdel") (by walk_at "frz") ?_
        walk_at "go"
        refine T_Subscript ?_
        walk_at "go"
        refine op_item_list .frozen (by (first | exact om249 hp0 | omega)) (a := p.av) (by simp [hpk]) ?_ (by rw [List.length_map]; (first | exact om243 hl hl2 hs | omega)) (fun _ _ => rfl)
        walk_at "go"
        subst hw
        have hpm : p ∈ ps := List.mem_of_getElem? hpk
        have hpz := hsz p hpm
        refine ⟨n + 1, Nat.le_refl _, bracketed_spec (p := p) (by (first | exact om259 hs hpz | omega)) ?_⟩
        walk_at "go"
        have e1 : (Str.ofString "\\( ").length = 3 := by decide +kernel
        have e2 : (Str.ofString "\\) ").length = 3 := by decide +kernel
        have e3 : (Str.ofString "\\* ").length = 3 := by decide +kernel
        have hbl : (brk p.lvl p.txt 2).length ≤ p.txt.length + 6 := by
          unfold brk
          split
          · (first | exact om260 | omega)
          · rw [Str.length_append, Str.length_append]; (first | exact om261 e1 e2 | omega)
        refine op_add_str (by (first | exact om262 hs hpz e3 hbl | omega)) ?_
        walk_at "go"
        refine ⟨by show 3 ≤ _; (first | exact om170 hs | omega), ?_⟩
        walk_at "go"
        refine T_SliceL ?_
        walk_at "go"
        refine ⟨_, .frozen, by rw [List.length_map]; (first | exact om243 hl hl2 hs | omega), nn_none, nn_some (by (first | exact om249 hp0 | omega)), ?_⟩
        refine T_List ?_
        walk_at "go"
        refine ⟨by show 1 ≤ _; (first | exact om191 hs | omega), ?_⟩
        have l1 : (lslice (ps.map Piece.av) none (some (k : Int))) = (ps.take k).map Piece.av := by
          rw [lslice_to _ rfl, List.map_take]
        rw [l1]
        refine op_add_list .frozen .frozen (by simp; (first | exact om263 hl hl2 hs hp1 | omega)) ?_
        refine T_SliceL ?_
        walk_at "go"
        refine op_add_int ?_
        walk_at "go"
        refine ⟨_, .frozen, by rw [List.length_map]; (first | exact om243 hl hl2 hs | omega), nn_some (by (first | exact om264 | omega)), nn_none, ?_⟩
        have l2 : (lslice (ps.map Piece.av) (some ((k : Int) + 1)) none) = (ps.drop (k + 1)).map Piece.av := by
          rw [lslice_from _ (k := k + 1) (by (first | exact om265 | omega)), List.map_drop]
        rw [l2]
        refine op_add_list .frozen .frozen (by simp; (first | exact om266 hl hl2 hs hp1 | omega)) ?_
        have := star (ps.take k) p (ps.drop (k + 1)) hps (by simp; (first | exact om267 hp1 | omega)) h2
        rw [List.map_append, List.map_cons] at this
        have e9 : (ps.take k).map Piece.av ++ [AV.tup [.int 2, .str (brk p.lvl p.txt 2 ++ Str.ofString "\\* "), .lst ((every.foldl (starStep p.ws) [Str.ofString ""]).map .str)]] ++ (ps.drop (k + 1)).map Piece.av = (ps.take k).map Piece.av ++ (starP p).av :: (ps.drop (k + 1)).map Piece.av := by
          simp [starP, Piece.av, starW]
        rw [e9]
        walk_at "go"
        exact this
    · -- no star
      have hs : sizeLine = 16777216 := rfl
      walk_at "go"
      refine bs_len_list .frozen (by rw [List.length_map]; (first | exact om243 hl hl2 hs | omega)) ?_
      walk_at "go"
      refine op_eq_int ?_
      walk_at "go"
      rw [List.length_map]
      refine dec_by (fun h1 => ?_) fun h1 => ?_
      · walk_at "go"
        exact one (by (first | exact om268 h1 | omega)) h2
      walk_at "go"
      refine op_floordiv (by decide) (by decide) ?_
      walk_at "go"
      refine bs_len_list .frozen (by rw [List.length_map]; (first | exact om243 hl hl2 hs | omega)) ?_
      walk_at "go"
      refine op_sub_int ?_
      rw [List.length_map]
      refine op_mod (by (first | exact om269 h1 | omega)) ?_
      rw [Int.fdiv_eq_ediv_of_nonneg _ (by decide), Int.fmod_eq_emod_of_nonneg _ (by (first | exact om270 hl hl2 | omega) : (0 : Int) ≤ (ps.length : Int) - 1)]
      have hp0 : 0 ≤ x / 3 % ((ps.length : Int) - 1) := Int.emod_nonneg _ (by (first | exact om269 h1 | omega))
      have hp1 : x / 3 % ((ps.length : Int) - 1) < ps.length - 1 := Int.emod_lt_of_pos _ (by (first | exact om271 hl hl2 h1 | omega))
      generalize hpl : x / 3 % ((ps.length : Int) - 1) = pl at *
      obtain ⟨k, rfl⟩ : ∃ k : Nat, pl = (k : Int) := ⟨pl.toNat, by (first | exact om247 hp0 | omega)⟩
      have hk1 : k + 1 < ps.length := by (first | exact om272 hp1 | omega)
      have hk' : k < ps.length := by (first | exact om273 hp1 | omega)
      obtain ⟨p, hpk⟩ : ∃ p, ps[k]? = some p := ⟨_, List.getElem?_eq_getElem hk'⟩
      obtain ⟨p2, hpk2⟩ : ∃ p, ps[k + 1]? = some p := ⟨_, List.getElem?_eq_getElem hk1⟩
      have hps : ps = ps.take k ++ p :: p2 :: ps.drop (k + 2) := by
        rw [List.getElem?_eq_getElem hk'] at hpk
        rw [List.getElem?_eq_getElem hk1] at hpk2
        rw [← Option.some.inj hpk, ← Option.some.inj hpk2, List.getElem_cons_drop, List.getElem_cons_drop, List.take_append_drop]
      have hpz := hsz p (List.mem_of_getElem? hpk)
      have hpz2 := hsz p2 (List.mem_of_getElem? hpk2)
      walk_at "go"
      refine T_Subscript ?_
      walk_at "go"
      refine op_item_list .frozen (by (first | exact om249 hp0 | omega)) (a := p.av) (by simp [hpk]) ?_ (by rw [List.length_map]; (first | exact om243 hl hl2 hs | omega)) (fun _ _ => rfl)
      walk_at "go"
      refine T_Subscript ?_
      walk_at "go"
      refine op_add_int ?_
      have ek : ((k : Int) + 1).toNat = k + 1 := by (first | exact om274 | omega)
      refine op_item_list .frozen (by (first | exact om275 ek | omega)) (a := p2.av) (by rw [ek]; simp [hpk2]) ?_ (by rw [List.length_map]; (first | exact om243 hl hl2 hs | omega)) (fun _ _ => rfl)
      walk_at "go"
      refine op_mod (by decide) ?_
      walk_at "go"
      refine op_eq_int ?_
      walk_at "go"
      rw [Int.fmod_eq_emod_of_nonneg _ (by decide : (0 : Int) ≤ 3)]
      refine dec_by (fun h3 => ?_) fun h3 => ?_
      · have hpu : p.av ≠ .unb := nofun
        have hpu2 : p2.av ≠ .unb := nofun
        walk_at "go"
        refine T_compAP O [Str.ofString "one", Str.ofString "other"] [Str.ofString "word"] [] [] (fun a => match a with | .str w => decide (w ∈ p.ws) || decide (w ∈ p2.ws) | _ => false) (fun a => a) (by kernel_rfl) (by decide) (by walk_at "mem") ?_ (fun _ => rfl) (hk _ (.head _)) rfl (by kernel_rfl)
        walk_at "go"
        refine T_List ?_
        walk_at "go"
        refine ⟨by decide, ?_⟩
        walk_at "go"
        refine op_add_list .frozen .frozen (by simp [every]; (first | exact om276 hs | omega)) ?_
        refine ⟨_, [p.av, p2.av], .lst, by walk_at "cap", by simp [every]; (first | exact om276 hs | omega), fun ic acc hwi Oi a ha => ?_, ?_⟩
        · obtain ⟨wd, rfl⟩ : ∃ wd, a = AV.str wd := by
            have : a ∈ (Str.ofString "" :: every).map AV.str := ha
            obtain ⟨wd, _, h2⟩ := List.mem_map.mp this
            exact ⟨wd, h2.symm⟩
          intro out tv htv
          match tv, htv with
          | [t], _ =>
          refine ta_name Oi (by walk_at "put") (by walk_at "mem") ?_
          refine tests1 ?_
          refine tb_or ?_
          refine T_isTrue_Compare ?_
          walk_at "go"
          refine T_Subscript ?_
          walk_at "go"
          refine op_item_tup (by decide) rfl ?_ (Nat.le_of_ble_eq_true rfl) (fun _ _ => rfl)
          refine op_in_strs .frozen ?_
          walk_at "go"
          refine dec_by (fun hu => ?_) fun hu => ?_
          · refine ptrue (by simp [hu]) ?_
            walk_at "go"
            exact ⟨rfl, [_], rfl, rfl⟩
          · refine tb_or ?_
            refine T_isTrue_Compare ?_
            walk_at "go"
            refine T_Subscript ?_
            walk_at "go"
            refine op_item_tup (by decide) rfl ?_ (Nat.le_of_ble_eq_true rfl) (fun _ _ => rfl)
            refine op_in_strs .frozen ?_
            walk_at "go"
            refine dec_by (fun hv => ?_) fun hv => ?_
            · refine ptrue (by simp [hv]) ?_
              walk_at "go"
              exact ⟨rfl, [_], rfl, rfl⟩
            · walk_at "go"
              exact pfalse (by simp [hu, hv]) ⟨[_], rfl, rfl⟩
        have hmeant : (List.map (fun a => a) (List.filter (fun a => match a with | AV.str w => decide (w ∈ p.ws) || decide (w ∈ p2.ws) | _ => false) ([AV.str (Str.ofString "")] ++ every.map AV.str))) = (altW p.ws p2.ws).map AV.str := by
          rw [List.map_id']
          show List.filter _ ((Str.ofString "" :: every).map AV.str) = _
          rw [List.filter_map]; rfl
        rw [hmeant]
        have hpm : p ∈ ps := List.mem_of_getElem? hpk
        have e1 : (Str.ofString "\\( ").length = 3 := by decide +kernel
        have e2 : (Str.ofString "\\) ").length = 3 := by decide +kernel
        have e3 : (Str.ofString "\\| ").length = 3 := by decide +kernel
        have e4 : (Str.ofString "\\-\\> ").length = 5 := by decide +kernel
        walk_at "go"
        refine T_Subscript ?_
        walk_at "go"
        refine op_item_tup (by decide) rfl ?_ (Nat.le_of_ble_eq_true rfl) (fun _ _ => rfl)
        walk_at "go"
        refine op_add_str (by (first | exact om277 hs hpz e3 | omega)) ?_
        walk_at "go"
        refine T_Subscript ?_
        walk_at "go"
        refine op_item_tup (by decide) rfl ?_ (Nat.le_of_ble_eq_true rfl) (fun _ _ => rfl)
        refine op_add_str (by rw [Str.length_append]; (first | exact om278 hs hpz hpz2 e3 | omega)) ?_
        walk_at "go"
        refine ⟨by show 3 ≤ _; (first | exact om170 hs | omega), ?_⟩
        walk_at "go"
        refine T_SliceL ?_
        walk_at "go"
        refine ⟨_, .frozen, by rw [List.length_map]; (first | exact om243 hl hl2 hs | omega), nn_none, nn_some (by (first | exact om249 hp0 | omega)), ?_⟩
        refine T_List ?_
        walk_at "go"
        refine ⟨by show 1 ≤ _; (first | exact om191 hs | omega), ?_⟩
        rw [lslice_to _ rfl, ← List.map_take]
        refine op_add_list .frozen .frozen (by simp; (first | exact om279 hl hl2 hs hp1 ek | omega)) ?_
        refine T_SliceL ?_
        walk_at "go"
        refine op_add_int ?_
        walk_at "go"
        refine ⟨_, .frozen, by rw [List.length_map]; (first | exact om243 hl hl2 hs | omega), nn_some (by (first | exact om280 ek | omega)), nn_none, ?_⟩
        rw [lslice_from _ (k := k + 2) (by (first | exact om281 | omega)), ← List.map_drop]
        refine op_add_list .frozen .frozen (by simp; (first | exact om282 hl hl2 hs hp1 ek | omega)) ?_
        have := alt (ps.take k) p p2 (ps.drop (k + 2)) hps (by simp; (first | exact om283 hp1 ek | omega)) h3
        have e9 : (ps.take k).map Piece.av ++ [AV.tup [.int 0, .str (p.txt ++ Str.ofString "\\| " ++ p2.txt), .lst ((altW p.ws p2.ws).map .str)]] ++ (ps.drop (k + 2)).map Piece.av = (ps.take k ++ altP p p2 :: ps.drop (k + 2)).map Piece.av := by
          simp [altP, Piece.av]
        rw [e9]
        walk_at "go"
        exact this
      · have hpu : p.av ≠ .unb := nofun
        have hpu2 : p2.av ≠ .unb := nofun
        walk_at "go"
        have hev : ∀ wd ∈ Str.ofString "" :: every, wd.length ≤ 3 := by decide +kernel
        refine T_compAP O [Str.ofString "one", Str.ofString "other"] [Str.ofString "word"] [Str.ofString "range", Str.ofString "len"] [Str.ofString "one", Str.ofString "other", Str.ofString "word"] (fun a => match a with | .str w => splitIn p.ws p2.ws 0 w | _ => false) (fun a => a) (by kernel_rfl) (by decide) (by walk_at "mem") ?_ (fun _ => rfl) (hk _ (.head _)) rfl (by kernel_rfl)
        walk_at "go"
        refine T_List ?_
        walk_at "go"
        refine ⟨by decide, ?_⟩
        walk_at "go"
        refine op_add_list .frozen .frozen (by simp [every]; (first | exact om276 hs | omega)) ?_
        refine ⟨_, [p.av, p2.av], .lst, by walk_at "cap", by simp [every]; (first | exact om276 hs | omega), fun ic acc hwi Oi a ha => ?_, ?_⟩
        · obtain ⟨wd, rfl, hwd⟩ : ∃ wd, a = AV.str wd ∧ wd ∈ Str.ofString "" :: every := by
            have : a ∈ (Str.ofString "" :: every).map AV.str := ha
            obtain ⟨wd, h1, h2⟩ := List.mem_map.mp this
            exact ⟨wd, h2.symm, h1⟩
          have hwl := hev wd hwd
          intro out tv htv
          match tv, htv with
          | [t], _ =>
          refine ta_name Oi (by walk_at "put") (by walk_at "mem") ?_
          refine tests1 ?_
          refine T_isTrue_Compare ?_
          refine T_compEP Oi [Str.ofString "one", Str.ofString "other", Str.ofString "word"] [Str.ofString "k"] [] [] (fun a => match a with | .int k => cutOk p.ws p2.ws wd k | _ => false) (fun a => a) (by kernel_rfl) (by decide) ?_ (fun _ => rfl)
          walk_at "go"
          refine bs_len_str (by (first | exact om250 hs hwl | omega)) ?_
          walk_at "go"
          refine op_add_int ?_
          walk_at "go"
          refine bs_range1 ?_
          have Y : Yields (.rng 0 ((wd.length : Int) + 1)) ((cuts 0 wd).map .int) := by
            have := yields_rng (lo := 0) (hi := (wd.length : Int) + 1) (by omega) (by omega) (by omega) (by omega)
            have e : ((wd.length : Int) + 1 - 0).toNat = wd.length + 1 - 0 := by (first | exact om284 hwl | omega)
            rw [e] at this
            unfold cuts
            rw [List.map_map]
            exact this
          refine ⟨_, [p.av, p2.av, .str wd], Y, by walk_at "cap", by simp [cuts]; (first | exact om285 hs hwl | omega), fun ic2 acc2 hwi2 Oi2 a ha => ?_, ?_⟩
          · obtain ⟨kk, hkk, rfl⟩ := List.mem_map.mp ha
            have hb : 0 ≤ kk ∧ kk ≤ wd.length := by
              obtain ⟨j, hj, rfl⟩ := List.mem_map.mp hkk
              have := List.mem_range.mp hj
              (first | exact om286 hwl this | omega)
            intro out2 tv2 htv2
            match tv2, htv2 with
            | [t2], _ =>
            refine ta_name Oi2 (by walk_at "put") (by walk_at "mem") ?_
            refine tests1 ?_
            refine tb_and ?_
            refine T_isTrue_Compare ?_
            refine T_SliceS ?_
            walk_at "go"
            refine ⟨wd, _, rfl, by (first | exact om250 hs hwl | omega), .to hb.1 hb.2, ?_⟩
            refine T_Subscript ?_
            walk_at "go"
            refine op_item_tup (by decide) rfl ?_ (Nat.le_of_ble_eq_true rfl) (fun _ _ => rfl)
            refine op_in_strs .frozen ?_
            walk_at "go"
            refine dec_by (fun hu => ?_) fun hu => ?_
            · refine tb_and ?_
              refine T_isTrue_Compare ?_
              refine T_SliceS ?_
              walk_at "go"
              refine ⟨wd, _, rfl, by (first | exact om250 hs hwl | omega), .from hb.1 hb.2, ?_⟩
              refine T_Subscript ?_
              walk_at "go"
              refine op_item_tup (by decide) rfl ?_ (Nat.le_of_ble_eq_true rfl) (fun _ _ => rfl)
              refine op_in_strs .frozen ?_
              walk_at "go"
              refine dec_by (fun hv => ?_) fun hv => ?_
              · walk_at "go"
                refine ptrue (by simp [cutOk, hu, hv]) ?_
                walk_at "go"
                exact ⟨rfl, [_], rfl, rfl⟩
              · exact pfalse (by simp [cutOk, hv]) ⟨[_], rfl, rfl⟩
            · exact pfalse (by simp [cutOk, hu]) ⟨[_], rfl, rfl⟩
          walk_at "go"
          refine T_List ?_
          walk_at "go"
          refine ⟨by decide, ?_⟩
          refine op_ne_nil Oi .frozen ?_
          walk_at "go"
          have hsp : decide (List.map (fun a => a) (List.filter (fun a => match a with | AV.int k => cutOk p.ws p2.ws wd k | _ => false) ((cuts 0 wd).map AV.int)) ≠ []) = splitIn p.ws p2.ws 0 wd := by
            unfold splitIn
            rw [List.map_id', List.filter_map]
            simp only [ne_eq, List.map_eq_nil_iff]
            rfl
          rw [hsp]
          refine pcase (fun hsi => ?_) fun hsi => ?_
          · walk_at "go"
            exact ⟨rfl, [_], rfl, rfl⟩
          · exact ⟨[_], rfl, rfl⟩
        have hmeant : (List.map (fun a => a) (List.filter (fun a => match a with | AV.str w => splitIn p.ws p2.ws 0 w | _ => false) ([AV.str (Str.ofString "")] ++ every.map AV.str))) = (catW p.ws p2.ws).map AV.str := by
          rw [List.map_id']
          show List.filter _ ((Str.ofString "" :: every).map AV.str) = _
          rw [List.filter_map]; rfl
        rw [hmeant]
        have hpm : p ∈ ps := List.mem_of_getElem? hpk
        have e1 : (Str.ofString "\\( ").length = 3 := by decide +kernel
        have e2 : (Str.ofString "\\) ").length = 3 := by decide +kernel
        have e3 : (Str.ofString "\\| ").length = 3 := by decide +kernel
        have e4 : (Str.ofString "\\-\\> ").length = 5 := by decide +kernel
        subst hw
        have hbl : ∀ q : Piece, (brk q.lvl q.txt 1).length ≤ q.txt.length + 6 := by
          intro q
          unfold brk
          split
          · (first | exact om260 | omega)
          · rw [Str.length_append, Str.length_append]; (first | exact om261 e1 e2 | omega)
        have hb1 := hbl p
        have hb2 := hbl p2
        walk_at "go"
        refine ⟨n + 1, Nat.le_refl _, bracketed_spec (p := p) (by (first | exact om259 hs hpz | omega)) ?_⟩
        walk_at "go"
        refine op_add_str (by (first | exact om287 hs hpz e4 hb1 | omega)) ?_
        walk_at "go"
        refine ⟨n + 1, Nat.le_refl _, bracketed_spec (p := p2) (by (first | exact om259 hs hpz2 | omega)) ?_⟩
        refine op_add_str (by rw [Str.length_append]; (first | exact om288 hs hpz hpz2 e4 hb1 hb2 | omega)) ?_
        walk_at "go"
        refine ⟨by show 3 ≤ _; (first | exact om170 hs | omega), ?_⟩
        walk_at "go"
        refine T_SliceL ?_
        walk_at "go"
        refine ⟨_, .frozen, by rw [List.length_map]; (first | exact om243 hl hl2 hs | omega), nn_none, nn_some (by (first | exact om249 hp0 | omega)), ?_⟩
        refine T_List ?_
        walk_at "go"
        refine ⟨by show 1 ≤ _; (first | exact om191 hs | omega), ?_⟩
        rw [lslice_to _ rfl, ← List.map_take]
        refine op_add_list .frozen .frozen (by simp; (first | exact om279 hl hl2 hs hp1 ek | omega)) ?_
        refine T_SliceL ?_
        walk_at "go"
        refine op_add_int ?_
        walk_at "go"
        refine ⟨_, .frozen, by rw [List.length_map]; (first | exact om243 hl hl2 hs | omega), nn_some (by (first | exact om280 ek | omega)), nn_none, ?_⟩
        rw [lslice_from _ (k := k + 2) (by (first | exact om281 | omega)), ← List.map_drop]
        refine op_add_list .frozen .frozen (by simp; (first | exact om282 hl hl2 hs hp1 ek | omega)) ?_
        have := cat (ps.take k) p p2 (ps.drop (k + 2)) hps (by simp; (first | exact om283 hp1 ek | omega)) (by (first | exact om289 hl hl2 h2 h1 ek h3 | omega))
        have e9 : (ps.take k).map Piece.av ++ [AV.tup [.int 1, .str (brk p.lvl p.txt 1 ++ Str.ofString "\\-\\> " ++ brk p2.lvl p2.txt 1), .lst ((catW p.ws p2.ws).map .str)]] ++ (ps.drop (k + 2)).map Piece.av = (ps.take k ++ catP p p2 :: ps.drop (k + 2)).map Piece.av := by
          simp [catP, Piece.av]
        rw [e9]
        walk_at "go"
        exact this
end
section
noncomputable def qs : List Str := ["\"\\\"\"", "\"#\"", "\"\\\\\"", "\"a b\""].map Str.ofString
noncomputable def litP (qa qb : Str) (d : Bool) : Piece := ⟨2, if d then qb else qa, [if d then Str.ofString "b" else Str.ofString "a"]⟩
inductive Reach (qa qb : Str) : Nat → List Piece → Prop where
  | init (d0 d1 d2 d3 : Bool) : Reach qa qb 0 ([d0, d1, d2, d3].map (litP qa qb))
  | star {n : Nat} {A B : List Piece} {p : Piece} : Reach qa qb n (A ++ p :: B) → Reach qa qb (n + 1) (A ++ starP p :: B)
  | alt {n : Nat} {A B : List Piece} {p q : Piece} : Reach qa qb n (A ++ p :: q :: B) → Reach qa qb (n + 1) (A ++ altP p q :: B)
  | cat {n : Nat} {A B : List Piece} {p q : Piece} : Reach qa qb n (A ++ p :: q :: B) → Reach qa qb (n + 1) (A ++ catP p q :: B)
theorem brk_len (l : Int) (t : Str) (m : Int) : (brk l t m).length ≤ t.length + 6 := by
  have e1 : (Str.ofString "\\( ").length = 3 := by decide +kernel
  have e2 : (Str.ofString "\\) ").length = 3 := by decide +kernel
  unfold brk
  split
  · (first | exact om260 | omega)
  · rw [Str.length_append, Str.length_append]; (first | exact om261 e1 e2 | omega)
theorem starP_len {M : Nat} {p : Piece} (h : p.txt.length + 17 ≤ M) : (starP p).txt.length + 17 ≤ 2 * M := by
  have e3 : (Str.ofString "\\* ").length = 3 := by decide +kernel
  have := brk_len p.lvl p.txt 2
  show (brk p.lvl p.txt 2 ++ Str.ofString "\\* ").length + 17 ≤ _
  rw [Str.length_append]; (first | exact om290 h e3 this | omega)
theorem altP_len {M : Nat} {p q : Piece} (h : p.txt.length + 17 ≤ M) (h2 : q.txt.length + 17 ≤ M) : (altP p q).txt.length + 17 ≤ 2 * M := by
  have e3 : (Str.ofString "\\| ").length = 3 := by decide +kernel
  show (p.txt ++ Str.ofString "\\| " ++ q.txt).length + 17 ≤ _
  rw [Str.length_append, Str.length_append]; (first | exact om291 h h2 e3 | omega)
theorem catP_len {M : Nat} {p q : Piece} (h : p.txt.length + 17 ≤ M) (h2 : q.txt.length + 17 ≤ M) : (catP p q).txt.length + 17 ≤ 2 * M := by
  have e4 : (Str.ofString "\\-\\> ").length = 5 := by decide +kernel
  have := brk_len p.lvl p.txt 1
  have := brk_len q.lvl q.txt 1
  show (brk p.lvl p.txt 1 ++ Str.ofString "\\-\\> " ++ brk q.lvl q.txt 1).length + 17 ≤ _
  rw [Str.length_append, Str.length_append]; (first | exact om292 h h2 e4 ‹_› this | omega)
/-- the state of the loop of _law_pattern: rest, pieces -/
structure PSt (qa qb : Str) (rest : List Int) (ps : List Piece) : Prop where
  reach : ∃ k, k + rest.length ≤ 8 ∧ Reach qa qb k ps
  pos : 1 ≤ ps.length
  few : ∃ pre j, rest = pre ++ List.replicate j 1 ∧ (pre = [] ∨ j = 3) ∧ j ≤ 3 ∧ ps.length ≤ 1 + j
  short : ∃ k, k + rest.length = 8 ∧ ∀ p ∈ ps, p.txt.length + 17 ≤ 22 * 2 ^ k
theorem pst_next {qa qb : Str} {x : Int} {rest : List Int} {ps ps' : List Piece} (h : PSt qa qb (x :: rest) ps) (hr : ∀ k, Reach qa qb k ps → ∃ k', k' ≤ k + 1 ∧ Reach qa qb k' ps') (hp : 1 ≤ ps'.length) (hle : ps'.length ≤ ps.length) (h1 : x % 3 = 1 → ps'.length = 1 ∨ ps'.length + 1 ≤ ps.length)
    (hs : ∀ M : Nat, (∀ p ∈ ps, p.txt.length + 17 ≤ M) → ∀ p ∈ ps', p.txt.length + 17 ≤ 2 * M) : PSt qa qb rest ps' := by
  refine ⟨?_, hp, ?_, ?_⟩
  · obtain ⟨k, hk, r⟩ := h.reach
    obtain ⟨k', hk', r'⟩ := hr k r
    exact ⟨k', by simp at hk; (first | exact om293 hk hk' | omega), r'⟩
  · obtain ⟨pre, j, e, hpj, hj, hl⟩ := h.few
    cases pre with
    | nil =>
      cases j with
      | zero => cases e
      | succ j =>
        rw [List.nil_append, List.replicate_succ] at e
        cases e
        refine ⟨[], j, rfl, .inl rfl, by (first | exact om294 hj | omega), ?_⟩
        rcases h1 (by decide) with q | q <;> (first | exact om295 hj q | exact om296 hl q | omega)
    | cons y pre =>
      cases e
      rcases hpj with q | q
      · cases q
      · exact ⟨pre, j, rfl, .inr q, hj, by (first | exact om297 hle hl q | omega)⟩
  · obtain ⟨k, hk, hM⟩ := h.short
    refine ⟨k + 1, by simp at hk; (first | exact om298 hk | omega), fun p hp => ?_⟩
    have := hs _ hM p hp
    rw [Nat.pow_succ]; (first | exact om299 this | omega)
inductive LeafInv (ns nums : List Int) (n0 : Int) (f g : Nat) (qa qb : Str) (pa : Addr) (mem : Mem) (rest : List AV) (σ : AS) : Prop
  | mk (m j : Nat) (ds : List Bool) (u v : AV) (h0 : j + m = 4) (h1 : ds.length = j) (h2 : rest = (List.range' j m).map (fun i => AV.int (i : Nat))) (h3 : σ = ⟨[.lst (ns.map .int), .lst ((n0 :: nums).map .int), .int ns.sum, .int f, .int g, .lst (qs.map .str), .lst [.str qa, .str qb], .ref pa, u, v, .unb], (pa, .list ((ds.map (litP qa qb)).map Piece.av)) :: mem⟩) : LeafInv ns nums n0 f g qa qb pa mem rest σ
inductive StepInv (ns nums : List Int) (n0 : Int) (f g : Nat) (qa qb : Str) (mem : Mem) (rest : List AV) (σ : AS) : Prop
  | mk (xs : List Int) (ps : List Piece) (u v z : AV) (h0 : rest = xs.map .int) (h1 : PSt qa qb xs ps) (h2 : σ = ⟨[.lst (ns.map .int), .lst ((n0 :: nums).map .int), .int ns.sum, .int f, .int g, .lst (qs.map .str), .lst [.str qa, .str qb], .lst (ps.map Piece.av), u, v, z], mem⟩) : StepInv ns nums n0 f g qa qb mem rest σ
theorem pattern_spec {w : World} {n : Nat} {ns : List Int} {mem : Mem} {Q : AV → Mem → Prop} (hn : ns.length ≤ 63)
    (q : ∀ (f g : Nat) (p : Piece), f < 4 → g < 4 → f ≠ g → (∃ k, k ≤ 8 ∧ Reach (qs.getD (min f g) Str.empty) (qs.getD (max f g) Str.empty) k [p]) → p.txt.length ≤ 6000 →
      Q (.tup [.str (qs.getD f Str.empty ++ qs.getD g Str.empty ++ Str.ofString "\"\"\n" ++ p.txt ++ Str.ofString "\n"), .lst (p.ws.map .str)]) mem) :
    FS w (n + 3) (.ref 119) [.lst (ns.map .int)] mem Q := by
  have hs : sizeLine = 16777216 := rfl
  refine FS_in [Str.ofString "script"]
    [Str.ofString "script", Str.ofString "numbers", Str.ofString "total", Str.ofString "first", Str.ofString "second", Str.ofString "quoted", Str.ofString "letters", Str.ofString "pieces", Str.ofString "k", Str.ofString "digit", Str.ofString "x"]
    [Str.ofString "len", Str.ofString "sum", Str.ofString "min", Str.ofString "max", Str.ofString "range", Str.ofString "_law_changed"] []
    [.lst (ns.map .int), .unb, .unb, .unb, .unb, .unb, .unb, .unb, .unb, .unb, .unb] rfl rfl (by kernel_rfl) (by kernel_rfl) rfl (dav := []) rfl (dv := []) (fun _ _ => rfl) rfl (fun vals h => ?_) (fun c hw O => ?_)
  · obtain ⟨a0, rfl⟩ := len1 h
    exact fun S => by kernel_rfl
  · walk_at "go"
    refine T_SliceL ?_
    walk_at "go"
    refine ⟨_, .frozen, by rw [List.length_map]; (first | exact om300 hn hs | omega), nn_none, nn_some (by (first | exact om301 | omega)), ?_⟩
    rw [lslice_to _ (i := 6) (k := 6) rfl, ← List.map_take]
    refine T_SliceL ?_
    refine T_List ?_
    walk_at "go"
    refine ⟨by show 6 ≤ _; (first | exact om302 hs | omega), ?_⟩
    walk_at "go"
    refine T_SliceL ?_
    walk_at "go"
    refine ⟨_, .frozen, by rw [List.length_map]; (first | exact om300 hn hs | omega), nn_none, nn_some (by (first | exact om301 | omega)), ?_⟩
    rw [lslice_to _ (i := 6) (k := 6) rfl, ← List.map_take]
    walk_at "go"
    have h6 : (ns.take 6).length ≤ 6 := by simp; (first | exact om303 hn | omega)
    refine bs_len_list .frozen (by rw [List.length_map]; (first | exact om304 hs h6 | omega)) ?_
    rw [List.length_map]
    walk_at "go"
    refine ⟨_, .frozen, by show 6 ≤ _; (first | exact om302 hs | omega), nn_some (by (first | exact om305 h6 | omega)), nn_none, ?_⟩
    rw [lslice_from _ (k := (ns.take 6).length) rfl]
    have hd : ([AV.int 6, .int 1, .int 0, .int 2, .int 1, .int 2].drop (ns.take 6).length) = ([6, 1, 0, 2, 1, 2].drop (ns.take 6).length).map AV.int := by rw [List.map_drop]; rfl
    rw [hd]
    refine op_add_list .frozen .frozen (by simp; (first | exact om306 hn hs | omega)) ?_
    rw [← List.map_append]
    generalize hnum : ns.take 6 ++ [6, 1, 0, 2, 1, 2].drop (ns.take 6).length = num
    have hnl : num.length = 6 := by rw [← hnum]; simp; (first | exact om307 hn | omega)
    obtain ⟨n0, nums, rfl⟩ : ∃ n0 nums, num = n0 :: nums := by
      cases num with
      | nil => cases hnl
      | cons a l => exact ⟨a, l, rfl⟩
    walk_at "go"
    refine bs_sum O .frozen ?_
    walk_at "go"
    refine op_mod (by decide) ?_
    rw [Int.fmod_eq_emod_of_nonneg _ (by decide : (0 : Int) ≤ 4)]
    have f0 : 0 ≤ ns.sum % 4 := by (first | exact om308 | omega)
    have f1 : ns.sum % 4 < 4 := by (first | exact om309 f0 | omega)
    generalize hf : ns.sum % 4 = fi at *
    obtain ⟨f, rfl⟩ : ∃ f : Nat, fi = (f : Int) := ⟨fi.toNat, by (first | exact om310 hf | omega)⟩
    walk_at "go"
    refine op_add_int ?_
    walk_at "go"
    refine op_floordiv (by decide) (by decide) ?_
    rw [Int.fdiv_eq_ediv_of_nonneg _ (by decide)]
    walk_at "go"
    refine op_mod (by decide) ?_
    rw [Int.fmod_eq_emod_of_nonneg _ (by decide : (0 : Int) ≤ 3)]
    refine op_add_int ?_
    walk_at "go"
    refine op_mod (by decide) ?_
    rw [Int.fmod_eq_emod_of_nonneg _ (by decide : (0 : Int) ≤ 4)]
    have g0 : 0 ≤ ((f : Int) + 1 + ns.sum / 4 % 3) % 4 := by (first | exact om311 | omega)
    have g1 : ((f : Int) + 1 + ns.sum / 4 % 3) % 4 < 4 := by (first | exact om312 g0 | omega)
    have g2 : ((f : Int) + 1 + ns.sum / 4 % 3) % 4 ≠ f := by (first | exact om313 | omega)
    generalize hg : ((f : Int) + 1 + ns.sum / 4 % 3) % 4 = gi at *
    obtain ⟨g, rfl⟩ : ∃ g : Nat, gi = (g : Int) := ⟨gi.toNat, by (first | exact om314 hg | omega)⟩
    walk_at "go"
    refine T_List ?_
    walk_at "go"
    refine ⟨by show 4 ≤ _; (first | exact om315 hs | omega), ?_⟩
    walk_at "go"
    have hqs : ([AV.str (Str.ofString "\"\\\"\""), .str (Str.ofString "\"#\""), .str (Str.ofString "\"\\\\\""), .str (Str.ofString "\"a b\"")] : List AV) = qs.map .str := rfl
    rw [hqs]
    have hql : qs.length = 4 := rfl
    have qat : ∀ k : Nat, k < 4 → (qs.map AV.str)[((k : Int)).toNat]? = some (.str (qs.getD k Str.empty)) := by
      intro k hk
      rw [Int.toNat_natCast, List.getElem?_map, List.getD_eq_getElem?_getD]
      rw [List.getElem?_eq_getElem (by rw [hql]; exact hk)]; rfl
    refine T_List ?_
    walk_at "go"
    refine T_Subscript ?_
    walk_at "go"
    refine bs_min O ?_
    have hmin : (if (g : Int) < f then (g : Int) else f) = ((min f g : Nat) : Int) := by split <;> (first | exact om316 ‹_› | exact om317 ‹_› | omega)
    have hmax : (if (g : Int) > f then (g : Int) else f) = ((max f g : Nat) : Int) := by split <;> (first | exact om318 ‹_› | exact om319 hg ‹_› | omega)
    rw [hmin]
    refine op_item_list .frozen (by (first | exact om320 hf hg | omega)) (qat _ (by (first | exact om321 hf hg | omega))) ?_ (by rw [List.length_map]; (first | exact om322 hs hql | omega)) (fun _ _ => rfl)
    walk_at "go"
    refine T_Subscript ?_
    walk_at "go"
    refine bs_max O ?_
    rw [hmax]
    refine op_item_list .frozen (by (first | exact om323 hf hg | omega)) (qat _ (by (first | exact om324 hf hg | omega))) ?_ (by rw [List.length_map]; (first | exact om322 hs hql | omega)) (fun _ _ => rfl)
    walk_at "go"
    refine ⟨by show 2 ≤ _; (first | exact om206 hs | omega), ?_⟩
    walk_at "go"
    generalize hqa : qs.getD (min f g) Str.empty = qa at *
    generalize hqb : qs.getD (max f g) Str.empty = qb at *
    refine T_ListO ?_
    walk_at "go"
    refine ⟨by decide, fun pa hpa => ?_⟩
    walk_at "go"
    refine T_For O (LeafInv ns nums n0 f g qa qb pa mem) ?_ ?_ ?_ (fun _ => rfl) (fun _ _ => rfl)
    · walk_at "go"
      refine bs_range1 ?_
      refine ⟨_, yields_nat (k := 4) (by (first | exact om315 hs | omega)), 4, 0, [], .unb, .unb, rfl, rfl, ?_, rfl⟩
      rw [List.range_eq_range']
    · rintro a rest σ' ⟨m, j, ds, u, v, hjm, hds, e1, e2⟩
      subst e2
      cases m with
      | zero => cases e1
      | succ m =>
      rw [List.range'_succ, List.map_cons, List.cons.injEq] at e1
      obtain ⟨rfl, rfl⟩ := e1
      refine ta_name O (by walk_at "put") (by walk_at "mem") ?_
      walk_at "go"
      refine T_Subscript ?_
      walk_at "go"
      refine op_item_list .frozen (by (first | exact om145 | omega)) (a := .int n0) rfl ?_ (by rw [List.length_map]; (first | exact om325 hs hnl | omega)) (fun _ _ => rfl)
      walk_at "go"
      have hbits : (Builtin.Int.intBits 2 : Int) ≤ 100 := by decide +kernel
      have hb0 : (0 : Int) ≤ (Builtin.Int.intBits 2 : Int) := by (first | exact om326 hbits | omega)
      have hpow : ((2 : Int) ^ j).natAbs ≤ 16 ∧ (2 : Int) ^ j ≠ 0 ∧ 0 ≤ (2 : Int) ^ j := by
        have : j = 0 ∨ j = 1 ∨ j = 2 ∨ j = 3 := by (first | exact om327 hds hjm | omega)
        rcases this with rfl | rfl | rfl | rfl <;> decide
      refine op_pow (by (first | exact om328 hds hjm | omega)) ?_ ?_
      · have : j = 0 ∨ j = 1 ∨ j = 2 ∨ j = 3 := by (first | exact om327 hds hjm | omega)
        rcases this with rfl | rfl | rfl | rfl <;> decide +kernel
      rw [Int.toNat_natCast]
      refine op_floordiv hpow.2.1 (by (first | exact om329 hpow | omega)) ?_
      walk_at "go"
      refine op_mod (by decide) ?_
      rw [Int.fmod_eq_emod_of_nonneg _ (by decide : (0 : Int) ≤ 2)]
      generalize hdd : (n0.fdiv (2 ^ j)) % 2 = dd
      have d0 : dd = 0 ∨ dd = 1 := by (first | exact om330 hdd | omega)
      walk_at "go"
      refine T_methL F.slot_list_append F.type_list_append ?_
      walk_at "go"
      refine ⟨pa, _, rfl, .head _, ?_⟩
      walk_at "go"
      refine T_Subscript ?_
      walk_at "go"
      refine op_item_list .frozen (by (first | exact om331 hdd | omega)) (a := .str (if decide (dd = 1) then qb else qa)) (by rcases d0 with rfl | rfl <;> rfl) ?_ (by show 2 ≤ _; (first | exact om206 hs | omega)) (fun _ _ => rfl)
      walk_at "go"
      refine T_List ?_
      walk_at "go"
      refine T_Subscript ?_
      walk_at "go"
      have hab : (Str.ofString "ab").length = 2 := by decide +kernel
      refine op_item_str (by (first | exact om331 hdd | omega)) (by (first | exact om332 hdd hab | omega)) (by (first | exact om333 hs hab | omega)) ?_ (fun _ _ => rfl) (fun _ _ => rfl)
      have hit : Txt.item (Str.ofString "ab") dd = if decide (dd = 1) then Str.ofString "b" else Str.ofString "a" := by
        rcases d0 with rfl | rfl <;> decide +kernel
      rw [hit]
      walk_at "go"
      refine ⟨by show 1 ≤ _; (first | exact om191 hs | omega), ?_⟩
      walk_at "go"
      refine ⟨by show 3 ≤ _; (first | exact om170 hs | omega), ?_⟩
      walk_at "go"
      refine bs_append .head (by rw [List.length_map, List.length_map]; (first | exact om334 hs hds hjm | omega)) ?_
      refine ⟨rfl, ?_⟩
      walk_at "go"
      refine ⟨m, j + 1, ds ++ [decide (dd = 1)], .int j, .int dd, by (first | exact om335 hjm | omega), by simp [hds], rfl, ?_⟩
      rw [List.map_append, List.map_append]
      rfl
    · rintro σ' ⟨m, j, ds, u, v, hjm, hds, e1, e2⟩
      subst e2
      have hm : m = 0 := by
        cases m with
        | zero => rfl
        | succ m => rw [List.range'_succ] at e1; cases e1
      have hds : ds.length = 4 := by (first | exact om336 hjm hds hm | omega)
      obtain ⟨b0, b1, b2, b3, rfl⟩ : ∃ b0 b1 b2 b3, ds = [b0, b1, b2, b3] := by
        match ds, hds with
        | [b0, b1, b2, b3], _ => exact ⟨_, _, _, _, rfl⟩
      refine TT.freeze (a := pa) (by walk_at "mdel") (by walk_at "frz") ?_
      walk_at "go"
      refine T_For O (StepInv ns nums n0 f g qa qb mem) ?_ ?_ ?_ (fun _ => rfl) (fun _ _ => rfl)
      · walk_at "go"
        refine T_SliceL ?_
        walk_at "go"
        refine ⟨_, .frozen, by rw [List.length_map]; (first | exact om325 hs hnl | omega), nn_some (by (first | exact om337 | omega)), nn_none, ?_⟩
        rw [lslice_from _ (i := 1) (k := 1) rfl]
        refine T_List ?_
        walk_at "go"
        refine ⟨by show 3 ≤ _; (first | exact om170 hs | omega), ?_⟩
        have hnl' : nums.length = 5 := by simpa using hnl
        refine op_add_list .frozen .frozen (by simp; (first | exact om338 hs hnl' | omega)) ?_
        refine ⟨_, .lst, nums ++ [1, 1, 1], [b0, b1, b2, b3].map (litP qa qb), _, _, _, by simp, ⟨⟨0, by simp; (first | exact om339 hnl' | omega), .init b0 b1 b2 b3⟩, by simp, ⟨nums, 3, rfl, .inr rfl, by (first | exact om340 | omega), by simp⟩, 0, by simp; (first | exact om341 hnl' | omega), ?_⟩, rfl⟩
        intro p hp
        have hq5 : ∀ k, k < 4 → (qs.getD k Str.empty).length ≤ 5 := by decide +kernel
        have l1 := hq5 (min f g) (by (first | exact om321 hf hg | omega))
        have l2 := hq5 (max f g) (by (first | exact om324 hf hg | omega))
        rw [hqa] at l1
        rw [hqb] at l2
        obtain ⟨b, _, rfl⟩ := List.mem_map.mp hp
        unfold litP
        cases b <;> simp <;> (first | exact om342 l1 | exact om342 l2 | omega)
      · rintro a rest σ' ⟨xs, ps, u, v, z, e1, hP, e2⟩
        subst e2
        cases xs with
        | nil => cases e1
        | cons x xs =>
        cases e1
        refine ta_name O (by walk_at "put") (by walk_at "mem") ?_
        walk_at "go"
        subst hw
        have hl4 : ps.length ≤ 4 := by obtain ⟨_, j, _, _, h1, h2⟩ := hP.few; (first | exact om343 h1 h2 | omega)
        have hbig : ∀ p ∈ ps, p.txt.length ≤ 1000000 := by
          obtain ⟨k, hk, hM⟩ := hP.short
          intro p hp
          have h1 := hM p hp
          have h2 : (2 : Nat) ^ k ≤ 2 ^ 8 := Nat.pow_le_pow_right (by decide) (by (first | exact om344 hk | omega))
          have h3 : (2 : Nat) ^ 8 = 256 := rfl
          omega
        have fin : ∀ ps' : List Piece, PSt qa qb xs ps' → ∃ (xs' : List Int) (ps'' : List Piece) (u v z : AV), xs.map AV.int = xs'.map AV.int ∧ PSt qa qb xs' ps'' ∧
            (⟨[.lst (ns.map .int), .lst ((n0 :: nums).map .int), .int ns.sum, .int f, .int g, .lst (qs.map .str), .lst [.str qa, .str qb], .lst (ps'.map Piece.av), u, v, .int x], mem⟩ : AS) = ⟨[.lst (ns.map .int), .lst ((n0 :: nums).map .int), .int ns.sum, .int f, .int g, .lst (qs.map .str), .lst [.str qa, .str qb], .lst (ps''.map Piece.av), u, v, z], mem⟩ :=
          fun ps' h => ⟨xs, ps', u, v, .int x, rfl, h, rfl⟩
        refine ⟨n + 2, Nat.le_refl _, changed_spec hP.pos hl4 hbig ?_ ?_ ?_ ?_⟩
        · intro A p B e _ hx
          walk_at "go"
          refine ⟨xs, A ++ starP p :: B, u, v, .int x, rfl, pst_next hP (fun k r => ⟨k + 1, Nat.le_refl _, .star (e ▸ r)⟩) (by simp; (first | exact om346 ‹_› | omega)) (by rw [e]; simp) (fun h => by (first | exact om347 hx h | omega)) (fun M hM q hq => ?_), rfl⟩
          rcases List.mem_append.mp hq with h | h
          · have := hM q (by rw [e]; exact List.mem_append_left _ h); (first | exact om348 this | omega)
          · rcases List.mem_cons.mp h with rfl | h
            · exact starP_len (hM p (by rw [e]; simp))
            · have := hM q (by rw [e]; simp [h]); (first | exact om348 this | omega)
        · intro h1 hx
          walk_at "go"
          refine ⟨xs, ps, u, v, .int x, rfl, pst_next hP (fun k r => ⟨k, by (first | exact om349 | omega), r⟩) hP.pos (Nat.le_refl _) (fun _ => .inl h1) (fun M hM q hq => ?_), rfl⟩
          have := hM q hq; (first | exact om348 this | omega)
        · intro A p p2 B e _ hx
          walk_at "go"
          refine ⟨xs, A ++ altP p p2 :: B, u, v, .int x, rfl, pst_next hP (fun k r => ⟨k + 1, Nat.le_refl _, .alt (e ▸ r)⟩) (by simp; (first | exact om346 ‹_› | omega)) (by rw [e]; simp; try omega) (fun h => by (first | exact om350 hx h | omega)) (fun M hM q hq => ?_), rfl⟩
          rcases List.mem_append.mp hq with h | h
          · have := hM q (by rw [e]; exact List.mem_append_left _ h); (first | exact om348 this | omega)
          · rcases List.mem_cons.mp h with rfl | h
            · exact altP_len (hM p (by rw [e]; simp)) (hM p2 (by rw [e]; simp))
            · have := hM q (by rw [e]; simp [h]); (first | exact om348 this | omega)
        · intro A p p2 B e _ hx
          walk_at "go"
          refine ⟨xs, A ++ catP p p2 :: B, u, v, .int x, rfl, pst_next hP (fun k r => ⟨k + 1, Nat.le_refl _, .cat (e ▸ r)⟩) (by simp; (first | exact om346 ‹_› | omega)) (by rw [e]; simp; try omega) (fun _ => .inr (by rw [e]; simp; try (first | exact om351 | omega))) (fun M hM q hq => ?_), rfl⟩
          rcases List.mem_append.mp hq with h | h
          · have := hM q (by rw [e]; exact List.mem_append_left _ h); (first | exact om348 this | omega)
          · rcases List.mem_cons.mp h with rfl | h
            · exact catP_len (hM p (by rw [e]; simp)) (hM p2 (by rw [e]; simp))
            · have := hM q (by rw [e]; simp [h]); (first | exact om348 this | omega)
      · rintro σ' ⟨xs, ps, u, v, z, e1, hP, e2⟩
        subst e2
        have hxs : xs = [] := by cases xs with
          | nil => rfl
          | cons _ _ => cases e1
        subst hxs
        obtain ⟨p, rfl⟩ : ∃ p, ps = [p] := by
          obtain ⟨pre, j, e, _, h1, h2⟩ := hP.few
          have hj : j = 0 := by
            have := congrArg List.length e
            simp at this; (first | exact om352 h1 this | omega)
          have := hP.pos
          match ps, this, h2 with
          | [p], _, _ => exact ⟨p, rfl⟩
          | _ :: _ :: _, _, h => simp at h; (first | exact om353 hj h | omega)
        have hpl : p.txt.length ≤ 6000 := by
          obtain ⟨k, hk, hM⟩ := hP.short
          have h1 := hM p (.head _)
          have hk8 : k = 8 := by simpa using hk
          subst hk8
          have h3 : (2 : Nat) ^ 8 = 256 := rfl
          omega
        have hq5 : ∀ k, k < 4 → (qs.getD k Str.empty).length ≤ 5 := by decide +kernel
        have lf := hq5 f (by (first | exact om355 hf | omega))
        have lg := hq5 g (by (first | exact om356 hg | omega))
        have e3 : (Str.ofString "\"\"\n").length = 3 := by decide +kernel
        have e4 : (Str.ofString "\n").length = 1 := by decide +kernel
        walk_at "go"
        refine T_Subscript ?_
        walk_at "go"
        refine op_item_list .frozen (by (first | exact om249 f0 | omega)) (qat f (by (first | exact om355 hf | omega))) ?_ (by rw [List.length_map]; (first | exact om322 hs hql | omega)) (fun _ _ => rfl)
        refine T_Subscript ?_
        walk_at "go"
        refine op_item_list .frozen (by (first | exact om249 g0 | omega)) (qat g (by (first | exact om356 hg | omega))) ?_ (by rw [List.length_map]; (first | exact om322 hs hql | omega)) (fun _ _ => rfl)
        refine op_add_str (by (first | exact om357 hs lf lg | omega)) ?_
        walk_at "go"
        refine op_add_str (by rw [Str.length_append]; (first | exact om358 hs lf lg e3 | omega)) ?_
        refine T_Subscript (T_Subscript ?_)
        walk_at "go"
        refine op_item_list .frozen (by (first | exact om145 | omega)) (a := p.av) rfl ?_ (by show 1 ≤ _; (first | exact om191 hs | omega)) (fun _ _ => rfl)
        walk_at "go"
        refine op_item_tup (by decide) rfl ?_ (Nat.le_of_ble_eq_true rfl) (fun _ _ => rfl)
        refine op_add_str (by rw [Str.length_append, Str.length_append]; (first | exact om359 hs hpl lf lg e3 | omega)) ?_
        walk_at "go"
        refine op_add_str (by rw [Str.length_append, Str.length_append, Str.length_append]; (first | exact om360 hs hpl lf lg e3 e4 | omega)) ?_
        walk_at "go"
        refine T_Subscript (T_Subscript ?_)
        walk_at "go"
        refine op_item_list .frozen (by (first | exact om145 | omega)) (a := p.av) rfl ?_ (by show 1 ≤ _; (first | exact om191 hs | omega)) (fun _ _ => rfl)
        walk_at "go"
        refine op_item_tup (by decide) rfl ?_ (Nat.le_of_ble_eq_true rfl) (fun _ _ => rfl)
        walk_at "go"
        refine ⟨by show 2 ≤ _; (first | exact om206 hs | omega), ?_⟩
        walk_at "go"
        exact q f g p (by (first | exact om355 hf | omega)) (by (first | exact om356 hg | omega)) (by (first | exact om361 hg | omega)) (by rw [hqa, hqb]; obtain ⟨k, hk, r⟩ := hP.reach; exact ⟨k, by simpa using hk, r⟩) hpl
end
section
theorem op_iadd_int {c : Cx} {σ : AS} {Q : AV → AS → Prop} {i j : Int} (q : Q (.int (i + j)) σ) : Op2 c (inplaceOp .Add) (.int i) (.int j) σ Q := fun va vb s ⟨t, ea⟩ ⟨u, eb⟩ S => by
  subst ea eb; exact iadd_int ⟨.int (i + j), σ, ⟨_, rfl⟩, S.toks _, .refl, q⟩
/-- a one-letter text -/
noncomputable abbrev ch (k : Nat) : Str := ⟨#[k]⟩
noncomputable abbrev wsT : Str := Str.ofString "\n\t\x0d "
structure LxD where
  (ca pb lx ld fo cc spb st sd sa : Addr)
  (co fobj oc : Obj)
  (tps : Array Value)
noncomputable abbrev LxD.memN (L : LxD) (ln : Int) (pbs : List Str) (cs : List Nat) : Mem :=
  [(L.ca, .raw L.co), (L.pb, .list (pbs.map .str)), (L.lx, .raw (instObj 79 L.ld)),
   (L.ld, .flds [(Str.ofString "lineno", .int ln), (Str.ofString "instream", .ref L.st), (Str.ofString "whitespace", .str wsT), (Str.ofString "pushback", .ref L.pb)]),
   (L.fo, .raw L.fobj), (L.cc, .raw L.oc), (L.spb, .list []), (L.st, .raw (instObj 79 L.sd)),
   (L.sd, .flds [(Str.ofString "lineno", .int 1), (Str.ofString "instream", .none), (Str.ofString "whitespace", .str wsT), (Str.ofString "pushback", .ref L.spb), (Str.ofString "read", .ref L.fo)]),
   (L.sa, .list (cs.reverse.map fun k => .str (ch k))), (121, .raw (tabObj L.tps))]
/-- one more than the line ends that are read (there are two in all) -/
noncomputable abbrev lnOf (cs : List Nat) : Int := 3 - (cs.count 10 : Int)
noncomputable abbrev LxD.mem (L : LxD) (pbs : List Str) (cs : List Nat) : Mem := L.memN (lnOf cs) pbs cs
structure Lx (w : World) extends LxD where
  isfn : ∃ fd, fobj.data = .func fd
  lam : ∀ (n : Nat) (pre : Mem) (ln : Int) (pbs : List Str) (cs : List Nat) (Q : AV → Mem → Prop), cs.length ≤ 60000 →
    (match cs with
      | [] => Q (.str Str.empty) (pre ++ toLxD.memN ln pbs [])
      | k :: r => Q (.str (ch k)) (pre ++ toLxD.memN ln pbs r)) → FS w (n + 1) (.ref fo) [.int 1] (pre ++ toLxD.memN ln pbs cs) Q
noncomputable def Lx.inst {w : World} (L : Lx w) (pre : Mem) (ln : Int) (pbs : List Str) (cs : List Nat) : Inst (pre ++ L.memN ln pbs cs) L.lx [(Str.ofString "lineno", .int ln), (Str.ofString "instream", .ref L.st), (Str.ofString "whitespace", .str wsT), (Str.ofString "pushback", .ref L.pb)] :=
  ⟨L.ld, List.mem_append_right _ (by walk_at "mem"), List.mem_append_right _ (by walk_at "mem")⟩
noncomputable def Lx.instS {w : World} (L : Lx w) (pre : Mem) (ln : Int) (pbs : List Str) (cs : List Nat) : Inst (pre ++ L.memN ln pbs cs) L.st [(Str.ofString "lineno", .int 1), (Str.ofString "instream", .none), (Str.ofString "whitespace", .str wsT), (Str.ofString "pushback", .ref L.spb), (Str.ofString "read", .ref L.fo)] :=
  ⟨L.sd, List.mem_append_right _ (by walk_at "mem"), List.mem_append_right _ (by walk_at "mem")⟩
theorem read_spec {w : World} (L : Lx w) {n : Nat} {pre : Mem} {pbs : List Str} {cs : List Nat} {Q : AV → Mem → Prop} (hb : cs.length ≤ 60000)
    (q : match cs with
      | [] => Q (.str Str.empty) (pre ++ L.mem pbs [])
      | k :: r => Q (.str (ch k)) (pre ++ L.mem pbs r)) : FS w (n + 2) (.ref 62) [.ref L.lx] (pre ++ L.mem pbs cs) Q := by
  refine FS_in [Str.ofString "self"] [Str.ofString "self", Str.ofString "ch"] [] [] [.ref L.lx, .unb] rfl rfl (by kernel_rfl) (by kernel_rfl) rfl (dav := []) rfl (dv := []) (fun _ _ => rfl) rfl (fun vals h => ?_) (fun c hw O => ?_)
  · obtain ⟨a0, rfl⟩ := len1 h
    exact fun S => by kernel_rfl
  · subst hw
    walk_at "go"
    refine T_methI O ?_ (by rfl) rfl
    refine T_attr ?_ (by rfl)
    walk_at "go"
    refine getf_own (L.inst _ _ _ _) on_instream rfl trivial ?_
    refine getm_own (L.instS _ _ _ _) on_read rfl ?_
    obtain ⟨fd, hfd⟩ := L.isfn
    refine ⟨_, fd, hfd, ?_⟩
    walk_at "go"
    refine ⟨.mem (List.mem_append_right _ (by walk_at "mem")), n + 1, Nat.le_refl _, L.lam n pre _ pbs cs _ hb ?_⟩
    cases cs with
    | nil =>
      dsimp only at q ⊢
      walk_at "go"
      refine op_eq_str ?_
      walk_at "go"
      exact q
    | cons k r =>
      dsimp only at q ⊢
      walk_at "go"
      refine op_eq_str ?_
      walk_at "go"
      have hk : (ch k = Str.ofString "\n") ↔ k = 10 := by
        rw [show Str.ofString "\n" = ch 10 from by decide +kernel]
        exact ⟨fun e => by cases e; rfl, fun e => by rw [e]⟩
      refine dec_by (fun hh => ?_) fun hh => ?_
      · have := hk.mp hh; subst this
        walk_at "go"
        refine T_AugAttr ?_
        walk_at "go"
        refine getf_own (L.inst _ _ _ _) on_lineno rfl trivial ?_
        walk_at "go"
        refine op_iadd_int ?_
        refine setf_own (L.inst _ _ _ _) on_lineno (MUp.pre (by walk_at "mup") _) (by show 4 ≤ _; (first | exact om362 | omega)) ?_
        walk_at "go"
        have e : lnOf r = lnOf (10 :: r) + 1 := by
          show (3 : Int) - _ = 3 - _ + 1
          rw [List.count_cons_self]; (first | exact om363 | omega)
        rw [LxD.mem, e] at q
        exact q
      · have hk' : k ≠ 10 := fun e => hh (hk.mpr e)
        walk_at "go"
        have e : lnOf r = lnOf (k :: r) := by
          show (3 : Int) - _ = 3 - _
          rw [List.count_cons_of_ne hk']
        rw [LxD.mem, e] at q
        exact q
theorem push_spec {w : World} (L : Lx w) {n : Nat} {pre : Mem} {pbs : List Str} {cs : List Nat} {t : Str} {Q : AV → Mem → Prop} (hp : pbs.length ≤ 9)
    (q : Q .none (pre ++ L.mem (pbs ++ [t]) cs)) : FS w (n + 1) (.ref 76) [.ref L.lx, .str t] (pre ++ L.mem pbs cs) Q := by
  have hs : sizeLine = 16777216 := rfl
  refine FS_in [Str.ofString "self", Str.ofString "token"] [Str.ofString "self", Str.ofString "token"] [] [] [.ref L.lx, .str t] rfl rfl (by kernel_rfl) (by kernel_rfl) rfl (dav := []) rfl (dv := []) (fun _ _ => rfl) rfl (fun vals h => ?_) (fun c hw O => ?_)
  · obtain ⟨a0, a1, rfl⟩ := len2 h
    exact fun S => by kernel_rfl
  · subst hw
    walk_at "go"
    refine T_methL PySem.F.slot_list_append rfl ?_
    refine T_attr ?_ (by rfl)
    walk_at "go"
    refine getf_own (L.inst _ _ _ _) on_pushback rfl trivial ?_
    refine ⟨_, _, rfl, List.mem_append_right _ (by walk_at "mem"), ?_⟩
    walk_at "go"
    refine bs_append (MUp.pre (by walk_at "mup") _) (by rw [List.length_map]; (first | exact om364 hp hs | omega)) ?_
    refine ⟨rfl, ?_⟩
    walk_at "go"
    rw [LxD.mem, LxD.memN, List.map_append] at q
    exact q
end
section
set_option linter.unusedSimpArgs false
noncomputable def isWs (k : Nat) : Bool := decide (k ∈ [10, 9, 13, 32])
theorem isWs_eq (k : Nat) : decide (k ∈ wsT.cps.toList) = isWs k := by
  rw [show wsT.cps.toList = [10, 9, 13, 32] from by decide +kernel]; rfl
noncomputable def lexQ : List Nat → Str → Option (Str × List Nat)
  | [], _ => none
  | [k], t => if k = 34 then some (t, []) else none
  | k :: k' :: r, t => if k = 34 then some (t, k' :: r) else if k = 92 then lexQ r (t ++ ch k') else lexQ (k' :: r) (t ++ ch k)
noncomputable def lexU : List Nat → Str → Option (Str × List Nat)
  | [], _ => none
  | [k], t => if isWs k then some (t, []) else none
  | k :: k' :: r, t => if isWs k then some (t, k' :: r) else if k = 92 then lexU r (t ++ ch k') else lexU (k' :: r) (t ++ ch k)
noncomputable def lexTok : List Nat → Option (Str × List Nat)
  | [] => some (Str.empty, [])
  | [k] => if isWs k then some (Str.empty, []) else none
  | k :: k' :: r => if isWs k then lexTok (k' :: r) else if k = 34 then lexQ (k' :: r) Str.empty else if k = 92 then lexU r (Str.empty ++ ch k') else lexU (k' :: r) (Str.empty ++ ch k)
theorem ch_len (k : Nat) : (ch k).length = 1 := rfl
theorem em_len : Str.empty.length = 0 := rfl
theorem ch_eq {k j : Nat} : (ch k = ch j) ↔ k = j := ⟨fun e => by cases e; rfl, fun e => by rw [e]⟩
theorem s34 : Str.ofString "\"" = ch 34 := by decide +kernel
theorem s92 : Str.ofString "\\" = ch 92 := by decide +kernel
theorem lexQ_cons {k : Nat} {r : List Nat} {t : Str} {x : Str × List Nat} (h : lexQ (k :: r) t = some x) :
    (k = 34 ∧ x = (t, r)) ∨ (k ≠ 34 ∧ k = 92 ∧ ∃ k' r', r = k' :: r' ∧ lexQ r' (t ++ ch k') = some x) ∨ (k ≠ 34 ∧ k ≠ 92 ∧ lexQ r (t ++ ch k) = some x) := by
  by_cases h1 : k = 34
  · subst h1
    cases r <;> · unfold lexQ at h; rw [if_pos rfl] at h; cases h; exact .inl ⟨rfl, rfl⟩
  · cases r with
    | nil => unfold lexQ at h; rw [if_neg h1] at h; cases h
    | cons k' r' =>
      unfold lexQ at h
      rw [if_neg h1] at h
      by_cases h2 : k = 92
      · rw [if_pos h2] at h; exact .inr (.inl ⟨h1, h2, k', r', rfl, h⟩)
      · rw [if_neg h2] at h; exact .inr (.inr ⟨h1, h2, h⟩)
theorem lexU_cons {k : Nat} {r : List Nat} {t : Str} {x : Str × List Nat} (h : lexU (k :: r) t = some x) :
    (isWs k = true ∧ x = (t, r)) ∨ (isWs k = false ∧ k = 92 ∧ ∃ k' r', r = k' :: r' ∧ lexU r' (t ++ ch k') = some x) ∨ (isWs k = false ∧ k ≠ 92 ∧ lexU r (t ++ ch k) = some x) := by
  cases h1 : isWs k with
  | true =>
    cases r <;> · unfold lexU at h; rw [h1, if_pos rfl] at h; cases h; exact .inl ⟨rfl, rfl⟩
  | false =>
    cases r with
    | nil => unfold lexU at h; rw [h1] at h; cases h
    | cons k' r' =>
      unfold lexU at h
      rw [h1, if_neg Bool.false_ne_true] at h
      by_cases h2 : k = 92
      · rw [if_pos h2] at h; exact .inr (.inl ⟨rfl, h2, k', r', rfl, h⟩)
      · rw [if_neg h2] at h; exact .inr (.inr ⟨rfl, h2, h⟩)
theorem lexTok_cons {k : Nat} {r : List Nat} {x : Str × List Nat} (h : lexTok (k :: r) = some x) :
    (isWs k = true ∧ lexTok r = some x) ∨ (isWs k = false ∧ k = 34 ∧ lexQ r Str.empty = some x) ∨ (isWs k = false ∧ k ≠ 34 ∧ k = 92 ∧ ∃ k' r', r = k' :: r' ∧ lexU r' (Str.empty ++ ch k') = some x) ∨ (isWs k = false ∧ k ≠ 34 ∧ k ≠ 92 ∧ lexU r (Str.empty ++ ch k) = some x) := by
  cases h1 : isWs k with
  | true =>
    cases r <;> · unfold lexTok at h; rw [h1, if_pos rfl] at h; exact .inl ⟨rfl, h⟩
  | false =>
    cases r with
    | nil => unfold lexTok at h; rw [h1] at h; cases h
    | cons k' r' =>
      unfold lexTok at h
      rw [h1, if_neg Bool.false_ne_true] at h
      by_cases h3 : k = 34
      · rw [if_pos h3] at h; exact .inr (.inl ⟨rfl, h3, h⟩)
      rw [if_neg h3] at h
      by_cases h2 : k = 92
      · rw [if_pos h2] at h; exact .inr (.inr (.inl ⟨rfl, h3, h2, k', r', rfl, h⟩))
      · rw [if_neg h2] at h; exact .inr (.inr (.inr ⟨rfl, h3, h2, h⟩))
theorem fn62 : IsFn 62 := fun w => ⟨_, _, rfl, rfl⟩
theorem nx_read {c : Cx} {L : Lx c.w} {n : Nat} {it q : Addr} {t : Tok} {vals : List AV} {pre : Mem} {pbs : List Str} {cs : List Nat} {K : Option AV → AS → Prop} (R : Room c.A (n + 3)) (hb : cs.length ≤ 60000)
    (h : match cs with
      | [] => K none ⟨vals, (it, .raw citEnd) :: (q, .raw (methodObj (.ref 62) (.ref L.lx))) :: (pre ++ L.mem pbs [])⟩
      | k :: r => K (some (.str (ch k))) ⟨vals, (it, .raw (cit q t)) :: (q, .raw (methodObj (.ref 62) (.ref L.lx))) :: (pre ++ L.mem pbs r)⟩) :
    NX c it ⟨vals, (it, .raw (cit q t)) :: (q, .raw (methodObj (.ref 62) (.ref L.lx))) :: (pre ++ L.mem pbs cs)⟩ K := by
  have hf : IsFn 62 := fun w => ⟨_, _, rfl, rfl⟩
  refine nx_cit (m := n + 2) (f := 62) (a := L.lx) R hf (.head _) (.tail _ (.head _)) ?_
  refine read_spec (pre := (it, .raw (cit q t)) :: (q, .raw (methodObj (.ref 62) (.ref L.lx))) :: pre) L hb ?_
  cases cs with
  | nil =>
    refine ⟨_, rfl, .head _, .tail _ (.head _), ?_⟩
    rw [if_pos rfl]
    exact ⟨_, .head, h⟩
  | cons k r =>
    refine ⟨_, rfl, .head _, .tail _ (.head _), ?_⟩
    rw [if_neg (fun e => by cases e)]
    exact h
/-- what get_token gives: the token and what is left -/
noncomputable def Gets (pbs : List Str) (cs : List Nat) (t : Str) (pbs' : List Str) (cs' : List Nat) : Prop :=
  match pbs with
  | [] => lexTok cs = some (t, cs') ∧ pbs' = []
  | t' :: r => t' = t ∧ pbs' = r ∧ cs' = cs
inductive TokInv {w : World} (L : Lx w) (q it : Addr) (tk : Tok) (pre : Mem) (t : Str) (cs' : List Nat) (it' : Addr) (k : Nat) (σ : AS) : Prop
  | mk (p0 : it = it') (cs : List Nat) (u : AV) (h0 : σ = ⟨[.ref L.lx, .str Str.empty, .ref it, u], (it, .raw (cit q tk)) :: (q, .raw (methodObj (.ref 62) (.ref L.lx))) :: (pre ++ L.mem [] cs)⟩) (h1 : k = cs.length) (h2 : cs.length ≤ 30000) (h3 : lexTok cs = some (t, cs')) : TokInv L q it tk pre t cs' it' k σ
inductive QuoInv {w : World} (L : Lx w) (q it : Addr) (tk : Tok) (pre : Mem) (t : Str) (cs' : List Nat) (it' : Addr) (k : Nat) (σ : AS) : Prop
  | mk (p0 : it = it') (cs : List Nat) (tok : Str) (u : AV) (h0 : σ = ⟨[.ref L.lx, .str tok, .ref it, u], (it, .raw (cit q tk)) :: (q, .raw (methodObj (.ref 62) (.ref L.lx))) :: (pre ++ L.mem [] cs)⟩) (h1 : k = cs.length) (h2 : tok.length + cs.length ≤ 30000) (h3 : lexQ cs tok = some (t, cs')) : QuoInv L q it tk pre t cs' it' k σ
inductive UnqInv {w : World} (L : Lx w) (q it : Addr) (tk : Tok) (pre : Mem) (t : Str) (cs' : List Nat) (it' : Addr) (k : Nat) (σ : AS) : Prop
  | mk (p0 : it = it') (cs : List Nat) (tok : Str) (u : AV) (h0 : σ = ⟨[.ref L.lx, .str tok, .ref it, u], (it, .raw (cit q tk)) :: (q, .raw (methodObj (.ref 62) (.ref L.lx))) :: (pre ++ L.mem [] cs)⟩) (h1 : k = cs.length) (h2 : tok.length + cs.length ≤ 30000) (h3 : lexU cs tok = some (t, cs')) : UnqInv L q it tk pre t cs' it' k σ
theorem gett_spec {w : World} (L : Lx w) {n : Nat} {pre : Mem} {pbs pbs' : List Str} {cs cs' : List Nat} {t : Str} {Q : AV → Mem → Prop} (hp : pbs.length ≤ 9) (hb : cs.length ≤ 30000) (hg : Gets pbs cs t pbs' cs')
    (hQ : Q (.str t) (pre ++ L.mem pbs' cs')) : FS w (n + 4) (.ref 69) [.ref L.lx] (pre ++ L.mem pbs cs) Q := by
  have hs : sizeLine = 16777216 := rfl
  refine FS_inD [Str.ofString "self"] [Str.ofString "self", Str.ofString "token", Str.ofString "fiter", Str.ofString "ch"] [Str.ofString "iter"] [] [.ref L.lx, .unb, .unb, .unb] rfl rfl (by kernel_rfl) (by kernel_rfl) rfl (dav := []) rfl (dv := []) (fun _ _ => rfl) rfl (fun vals h => ?_) (fun c hw O => ?_)
  · obtain ⟨a0, rfl⟩ := len1 h
    exact fun S => by kernel_rfl
  · subst hw
    obtain ⟨fo, fd, hfo, hfd⟩ := fn62 c.w
    walk_at "go"
    refine tb_plain ?_
    refine T_attr ?_ (by rfl)
    walk_at "go"
    refine getf_own (L.inst _ _ _ _) on_pushback rfl trivial ?_
    refine tru_list (.owned (List.mem_append_right _ (by walk_at "mem"))) (by rw [List.length_map]; (first | exact om364 hp hs | omega)) ?_
    cases pbs with
    | cons t' r =>
      obtain ⟨rfl, rfl, rfl⟩ := hg
      refine ite_t (by simp) ?_
      walk_at "go"
      refine T_methL PySem.F.slot_list_pop rfl ?_
      refine T_attr ?_ (by rfl)
      walk_at "go"
      refine getf_own (L.inst _ _ _ _) on_pushback rfl trivial ?_
      refine ⟨_, _, rfl, List.mem_append_right _ (by walk_at "mem"), ?_⟩
      walk_at "go"
      refine bs_pop0 (MUp.pre (by walk_at "mup") _) (by simp at hp ⊢; (first | exact om365 hs hp | omega)) ?_
      walk_at "go"
      exact ⟨_, List.Sublist.refl _, hQ⟩
    | nil =>
      obtain ⟨hg, rfl⟩ := hg
      refine ite_f (by simp) ?_
      walk_at "go"
      refine T_attr ?_ (by rfl)
      walk_at "go"
      refine getf_bound (L.inst _ _ _ _) mn_read_char rfl fun q hq => ?_
      walk_at "go"
      refine bs_iter2 (.head _) fun it tk hit => ?_
      walk_at "go"
      refine T_ForN O (TokInv L q it tk pre t cs') cs.length ?_ ?_ (fun _ => rfl) (fun _ _ => rfl)
      · walk_at "go"
        exact ⟨it, q, tk, rfl, .head _, rfl, cs, .unb, rfl, rfl, hb, hg⟩
      · rintro it' k σ ⟨hit', cs, u, hσ, hk, hb, hg⟩
        subst hit' hσ hk
        refine nx_read (O.room.le (Nat.le_refl _)) (by (first | exact om366 hb | omega)) ?_
        cases cs with
        | nil =>
          dsimp only
          walk_at "go"
          cases hg
          exact ⟨_, ((List.Sublist.refl _).cons _).cons _, hQ⟩
        | cons k r =>
          dsimp only
          refine ta_name O (by walk_at "put") (by walk_at "mem") ?_
          walk_at "go"
          refine T_attr ?_ (by rfl)
          walk_at "go"
          refine getf_own (L.inst ((it, .raw (cit q tk)) :: (q, .raw (methodObj (.ref 62) (.ref L.lx))) :: pre) _ _ _) on_whitespace rfl trivial ?_
          refine op_in_sign ?_
          rw [isWs_eq]
          walk_at "go"
          rcases lexTok_cons hg with ⟨h1, hg⟩ | ⟨h1, h2, hg⟩ | ⟨h1, h2, h3, k', r', hr, hg2⟩ | ⟨h1, h2, h3, hg⟩
          · refine ite_t h1 ?_
            walk_at "go"
            exact ⟨_, Nat.lt_succ_self _, rfl, r, _, rfl, rfl, by simp at hb; (first | exact om367 hb | omega), hg⟩
          all_goals
            refine ite_f (by rw [h1]; decide) ?_
            walk_at "go"
            refine op_eq_str ?_
            walk_at "go"
          · refine dec_by (fun _ => ?_) (fun hh => absurd (by rw [s34, h2]) hh)
            walk_at "go"
            refine T_ForN O (QuoInv L q it tk pre t cs') r.length ?_ ?_ (fun _ => rfl) (fun _ _ => rfl)
            · walk_at "go"
              exact ⟨it, q, tk, rfl, .head _, rfl, r, _, _, rfl, rfl, by simp only [List.length_cons, Str.length_append, ch_len, em_len] at hb ⊢; (first | exact om368 hb | omega), hg⟩
            · rintro it' k σ ⟨hit', cs, tok, u, hσ, hk, hb, hg⟩
              subst hit' hσ hk
              refine nx_read (O.room.le (Nat.le_refl _)) (by (first | exact om369 hb | omega)) ?_
              cases cs with
              | nil => cases hg
              | cons k r =>
                dsimp only
                refine ta_name O (by walk_at "put") (by walk_at "mem") ?_
                walk_at "go"
                refine op_eq_str ?_
                walk_at "go"
                rcases lexQ_cons hg with ⟨h1, hx⟩ | ⟨h1, h2, k', r', hr, hg2⟩ | ⟨h1, h2, hg2⟩
                · cases hx
                  refine dec_by (fun _ => ?_) (fun hh => absurd (by rw [s34, h1]) hh)
                  walk_at "go"
                  exact ⟨_, ((List.Sublist.refl _).cons _).cons _, hQ⟩
                · subst hr
                  refine dec_by (fun hh => absurd (ch_eq.mp (s34 ▸ hh)) h1) (fun _ => ?_)
                  walk_at "go"
                  refine op_eq_str ?_
                  walk_at "go"
                  refine dec_by (fun _ => ?_) (fun hh => absurd (by rw [s92, h2]) hh)
                  walk_at "go"
                  refine T_methI O ?_ (by rfl) rfl
                  walk_at "go"
                  refine getm_meth (L.inst ((it, .raw (cit q tk)) :: (q, .raw (methodObj (.ref 62) (.ref L.lx))) :: pre) _ _ _) mn_read_char rfl ?_
                  refine ⟨fo, fd, hfd, ?_⟩
                  walk_at "go"
                  refine ⟨.k hfo, n + 2, by (first | exact om370 | omega), read_spec (pre := ((it, .raw (cit q tk)) :: (q, .raw (methodObj (.ref 62) (.ref L.lx))) :: pre)) L (by simp only [List.length_cons, Str.length_append, ch_len, em_len] at hb ⊢; (first | exact om371 hb | omega)) ?_⟩
                  dsimp only
                  walk_at "go"
                  refine op_iadd_str (by simp only [List.length_cons, Str.length_append, ch_len, em_len] at hb ⊢; (first | exact om372 hs hb | omega)) ?_
                  walk_at "go"
                  exact ⟨_, by show r'.length < r'.length + 1 + 1; (first | exact om373 | omega), rfl, r', _, _, rfl, rfl, by simp only [List.length_cons, Str.length_append, ch_len, em_len] at hb ⊢; (first | exact om374 hb | omega), hg2⟩
                · refine dec_by (fun hh => absurd (ch_eq.mp (s34 ▸ hh)) h1) (fun _ => ?_)
                  walk_at "go"
                  refine op_eq_str ?_
                  walk_at "go"
                  refine dec_by (fun hh => absurd (ch_eq.mp (s92 ▸ hh)) h2) (fun _ => ?_)
                  walk_at "go"
                  refine op_iadd_str (by simp only [List.length_cons, Str.length_append, ch_len, em_len] at hb ⊢; (first | exact om375 hs hb | omega)) ?_
                  walk_at "go"
                  exact ⟨_, by show r.length < r.length + 1; (first | exact om13 | omega), rfl, r, _, _, rfl, rfl, by simp only [List.length_cons, Str.length_append, ch_len, em_len] at hb ⊢; (first | exact om376 hb | omega), hg2⟩
          · subst hr
            refine dec_by (fun hh => absurd (ch_eq.mp (s34 ▸ hh)) h2) (fun _ => ?_)
            walk_at "go"
            refine op_eq_str ?_
            walk_at "go"
            refine dec_by (fun _ => ?_) (fun hh => absurd (by rw [s92, h3]) hh)
            walk_at "go"
            refine T_methI O ?_ (by rfl) rfl
            walk_at "go"
            refine getm_meth (L.inst ((it, .raw (cit q tk)) :: (q, .raw (methodObj (.ref 62) (.ref L.lx))) :: pre) _ _ _) mn_read_char rfl ?_
            refine ⟨fo, fd, hfd, ?_⟩
            walk_at "go"
            refine ⟨.k hfo, n + 2, by (first | exact om370 | omega), read_spec (pre := ((it, .raw (cit q tk)) :: (q, .raw (methodObj (.ref 62) (.ref L.lx))) :: pre)) L (by simp only [List.length_cons, Str.length_append, ch_len, em_len] at hb ⊢; (first | exact om377 hb | omega)) ?_⟩
            dsimp only
            walk_at "go"
            refine op_iadd_str (by simp only [List.length_cons, Str.length_append, ch_len, em_len] at hb ⊢; (first | exact om378 hs | omega)) ?_
            walk_at "go"
            refine  T_ForN O (UnqInv L q it tk pre t cs') r'.length ?_ ?_ (fun _ => rfl) (fun _ _ => rfl)
            · walk_at "go"
              exact ⟨it, q, tk, rfl, .head _, rfl, r', _, _, rfl, rfl, by simp only [List.length_cons, Str.length_append, ch_len, em_len] at hb ⊢; (first | exact om379 hb | omega), hg2⟩
            · rintro it' k σ ⟨hit', cs, tok, u, hσ, hk, hb, hg⟩
              subst hit' hσ hk
              refine nx_read (O.room.le (Nat.le_refl _)) (by (first | exact om369 hb | omega)) ?_
              cases cs with
              | nil => cases hg
              | cons k r =>
                dsimp only
                refine ta_name O (by walk_at "put") (by walk_at "mem") ?_
                walk_at "go"
                refine T_attr ?_ (by rfl)
                walk_at "go"
                refine getf_own (L.inst ((it, .raw (cit q tk)) :: (q, .raw (methodObj (.ref 62) (.ref L.lx))) :: pre) _ _ _) on_whitespace rfl trivial ?_
                refine op_in_sign ?_
                rw [isWs_eq]
                walk_at "go"
                rcases lexU_cons hg with ⟨h1, hx⟩ | ⟨h1, h2, k', r', hr, hg2⟩ | ⟨h1, h2, hg2⟩
                · cases hx
                  refine ite_t h1 ?_
                  walk_at "go"
                  exact ⟨_, ((List.Sublist.refl _).cons _).cons _, hQ⟩
                · subst hr
                  refine ite_f (by rw [h1]; decide) ?_
                  walk_at "go"
                  refine op_eq_str ?_
                  walk_at "go"
                  refine dec_by (fun _ => ?_) (fun hh => absurd (by rw [s92, h2]) hh)
                  walk_at "go"
                  refine T_methI O ?_ (by rfl) rfl
                  walk_at "go"
                  refine getm_meth (L.inst ((it, .raw (cit q tk)) :: (q, .raw (methodObj (.ref 62) (.ref L.lx))) :: pre) _ _ _) mn_read_char rfl ?_
                  refine ⟨fo, fd, hfd, ?_⟩
                  walk_at "go"
                  refine ⟨.k hfo, n + 2, by (first | exact om370 | omega), read_spec (pre := ((it, .raw (cit q tk)) :: (q, .raw (methodObj (.ref 62) (.ref L.lx))) :: pre)) L (by simp only [List.length_cons, Str.length_append, ch_len, em_len] at hb ⊢; (first | exact om371 hb | omega)) ?_⟩
                  dsimp only
                  walk_at "go"
                  refine op_iadd_str (by simp only [List.length_cons, Str.length_append, ch_len, em_len] at hb ⊢; (first | exact om372 hs hb | omega)) ?_
                  walk_at "go"
                  exact ⟨_, by show r'.length < r'.length + 1 + 1; (first | exact om373 | omega), rfl, r', _, _, rfl, rfl, by simp only [List.length_cons, Str.length_append, ch_len, em_len] at hb ⊢; (first | exact om374 hb | omega), hg2⟩
                · refine ite_f (by rw [h1]; decide) ?_
                  walk_at "go"
                  refine op_eq_str ?_
                  walk_at "go"
                  refine dec_by (fun hh => absurd (ch_eq.mp (s92 ▸ hh)) h2) (fun _ => ?_)
                  walk_at "go"
                  refine op_iadd_str (by simp only [List.length_cons, Str.length_append, ch_len, em_len] at hb ⊢; (first | exact om375 hs hb | omega)) ?_
                  walk_at "go"
                  exact ⟨_, by show r.length < r.length + 1; (first | exact om13 | omega), rfl, r, _, _, rfl, rfl, by simp only [List.length_cons, Str.length_append, ch_len, em_len] at hb ⊢; (first | exact om376 hb | omega), hg2⟩
          · refine dec_by (fun hh => absurd (ch_eq.mp (s34 ▸ hh)) h2) (fun _ => ?_)
            walk_at "go"
            refine op_eq_str ?_
            walk_at "go"
            refine dec_by (fun hh => absurd (ch_eq.mp (s92 ▸ hh)) h3) (fun _ => ?_)
            walk_at "go"
            refine op_iadd_str (by simp only [List.length_cons, Str.length_append, ch_len, em_len] at hb ⊢; (first | exact om378 hs | omega)) ?_
            walk_at "go"
            refine T_ForN O (UnqInv L q it tk pre t cs') r.length ?_ ?_ (fun _ => rfl) (fun _ _ => rfl)
            · walk_at "go"
              exact ⟨it, q, tk, rfl, .head _, rfl, r, _, _, rfl, rfl, by simp only [List.length_cons, Str.length_append, ch_len, em_len] at hb ⊢; (first | exact om380 hb | omega), hg⟩
            · rintro it' k σ ⟨hit', cs, tok, u, hσ, hk, hb, hg⟩
              subst hit' hσ hk
              refine nx_read (O.room.le (Nat.le_refl _)) (by (first | exact om369 hb | omega)) ?_
              cases cs with
              | nil => cases hg
              | cons k r =>
                dsimp only
                refine ta_name O (by walk_at "put") (by walk_at "mem") ?_
                walk_at "go"
                refine T_attr ?_ (by rfl)
                walk_at "go"
                refine getf_own (L.inst ((it, .raw (cit q tk)) :: (q, .raw (methodObj (.ref 62) (.ref L.lx))) :: pre) _ _ _) on_whitespace rfl trivial ?_
                refine op_in_sign ?_
                rw [isWs_eq]
                walk_at "go"
                rcases lexU_cons hg with ⟨h1, hx⟩ | ⟨h1, h2, k', r', hr, hg2⟩ | ⟨h1, h2, hg2⟩
                · cases hx
                  refine ite_t h1 ?_
                  walk_at "go"
                  exact ⟨_, ((List.Sublist.refl _).cons _).cons _, hQ⟩
                · subst hr
                  refine ite_f (by rw [h1]; decide) ?_
                  walk_at "go"
                  refine op_eq_str ?_
                  walk_at "go"
                  refine dec_by (fun _ => ?_) (fun hh => absurd (by rw [s92, h2]) hh)
                  walk_at "go"
                  refine T_methI O ?_ (by rfl) rfl
                  walk_at "go"
                  refine getm_meth (L.inst ((it, .raw (cit q tk)) :: (q, .raw (methodObj (.ref 62) (.ref L.lx))) :: pre) _ _ _) mn_read_char rfl ?_
                  refine ⟨fo, fd, hfd, ?_⟩
                  walk_at "go"
                  refine ⟨.k hfo, n + 2, by (first | exact om370 | omega), read_spec (pre := ((it, .raw (cit q tk)) :: (q, .raw (methodObj (.ref 62) (.ref L.lx))) :: pre)) L (by simp only [List.length_cons, Str.length_append, ch_len, em_len] at hb ⊢; (first | exact om371 hb | omega)) ?_⟩
                  dsimp only
                  walk_at "go"
                  refine op_iadd_str (by simp only [List.length_cons, Str.length_append, ch_len, em_len] at hb ⊢; (first | exact om372 hs hb | omega)) ?_
                  walk_at "go"
                  exact ⟨_, by show r'.length < r'.length + 1 + 1; (first | exact om373 | omega), rfl, r', _, _, rfl, rfl, by simp only [List.length_cons, Str.length_append, ch_len, em_len] at hb ⊢; (first | exact om374 hb | omega), hg2⟩
                · refine ite_f (by rw [h1]; decide) ?_
                  walk_at "go"
                  refine op_eq_str ?_
                  walk_at "go"
                  refine dec_by (fun hh => absurd (ch_eq.mp (s92 ▸ hh)) h2) (fun _ => ?_)
                  walk_at "go"
                  refine op_iadd_str (by simp only [List.length_cons, Str.length_append, ch_len, em_len] at hb ⊢; (first | exact om375 hs hb | omega)) ?_
                  walk_at "go"
                  exact ⟨_, by show r.length < r.length + 1; (first | exact om13 | omega), rfl, r, _, _, rfl, rfl, by simp only [List.length_cons, Str.length_append, ch_len, em_len] at hb ⊢; (first | exact om376 hb | omega), hg2⟩
end
section
noncomputable abbrev initFs (v : AV) (pb : Addr) : List (Str × AV) := [(Str.ofString "lineno", .int 1), (Str.ofString "instream", v), (Str.ofString "whitespace", .str wsT), (Str.ofString "pushback", .ref pb)]
theorem init_spec {w : World} {n : Nat} {x dx : Addr} {v : AV} {mem : Mem} {Q : AV → Mem → Prop} (hv : v ≠ .unb)
    (q : ∀ pb, Q .none ((pb, .list []) :: (x, .raw (instObj 79 dx)) :: (dx, .flds (initFs v pb)) :: mem)) : FS w (n + 1) (.ref 55) [.ref x, v] ((x, .raw (instObj 79 dx)) :: (dx, .flds []) :: mem) Q := by
  have hs : sizeLine = 16777216 := rfl
  refine FS_in [Str.ofString "self", Str.ofString "fp"] [Str.ofString "self", Str.ofString "fp"] [] [] [.ref x, v] rfl rfl (by kernel_rfl) (by kernel_rfl) rfl (dav := []) rfl (dv := []) (fun _ _ => rfl) rfl (fun vals h => ?_) (fun c hw O => ?_)
  · obtain ⟨a0, a1, rfl⟩ := len2 h
    exact fun S => by kernel_rfl
  · subst hw
    walk_at "go"
    refine T_AssignAttr ?_ rfl
    walk_at "go"
    refine setf_own ⟨dx, .head _, .tail _ (.head _)⟩ on_lineno (by walk_at "mup") (by decide) ?_
    walk_at "go"
    refine T_AssignAttr ?_ rfl
    walk_at "go"
    refine setf_own ⟨dx, .head _, .tail _ (.head _)⟩ on_instream (by walk_at "mup") (by show 1 ≤ _; (first | exact om381 | omega)) ?_
    walk_at "go"
    refine T_AssignAttr ?_ rfl
    walk_at "go"
    refine setf_own ⟨dx, .head _, .tail _ (.head _)⟩ on_whitespace (by walk_at "mup") (by show 2 ≤ _; (first | exact om219 | omega)) ?_
    walk_at "go"
    refine T_AssignAttr ?_ rfl
    refine T_ListO ?_
    walk_at "go"
    refine ⟨by decide, fun pb hpb => ?_⟩
    walk_at "go"
    refine setf_own ⟨dx, .tail _ (.head _), .tail _ (.tail _ (.head _))⟩ on_pushback (by walk_at "mup") (by show 3 ≤ _; (first | exact om382 | omega)) ?_
    walk_at "go"
    exact q pb
theorem class_spec {w : World} {n : Nat} {v : AV} {mem : Mem} {Q : AV → Mem → Prop} (hv : v ≠ .unb)
    (q : ∀ x dx pb, Q (.ref x) ((pb, .list []) :: (x, .raw (instObj 79 dx)) :: (dx, .flds (initFs v pb)) :: mem)) : FS w (n + 2) (.ref 79) [v] mem Q :=
  FS_class fun x dx hx => init_spec hv fun pb => ⟨rfl, q x dx pb⟩
theorem Sat.takeCell {c : Cx} {σ : AS} {s : Shared} (S : Sat c σ s) {ca : Addr} {o : Obj} (hc : ca ∈ c.oc) (ho : s.heap.get? ca = some o) :
    (∀ b ∈ Mem.dom ((ca, AO.raw o) :: σ.mem), b ∈ own c σ.mem) ∧ Pre c.w ((ca, AO.raw o) :: σ.mem) s.heap := by
  have sub : ∀ b ∈ Mem.dom ((ca, AO.raw o) :: σ.mem), b ∈ own c σ.mem := fun b hb => by
    rcases List.mem_cons.mp hb with q | q
    · exact .tail _ (List.mem_append_left _ (q ▸ hc))
    · exact .tail _ (List.mem_append_right _ q)
  refine ⟨sub, S.base.mv (.weak sub), ?_, ?_⟩
  · have nd := (List.nodup_cons.mp S.nd).2
    have := List.nodup_append.mp nd
    exact List.nodup_cons.mpr ⟨fun q => this.2.2 ca hc ca q rfl, this.2.1⟩
  · intro p hp
    rcases List.mem_cons.mp hp with rfl | hp
    · exact ho
    · exact (S.mem.weak sub) p hp
theorem mkLx {w : World} {Q : AV → Mem → Prop} {cs : List Nat} {ca pb lx ld fo cc spb st sd sa : Addr} {co fobj oc : Obj} {tab : Array Value} (q : ∀ L : Lx w, Q (.ref L.lx) (L.mem [] cs)) (hln : lnOf cs = 1) (isfn : ∃ fd, fobj.data = .func fd)
    (lam : ∀ (n : Nat) (pre : Mem) (ln : Int) (pbs : List Str) (cs : List Nat) (Q : AV → Mem → Prop), cs.length ≤ 60000 →
      (match cs with
        | [] => Q (.str Str.empty) (pre ++ (LxD.mk ca pb lx ld fo cc spb st sd sa co fobj oc tab).memN ln pbs [])
        | k :: r => Q (.str (ch k)) (pre ++ (LxD.mk ca pb lx ld fo cc spb st sd sa co fobj oc tab).memN ln pbs r)) → FS w (n + 1) (.ref fo) [.int 1] (pre ++ (LxD.mk ca pb lx ld fo cc spb st sd sa co fobj oc tab).memN ln pbs cs) Q) :
    Q (.ref lx) ((LxD.mk ca pb lx ld fo cc spb st sd sa co fobj oc tab).memN 1 [] cs) := by
  have hq := q ⟨LxD.mk ca pb lx ld fo cc spb st sd sa co fobj oc tab, isfn, lam⟩
  rw [LxD.mem, hln] at hq
  exact hq
theorem lexer_spec {w : World} {n : Nat} {text : Str} {Q : AV → Mem → Prop} (hl : text.length ≤ 30000) (h2 : text.cps.toList.count 10 = 2)
    (q : ∀ L : Lx w, Q (.ref L.lx) (L.mem [] text.cps.toList)) : FS w (n + 4) (.ref 126) [.str text] [(121, .raw (tabObj #[]))] Q := by
  have hs : sizeLine = 16777216 := rfl
  refine FS_enterX (pn := [Str.ofString "text"]) (ks := [Str.ofString "text", Str.ofString "stream", Str.ofString "signs"]) (gl := [Str.ofString "list", Str.ofString "_netrclex"]) (cs := [Str.ofString "signs"]) (rest := [Str.ofString "stream", Str.ofString "signs"])
    rfl rfl (by kernel_rfl) (by kernel_rfl) rfl (dav := []) rfl (dv := []) (fun _ _ => rfl) (fun vals h => ?_) (fun c hw O ⟨Lo, hL⟩ => ?_)
  · obtain ⟨a0, rfl⟩ := len1 h
    exact fun S => by kernel_rfl
  · subst hw
    show TF c _ ⟨[.str text, .unb, .unb], _⟩ _
    walk_at "go"
    refine bs_listStr O (by (first | exact om383 hl hs | omega)) fun sa hsa => ?_
    walk_at "go"
    refine T_methL PySem.F.slot_list_reverse rfl ?_
    walk_at "go"
    refine ⟨_, _, rfl, .head _, ?_⟩
    walk_at "go"
    refine bs_reverse (by walk_at "mup") (by rw [List.length_map]; show text.length ≤ _; (first | exact om383 hl hs | omega)) ?_
    refine ⟨rfl, ?_⟩
    rw [← List.map_reverse]
    generalize hcs : text.cps.toList = cs at *
    have hcl : cs.length ≤ 30000 := by rw [← hcs]; exact hl
    walk_at "go"
    refine T_callC O (by walk_at "mem") (by walk_at "gv") ?_
    walk_at "go"
    refine ⟨n + 3, Nat.le_refl _, class_spec nofun fun st sd spb => ?_⟩
    walk_at "go"
    refine T_AssignAttr ?_ rfl
    obtain ⟨hcell, ca, hca, hcc⟩ : c.env.kindOf (Str.ofString "signs") = some .cell ∧ ∃ a ∈ c.oc, c.env.cells.lookup (Str.ofString "signs") = some a := by
      rcases O.st (Str.ofString "signs") (by walk_at "mem") with h | h
      · rw [hL] at h; cases h
      · exact h
    refine T_lambda O (clos := [(Str.ofString "signs", ca)]) rfl ?_ (by rw [hL]; rfl) (fun o => by walk_at "mup") fun fo c' pm ctv oc vs t tab hne hfo hc' hd hv => ?_
    · rw [closureFor_eq]
      · show pure (closF c.env [(Str.ofString "size", .local), (Str.ofString "signs", .free)] []) = _
        show pure [(Str.ofString "signs", (c.env.cells.lookup (Str.ofString "signs")).getD 0)] = _
        rw [hcc]; rfl
      · intro x hx hf
        have hx' : x ∈ [(Str.ofString "size", NameKind.local), (Str.ofString "signs", NameKind.free)] := hx
        rcases List.mem_cons.mp hx' with rfl | hx'
        · cases hf
        · rw [List.mem_singleton] at hx'; subst hx'; rw [hcc]; rfl
    walk_at "go"
    refine setf_own ⟨sd, by walk_at "mem", by walk_at "mem"⟩ on_read (by walk_at "mup") (by show 4 ≤ _; (first | exact om362 | omega)) ?_
    walk_at "go"
    refine T_callC O (by walk_at "mem") (by walk_at "gv") ?_
    walk_at "go"
    refine ⟨n + 3, Nat.le_refl _, class_spec nofun fun lx ld pb => ?_⟩
    walk_at "go"
    intro s' S'
    obtain ⟨m, hns, sl⟩ := S'.slots
    rw [O.keys] at sl
    have slot := sl.at (x := Str.ofString "signs") (v := .ref sa) (by walk_at "at")
    obtain ⟨o, ho, hod⟩ : s'.heap.IsCell ca (some (.ref sa)) := by
      cases slot with
      | unb h => cases h
      | loc v h => rw [hcell] at h; cases h
      | cell a v _ h _ ic r => rw [hcc] at h; cases h; cases r; exact ic
      | free a v h => rw [hcell] at h; cases h
    obtain ⟨sub, P⟩ := S'.takeCell hca ho
    refine ⟨_, sub, P, ?_⟩
    have hln : lnOf cs = 1 := by show (3 : Int) - _ = 1; rw [h2]; rfl
    refine mkLx q hln ⟨_, rfl⟩ fun n pre ln pbs cs Q hb hq => ?_
    refine FS_lam (p := Str.ofString "size") (List.mem_append_right _ (by walk_at "mem")) (List.mem_append_right _ (by walk_at "mem")) hd hv (fun v => by kernel_rfl) rfl (by decide +kernel) rfl rfl rfl (by decide) fun c2 hw2 O2 hk2 hcl2 => ?_
    refine T_IfExp ?_
    refine tb_plain ?_
    refine T_freeName O2 (by rw [hk2]; rfl) (by rw [hcl2]; rfl) (List.mem_append_right _ (by walk_at "mem")) hod (v := .ref sa) (fun _ _ => rfl) (by decide +kernel) (by decide +kernel) ?_
    refine tru_list (.owned (List.mem_append_right _ (by walk_at "mem"))) (by rw [List.length_map, List.length_reverse]; (first | exact om384 hs hb | omega)) ?_
    cases cs with
    | nil =>
      refine ite_f (by simp) ?_
      walk_at "go"
      exact hq
    | cons k r =>
      refine ite_t (by simp) ?_
      refine T_methL PySem.F.slot_list_pop rfl ?_
      refine T_freeName O2 (by rw [hk2]; rfl) (by rw [hcl2]; rfl) (List.mem_append_right _ (by walk_at "mem")) hod (v := .ref sa) (fun _ _ => rfl) (by decide +kernel) (by decide +kernel) ?_
      refine ⟨_, _, rfl, List.mem_append_right _ (by walk_at "mem"), ?_⟩
      walk_at "go"
      have e : (k :: r).reverse.map (fun k => AV.str (ch k)) = r.reverse.map (fun k => AV.str (ch k)) ++ [.str (ch k)] := by rw [List.reverse_cons, List.map_append]; rfl
      refine bs_popLast (l := r.reverse.map (fun k => AV.str (ch k))) (v := .str (ch k)) (MUp.pre (by rw [LxD.memN, e]; walk_at "mup") _) (by rw [List.length_map, List.length_reverse]; simp at hb; (first | exact om385 hs hb | omega)) ?_
      exact hq
end
section
noncomputable abbrev T3 := Int × Int × Int
noncomputable abbrev Srt (ps : List T3) : Prop := ps.Pairwise (fun a b => lt3 a b = true)
theorem lt3_iff {p q : T3} : lt3 p q = true ↔ p.1 < q.1 ∨ (p.1 = q.1 ∧ (p.2.1 < q.2.1 ∨ (p.2.1 = q.2.1 ∧ p.2.2 < q.2.2))) := by
  simp [lt3]
theorem lt3_irrefl (a : T3) : lt3 a a = false := by
  cases h : lt3 a a with
  | false => rfl
  | true => have := lt3_iff.mp h; (first | exact om70 this | omega)
theorem lex_trans {a b c : Int} {P Q R : Prop} (h1 : a < b ∨ a = b ∧ P) (h2 : b < c ∨ b = c ∧ Q) (k : P → Q → R) : a < c ∨ a = c ∧ R := by
  rcases h1 with h1 | ⟨rfl, h1⟩
  · exact h2.elim (fun h2 => .inl (Int.lt_trans h1 h2)) fun ⟨e, _⟩ => .inl (e ▸ h1)
  · exact h2.imp id fun ⟨e, q⟩ => ⟨e, k h1 q⟩
theorem lex_tri {a b : Int} {P Q : Prop} (h : ¬ (a < b ∨ a = b ∧ P)) (k : a = b → ¬ P → Q) : b < a ∨ b = a ∧ Q := by
  rcases Int.lt_trichotomy a b with l | e | l
  · exact absurd (.inl l) h
  · exact .inr ⟨e.symm, k e fun p => h (.inr ⟨e, p⟩)⟩
  · exact .inl l
theorem lt3_trans {a b c : T3} (h1 : lt3 a b = true) (h2 : lt3 b c = true) : lt3 a c = true :=
  lt3_iff.mpr (lex_trans (lt3_iff.mp h1) (lt3_iff.mp h2) fun p q => lex_trans p q fun p q => Int.lt_trans p q)
theorem lt3_tri {a b : T3} (h : lt3 a b = false) (hne : a ≠ b) : lt3 b a = true := by
  have h' : ¬ (a.1 < b.1 ∨ (a.1 = b.1 ∧ (a.2.1 < b.2.1 ∨ (a.2.1 = b.2.1 ∧ a.2.2 < b.2.2)))) := fun z => by rw [lt3_iff.mpr z] at h; cases h
  refine lt3_iff.mpr (lex_tri h' fun e h1 => lex_tri h1 fun e2 h2 => ?_)
  rcases Int.lt_trichotomy a.2.2 b.2.2 with l | e3 | l
  · exact absurd l h2
  · exact absurd (Prod.ext e (Prod.ext e2 e3)) hne
  · exact l
noncomputable def cutAt (f : T3 → Bool) (ps : List T3) : Nat := (ps.takeWhile f).length
theorem cutAt_le {f : T3 → Bool} : ∀ {ps : List T3}, cutAt f ps ≤ ps.length
  | [] => Nat.le_refl _
  | a :: r => by
    unfold cutAt
    rw [List.takeWhile_cons]
    split
    · have := cutAt_le (f := f) (ps := r); unfold cutAt at this; simp; (first | exact om71 this | omega)
    · simp
theorem cutAt_at {f : T3 → Bool} (hf : ∀ a b, lt3 a b = true → f b = true → f a = true) : ∀ {ps : List T3}, Srt ps → ∀ i e, ps[i]? = some e → f e = decide (i < cutAt f ps)
  | [], _, i, e, h => by cases h
  | a :: r, s, i, e, h => by
    have ⟨s1, s2⟩ := List.pairwise_cons.mp s
    unfold cutAt
    rw [List.takeWhile_cons]
    cases ha : f a with
    | true =>
      rw [if_pos rfl]
      cases i with
      | zero => cases h; rw [ha]; simp
      | succ i =>
        have := cutAt_at hf s2 i e (by simpa using h)
        rw [this]; unfold cutAt; simp
    | false =>
      rw [if_neg Bool.false_ne_true]
      cases i with
      | zero => cases h; rw [ha]; rfl
      | succ i =>
        have he : e ∈ r := List.mem_of_getElem? (by simpa using h)
        cases hfe : f e with
        | false => simp
        | true => rw [hf a e (s1 e he) hfe] at ha; cases ha
noncomputable def ins3 (x : T3) (ps : List T3) : List T3 := ps.take (cutAt (lt3 · x) ps) ++ x :: ps.drop (cutAt (lt3 · x) ps)
theorem cut_mono (x : T3) : ∀ a b, lt3 a b = true → lt3 b x = true → lt3 a x = true := fun _ _ h1 h2 => lt3_trans h1 h2
theorem cut_mono_r (x : T3) : ∀ a b, lt3 a b = true → (!lt3 x b) = true → (!lt3 x a) = true := fun a b h1 h2 => by
  cases h : lt3 x a with
  | false => rfl
  | true => rw [lt3_trans h h1] at h2; cases h2
theorem ins3_srt {x : T3} {ps : List T3} (s : Srt ps) (hn : ps[cutAt (lt3 · x) ps]? ≠ some x) : Srt (ins3 x ps) := by
  have key := cutAt_at (cut_mono x) s
  unfold ins3
  generalize hk : cutAt (lt3 · x) ps = k at *
  have hsp : ps.take k ++ ps.drop k = ps := List.take_append_drop k ps
  have s' := s
  rw [← hsp] at s'
  obtain ⟨s1, s2, s3⟩ := List.pairwise_append.mp s'
  have lo : ∀ a ∈ ps.take k, lt3 a x = true := fun a ha => by
    obtain ⟨i, hi⟩ := List.getElem?_of_mem ha
    have hik : i < k := by
      have := (List.getElem?_eq_some_iff.mp hi).1
      rw [List.length_take] at this; (first | exact om72 this | omega)
    rw [List.getElem?_take_of_lt hik] at hi
    rw [key i a hi]; simpa using hik
  have hi : ∀ b ∈ ps.drop k, lt3 x b = true := by
    cases hd : ps.drop k with
    | nil => intro b hb; cases hb
    | cons y r =>
      rw [hd] at s2
      have hy : ps[k]? = some y := by
        have := congrArg (·[0]?) hd
        simpa using this
      have e1 : lt3 y x = false := by rw [key k y hy]; simp
      have hne : y ≠ x := fun e => hn (e ▸ hy)
      have hxy := lt3_tri e1 hne
      intro b hb
      rcases List.mem_cons.mp hb with rfl | hb
      · exact hxy
      · exact lt3_trans hxy ((List.pairwise_cons.mp s2).1 b hb)
  refine List.pairwise_append.mpr ⟨s1, List.pairwise_cons.mpr ⟨hi, s2⟩, fun a ha b hb => ?_⟩
  rcases List.mem_cons.mp hb with rfl | hb
  · exact lo a ha
  · exact s3 a ha b hb
theorem ins3_mem {x z : T3} {ps : List T3} : z ∈ ins3 x ps ↔ z ∈ ps ∨ z = x := by
  unfold ins3
  generalize cutAt (lt3 · x) ps = k
  rw [List.mem_append, List.mem_cons]
  constructor
  · rintro (h | h | h)
    · exact .inl (List.mem_of_mem_take h)
    · exact .inr h
    · exact .inl (List.mem_of_mem_drop h)
  · rintro (h | h)
    · rw [← List.take_append_drop k ps, List.mem_append] at h
      rcases h with h | h
      · exact .inl h
      · exact .inr (.inr h)
    · exact .inr (.inl h)
theorem ins3_len {x : T3} {ps : List T3} : (ins3 x ps).length = ps.length + 1 := by
  unfold ins3
  have := cutAt_le (f := (lt3 · x)) (ps := ps)
  rw [List.length_append, List.length_take, List.length_cons, List.length_drop]; (first | exact om73 this | omega)
/-- two sorted lists of the same members are one -/
theorem srt_ext : ∀ {ps qs : List T3}, Srt ps → Srt qs → (∀ z, z ∈ ps ↔ z ∈ qs) → ps = qs
  | [], [], _, _, _ => rfl
  | [], b :: r, _, _, h => by have := (h b).mpr (.head _); cases this
  | a :: r, [], _, _, h => by have := (h a).mp (.head _); cases this
  | a :: r, b :: r', s, s', h => by
    have ⟨s1, s2⟩ := List.pairwise_cons.mp s
    have ⟨s1', s2'⟩ := List.pairwise_cons.mp s'
    have e : a = b := by
      rcases List.mem_cons.mp ((h a).mp (.head _)) with q | q
      · exact q
      rcases List.mem_cons.mp ((h b).mpr (.head _)) with q' | q'
      · exact q'.symm
      have := lt3_trans (s1 b q') (s1' a q)
      rw [lt3_irrefl] at this; cases this
    subst e
    congr 1
    refine srt_ext s2 s2' fun z => ⟨fun hz => ?_, fun hz => ?_⟩
    · rcases List.mem_cons.mp ((h z).mp (.tail _ hz)) with q | q
      · subst q; have := s1 z hz; rw [lt3_irrefl] at this; cases this
      · exact q
    · rcases List.mem_cons.mp ((h z).mpr (.tail _ hz)) with q | q
      · subst q; have := s1' z hz; rw [lt3_irrefl] at this; cases this
      · exact q
end
section
noncomputable def ltS (y : Str) : AV → Bool
  | .str x => decide (x.cps.toList < y.cps.toList)
  | _ => false
inductive NumOf (ws : List Str) (word : Str) : Int → Prop where
  | nil : word = Str.empty → NumOf ws word 0
  | tok {i : Int} : word ≠ Str.empty → TokAt word (some i) → NumOf ws word i
  | row {k : Nat} : word ≠ Str.empty → TokAt word none → Parts (ltS word) (ws.map .str) k → NumOf ws word (256 + k)
theorem number_spec {w : World} {n : Nat} {a : AV} {ws : List Str} {word : Str} {r : Int} {mem : Mem} {Q : AV → Mem → Prop} (ha : a ≠ .unb) (L : LsV mem a (ws.map .str)) (hl : ws.length ≤ 100) (hn : NumOf ws word r) (q : Q (.int r) mem) :
    FS w (n + 2) (.ref 133) [a, .str word] mem Q := by
  have hs : sizeLine = 16777216 := rfl
  refine FS_in [Str.ofString "row", Str.ofString "word"] [Str.ofString "row", Str.ofString "word"] [Str.ofString "EXACT_TOKEN_TYPES", Str.ofString "bisect_left"] [] [a, .str word] rfl rfl (by kernel_rfl) (by kernel_rfl) rfl (dav := []) rfl (dv := []) (fun _ _ => rfl) rfl (fun vals h => ?_) (fun c hw O => ?_)
  · obtain ⟨a0, a1, rfl⟩ := len2 h
    exact fun S => by kernel_rfl
  · subst hw
    have e0 : Str.ofString "" = Str.empty := by decide +kernel
    walk_at "go"
    refine op_eq_str ?_
    rw [e0]
    walk_at "go"
    refine dec_by (fun h0 => ?_) (fun h0 => ?_)
    · subst h0
      walk_at "go"
      cases hn with
      | nil h => exact q
      | tok h => exact absurd rfl h
      | row h => exact absurd rfl h
    · walk_at "go"
      cases hn with
      | nil h => exact absurd h h0
      | tok h T =>
        refine op_in_tok T ?_
        walk_at "go"
        refine ite_t rfl ?_
        refine T_cons ?_
        refine T_Return ?_
        refine T_Subscript ?_
        walk_at "go"
        refine op_item_tok T ?_ (fun _ _ => rfl)
        walk_at "go"
        exact q
      | row h T hp =>
        refine op_in_tok T ?_
        walk_at "go"
        refine ⟨n + 1, Nat.le_refl _, bisect_left_spec ha nofun L (by rw [List.length_map]; (first | exact om386 hl hs | omega)) hp (fun c ks sk gl cs m σ Q e O he q => ?_) ?_⟩
        · obtain ⟨x, _, rfl⟩ := List.mem_map.mp he
          exact op_lt_str q
        · refine op_add_int ?_
          walk_at "go"
          exact q
/-- the tokens that a text gives -/
inductive Toks : List Nat → List Str → Prop where
  | nil : Toks [] []
  | cons {cs cs' : List Nat} {t : Str} {ts : List Str} : lexTok cs = some (t, cs') → Toks cs' ts → Toks cs (t :: ts)
structure LSt (ts : List Str) (pbs : List Str) (cs : List Nat) : Prop where
  len : cs.length ≤ 30000
  toks : (pbs = [] ∧ Toks cs ts) ∨ ∃ t r, pbs = [t] ∧ ts = t :: r ∧ Toks cs r
theorem lexQ_len : ∀ {cs : List Nat} {t : Str} {x : Str × List Nat}, lexQ cs t = some x → x.2.length ≤ cs.length
  | [], _, _, h => by cases h
  | [k], t, x, h => by
    rcases lexQ_cons h with ⟨_, rfl⟩ | ⟨_, _, k', r', hr, _⟩ | ⟨_, _, h⟩
    · simp
    · cases hr
    · cases h
  | k :: k' :: r, t, x, h => by
    rcases lexQ_cons h with ⟨_, rfl⟩ | ⟨_, _, k2, r2, hr, h⟩ | ⟨_, _, h⟩
    · simp
    · cases hr; have := lexQ_len h; simp; (first | exact om387 this | omega)
    · have := lexQ_len h; simp at this ⊢; (first | exact om388 this | omega)
theorem lexU_len : ∀ {cs : List Nat} {t : Str} {x : Str × List Nat}, lexU cs t = some x → x.2.length ≤ cs.length
  | [], _, _, h => by cases h
  | [k], t, x, h => by
    rcases lexU_cons h with ⟨_, rfl⟩ | ⟨_, _, k', r', hr, _⟩ | ⟨_, _, h⟩
    · simp
    · cases hr
    · cases h
  | k :: k' :: r, t, x, h => by
    rcases lexU_cons h with ⟨_, rfl⟩ | ⟨_, _, k2, r2, hr, h⟩ | ⟨_, _, h⟩
    · simp
    · cases hr; have := lexU_len h; simp; (first | exact om387 this | omega)
    · have := lexU_len h; simp at this ⊢; (first | exact om388 this | omega)
theorem lexTok_len : ∀ {cs : List Nat} {x : Str × List Nat}, lexTok cs = some x → x.2.length ≤ cs.length
  | [], x, h => by cases h; exact Nat.le_refl _
  | k :: r, x, h => by
    rcases lexTok_cons h with ⟨_, h⟩ | ⟨_, _, h⟩ | ⟨_, _, _, k2, r2, hr, h2⟩ | ⟨_, _, _, h⟩
    · have := lexTok_len h; simp; (first | exact om83 this | omega)
    · have := lexQ_len h; simp; (first | exact om83 this | omega)
    · subst hr; have := lexU_len h2; simp; (first | exact om387 this | omega)
    · have := lexU_len h; simp; (first | exact om83 this | omega)
theorem get_spec {w : World} (L : Lx w) {n : Nat} {pre : Mem} {pbs : List Str} {cs : List Nat} {t : Str} {ts : List Str} {Q : AV → Mem → Prop} (h : LSt (t :: ts) pbs cs)
    (q : ∀ cs', LSt ts [] cs' → (∀ t', LSt (t' :: ts) [t'] cs') → Q (.str t) (pre ++ L.mem [] cs')) : FS w (n + 4) (.ref 69) [.ref L.lx] (pre ++ L.mem pbs cs) Q := by
  obtain ⟨hl, h⟩ := h
  rcases h with ⟨rfl, h⟩ | ⟨t', r, rfl, e, h⟩
  · cases h with
    | cons e h =>
      have hl' := lexTok_len e
      exact gett_spec L (by decide) hl ⟨e, rfl⟩ (q _ ⟨by simp at hl'; (first | exact om389 hl hl' | omega), .inl ⟨rfl, h⟩⟩ fun t' => ⟨by simp at hl'; (first | exact om389 hl hl' | omega), .inr ⟨t', _, rfl, rfl, h⟩⟩)
  · cases e
    exact gett_spec L (by show 1 ≤ 9; (first | exact om390 | omega)) hl ⟨rfl, rfl, rfl⟩ (q _ ⟨hl, .inl ⟨rfl, h⟩⟩ fun t' => ⟨hl, .inr ⟨t', _, rfl, rfl, h⟩⟩)
theorem meets_spec {w : World} (L : Lx w) {n : Nat} {pre : Mem} {pbs : List Str} {cs : List Nat} {t : Str} {ts : List Str} {k : Int} {r : Option Int} {Q : AV → Mem → Prop} (h : LSt (t :: ts) pbs cs) (T : TokAt t r)
    (q : ∀ pbs' cs', (if r.getD 0 = k then LSt ts pbs' cs' else LSt (t :: ts) pbs' cs') → Q (.bool (decide (r.getD 0 = k))) (pre ++ L.mem pbs' cs')) : FS w (n + 5) (.ref 140) [.ref L.lx, .int k] (pre ++ L.mem pbs cs) Q := by
  refine FS_in [Str.ofString "lexer", Str.ofString "number"] [Str.ofString "lexer", Str.ofString "number", Str.ofString "word"] [Str.ofString "EXACT_TOKEN_TYPES"] [] [.ref L.lx, .int k, .unb] rfl rfl (by kernel_rfl) (by kernel_rfl) rfl (dav := []) rfl (dv := []) (fun _ _ => rfl) rfl (fun vals h => ?_) (fun c hw O => ?_)
  · obtain ⟨a0, a1, rfl⟩ := len2 h
    exact fun S => by kernel_rfl
  · subst hw
    obtain ⟨fo, fd, hfo, hfd⟩ := (fun w => ⟨_, _, rfl, rfl⟩ : IsFn 69) c.w
    obtain ⟨fo2, fd2, hfo2, hfd2⟩ := (fun w => ⟨_, _, rfl, rfl⟩ : IsFn 76) c.w
    walk_at "go"
    refine T_methI O ?_ (by rfl) rfl
    walk_at "go"
    refine getm_meth (L.inst _ _ _ _) mn_get_token rfl ?_
    refine ⟨fo, fd, hfd, ?_⟩
    walk_at "go"
    refine ⟨.k hfo, n + 4, Nat.le_refl _, get_spec L h fun cs' h1 h2 => ?_⟩
    walk_at "go"
    refine T_tokGet O (by walk_at "mem") ?_
    walk_at "go"
    refine bs_tokget T ?_
    walk_at "go"
    refine op_eq_int ?_
    walk_at "go"
    refine dec_by (fun hh => ?_) (fun hh => ?_)
    · walk_at "go"
      have := q [] cs' (by rw [if_pos hh]; exact h1)
      rw [decide_eq_true hh] at this
      exact this
    · walk_at "go"
      refine T_methI O ?_ (by rfl) rfl
      walk_at "go"
      refine getm_meth (L.inst _ _ _ _) mn_push_token rfl ?_
      refine ⟨fo2, fd2, hfd2, ?_⟩
      walk_at "go"
      refine ⟨.k hfo2, n + 4, Nat.le_refl _, push_spec (n := n + 3) L (by decide) ?_⟩
      refine ⟨rfl, ?_⟩
      walk_at "go"
      have := q [t] cs' (by rw [if_neg hh]; exact h2 t)
      rw [decide_eq_false hh] at this
      exact this
/-- a step from place p to place q -/
noncomputable def link (marks : List Int) (p q : Nat) : T3 := ((p : Int), marks.getD (q - 1) 0, (q : Int))
noncomputable def ltT (x : T3) : AV → Bool
  | .tup [.int a, .int b, .int c] => lt3 (a, b, c) x
  | _ => false
theorem parts3 {x : T3} {ps : List T3} (s : Srt ps) : Parts (ltT x) (ps.map tr3) (cutAt (lt3 · x) ps) := by
  refine ⟨by rw [List.length_map]; exact cutAt_le, fun i e h => ?_⟩
  rw [List.getElem?_map] at h
  cases hz : ps[i]? with
  | none => rw [hz] at h; cases h
  | some z => rw [hz] at h; cases h; exact cutAt_at (cut_mono x) s i z hz
noncomputable abbrev nats (l : List Nat) : AV := .lst (l.map fun k => .int (k : Nat))
inductive LastInv (pa ma : Addr) (marks : List Int) (lasts firsts : List Nat) (mem : List T3 → Mem) (ps : List T3) (rest : List AV) (σ : AS) : Prop
  | mk (done todo : List Nat) (ps' : List T3) (u1 u2 u3 u4 : AV) (h0 : lasts = done ++ todo) (h1 : rest = todo.map (fun k => .int (k : Nat))) (h2 : σ = ⟨[.ref pa, .ref ma, nats lasts, nats firsts, u1, u2, u3, u4], mem ps'⟩) (h3 : Srt ps') (h4 : (∀ z, z ∈ ps' ↔ z ∈ ps ∨ ∃ p ∈ done, ∃ q ∈ firsts, z = link marks p q)) (h5 : ps'.length ≤ ps.length + done.length * firsts.length) : LastInv pa ma marks lasts firsts mem ps rest σ
inductive FirstInv (pa ma : Addr) (marks : List Int) (lasts firsts : List Nat) (mem : List T3 → Mem) (p : Nat) (ps' : List T3) (rest : List AV) (σ : AS) : Prop
  | mk (dn td : List Nat) (ps2 : List T3) (u2 u3 u4 : AV) (h0 : firsts = dn ++ td) (h1 : rest = td.map (fun k => .int (k : Nat))) (h2 : σ = ⟨[.ref pa, .ref ma, nats lasts, nats firsts, .int (p : Nat), u2, u3, u4], mem ps2⟩) (h3 : Srt ps2) (h4 : (∀ z, z ∈ ps2 ↔ z ∈ ps' ∨ ∃ q ∈ dn, z = link marks p q)) (h5 : ps2.length ≤ ps'.length + dn.length) : FirstInv pa ma marks lasts firsts mem p ps' rest σ
theorem linked_spec {w : World} {n : Nat} {pa ma : Addr} {ps : List T3} {marks : List Int} {lasts firsts : List Nat} {mem : List T3 → Mem} {Q : AV → Mem → Prop}
    (hpm : ∀ l l' : List T3, MUp (mem l) pa (.list (l.map tr3)) (.list (l'.map tr3)) (mem l')) (hm : ∀ l, (ma, AO.list (marks.map .int)) ∈ mem l)
    (hs : Srt ps) (hsz : ps.length + lasts.length * firsts.length ≤ 1000000) (hml : marks.length ≤ 1000) (hll : lasts.length ≤ 1000) (hfl : firsts.length ≤ 1000) (hq : ∀ q ∈ firsts, 1 ≤ q ∧ q ≤ marks.length)
    (q : ∀ ps', Srt ps' → (∀ z, z ∈ ps' ↔ z ∈ ps ∨ ∃ p ∈ lasts, ∃ q ∈ firsts, z = link marks p q) → ps'.length ≤ ps.length + lasts.length * firsts.length → Q .none (mem ps')) :
    FS w (n + 2) (.ref 147) [.ref pa, .ref ma, nats lasts, nats firsts] (mem ps) Q := by
  have hsl : sizeLine = 16777216 := rfl
  refine FS_in [Str.ofString "pairs", Str.ofString "marks", Str.ofString "lasts", Str.ofString "firsts"] [Str.ofString "pairs", Str.ofString "marks", Str.ofString "lasts", Str.ofString "firsts", Str.ofString "p", Str.ofString "q", Str.ofString "pair", Str.ofString "place"] [Str.ofString "bisect_left"] []
    [.ref pa, .ref ma, nats lasts, nats firsts, .unb, .unb, .unb, .unb] rfl rfl (by kernel_rfl) (by kernel_rfl) rfl (dav := []) rfl (dv := []) (fun _ _ => rfl) rfl (fun vals h => ?_) (fun c hw O => ?_)
  · obtain ⟨a0, a1, a2, a3, rfl⟩ := len4 h
    exact fun S => by kernel_rfl
  · subst hw
    walk_at "go"
    refine T_For O (LastInv pa ma marks lasts firsts mem ps) ?_ ?_ ?_ (fun _ => rfl) (fun _ _ => rfl)
    · walk_at "go"
      refine ⟨_, .lst, [], lasts, ps, _, _, _, _, rfl, rfl, rfl, hs, fun z => ?_, by simp⟩
      simp
    · rintro a rest σ' ⟨done, todo, ps', u1, u2, u3, u4, e1, e2, e3, hs', hmem, hlen⟩
      subst e3
      cases todo with
      | nil => cases e2
      | cons p todo =>
      rw [List.map_cons, List.cons.injEq] at e2
      obtain ⟨rfl, rfl⟩ := e2
      refine ta_name O (by walk_at "put") (by walk_at "mem") ?_
      walk_at "go"
      refine T_For O (FirstInv pa ma marks lasts firsts mem p ps') ?_ ?_ ?_ (fun _ => rfl) (fun _ _ => rfl)
      · walk_at "go"
        refine ⟨_, .lst, [], firsts, ps', _, _, _, rfl, rfl, rfl, hs', fun z => ?_, by simp⟩
        simp
      · rintro a rest σ' ⟨dn, td, ps2, u2, u3, u4, e1', e2', e3', hs2, hmem2, hlen2⟩
        subst e3'
        cases td with
        | nil => cases e2'
        | cons q td =>
        rw [List.map_cons, List.cons.injEq] at e2'
        obtain ⟨rfl, rfl⟩ := e2'
        have hqf : q ∈ firsts := by rw [e1']; simp
        obtain ⟨hq1, hq2⟩ := hq q hqf
        refine ta_name O (by walk_at "put") (by walk_at "mem") ?_
        walk_at "go"
        refine T_Subscript ?_
        walk_at "go"
        refine op_sub_int ?_
        have hidx : (marks.map AV.int)[((q : Int) - 1).toNat]? = some (.int (marks.getD (q - 1) 0)) := by
          rw [show ((q : Int) - 1).toNat = q - 1 from by (first | exact om391 hq1 | omega), List.getElem?_map, List.getD_eq_getElem?_getD, List.getElem?_eq_getElem (by (first | exact om392 hq1 hq2 | omega))]; rfl
        refine op_item_list (.owned (hm _)) (by (first | exact om393 hq1 | omega)) hidx ?_ (by rw [List.length_map]; (first | exact om394 hml hsl | omega)) (fun _ _ => rfl)
        walk_at "go"
        generalize hx : link marks p q = x
        have hx3 : AV.tup [.int (p : Nat), .int (marks.getD (q - 1) 0), .int (q : Nat)] = tr3 x := by rw [← hx]; rfl
        rw [hx3]
        have hxu : tr3 x ≠ .unb := nofun
        refine ⟨by show 3 ≤ _; (first | exact om170 hsl | omega), ?_⟩
        walk_at "go"
        have hb1 : done.length * firsts.length + firsts.length ≤ lasts.length * firsts.length := by
          have : (done.length + 1) * firsts.length ≤ lasts.length * firsts.length := Nat.mul_le_mul_right _ (by rw [e1]; simp)
          rw [Nat.add_mul, Nat.one_mul] at this; exact this
        have hb2 : dn.length + 1 ≤ firsts.length := by rw [e1']; simp
        have hl2 : ps2.length ≤ 1000000 := by (first | exact om395 hsz hlen hlen2 hb1 hb2 | omega)
        refine ⟨n + 1, Nat.le_refl _, bisect_left_spec nofun nofun (.owned (hpm ps2 ps2).mem) (by rw [List.length_map]; omega) (parts3 hs2 (x := x)) (fun c ks sk gl cs m σ Q e O he q => ?_) ?_⟩
        · obtain ⟨y, _, rfl⟩ := List.mem_map.mp he
          exact op_lt_tr3 O q
        · walk_at "go"
          refine T_SliceL ?_
          walk_at "go"
          refine op_add_int ?_
          walk_at "go"
          generalize hk : cutAt (lt3 · x) ps2 = k
          have hkl : k ≤ ps2.length := by rw [← hk]; exact cutAt_le
          refine ⟨_, .owned (hpm ps2 ps2).mem, by rw [List.length_map]; omega, nn_some (by (first | exact om180 hk | omega)), nn_some (by (first | exact om397 hk | omega)), ?_⟩
          have hsl : lslice (ps2.map tr3) (some (k : Int)) (some ((k : Int) + 1)) = ((ps2.take (k + 1)).drop k).map tr3 := by
            show ((ps2.map tr3).take ((k : Int) + 1).toNat).drop (k : Int).toNat = _
            rw [show ((k : Int) + 1).toNat = k + 1 from by (first | exact om398 hk | omega), Int.toNat_natCast, List.map_drop, List.map_take]
          rw [hsl]
          refine T_List ?_
          walk_at "go"
          refine ⟨by show 1 ≤ _; (first | exact om191 ‹_› | omega), ?_⟩
          have hcase : (ps2[k]? = some x ∧ (ps2.take (k + 1)).drop k = [x]) ∨ (ps2[k]? ≠ some x ∧ (((ps2.take (k + 1)).drop k).length = 1 ∧ ((ps2.take (k + 1)).drop k == [x]) = false ∨ ((ps2.take (k + 1)).drop k).length ≠ 1)) := by
            by_cases hkk : k < ps2.length
            · have e : (ps2.take (k + 1)).drop k = [ps2[k]] := by
                rw [List.take_succ_eq_append_getElem hkk, List.drop_append_of_le_length (by rw [List.length_take]; (first | exact om399 hkk | omega)), List.drop_eq_nil_of_le (by rw [List.length_take]; (first | exact om400 hkk | omega))]; rfl
              rw [e, List.getElem?_eq_getElem hkk]
              by_cases hz : ps2[k] = x
              · exact .inl ⟨by rw [hz], by rw [hz]⟩
              · exact .inr ⟨fun z => hz (by cases z; rfl), .inl ⟨rfl, by simp [hz]⟩⟩
            · right
              rw [List.getElem?_eq_none (by (first | exact om401 hkl hkk | omega))]
              refine ⟨nofun, .inr ?_⟩
              rw [List.length_drop, List.length_take]; (first | exact om402 hkl hkk | omega)
          rcases hcase with ⟨hat, hsl1⟩ | ⟨hat, hsl1⟩
          · refine op_ne_list O (k := true) .frozen .frozen (.inl ⟨by rw [hsl1]; rfl, ?_⟩) ?_
            · rw [hsl1]
              have := eqvs_map (f := tr3) (fun a b => eqv_tr3) (l := [x]) (m := [x]) rfl
              rw [show ([x] == [x]) = true from by simp] at this
              exact this
            · walk_at "go"
              refine ⟨dn ++ [q], td, ps2, _, _, _, by rw [e1']; simp, rfl, rfl, hs2, fun z => ?_, by simp; (first | exact om403 hlen2 | omega)⟩
              rw [hmem2]
              constructor
              · rintro (h | ⟨q', h, e⟩)
                · exact .inl h
                · exact .inr ⟨q', List.mem_append_left _ h, e⟩
              · rintro (h | ⟨q', h, e⟩)
                · exact .inl h
                · rcases List.mem_append.mp h with h | h
                  · exact .inr ⟨q', h, e⟩
                  · rw [List.mem_singleton] at h; subst h
                    rw [e, hx]; exact (hmem2 x).mp (List.mem_of_getElem? hat)
          · refine op_ne_list O (k := false) .frozen .frozen ?_ ?_
            · rcases hsl1 with ⟨h1, h2⟩ | h1
              · refine .inl ⟨by rw [List.length_map, h1]; rfl, ?_⟩
                have := eqvs_map (f := tr3) (fun a b => eqv_tr3) (l := (ps2.take (k + 1)).drop k) (m := [x]) h1
                rw [h2] at this
                exact this
              · exact .inr ⟨by rw [List.length_map]; exact h1, rfl⟩
            · walk_at "go"
              refine T_methL PySem.F.slot_list_insert rfl ?_
              walk_at "go"
              refine ⟨_, _, rfl, (hpm ps2 ps2).mem, ?_⟩
              walk_at "go"
              have hins : (ps2.map tr3).take k ++ tr3 x :: (ps2.map tr3).drop k = (ins3 x ps2).map tr3 := by
                unfold ins3
                rw [hk, List.map_append, List.map_take, List.map_cons, List.map_drop]
              refine bs_insert (l := ps2.map tr3) (k := k) (mem' := mem (ins3 x ps2)) (by rw [hins]; exact hpm _ _) (by rw [List.length_map]; exact hkl) (by rw [List.length_map]; omega) ?_
              refine ⟨rfl, ?_⟩
              walk_at "go"
              refine ⟨dn ++ [q], td, ins3 x ps2, _, _, _, by rw [e1']; simp, rfl, rfl, ins3_srt hs2 (by rw [hk]; exact hat), fun z => ?_, by rw [ins3_len]; simp; (first | exact om404 hlen2 | omega)⟩
              rw [ins3_mem, hmem2]
              constructor
              · rintro ((h | ⟨q', h, e⟩) | h)
                · exact .inl h
                · exact .inr ⟨q', List.mem_append_left _ h, e⟩
                · exact .inr ⟨q, by simp, by rw [h, hx]⟩
              · rintro (h | ⟨q', h, e⟩)
                · exact .inl (.inl h)
                · rcases List.mem_append.mp h with h | h
                  · exact .inl (.inr ⟨q', h, e⟩)
                  · rw [List.mem_singleton] at h; subst h
                    exact .inr (by rw [e, hx])
      · rintro σ' ⟨dn, td, ps2, u2, u3, u4, e1', e2', e3', hs2, hmem2, hlen2⟩
        subst e3'
        cases td with
        | cons => cases e2'
        | nil =>
        rw [List.append_nil] at e1'
        subst e1'
        walk_at "go"
        refine ⟨done ++ [p], todo, ps2, _, _, _, _, by rw [e1]; simp, rfl, rfl, hs2, fun z => ?_, ?_⟩
        · rw [hmem2, hmem]
          constructor
          · rintro ((h | ⟨p', h, h2⟩) | ⟨q', h, e⟩)
            · exact .inl h
            · exact .inr ⟨p', List.mem_append_left _ h, h2⟩
            · exact .inr ⟨p, by simp, q', h, e⟩
          · rintro (h | ⟨p', h, h2⟩)
            · exact .inl (.inl h)
            · rcases List.mem_append.mp h with h | h
              · exact .inl (.inr ⟨p', h, h2⟩)
              · rw [List.mem_singleton] at h; subst h
                exact .inr h2
        · rw [List.length_append, List.length_singleton, Nat.add_mul, Nat.one_mul]; (first | exact om405 hlen hlen2 | omega)
    · rintro σ' ⟨done, todo, ps', u1, u2, u3, u4, e1, e2, e3, hs', hmem, hlen⟩
      subst e3
      cases todo with
      | cons => cases e2
      | nil =>
      rw [List.append_nil] at e1
      subst e1
      walk_at "go"
      exact q ps' hs' hmem hlen
end
section
mutual
inductive It where
  | lit (d : Bool)
  | grp (e : El)
  | star (i : It)
inductive Ch where
  | one (i : It)
  | more (c : Ch) (i : It)
inductive El where
  | one (c : Ch)
  | more (e : El) (c : Ch)
end
structure Part where
  h : Bool
  f : List Nat
  l : List Nat
noncomputable def Part.cat (a b : Part) : Part := ⟨a.h && b.h, if a.h then a.f ++ b.f else a.f, if b.h then a.l ++ b.l else b.l⟩
noncomputable def Part.alt (a b : Part) : Part := ⟨a.h || b.h, a.f ++ b.f, a.l ++ b.l⟩
noncomputable def Part.star (a : Part) : Part := ⟨true, a.f, a.l⟩
noncomputable abbrev tOpen : Str := Str.ofString "("
noncomputable abbrev tClose : Str := Str.ofString ")"
noncomputable abbrev tStar : Str := Str.ofString "*"
noncomputable abbrev tArrow : Str := Str.ofString "->"
noncomputable abbrev tBar : Str := Str.ofString "|"
mutual
/-- the letters of a pattern, in order -/
noncomputable def lvI : It → List Bool
  | .lit d => [d]
  | .grp e => lvE e
  | .star i => lvI i
noncomputable def lvC : Ch → List Bool
  | .one i => lvI i
  | .more c i => lvC c ++ lvI i
noncomputable def lvE : El → List Bool
  | .one c => lvC c
  | .more e c => lvE e ++ lvC c
end
mutual
/-- its tokens -/
noncomputable def tkI (la lb : Str) : It → List Str
  | .lit d => [if d then lb else la]
  | .grp e => tOpen :: (tkE la lb e ++ [tClose])
  | .star i => tkI la lb i ++ [tStar]
noncomputable def tkC (la lb : Str) : Ch → List Str
  | .one i => tkI la lb i
  | .more c i => tkC la lb c ++ tArrow :: tkI la lb i
noncomputable def tkE (la lb : Str) : El → List Str
  | .one c => tkC la lb c
  | .more e c => tkE la lb e ++ tBar :: tkC la lb c
end
mutual
/-- how deep brackets lie -/
noncomputable def dpI : It → Nat
  | .lit _ => 0
  | .grp e => dpE e + 1
  | .star i => dpI i
noncomputable def dpC : Ch → Nat
  | .one i => dpI i
  | .more c i => max (dpC c) (dpI i)
noncomputable def dpE : El → Nat
  | .one c => dpC c
  | .more e c => max (dpE e) (dpC c)
end
mutual
/-- first places, last places, hollow -/
noncomputable def gI (k : Nat) : It → Part
  | .lit _ => ⟨false, [k + 1], [k + 1]⟩
  | .grp e => gE k e
  | .star i => (gI k i).star
noncomputable def gC (k : Nat) : Ch → Part
  | .one i => gI k i
  | .more c i => (gC k c).cat (gI (k + (lvC c).length) i)
noncomputable def gE (k : Nat) : El → Part
  | .one c => gC k c
  | .more e c => (gE k e).alt (gC (k + (lvE e).length) c)
end
noncomputable def prodL (ls fs : List Nat) : List (Nat × Nat) := ls.flatMap fun p => fs.map fun q => (p, q)
theorem mem_prodL {ls fs : List Nat} {z : Nat × Nat} : z ∈ prodL ls fs ↔ z.1 ∈ ls ∧ z.2 ∈ fs := by
  unfold prodL
  rw [List.mem_flatMap]
  constructor
  · rintro ⟨p, hp, hz⟩
    obtain ⟨q, hq, rfl⟩ := List.mem_map.mp hz
    exact ⟨hp, hq⟩
  · rintro ⟨hp, hq⟩
    exact ⟨z.1, hp, List.mem_map.mpr ⟨z.2, hq, rfl⟩⟩
mutual
/-- the steps -/
noncomputable def lkI (k : Nat) : It → List (Nat × Nat)
  | .lit _ => []
  | .grp e => lkE k e
  | .star i => lkI k i ++ prodL (gI k i).l (gI k i).f
noncomputable def lkC (k : Nat) : Ch → List (Nat × Nat)
  | .one i => lkI k i
  | .more c i => lkC k c ++ lkI (k + (lvC c).length) i ++ prodL (gC k c).l (gI (k + (lvC c).length) i).f
noncomputable def lkE (k : Nat) : El → List (Nat × Nat)
  | .one c => lkC k c
  | .more e c => lkE k e ++ lkC (k + (lvE e).length) c
end
/-- places in range, not too many -/
structure Part.Rng (p : Part) (k n : Nat) : Prop where
  f : ∀ q ∈ p.f, k < q ∧ q ≤ k + n
  l : ∀ q ∈ p.l, k < q ∧ q ≤ k + n
  fl : p.f.length ≤ n
  ll : p.l.length ≤ n
theorem Part.Rng.cat {a b : Part} {k n m : Nat} (ha : a.Rng k n) (hb : b.Rng (k + n) m) : (a.cat b).Rng k (n + m) := by
  have h1 := ha.fl; have h2 := ha.ll; have h3 := hb.fl; have h4 := hb.ll
  refine ⟨fun q hq => ?_, fun q hq => ?_, ?_, ?_⟩
  · unfold Part.cat at hq; dsimp only at hq
    split at hq
    · rcases List.mem_append.mp hq with h | h
      · have := ha.f q h; (first | exact om74 h3 this | omega)
      · have := hb.f q h; (first | exact om75 h1 this | omega)
    · have := ha.f q hq; (first | exact om74 h3 this | omega)
  · unfold Part.cat at hq; dsimp only at hq
    split at hq
    · rcases List.mem_append.mp hq with h | h
      · have := ha.l q h; (first | exact om74 h3 this | omega)
      · have := hb.l q h; (first | exact om75 h1 this | omega)
    · have := hb.l q hq; (first | exact om75 h1 this | omega)
  · unfold Part.cat; dsimp only
    split
    · rw [List.length_append]; (first | exact om76 h1 h3 | omega)
    · (first | exact om77 h1 | omega)
  · unfold Part.cat; dsimp only
    split
    · rw [List.length_append]; (first | exact om76 h2 h4 | omega)
    · (first | exact om78 h1 h4 | omega)
theorem Part.Rng.alt {a b : Part} {k n m : Nat} (ha : a.Rng k n) (hb : b.Rng (k + n) m) : (a.alt b).Rng k (n + m) := by
  have h1 := ha.fl; have h2 := ha.ll; have h3 := hb.fl; have h4 := hb.ll
  refine ⟨fun q hq => ?_, fun q hq => ?_, ?_, ?_⟩
  · rcases List.mem_append.mp hq with h | h
    · have := ha.f q h; (first | exact om74 h3 this | omega)
    · have := hb.f q h; (first | exact om75 h1 this | omega)
  · rcases List.mem_append.mp hq with h | h
    · have := ha.l q h; (first | exact om74 h3 this | omega)
    · have := hb.l q h; (first | exact om75 h1 this | omega)
  · show (a.f ++ b.f).length ≤ _; rw [List.length_append]; (first | exact om76 h1 h3 | omega)
  · show (a.l ++ b.l).length ≤ _; rw [List.length_append]; (first | exact om76 h2 h4 | omega)
mutual
theorem rngI (k : Nat) : ∀ i : It, (gI k i).Rng k (lvI i).length
  | .lit d => by
    unfold gI lvI
    refine ⟨fun q hq => ?_, fun q hq => ?_, by simp, by simp⟩ <;>
    · rw [List.mem_singleton.mp hq]; simp
  | .grp e => by unfold gI lvI; exact rngE k e
  | .star i => by unfold gI lvI; exact ⟨(rngI k i).f, (rngI k i).l, (rngI k i).fl, (rngI k i).ll⟩
theorem rngC (k : Nat) : ∀ c : Ch, (gC k c).Rng k (lvC c).length
  | .one i => by unfold gC lvC; exact rngI k i
  | .more c i => by rw [gC, lvC, List.length_append]; exact (rngC k c).cat (rngI _ i)
theorem rngE (k : Nat) : ∀ e : El, (gE k e).Rng k (lvE e).length
  | .one c => by unfold gE lvE; exact rngC k c
  | .more e c => by rw [gE, lvE, List.length_append]; exact (rngE k e).alt (rngC _ c)
end
noncomputable def It.stars : Nat → It → It
  | 0, i => i
  | n + 1, i => It.stars n (.star i)
noncomputable def Ch.app (c : Ch) : List It → Ch
  | [] => c
  | i :: r => (Ch.more c i).app r
noncomputable def El.app (e : El) : List Ch → El
  | [] => e
  | c :: r => (El.more e c).app r
theorem Ch.app_app (c : Ch) (r : List It) (i : It) : c.app (r ++ [i]) = .more (c.app r) i := by
  induction r generalizing c with
  | nil => rfl
  | cons j r ih => exact ih _
theorem El.app_app (e : El) (r : List Ch) (c : Ch) : e.app (r ++ [c]) = .more (e.app r) c := by
  induction r generalizing e with
  | nil => rfl
  | cons j r ih => exact ih _
theorem ch_app : ∀ c : Ch, ∃ i r, c = (Ch.one i).app r
  | .one i => ⟨i, [], rfl⟩
  | .more c i => by
    obtain ⟨j, r, h⟩ := ch_app c
    exact ⟨j, r ++ [i], by rw [Ch.app_app, ← h]⟩
theorem el_app : ∀ e : El, ∃ c r, e = (El.one c).app r
  | .one i => ⟨i, [], rfl⟩
  | .more c i => by
    obtain ⟨j, r, h⟩ := el_app c
    exact ⟨j, r ++ [i], by rw [El.app_app, ← h]⟩
theorem stars_star (n : Nat) (i : It) : It.stars n (.star i) = .star (It.stars n i) := by
  induction n generalizing i with
  | zero => rfl
  | succ n ih => exact ih _
theorem it_stars : ∀ i : It, ∃ n b, i = It.stars n b ∧ ((∃ d, b = .lit d) ∨ ∃ e, b = .grp e)
  | .lit d => ⟨0, _, rfl, .inl ⟨d, rfl⟩⟩
  | .grp e => ⟨0, _, rfl, .inr ⟨e, rfl⟩⟩
  | .star i => by
    obtain ⟨n, b, h, hb⟩ := it_stars i
    exact ⟨n + 1, b, by show _ = It.stars n (.star b); rw [stars_star, ← h], hb⟩
theorem tkC_app {la lb : Str} (c : Ch) (r : List It) : tkC la lb (c.app r) = tkC la lb c ++ r.flatMap fun i => tArrow :: tkI la lb i := by
  induction r generalizing c with
  | nil => simp [Ch.app]
  | cons i r ih => rw [Ch.app, ih, tkC]; simp
theorem tkE_app {la lb : Str} (e : El) (r : List Ch) : tkE la lb (e.app r) = tkE la lb e ++ r.flatMap fun c => tBar :: tkC la lb c := by
  induction r generalizing e with
  | nil => simp [El.app]
  | cons i r ih => rw [El.app, ih, tkE]; simp
theorem tkI_stars {la lb : Str} (n : Nat) (b : It) : tkI la lb (It.stars n b) = tkI la lb b ++ List.replicate n tStar := by
  induction n generalizing b with
  | zero => simp [It.stars]
  | succ n ih => rw [It.stars, ih, tkI, List.replicate_succ]; simp
theorem lvI_stars (n : Nat) (b : It) : lvI (It.stars n b) = lvI b := by
  induction n generalizing b with
  | zero => rfl
  | succ n ih => rw [It.stars, ih, lvI]
theorem dpI_stars (n : Nat) (b : It) : dpI (It.stars n b) = dpI b := by
  induction n generalizing b with
  | zero => rfl
  | succ n ih => rw [It.stars, ih, dpI]
theorem lvC_app (c : Ch) (r : List It) : lvC (c.app r) = lvC c ++ r.flatMap lvI := by
  induction r generalizing c with
  | nil => simp [Ch.app]
  | cons i r ih => rw [Ch.app, ih, lvC]; simp
theorem lvE_app (c : El) (r : List Ch) : lvE (c.app r) = lvE c ++ r.flatMap lvC := by
  induction r generalizing c with
  | nil => simp [El.app]
  | cons i r ih => rw [El.app, ih, lvE]; simp
theorem dpC_app (c : Ch) (r : List It) {d : Nat} : dpC (c.app r) ≤ d ↔ dpC c ≤ d ∧ ∀ i ∈ r, dpI i ≤ d := by
  induction r generalizing c with
  | nil => simp [Ch.app]
  | cons i r ih => rw [Ch.app, ih, dpC, Nat.max_le]; simp [and_assoc]
theorem dpE_app (c : El) (r : List Ch) {d : Nat} : dpE (c.app r) ≤ d ↔ dpE c ≤ d ∧ ∀ i ∈ r, dpC i ≤ d := by
  induction r generalizing c with
  | nil => simp [El.app]
  | cons i r ih => rw [El.app, ih, dpE, Nat.max_le]; simp [and_assoc]
end
section
set_option linter.unusedSimpArgs false
theorem T_ExprV {c : Cx} {ks sk gl cs : List Str} {n : Nat} {σ : AS} (O : Ok c ks sk gl cs n) {e : Expr} {pos : Pos} {R : AF → AS → Prop} (h : TV c (eval e c.env) σ fun a σ₁ => R .next σ₁) (hsw : swapsWith e none pos.line c.env = pure false) : TF c (exec (.Expr e pos) c.env) σ R := by
  intro s S
  rw [show exec (.Expr e pos) c.env = (do
    standAt pos
    if interactive c.env then printExpr (eval e c.env)
    else if ← swapsWith e none pos.line c.env then do evalThenUse e c.env fun _ => point; pure .next
    else do dropValue e pos (← eval e c.env)) from rfl, show interactive c.env = false from by unfold interactive; rw [O.kind]; rfl, hsw]
  refine wpAny_bind (wpAny_standAt ?_)
  show wpAny _ _ (do dropValue e pos (← eval e c.env)) _ _ s
  refine wpAny_bind (h.use S fun v a σ₁ s₁ ra S₁ m₁ q => ?_)
  exact wpAny_dropValue ⟨.next, σ₁, rfl, S₁, m₁, q⟩
noncomputable def num (d : Bool) : Int := if d then 257 else 256
noncomputable def markOf (lv : List Bool) (q : Nat) : Int := num (lv.getD (q - 1) false)
noncomputable def lnk (lv : List Bool) (p q : Nat) : T3 := ((p : Int), markOf lv q, (q : Int))
theorem link_lnk {lv pre post : List Bool} (h : lv = pre ++ post) {p q : Nat} (h1 : 1 ≤ q) (h2 : q ≤ pre.length) : link (pre.map num) p q = lnk lv p q := by
  unfold link lnk markOf
  rw [h, List.getD_eq_getElem?_getD, List.getD_eq_getElem?_getD, List.getElem?_append_left (by (first | exact om392 h1 h2 | omega)), List.getElem?_map, List.getElem?_eq_getElem (by (first | exact om392 h1 h2 | omega))]
  rfl
/-- a pattern's reader at work: pairs, marks, row and lexer -/
structure Rd (w : World) where
  L : Lx w
  (pa ma ra : Addr)
  (la lb : Str)
  ga : NumOf [la, lb] la 256
  gb : NumOf [la, lb] lb 257
noncomputable abbrev Rd.mem {w : World} (D : Rd w) (ps : List T3) (ms : List Bool) (pbs : List Str) (cs : List Nat) : Mem :=
  (D.pa, .list (ps.map tr3)) :: (D.ma, .list ((ms.map num).map .int)) :: (D.ra, .list ([D.la, D.lb].map .str)) :: D.L.mem pbs cs
noncomputable abbrev Rd.pre {w : World} (D : Rd w) (ps : List T3) (ms : List Bool) : Mem := [(D.pa, .list (ps.map tr3)), (D.ma, .list ((ms.map num).map .int)), (D.ra, .list ([D.la, D.lb].map .str))]
noncomputable abbrev Part.av (p : Part) : AV := .tup [.bool p.h, nats p.f, nats p.l]
/-- a token that is none of these signs -/
noncomputable def Stops (ks : List Int) (t : Str) : Prop := ∃ r, TokAt t r ∧ r.getD 0 ∉ ks
/-- a reader of x, with tokens tk, letters lv, part g and steps lk -/
noncomputable def Reads {w : World} (n : Nat) (f : Addr) (ks : List Int) (tk : Str → Str → List Str) (lv : List Bool) (g : Nat → Part) (lk : Nat → List (Nat × Nat)) : Prop :=
  ∀ (D : Rd w) (all pre post : List Bool) (ps : List T3) (t0 : Str) (ts pbs : List Str) (cs : List Nat) (Q : AV → Mem → Prop), all = pre ++ lv ++ post → all.length ≤ 4 → Srt ps → ps.length + 16 * (tk D.la D.lb).length ≤ 1000000 → Stops ks t0 → LSt (tk D.la D.lb ++ t0 :: ts) pbs cs →
    (∀ ps' pbs' cs', Srt ps' → (∀ z, z ∈ ps' ↔ z ∈ ps ∨ ∃ x ∈ lk pre.length, z = lnk all x.1 x.2) → ps'.length ≤ ps.length + 16 * (tk D.la D.lb).length → LSt (t0 :: ts) pbs' cs' → Q (g pre.length).av (D.mem ps' (pre ++ lv) pbs' cs')) →
    FS w n (.ref f) [.ref D.L.lx, .ref D.ra, .ref D.ma, .ref D.pa] (D.mem ps pre pbs cs) Q
noncomputable abbrev ReadsI {w : World} (n : Nat) (i : It) : Prop := Reads (w := w) n 154 [16] (fun la lb => tkI la lb i) (lvI i) (fun k => gI k i) (fun k => lkI k i)
noncomputable abbrev ReadsC {w : World} (n : Nat) (c : Ch) : Prop := Reads (w := w) n 161 [16, 51] (fun la lb => tkC la lb c) (lvC c) (fun k => gC k c) (fun k => lkC k c)
noncomputable abbrev ReadsE {w : World} (n : Nat) (e : El) : Prop := Reads (w := w) n 168 [16, 51, 18] (fun la lb => tkE la lb e) (lvE e) (fun k => gE k e) (fun k => lkE k e)
theorem stops_star : Stops [51, 18] tStar := ⟨_, tok_star, by decide⟩
theorem stops_arrow : Stops [16, 18] tArrow := ⟨_, tok_arrow, by decide⟩
theorem stops_bar : Stops [16, 51] tBar := ⟨_, tok_bar, by decide⟩
theorem stops_close : Stops [16, 51, 18] tClose := ⟨_, tok_close, by decide⟩
inductive StarInv {w : World} (D : Rd w) (b : It) (m : Nat) (r : Int) (all pre : List Bool) (ps : List T3) (t0 : Str) (ts : List Str) (k : Nat) (σ : AS) : Prop
  | mk (todo : Nat) (i' : It) (ps1 : List T3) (pbs1 : List Str) (cs1 : List Nat) (h0 : k = todo) (h1 : It.stars todo i' = It.stars m b) (h2 : lvI i' = lvI b) (h3 : Srt ps1) (h4 : (∀ z, z ∈ ps1 ↔ z ∈ ps ∨ ∃ x ∈ lkI pre.length i', z = lnk all x.1 x.2)) (h5 : ps1.length + 16 * todo ≤ ps.length + 16 * ((tkI D.la D.lb b).length + m)) (h6 : LSt (List.replicate todo tStar ++ t0 :: ts) pbs1 cs1) (h7 : σ = ⟨[.ref D.L.lx, .ref D.ra, .ref D.ma, .ref D.pa, .int r, (gI pre.length i').av], D.mem ps1 (pre ++ lvI b) pbs1 cs1⟩) : StarInv D b m r all pre ps t0 ts k σ
theorem starred_spec {w : World} {n : Nat} {i : It} (hn : 5 ≤ n) (sub : ∀ e, (∃ k, i = It.stars k (.grp e)) → ReadsE (w := w) n e) : ReadsI (w := w) (n + 1) i := by
  intro D all pre post ps t0 ts pbs cs Q hall hal hs hsz hst hL q
  have hsl : sizeLine = 16777216 := rfl
  obtain ⟨n, rfl⟩ : ∃ m, n = m + 5 := ⟨n - 5, by (first | exact om164 hn | omega)⟩
  refine FS_in [Str.ofString "lexer", Str.ofString "row", Str.ofString "marks", Str.ofString "pairs"] [Str.ofString "lexer", Str.ofString "row", Str.ofString "marks", Str.ofString "pairs", Str.ofString "number", Str.ofString "part"]
    [Str.ofString "_law_number", Str.ofString "ISNONTERMINAL", Str.ofString "len", Str.ofString "_law_either", Str.ofString "_law_meets", Str.ofString "_law_linked"] []
    [.ref D.L.lx, .ref D.ra, .ref D.ma, .ref D.pa, .unb, .unb] rfl rfl (by kernel_rfl) (by kernel_rfl) rfl (dav := []) rfl (dv := []) (fun _ _ => rfl) rfl (fun vals h => ?_) (fun c hw O => ?_)
  · obtain ⟨a0, a1, a2, a3, rfl⟩ := len4 h
    exact fun S => by kernel_rfl
  · subst hw
    obtain ⟨fo, fd, hfo, hfd⟩ := (fun w => ⟨_, _, rfl, rfl⟩ : IsFn 69) c.w
    obtain ⟨m, b, rfl, hb⟩ := it_stars i
    dsimp only at hsz hL q
    rw [tkI_stars, List.append_assoc] at hL
    have htk : (tkI D.la D.lb (It.stars m b)).length = (tkI D.la D.lb b).length + m := by rw [tkI_stars, List.length_append, List.length_replicate]
    simp only [htk] at hsz q
    simp only [lvI_stars] at hall q
    obtain ⟨t, rest, r, ht, hr, hbr⟩ : ∃ t rest r, tkI D.la D.lb b = t :: rest ∧ NumOf [D.la, D.lb] t r ∧ ((∃ d, b = .lit d ∧ r = num d ∧ rest = []) ∨ ∃ e, b = .grp e ∧ r = 7 ∧ rest = tkE D.la D.lb e ++ [tClose]) := by
      rcases hb with ⟨d, rfl⟩ | ⟨e, rfl⟩
      · refine ⟨_, _, num d, by rw [tkI], ?_, .inl ⟨d, rfl, rfl, rfl⟩⟩
        cases d
        · exact D.ga
        · exact D.gb
      · exact ⟨_, _, 7, by rw [tkI], .tok (by decide +kernel) tok_open, .inr ⟨e, rfl, rfl, rfl⟩⟩
    rw [ht, List.cons_append] at hL
    walk_at "go"
    refine T_methI O ?_ (by rfl) rfl
    walk_at "go"
    refine getm_meth (D.L.inst (D.pre ps pre) _ _ _) mn_get_token rfl ?_
    refine ⟨fo, fd, hfd, ?_⟩
    walk_at "go"
    refine ⟨.k hfo, n + 4, by (first | exact om406 | omega), get_spec (pre := D.pre ps pre) D.L hL fun cs1 hL1 _ => ?_⟩
    walk_at "go"
    refine ⟨n + 4, by (first | exact om406 | omega), number_spec nofun (.owned (by walk_at "mem")) (by show 2 ≤ _; (first | exact om219 | omega)) hr ?_⟩
    refine ⟨_, by walk_at "put", ?_⟩
    refine land (by assumption) (T_consR fun R hR => ?_)
    refine TT.mono (Q := fun f σ₁ => f = .next ∧ ∃ (ps1 : List T3) (pbs1 : List Str) (cs1 : List Nat), Srt ps1 ∧ (∀ z, z ∈ ps1 ↔ z ∈ ps ∨ ∃ x ∈ lkI pre.length b, z = lnk all x.1 x.2) ∧ ps1.length ≤ ps.length + 16 * (tkI D.la D.lb b).length ∧ LSt (List.replicate m tStar ++ t0 :: ts) pbs1 cs1 ∧
        σ₁ = ⟨[.ref D.L.lx, .ref D.ra, .ref D.ma, .ref D.pa, .int r, (gI pre.length b).av], D.mem ps1 (pre ++ lvI b) pbs1 cs1⟩) ?_ ?_
    · walk_at "go"
      refine tb_plain ?_
      walk_at "go"
      refine ⟨n + 4, by (first | exact om406 | omega), isnonterminal_spec (n := n + 3) ?_⟩
      walk_at "go"
      rcases hbr with ⟨d, rfl, rfl, rfl⟩ | ⟨e, rfl, rfl, rfl⟩
      · refine ite_t (by cases d <;> decide) ?_
        walk_at "go"
        refine T_methL PySem.F.slot_list_append rfl ?_
        walk_at "go"
        refine ⟨_, _, rfl, by walk_at "mem", ?_⟩
        walk_at "go"
        have hpl : pre.length ≤ 4 := by rw [hall] at hal; simp at hal; (first | exact om407 hal | omega)
        have hmk : ((pre.map num).map AV.int) ++ [.int (num d)] = ((pre ++ [d]).map num).map AV.int := by simp
        refine bs_append (mem' := D.mem ps (pre ++ [d]) [] cs1) (by rw [hmk]; walk_at "mup") (by simp; (first | exact om215 hsl hpl | omega)) ?_
        refine ⟨rfl, ?_⟩
        walk_at "go"
        refine T_List ?_
        walk_at "go"
        have hml : (((pre ++ [d]).map num).map AV.int).length = pre.length + 1 := by simp
        refine bs_len_list (.owned (by walk_at "mem")) (by rw [hml]; (first | exact om408 hsl hpl hml | omega)) ?_
        rw [hml]
        walk_at "go"
        refine ⟨by show 1 ≤ _; (first | exact om191 hsl | omega), ?_⟩
        walk_at "go"
        refine T_List ?_
        walk_at "go"
        refine bs_len_list (.owned (by walk_at "mem")) (by rw [hml]; (first | exact om408 hsl hpl hml | omega)) ?_
        rw [hml]
        walk_at "go"
        refine ⟨by show 1 ≤ _; (first | exact om191 hsl | omega), ?_⟩
        walk_at "go"
        refine ⟨by show 3 ≤ _; (first | exact om170 hsl | omega), ?_⟩
        walk_at "go"
        refine ⟨rfl, ps, [], cs1, hs, fun z => ?_, by (first | exact om409 | omega), hL1, ?_⟩
        · simp [lkI]
        · rw [gI, lvI]; rfl
      · refine ite_f (by decide) ?_
        have hle : (tkI D.la D.lb (.grp e)).length = (tkE D.la D.lb e).length + 2 := by rw [tkI]; simp
        have hlv : lvI (.grp e) = lvE e := by rw [lvI]
        have hg : gI pre.length (.grp e) = gE pre.length e := by rw [gI]
        have hlk : lkI pre.length (.grp e) = lkE pre.length e := by rw [lkI]
        rw [hlv] at hall ⊢
        rw [hle] at hsz ⊢
        rw [hg, hlk]
        rw [List.append_assoc, List.singleton_append] at hL1
        walk_at "go"
        refine ⟨n + 5, Nat.le_refl _, sub e ⟨m, rfl⟩ D all pre post ps tClose (List.replicate m tStar ++ t0 :: ts) [] cs1 _ hall hal hs (by dsimp only; (first | exact om410 hsz | omega)) stops_close hL1 fun ps' pbs' cs' hs' hmem' hlen' hL' => ?_⟩
        dsimp only at hmem' hlen'
        refine ⟨_, by walk_at "put", ?_⟩
        refine land (by assumption) (T_consR fun R hR => ?_)
        refine T_ExprV O ?_ rfl
        refine T_methI O ?_ (by rfl) rfl
        walk_at "go"
        refine getm_meth (D.L.inst (D.pre ps' (pre ++ lvE e)) _ _ _) mn_get_token rfl ?_
        refine ⟨fo, fd, hfd, ?_⟩
        walk_at "go"
        refine ⟨.k hfo, n + 4, by (first | exact om406 | omega), get_spec (pre := D.pre ps' (pre ++ lvE e)) D.L hL' fun cs2 hL2 _ => ?_⟩
        walk_at "go"
        exact ⟨rfl, ps', [], cs2, hs', hmem', by (first | exact om411 hlen' | omega), hL2, rfl⟩
    · rintro f σ₁ ⟨rfl, ps1, pbs1, cs2, hs1, hmem1, hlen1, hL2, rfl⟩
      try dsimp only
      obtain ⟨r0, hT0, hr0⟩ := hst
      refine land (by assumption) (T_consR fun R hR => ?_)
      refine T_While (StarInv D b m r all pre ps t0 ts) ?_ m ⟨m, b, ps1, pbs1, cs2, rfl, rfl, rfl, hs1, hmem1, by (first | exact om412 hlen1 | omega), hL2, rfl⟩
      rintro k σ ⟨todo, i', ps1, pbs1, cs1, rfl, hi', hlv', hs1, hmem1, hlen1, hL2, rfl⟩
      refine tb_plain ?_
      walk_at "go"
      cases k with
      | zero =>
        refine ⟨n + 5, Nat.le_refl _, meets_spec (pre := D.pre ps1 (pre ++ lvI b)) D.L hL2 hT0 fun pbs' cs' hL3 => ?_⟩
        have hr : ¬ r0.getD 0 = 16 := fun e => hr0 (by rw [e]; decide)
        rw [if_neg hr] at hL3
        rw [decide_eq_false hr]
        walk_at "go"
        have e : i' = It.stars m b := hi'
        subst e
        exact q ps1 pbs' cs' hs1 hmem1 (by (first | exact om167 hlen1 | omega)) hL3
      | succ k =>
        refine ⟨n + 5, Nat.le_refl _, meets_spec (pre := D.pre ps1 (pre ++ lvI b)) D.L hL2 tok_star fun pbs' cs' hL3 => ?_⟩
        rw [if_pos (show (some (16 : Int)).getD 0 = 16 from rfl)] at hL3
        rw [decide_eq_true (show (some (16 : Int)).getD 0 = 16 from rfl)]
        rw [List.append_eq] at hL3
        have R := rngI pre.length i'
        have hlen4 : (lvI i').length ≤ 4 := by rw [hlv']; rw [hall] at hal; simp at hal; (first | exact om413 hal | omega)
        have hpl : pre.length + (lvI i').length ≤ 4 := by rw [hlv']; rw [hall] at hal; simp at hal; (first | exact om414 hal | omega)
        have hf4 := R.fl
        have hl4 := R.ll
        walk_at "go"
        refine T_Subscript ?_
        walk_at "go"
        refine op_item_tup (by decide) (a := nats (gI pre.length i').l) rfl ?_ (by show 3 ≤ _; (first | exact om170 hsl | omega)) (fun _ _ => rfl)
        walk_at "go"
        refine T_Subscript ?_
        walk_at "go"
        refine op_item_tup (by decide) (a := nats (gI pre.length i').f) rfl ?_ (by show 3 ≤ _; (first | exact om170 hsl | omega)) (fun _ _ => rfl)
        walk_at "go"
        have h16 : (gI pre.length i').l.length * (gI pre.length i').f.length ≤ 16 := Nat.le_trans (Nat.mul_le_mul (Nat.le_trans hl4 hlen4) (Nat.le_trans hf4 hlen4)) (by decide)
        refine ⟨n + 5, Nat.le_refl _, linked_spec (mem := fun l => D.mem l (pre ++ lvI b) pbs' cs') (marks := (pre ++ lvI b).map num) (fun l l' => by walk_at "mup") (fun l => by walk_at "mem") hs1 (by (first | exact om415 hsz hlen1 h16 | omega)) (by rw [List.length_map, List.length_append, ← hlv']; (first | exact om416 hpl | omega)) (by (first | exact om417 hpl hl4 | omega)) (by (first | exact om417 hpl hf4 | omega)) (fun q hq => ?_) fun ps2 hs2 hmem2 hlen2 => ?_⟩
        · have := R.f q hq
          rw [List.length_map, List.length_append, ← hlv']; (first | exact om418 this | omega)
        refine ⟨rfl, ?_⟩
        walk_at "go"
        refine T_Subscript ?_
        walk_at "go"
        refine op_item_tup (by decide) (a := nats (gI pre.length i').f) rfl ?_ (by show 3 ≤ _; (first | exact om170 hsl | omega)) (fun _ _ => rfl)
        walk_at "go"
        refine T_Subscript ?_
        walk_at "go"
        refine op_item_tup (by decide) (a := nats (gI pre.length i').l) rfl ?_ (by show 3 ≤ _; (first | exact om170 hsl | omega)) (fun _ _ => rfl)
        walk_at "go"
        refine ⟨by show 3 ≤ _; (first | exact om170 hsl | omega), ?_⟩
        walk_at "go"
        refine ⟨k, Nat.lt_succ_self _, k, .star i', ps2, pbs', cs', rfl, hi', by rw [lvI]; exact hlv', hs2, fun z => ?_, by (first | exact om419 hlen1 h16 hlen2 | omega), hL3, ?_⟩
        · rw [hmem2, hmem1, lkI]
          constructor
          · rintro ((h | ⟨x, hx, e⟩) | ⟨p, hp, q, hq, e⟩)
            · exact .inl h
            · exact .inr ⟨x, List.mem_append_left _ hx, e⟩
            · have := R.f q hq
              rw [link_lnk hall (by (first | exact om420 this | omega)) (by rw [List.length_append, ← hlv']; (first | exact om421 this | omega))] at e
              exact .inr ⟨(p, q), List.mem_append_right _ (mem_prodL.mpr ⟨hp, hq⟩), e⟩
          · rintro (h | ⟨x, hx, e⟩)
            · exact .inl (.inl h)
            · rcases List.mem_append.mp hx with hx | hx
              · exact .inl (.inr ⟨x, hx, e⟩)
              · obtain ⟨hp, hq⟩ := mem_prodL.mp hx
                have := R.f x.2 hq
                rw [← link_lnk hall (by (first | exact om420 this | omega)) (by rw [List.length_append, ← hlv']; (first | exact om421 this | omega))] at e
                exact .inr ⟨x.1, hp, x.2, hq, e⟩
        · rw [gI]; rfl
end
section
set_option linter.unusedSimpArgs false
theorem Stops.sub {ks ks' : List Int} {t : Str} (h : Stops ks t) (s : ∀ k ∈ ks', k ∈ ks) : Stops ks' t :=
  let ⟨r, hT, hr⟩ := h
  ⟨r, hT, fun q => hr (s _ q)⟩
theorem next_stop {ks : List Int} {op t0 : Str} {ts : List Str} {α : Type} {tk : α → List Str} (ho : Stops ks op) (h0 : Stops ks t0) (r : List α) : ∃ h tl, (r.flatMap fun i => op :: tk i) ++ t0 :: ts = h :: tl ∧ Stops ks h := by
  cases r with
  | nil => exact ⟨t0, ts, rfl, h0⟩
  | cons i r => exact ⟨op, _, by rw [List.flatMap_cons, List.cons_append, List.cons_append], ho⟩
theorem ite_mono {c : Cx} {b : Bool} {t1 t2 : Sem Value} {σ : AS} {Q Q' : AV → AS → Prop} (h : if b = true then TV c t1 σ Q' else TV c t2 σ Q') (k : ∀ a σ', Q' a σ' → Q a σ') : if b = true then TV c t1 σ Q else TV c t2 σ Q := by
  cases b
  · exact TT.mono h k
  · exact TT.mono h k
theorem ite_monoA {c : Cx} {b : Bool} {t1 : Sem Value} {a₀ : AV} {σ : AS} {Q Q' : AV → AS → Prop} (h : if b = true then TV c t1 σ Q' else Q' a₀ σ) (k : ∀ a σ', Q' a σ' → Q a σ') : if b = true then TV c t1 σ Q else Q a₀ σ := by
  cases b
  · exact k _ _ h
  · exact TT.mono h k
theorem ite_monoO {c : Cx} {b : Bool} {t1 : Sem Value} {a₀ : AV} {σ : AS} {Q Q' : AV → AS → Prop} (h : if b = true then Q' a₀ σ else TV c t1 σ Q') (k : ∀ a σ', Q' a σ' → Q a σ') : if b = true then Q a₀ σ else TV c t1 σ Q := by
  cases b
  · exact TT.mono h k
  · exact k _ _ h
inductive ChainInv {w : World} (D : Rd w) (i0 : It) (r : List It) (all pre : List Bool) (ps : List T3) (t0 : Str) (ts : List Str) (k : Nat) (σ : AS) : Prop
  | mk (todo : List It) (c' : Ch) (ps1 : List T3) (pbs1 : List Str) (cs1 : List Nat) (u1 u2 u3 : AV) (h0 : k = todo.length) (h1 : c'.app todo = (Ch.one i0).app r) (h2 : (∀ j ∈ todo, j ∈ r)) (h3 : Srt ps1) (h4 : (∀ z, z ∈ ps1 ↔ z ∈ ps ∨ ∃ x ∈ lkC pre.length c', z = lnk all x.1 x.2)) (h5 : ps1.length + 16 * (todo.flatMap fun i => tArrow :: tkI D.la D.lb i).length ≤ ps.length + 16 * ((tkI D.la D.lb i0).length + (r.flatMap fun i => tArrow :: tkI D.la D.lb i).length)) (h6 : LSt ((todo.flatMap fun i => tArrow :: tkI D.la D.lb i) ++ t0 :: ts) pbs1 cs1) (h7 : σ = ⟨[.ref D.L.lx, .ref D.ra, .ref D.ma, .ref D.pa, (gC pre.length c').av, u1, u2, u3], D.mem ps1 (pre ++ lvC c') pbs1 cs1⟩) : ChainInv D i0 r all pre ps t0 ts k σ
theorem chain_spec {w : World} {n : Nat} {c₀ : Ch} (hn : 5 ≤ n) (sub : ∀ i r, c₀ = (Ch.one i).app r → ReadsI (w := w) n i ∧ ∀ j ∈ r, ReadsI (w := w) n j) : ReadsC (w := w) (n + 1) c₀ := by
  intro D all pre post ps t0 ts pbs cs Q hall hal hs hsz hst hL q
  have hsl : sizeLine = 16777216 := rfl
  obtain ⟨n, rfl⟩ : ∃ m, n = m + 5 := ⟨n - 5, by (first | exact om164 hn | omega)⟩
  refine FS_in [Str.ofString "lexer", Str.ofString "row", Str.ofString "marks", Str.ofString "pairs"] [Str.ofString "lexer", Str.ofString "row", Str.ofString "marks", Str.ofString "pairs", Str.ofString "part", Str.ofString "other", Str.ofString "firsts", Str.ofString "lasts"]
    [Str.ofString "_law_starred", Str.ofString "_law_meets", Str.ofString "_law_linked"] []
    [.ref D.L.lx, .ref D.ra, .ref D.ma, .ref D.pa, .unb, .unb, .unb, .unb] rfl rfl (by kernel_rfl) (by kernel_rfl) rfl (dav := []) rfl (dv := []) (fun _ _ => rfl) rfl (fun vals h => ?_) (fun c hw O => ?_)
  · obtain ⟨a0, a1, a2, a3, rfl⟩ := len4 h
    exact fun S => by kernel_rfl
  · subst hw
    obtain ⟨i0, r, rfl⟩ := ch_app c₀
    obtain ⟨sub0, subr⟩ := sub i0 r rfl
    dsimp only at hsz hL q
    have hkk : tkC D.la D.lb (.one i0) = tkI D.la D.lb i0 := by rw [tkC]
    have hvv : lvC (.one i0) = lvI i0 := by rw [lvC]
    have hgg : gC pre.length (.one i0) = gI pre.length i0 := by rw [gC]
    have hll : lkC pre.length (.one i0) = lkI pre.length i0 := by rw [lkC]
    have htl : (tkC D.la D.lb ((Ch.one i0).app r)).length = (tkI D.la D.lb i0).length + (r.flatMap fun i => tArrow :: tkI D.la D.lb i).length := by rw [tkC_app, List.length_append, hkk]
    rw [tkC_app, List.append_assoc, hkk] at hL
    rw [htl] at hsz
    have hst16 : Stops [16] t0 := hst.sub (by decide)
    have har16 : Stops [16] tArrow := stops_arrow.sub (by decide)
    have hall0 : all = pre ++ lvI i0 ++ (r.flatMap lvI ++ post) := by rw [hall, lvC_app, hvv]; simp
    walk_at "go"
    obtain ⟨h, tl, hnx, hhs⟩ := next_stop (ts := ts) (tk := fun i => tkI D.la D.lb i) har16 hst16 r
    rw [hnx] at hL
    refine ⟨n + 5, Nat.le_refl _, sub0 D all pre (r.flatMap lvI ++ post) ps h tl pbs cs _ hall0 hal hs (by dsimp only; (first | exact om165 hsz htl | omega)) hhs hL fun ps1 pbs1 cs1 hs1 hmem1 hlen1 hL1 => ?_⟩
    rw [← hnx] at hL1
    replace hlen1 : ps1.length ≤ ps.length + 16 * (tkI D.la D.lb i0).length := hlen1
    refine ⟨_, by walk_at "put", ?_⟩
    obtain ⟨r0, hT0, hr0⟩ := hst
    refine land (by assumption) (T_consR fun R hR => ?_)
    refine T_While (ChainInv D i0 r all pre ps t0 ts) ?_ r.length ⟨r, .one i0, ps1, pbs1, cs1, _, _, _, rfl, rfl, fun _ h => h, hs1, by rw [hll]; exact hmem1, by (first | exact om166 htl hlen1 | omega), hL1, by rw [hgg, hvv]⟩
    rintro k σ ⟨todo, c', ps1, pbs1, cs1, u1, u2, u3, rfl, hc', htodo, hs1, hmem1, hlen1, hL2, rfl⟩
    refine tb_plain ?_
    walk_at "go"
    cases todo with
    | nil =>
      refine ⟨n + 5, Nat.le_refl _, meets_spec (pre := D.pre ps1 (pre ++ lvC c')) D.L hL2 hT0 fun pbs' cs' hL3 => ?_⟩
      have hr : ¬ r0.getD 0 = 51 := fun e => hr0 (by rw [e]; decide)
      rw [if_neg hr] at hL3
      rw [decide_eq_false hr]
      walk_at "go"
      have e : c' = (Ch.one i0).app r := hc'
      subst e
      exact q ps1 pbs' cs' hs1 hmem1 (by rw [htl]; rw [List.flatMap_nil, List.length_nil] at hlen1; (first | exact om167 hlen1 | omega)) hL3
    | cons i todo =>
      rw [List.flatMap_cons, List.cons_append, List.cons_append] at hL2
      rw [List.flatMap_cons, List.length_append, List.length_cons] at hlen1
      refine ⟨n + 5, Nat.le_refl _, meets_spec (pre := D.pre ps1 (pre ++ lvC c')) D.L hL2 tok_arrow fun pbs' cs' hL3 => ?_⟩
      rw [if_pos (show (some (51 : Int)).getD 0 = 51 from rfl)] at hL3
      rw [decide_eq_true (show (some (51 : Int)).getD 0 = 51 from rfl)]
      rw [List.append_assoc] at hL3
      have hlvs : lvC ((Ch.one i0).app r) = lvC c' ++ (lvI i ++ todo.flatMap lvI) := by rw [← hc', lvC_app, List.flatMap_cons]
      have hall1 : all = (pre ++ lvC c') ++ lvI i ++ (todo.flatMap lvI ++ post) := by rw [hall, hlvs]; simp
      have hal1 : pre.length + (lvC c').length + (lvI i).length ≤ 4 := by rw [hall1] at hal; simp at hal; (first | exact om168 hal | omega)
      obtain ⟨h, tl, hnx, hhs⟩ := next_stop (ts := ts) (tk := fun i => tkI D.la D.lb i) har16 hst16 todo
      rw [hnx] at hL3
      have A := rngC pre.length c'
      have B := rngI (pre.length + (lvC c').length) i
      have a1 := A.fl
      have a2 := A.ll
      have b1 := B.fl
      have b2 := B.ll
      walk_at "go"
      refine ⟨n + 5, Nat.le_refl _, subr i (htodo i (.head _)) D all (pre ++ lvC c') (todo.flatMap lvI ++ post) ps1 h tl pbs' cs' _ hall1 hal hs1 (by dsimp only; (first | exact om169 hsz htl hlen1 | omega)) hhs hL3 fun ps2 pbs2 cs2 hs2 hmem2 hlen2 hL4 => ?_⟩
      rw [← hnx] at hL4
      replace hlen2 : ps2.length ≤ ps1.length + 16 * (tkI D.la D.lb i).length := hlen2
      rw [List.length_append] at hmem2 ⊢
      walk_at "go"
      refine T_Subscript ?_
      walk_at "go"
      refine op_item_tup (by decide) (a := nats (gC pre.length c').l) rfl ?_ (by show 3 ≤ _; (first | exact om170 hsl | omega)) (fun _ _ => rfl)
      walk_at "go"
      refine T_Subscript ?_
      walk_at "go"
      refine op_item_tup (by decide) (a := nats (gI (pre.length + (lvC c').length) i).f) rfl ?_ (by show 3 ≤ _; (first | exact om170 hsl | omega)) (fun _ _ => rfl)
      walk_at "go"
      have h16 : (gC pre.length c').l.length * (gI (pre.length + (lvC c').length) i).f.length ≤ 16 := Nat.le_trans (Nat.mul_le_mul (show _ ≤ 4 by (first | exact om422 hal1 a2 b2 | omega)) (show _ ≤ 4 by (first | exact om423 hal1 a2 b1 | omega))) (by decide)
      refine ⟨n + 5, Nat.le_refl _, linked_spec (mem := fun l => D.mem l (pre ++ lvC c' ++ lvI i) pbs2 cs2) (marks := (pre ++ lvC c' ++ lvI i).map num) (fun l l' => by walk_at "mup") (fun l => by walk_at "mem") hs2 (by (first | exact om424 hsz htl hlen1 hlen2 h16 | omega)) (by rw [List.length_map, List.length_append, List.length_append]; (first | exact om425 hal1 | omega)) (by (first | exact om426 hal1 a2 b2 | omega)) (by (first | exact om427 hal1 a2 b1 | omega)) (fun q hq => ?_) fun ps3 hs3 hmem3 hlen3 => ?_⟩
      · have := B.f q hq
        rw [List.length_map, List.length_append, List.length_append]; (first | exact om428 this | omega)
      refine ⟨rfl, ?_⟩
      walk_at "go"
      have idx : ∀ (X : Part) (σ : AS) (Q : AV → AS → Prop) (value slice : Expr), PlainIdx slice → Q (.bool X.h) σ → Op2 c (subscriptTail value slice) X.av (.int 0) σ Q := fun X σ Q v s hp q => op_item_tup (by decide) rfl q (by show 3 ≤ _; (first | exact om170 hsl | omega)) hp
      have idx1 : ∀ (X : Part) (σ : AS) (Q : AV → AS → Prop) (value slice : Expr), PlainIdx slice → Q (nats X.f) σ → Op2 c (subscriptTail value slice) X.av (.int 1) σ Q := fun X σ Q v s hp q => op_item_tup (by decide) rfl q (by show 3 ≤ _; (first | exact om170 hsl | omega)) hp
      have idx2 : ∀ (X : Part) (σ : AS) (Q : AV → AS → Prop) (value slice : Expr), PlainIdx slice → Q (nats X.l) σ → Op2 c (subscriptTail value slice) X.av (.int 2) σ Q := fun X σ Q v s hp q => op_item_tup (by decide) rfl q (by show 3 ≤ _; (first | exact om170 hsl | omega)) hp
      generalize hA : gC pre.length c' = PA at *
      generalize hB : gI (pre.length + (lvC c').length) i = PB at *
      refine tb_plain ?_
      refine T_Subscript ?_
      walk_at "go"
      refine idx _ _ _ _ _ (fun _ _ => rfl) ?_
      refine tru_bool ?_
      refine ite_mono (Q' := fun a σ' => a = nats (PA.cat PB).f ∧ σ' = ⟨[.ref D.L.lx, .ref D.ra, .ref D.ma, .ref D.pa, PA.av, PB.av, u2, u3], D.mem ps3 (pre ++ lvC c' ++ lvI i) pbs2 cs2⟩) ?_ ?_
      · cases hh : PA.h with
        | true =>
          refine ite_t rfl ?_
          walk_at "go"
          refine T_Subscript ?_
          walk_at "go"
          refine idx1 _ _ _ _ _ (fun _ _ => rfl) ?_
          refine T_Subscript ?_
          walk_at "go"
          refine idx1 _ _ _ _ _ (fun _ _ => rfl) ?_
          refine op_add_list .frozen .frozen (by rw [List.length_map, List.length_map]; (first | exact om171 hsl hal1 a1 b1 | omega)) ?_
          refine ⟨?_, rfl⟩
          rw [← List.map_append]; unfold Part.cat; rw [hh]; rfl
        | false =>
          refine ite_f (by decide) ?_
          refine T_Subscript ?_
          walk_at "go"
          refine idx1 _ _ _ _ _ (fun _ _ => rfl) ?_
          refine ⟨?_, rfl⟩
          unfold Part.cat; rw [hh]; rfl
      rintro a σ' ⟨rfl, rfl⟩
      walk_at "go"
      refine tb_plain ?_
      refine T_Subscript ?_
      walk_at "go"
      refine idx _ _ _ _ _ (fun _ _ => rfl) ?_
      refine tru_bool ?_
      refine ite_mono (Q' := fun a σ' => a = nats (PA.cat PB).l ∧ σ' = ⟨[.ref D.L.lx, .ref D.ra, .ref D.ma, .ref D.pa, PA.av, PB.av, nats (PA.cat PB).f, u3], D.mem ps3 (pre ++ lvC c' ++ lvI i) pbs2 cs2⟩) ?_ ?_
      · cases hh : PB.h with
        | true =>
          refine ite_t rfl ?_
          walk_at "go"
          refine T_Subscript ?_
          walk_at "go"
          refine idx2 _ _ _ _ _ (fun _ _ => rfl) ?_
          refine T_Subscript ?_
          walk_at "go"
          refine idx2 _ _ _ _ _ (fun _ _ => rfl) ?_
          refine op_add_list .frozen .frozen (by rw [List.length_map, List.length_map]; (first | exact om171 hsl hal1 a2 b2 | omega)) ?_
          refine ⟨?_, rfl⟩
          rw [← List.map_append]; unfold Part.cat; rw [hh]; rfl
        | false =>
          refine ite_f (by decide) ?_
          refine T_Subscript ?_
          walk_at "go"
          refine idx2 _ _ _ _ _ (fun _ _ => rfl) ?_
          refine ⟨?_, rfl⟩
          unfold Part.cat; rw [hh]; rfl
      rintro a σ' ⟨rfl, rfl⟩
      walk_at "go"
      refine T_Subscript ?_
      walk_at "go"
      refine idx _ _ _ _ _ (fun _ _ => rfl) ?_
      refine tru_bool ?_
      refine ⟨rfl, ?_⟩
      refine ite_monoA (Q' := fun a σ' => a = .bool (PA.h && PB.h) ∧ σ' = ⟨[.ref D.L.lx, .ref D.ra, .ref D.ma, .ref D.pa, PA.av, PB.av, nats (PA.cat PB).f, nats (PA.cat PB).l], D.mem ps3 (pre ++ lvC c' ++ lvI i) pbs2 cs2⟩) ?_ ?_
      · cases hh : PA.h with
        | true =>
          refine ite_t rfl ?_
          walk_at "go"
          refine T_Subscript ?_
          walk_at "go"
          refine idx _ _ _ _ _ (fun _ _ => rfl) ?_
          exact ⟨by rw [Bool.true_and], rfl⟩
        | false =>
          refine ite_f (by decide) ?_
          exact ⟨rfl, rfl⟩
      rintro a σ' ⟨rfl, rfl⟩
      walk_at "go"
      refine ⟨by show 3 ≤ _; (first | exact om170 hsl | omega), ?_⟩
      walk_at "go"
      refine ⟨todo.length, Nat.lt_succ_self _, todo, .more c' i, ps3, pbs2, cs2, PB.av, nats (PA.cat PB).f, nats (PA.cat PB).l, rfl, hc', fun j hj => htodo j (.tail _ hj), hs3, fun z => ?_, by (first | exact om429 htl hlen1 hlen2 h16 hlen3 | omega), hL4, ?_⟩
      · rw [hmem3, hmem2, hmem1, lkC, hA, hB]
        constructor
        · rintro (((h | ⟨x, hx, e⟩) | ⟨x, hx, e⟩) | ⟨p, hp, q, hq, e⟩)
          · exact .inl h
          · exact .inr ⟨x, List.mem_append_left _ (List.mem_append_left _ hx), e⟩
          · exact .inr ⟨x, List.mem_append_left _ (List.mem_append_right _ hx), e⟩
          · have := B.f q hq
            rw [link_lnk hall1 (by (first | exact om430 this | omega)) (by rw [List.length_append, List.length_append]; (first | exact om431 this | omega))] at e
            exact .inr ⟨(p, q), List.mem_append_right _ (mem_prodL.mpr ⟨hp, hq⟩), e⟩
        · rintro (h | ⟨x, hx, e⟩)
          · exact .inl (.inl (.inl h))
          · rcases List.mem_append.mp hx with hx | hx
            · rcases List.mem_append.mp hx with hx | hx
              · exact .inl (.inl (.inr ⟨x, hx, e⟩))
              · exact .inl (.inr ⟨x, hx, e⟩)
            · obtain ⟨hp, hq⟩ := mem_prodL.mp hx
              have := B.f x.2 hq
              rw [← link_lnk hall1 (by (first | exact om430 this | omega)) (by rw [List.length_append, List.length_append]; (first | exact om431 this | omega))] at e
              exact .inr ⟨x.1, hp, x.2, hq, e⟩
      · rw [gC, hA, hB, lvC, List.append_assoc]; rfl
end
section
set_option linter.unusedSimpArgs false
inductive EitherInv {w : World} (D : Rd w) (i0 : Ch) (r : List Ch) (all pre : List Bool) (ps : List T3) (t0 : Str) (ts : List Str) (k : Nat) (σ : AS) : Prop
  | mk (todo : List Ch) (c' : El) (ps1 : List T3) (pbs1 : List Str) (cs1 : List Nat) (u1 : AV) (h0 : k = todo.length) (h1 : c'.app todo = (El.one i0).app r) (h2 : (∀ j ∈ todo, j ∈ r)) (h3 : Srt ps1) (h4 : (∀ z, z ∈ ps1 ↔ z ∈ ps ∨ ∃ x ∈ lkE pre.length c', z = lnk all x.1 x.2)) (h5 : ps1.length + 16 * (todo.flatMap fun i => tBar :: tkC D.la D.lb i).length ≤ ps.length + 16 * ((tkC D.la D.lb i0).length + (r.flatMap fun i => tBar :: tkC D.la D.lb i).length)) (h6 : LSt ((todo.flatMap fun i => tBar :: tkC D.la D.lb i) ++ t0 :: ts) pbs1 cs1) (h7 : σ = ⟨[.ref D.L.lx, .ref D.ra, .ref D.ma, .ref D.pa, (gE pre.length c').av, u1], D.mem ps1 (pre ++ lvE c') pbs1 cs1⟩) : EitherInv D i0 r all pre ps t0 ts k σ
theorem either_spec {w : World} {n : Nat} {c₀ : El} (hn : 5 ≤ n) (sub : ∀ i r, c₀ = (El.one i).app r → ReadsC (w := w) n i ∧ ∀ j ∈ r, ReadsC (w := w) n j) : ReadsE (w := w) (n + 1) c₀ := by
  intro D all pre post ps t0 ts pbs cs Q hall hal hs hsz hst hL q
  have hsl : sizeLine = 16777216 := rfl
  obtain ⟨n, rfl⟩ : ∃ m, n = m + 5 := ⟨n - 5, by (first | exact om164 hn | omega)⟩
  refine FS_in [Str.ofString "lexer", Str.ofString "row", Str.ofString "marks", Str.ofString "pairs"] [Str.ofString "lexer", Str.ofString "row", Str.ofString "marks", Str.ofString "pairs", Str.ofString "part", Str.ofString "other"]
    [Str.ofString "_law_chain", Str.ofString "_law_meets"] []
    [.ref D.L.lx, .ref D.ra, .ref D.ma, .ref D.pa, .unb, .unb] rfl rfl (by kernel_rfl) (by kernel_rfl) rfl (dav := []) rfl (dv := []) (fun _ _ => rfl) rfl (fun vals h => ?_) (fun c hw O => ?_)
  · obtain ⟨a0, a1, a2, a3, rfl⟩ := len4 h
    exact fun S => by kernel_rfl
  · subst hw
    obtain ⟨i0, r, rfl⟩ := el_app c₀
    obtain ⟨sub0, subr⟩ := sub i0 r rfl
    dsimp only at hsz hL q
    have hkk : tkE D.la D.lb (.one i0) = tkC D.la D.lb i0 := by rw [tkE]
    have hvv : lvE (.one i0) = lvC i0 := by rw [lvE]
    have hgg : gE pre.length (.one i0) = gC pre.length i0 := by rw [gE]
    have hll : lkE pre.length (.one i0) = lkC pre.length i0 := by rw [lkE]
    have htl : (tkE D.la D.lb ((El.one i0).app r)).length = (tkC D.la D.lb i0).length + (r.flatMap fun i => tBar :: tkC D.la D.lb i).length := by rw [tkE_app, List.length_append, hkk]
    rw [tkE_app, List.append_assoc, hkk] at hL
    rw [htl] at hsz
    have hst16 : Stops [16, 51] t0 := hst.sub (by decide)
    have har16 : Stops [16, 51] tBar := stops_bar
    have hall0 : all = pre ++ lvC i0 ++ (r.flatMap lvC ++ post) := by rw [hall, lvE_app, hvv]; simp
    walk_at "go"
    obtain ⟨h, tl, hnx, hhs⟩ := next_stop (ts := ts) (tk := fun i => tkC D.la D.lb i) har16 hst16 r
    rw [hnx] at hL
    refine ⟨n + 5, Nat.le_refl _, sub0 D all pre (r.flatMap lvC ++ post) ps h tl pbs cs _ hall0 hal hs (by dsimp only; (first | exact om165 hsz htl | omega)) hhs hL fun ps1 pbs1 cs1 hs1 hmem1 hlen1 hL1 => ?_⟩
    rw [← hnx] at hL1
    replace hlen1 : ps1.length ≤ ps.length + 16 * (tkC D.la D.lb i0).length := hlen1
    refine ⟨_, by walk_at "put", ?_⟩
    obtain ⟨r0, hT0, hr0⟩ := hst
    refine land (by assumption) (T_consR fun R hR => ?_)
    refine T_While (EitherInv D i0 r all pre ps t0 ts) ?_ r.length ⟨r, .one i0, ps1, pbs1, cs1, _, rfl, rfl, fun _ h => h, hs1, by rw [hll]; exact hmem1, by (first | exact om166 htl hlen1 | omega), hL1, by rw [hgg, hvv]⟩
    rintro k σ ⟨todo, c', ps1, pbs1, cs1, u1, rfl, hc', htodo, hs1, hmem1, hlen1, hL2, rfl⟩
    refine tb_plain ?_
    walk_at "go"
    cases todo with
    | nil =>
      refine ⟨n + 5, Nat.le_refl _, meets_spec (pre := D.pre ps1 (pre ++ lvE c')) D.L hL2 hT0 fun pbs' cs' hL3 => ?_⟩
      have hr : ¬ r0.getD 0 = 18 := fun e => hr0 (by rw [e]; decide)
      rw [if_neg hr] at hL3
      rw [decide_eq_false hr]
      walk_at "go"
      have e : c' = (El.one i0).app r := hc'
      subst e
      exact q ps1 pbs' cs' hs1 hmem1 (by rw [htl]; rw [List.flatMap_nil, List.length_nil] at hlen1; (first | exact om167 hlen1 | omega)) hL3
    | cons i todo =>
      rw [List.flatMap_cons, List.cons_append, List.cons_append] at hL2
      rw [List.flatMap_cons, List.length_append, List.length_cons] at hlen1
      refine ⟨n + 5, Nat.le_refl _, meets_spec (pre := D.pre ps1 (pre ++ lvE c')) D.L hL2 tok_bar fun pbs' cs' hL3 => ?_⟩
      rw [if_pos (show (some (18 : Int)).getD 0 = 18 from rfl)] at hL3
      rw [decide_eq_true (show (some (18 : Int)).getD 0 = 18 from rfl)]
      rw [List.append_assoc] at hL3
      have hlvs : lvE ((El.one i0).app r) = lvE c' ++ (lvC i ++ todo.flatMap lvC) := by rw [← hc', lvE_app, List.flatMap_cons]
      have hall1 : all = (pre ++ lvE c') ++ lvC i ++ (todo.flatMap lvC ++ post) := by rw [hall, hlvs]; simp
      have hal1 : pre.length + (lvE c').length + (lvC i).length ≤ 4 := by rw [hall1] at hal; simp at hal; (first | exact om168 hal | omega)
      obtain ⟨h, tl, hnx, hhs⟩ := next_stop (ts := ts) (tk := fun i => tkC D.la D.lb i) har16 hst16 todo
      rw [hnx] at hL3
      have A := rngE pre.length c'
      have B := rngC (pre.length + (lvE c').length) i
      have a1 := A.fl
      have a2 := A.ll
      have b1 := B.fl
      have b2 := B.ll
      walk_at "go"
      refine ⟨n + 5, Nat.le_refl _, subr i (htodo i (.head _)) D all (pre ++ lvE c') (todo.flatMap lvC ++ post) ps1 h tl pbs' cs' _ hall1 hal hs1 (by dsimp only; (first | exact om169 hsz htl hlen1 | omega)) hhs hL3 fun ps2 pbs2 cs2 hs2 hmem2 hlen2 hL4 => ?_⟩
      rw [← hnx] at hL4
      replace hlen2 : ps2.length ≤ ps1.length + 16 * (tkC D.la D.lb i).length := hlen2
      rw [List.length_append] at hmem2 ⊢
      dsimp only at hmem2 ⊢
      have idx : ∀ (X : Part) (σ : AS) (Q : AV → AS → Prop) (value slice : Expr), PlainIdx slice → Q (.bool X.h) σ → Op2 c (subscriptTail value slice) X.av (.int 0) σ Q := fun X σ Q v s hp q => op_item_tup (by decide) rfl q (by show 3 ≤ _; (first | exact om170 hsl | omega)) hp
      have idx1 : ∀ (X : Part) (σ : AS) (Q : AV → AS → Prop) (value slice : Expr), PlainIdx slice → Q (nats X.f) σ → Op2 c (subscriptTail value slice) X.av (.int 1) σ Q := fun X σ Q v s hp q => op_item_tup (by decide) rfl q (by show 3 ≤ _; (first | exact om170 hsl | omega)) hp
      have idx2 : ∀ (X : Part) (σ : AS) (Q : AV → AS → Prop) (value slice : Expr), PlainIdx slice → Q (nats X.l) σ → Op2 c (subscriptTail value slice) X.av (.int 2) σ Q := fun X σ Q v s hp q => op_item_tup (by decide) rfl q (by show 3 ≤ _; (first | exact om170 hsl | omega)) hp
      generalize hA : gE pre.length c' = PA at *
      generalize hB : gC (pre.length + (lvE c').length) i = PB at *
      refine ⟨_, by walk_at "put", ?_⟩
      walk_at "go"
      refine T_Subscript ?_
      walk_at "go"
      refine idx _ _ _ _ _ (fun _ _ => rfl) ?_
      refine tru_bool ?_
      refine ⟨rfl, ?_⟩
      refine ite_monoO (Q' := fun a σ' => a = .bool (PA.h || PB.h) ∧ σ' = ⟨[.ref D.L.lx, .ref D.ra, .ref D.ma, .ref D.pa, PA.av, PB.av], D.mem ps2 (pre ++ lvE c' ++ lvC i) pbs2 cs2⟩) ?_ ?_
      · cases hh : PA.h with
        | false =>
          refine ite_f (by decide) ?_
          walk_at "go"
          refine T_Subscript ?_
          walk_at "go"
          refine idx _ _ _ _ _ (fun _ _ => rfl) ?_
          exact ⟨by rw [Bool.false_or], rfl⟩
        | true =>
          refine ite_t rfl ?_
          exact ⟨rfl, rfl⟩
      rintro a σ' ⟨rfl, rfl⟩
      walk_at "go"
      refine T_Subscript ?_
      walk_at "go"
      refine idx1 _ _ _ _ _ (fun _ _ => rfl) ?_
      refine T_Subscript ?_
      walk_at "go"
      refine idx1 _ _ _ _ _ (fun _ _ => rfl) ?_
      refine op_add_list .frozen .frozen (by rw [List.length_map, List.length_map]; (first | exact om171 hsl hal1 a1 b1 | omega)) ?_
      walk_at "go"
      refine T_Subscript ?_
      walk_at "go"
      refine idx2 _ _ _ _ _ (fun _ _ => rfl) ?_
      refine T_Subscript ?_
      walk_at "go"
      refine idx2 _ _ _ _ _ (fun _ _ => rfl) ?_
      refine op_add_list .frozen .frozen (by rw [List.length_map, List.length_map]; (first | exact om171 hsl hal1 a2 b2 | omega)) ?_
      walk_at "go"
      refine ⟨by show 3 ≤ _; (first | exact om170 hsl | omega), ?_⟩
      walk_at "go"
      refine ⟨todo.length, Nat.lt_succ_self _, todo, .more c' i, ps2, pbs2, cs2, PB.av, rfl, hc', fun j hj => htodo j (.tail _ hj), hs2, fun z => ?_, by (first | exact om172 htl hlen1 hlen2 | omega), hL4, ?_⟩
      · rw [hmem2, hmem1, lkE]
        constructor
        · rintro ((h | ⟨x, hx, e⟩) | ⟨x, hx, e⟩)
          · exact .inl h
          · exact .inr ⟨x, List.mem_append_left _ hx, e⟩
          · exact .inr ⟨x, List.mem_append_right _ hx, e⟩
        · rintro (h | ⟨x, hx, e⟩)
          · exact .inl (.inl h)
          · rcases List.mem_append.mp hx with hx | hx
            · exact .inl (.inr ⟨x, hx, e⟩)
            · exact .inr ⟨x, hx, e⟩
      · rw [gE, hA, hB, lvE, List.append_assoc, ← List.map_append, ← List.map_append]; rfl
/-- all of them, by how deep the brackets lie -/
theorem reads_all {w : World} : ∀ d n : Nat, (∀ i, dpI i ≤ d → ReadsI (w := w) (n + 3 * d + 6) i) ∧ (∀ c, dpC c ≤ d → ReadsC (w := w) (n + 3 * d + 7) c) ∧ ∀ e, dpE e ≤ d → ReadsE (w := w) (n + 3 * d + 8) e := by
  have step : ∀ d n : Nat, (∀ i, dpI i ≤ d → ReadsI (w := w) (n + 3 * d + 6) i) → (∀ c, dpC c ≤ d → ReadsC (w := w) (n + 3 * d + 7) c) ∧ ∀ e, dpE e ≤ d → ReadsE (w := w) (n + 3 * d + 8) e := fun d n hI => by
    have hC : ∀ c, dpC c ≤ d → ReadsC (w := w) (n + 3 * d + 7) c := fun c hc => chain_spec (n := n + 3 * d + 6) (by (first | exact om173 hc | omega)) fun i r e => by
      rw [e, dpC_app, dpC] at hc
      exact ⟨hI i hc.1, fun j hj => hI j (hc.2 j hj)⟩
    refine ⟨hC, fun e he => either_spec (n := n + 3 * d + 7) (by (first | exact om174 he | omega)) fun i r e' => ?_⟩
    rw [e', dpE_app, dpE] at he
    exact ⟨hC i he.1, fun j hj => hC j (he.2 j hj)⟩
  intro d
  induction d with
  | zero =>
    intro n
    have hI : ∀ i, dpI i ≤ 0 → ReadsI (w := w) (n + 3 * 0 + 6) i := fun i hi => starred_spec (n := n + 5) (by (first | exact om175 | omega)) fun e ⟨k, hk⟩ => by
      rw [hk, dpI_stars, dpI] at hi; (first | exact om176 hi | omega)
    exact ⟨hI, step 0 n hI⟩
  | succ d ih =>
    intro n
    have hI : ∀ i, dpI i ≤ d + 1 → ReadsI (w := w) (n + 3 * (d + 1) + 6) i := fun i hi => starred_spec (n := n + 3 * d + 8) (by (first | exact om177 hi | omega)) fun e ⟨k, hk⟩ => by
      rw [hk, dpI_stars, dpI] at hi
      exact (ih n).2.2 e (by (first | exact om178 hi | omega))
    exact ⟨hI, step (d + 1) n hI⟩
end
section
theorem nodup_le : ∀ (n : Nat) {l : List Nat}, l.Nodup → (∀ x ∈ l, 1 ≤ x ∧ x ≤ n) → l.length ≤ n
  | 0, l, _, h => by
    cases l with
    | nil => exact Nat.le_refl _
    | cons a l => have := h a (.head _); (first | exact om79 this | omega)
  | n + 1, l, nd, h => by
    by_cases hm : (n + 1) ∈ l
    · have nd' := nd.erase (n + 1)
      have := nodup_le n nd' fun x hx => by
        have ⟨h1, h2⟩ := (nd.mem_erase_iff).mp hx
        have := h x h2; (first | exact om80 h1 this | omega)
      rw [List.length_erase_of_mem hm] at this; (first | exact om81 this | omega)
    · have := nodup_le n nd fun x hx => by
        have := h x hx
        have : x ≠ n + 1 := fun e => hm (e ▸ hx)
        (first | exact om82 ‹_› this | omega)
      (first | exact om83 this | omega)
/-- the row of steps from p by number m -/
noncomputable def sliceOf (ps : List T3) (p m : Int) : List T3 := (ps.take (cutAt (fun e => !lt3 (p, m, 4) e) ps)).drop (cutAt (lt3 · (p, m, 1)) ps)
theorem mem_slice {ps : List T3} (s : Srt ps) (hq : ∀ z ∈ ps, 1 ≤ z.2.2 ∧ z.2.2 ≤ 4) {p m : Int} {z : T3} : z ∈ sliceOf ps p m ↔ z ∈ ps ∧ z.1 = p ∧ z.2.1 = m := by
  have k1 := cutAt_at (cut_mono (p, m, 1)) s
  have k2 := cutAt_at (f := fun e => !lt3 (p, m, 4) e) (cut_mono_r (p, m, 4)) s
  unfold sliceOf
  generalize cutAt (lt3 · (p, m, 1)) ps = lo at *
  generalize cutAt (fun e => !lt3 (p, m, 4) e) ps = hi at *
  constructor
  · intro h
    obtain ⟨i, hi'⟩ := List.getElem?_of_mem h
    rw [List.getElem?_drop, List.getElem?_take] at hi'
    split at hi'
    · rename_i hlt
      have hz : z ∈ ps := List.mem_of_getElem? hi'
      have h1 := k1 _ z hi'
      have h2 := k2 _ z hi'
      rw [decide_eq_false (by (first | exact om84 | omega))] at h1
      rw [decide_eq_true hlt] at h2
      have hq' := hq z hz
      have n1 : ¬ lt3 z (p, m, 1) = true := by rw [h1]; decide
      have n2 : ¬ lt3 (p, m, 4) z = true := by
        intro e; rw [e] at h2; cases h2
      rw [lt3_iff] at n1 n2
      dsimp only at n1 n2
      exact ⟨hz, by (first | exact om85 n1 n2 | omega), by (first | exact om86 n1 n2 | omega)⟩
    · cases hi'
  · rintro ⟨hz, e1, e2⟩
    obtain ⟨i, hi'⟩ := List.getElem?_of_mem hz
    have hq' := hq z hz
    have h1 := k1 _ z hi'
    have h2 := k2 _ z hi'
    have n1 : lt3 z (p, m, 1) = false := by
      cases hh : lt3 z (p, m, 1) with
      | false => rfl
      | true => rw [lt3_iff] at hh; dsimp only at hh; (first | exact om87 e1 e2 hq' hh | omega)
    have n2 : lt3 (p, m, 4) z = false := by
      cases hh : lt3 (p, m, 4) z with
      | false => rfl
      | true => rw [lt3_iff] at hh; dsimp only at hh; (first | exact om88 e1 e2 hq' hh | omega)
    rw [n1] at h1
    rw [n2] at h2
    have g1 : ¬ i < lo := by simpa using h1
    have g2 : i < hi := by simpa using h2
    refine List.mem_of_getElem? (i := i - lo) ?_
    rw [List.getElem?_drop, show lo + (i - lo) = i from by (first | exact om89 g1 | omega), List.getElem?_take, if_pos g2]
    exact hi'
theorem slice_srt {ps : List T3} (s : Srt ps) (p m : Int) : Srt (sliceOf ps p m) :=
  List.Pairwise.sublist ((List.drop_sublist _ _).trans (List.take_sublist _ _)) s
noncomputable def ledStep (ps : List T3) (m : Int) (reached : List Nat) (p : Nat) : List Nat := reached ++ ((sliceOf ps p m).filter fun z => !decide (z.2.2 ∈ reached.map Int.ofNat)).map fun z => z.2.2.toNat
theorem ledStep_ok {ps : List T3} (s : Srt ps) (hq : ∀ z ∈ ps, 1 ≤ z.2.2 ∧ z.2.2 ≤ 4) {m : Int} {reached : List Nat} {p : Nat} (nd : reached.Nodup) (hr : ∀ x ∈ reached, 1 ≤ x ∧ x ≤ 4) :
    (ledStep ps m reached p).Nodup ∧ (∀ x ∈ ledStep ps m reached p, 1 ≤ x ∧ x ≤ 4) ∧ ∀ x, x ∈ ledStep ps m reached p ↔ x ∈ reached ∨ ((p : Int), m, (x : Int)) ∈ ps := by
  have hmem : ∀ x : Nat, x ∈ ((sliceOf ps p m).filter fun z => !decide (z.2.2 ∈ reached.map Int.ofNat)).map (fun z => z.2.2.toNat) ↔ ((p : Int), m, (x : Int)) ∈ ps ∧ x ∉ reached := by
    intro x
    rw [List.mem_map]
    constructor
    · rintro ⟨z, hz, rfl⟩
      rw [List.mem_filter, mem_slice s hq] at hz
      obtain ⟨⟨h1, h2, h3⟩, h4⟩ := hz
      have := hq z h1
      have e : ((z.2.2.toNat : Nat) : Int) = z.2.2 := by (first | exact om90 this | omega)
      refine ⟨by rw [e, ← h2, ← h3]; exact h1, fun hx => ?_⟩
      have : z.2.2 ∈ reached.map Int.ofNat := List.mem_map.mpr ⟨_, hx, e⟩
      rw [decide_eq_true this] at h4
      cases h4
    · rintro ⟨h1, h2⟩
      refine ⟨(p, m, x), ?_, by simp⟩
      rw [List.mem_filter, mem_slice s hq]
      refine ⟨⟨h1, rfl, rfl⟩, ?_⟩
      have : ¬ (x : Int) ∈ reached.map Int.ofNat := fun h => by
        obtain ⟨y, hy, e⟩ := List.mem_map.mp h
        have : y = x := Int.ofNat.inj e
        exact h2 (this ▸ hy)
      rw [show ((p : Int), m, (x : Int)).2.2 = (x : Int) from rfl, decide_eq_false this]; rfl
  refine ⟨?_, ?_, ?_⟩
  · unfold ledStep
    refine List.nodup_append.mpr ⟨nd, ?_, fun a ha b hb e => ?_⟩
    · have s1 : Srt ((sliceOf ps p m).filter fun z => !decide (z.2.2 ∈ reached.map Int.ofNat)) := List.Pairwise.filter _ (slice_srt s p m)
      refine List.pairwise_map.mpr (List.Pairwise.imp_of_mem ?_ s1)
      intro a b ha hb hab e
      have ha' := (mem_slice s hq).mp (List.mem_filter.mp ha).1
      have hb' := (mem_slice s hq).mp (List.mem_filter.mp hb).1
      have q1 := hq a ha'.1
      have q2 := hq b hb'.1
      rw [lt3_iff] at hab
      (first | exact om91 hab e ha' hb' q1 q2 | omega)
    · subst e; exact ((hmem a).mp hb).2 ha
  · intro x hx
    rcases List.mem_append.mp hx with h | h
    · exact hr x h
    · have := hq _ ((hmem x).mp h).1
      dsimp only at this; (first | exact om92 this | omega)
  · intro x
    unfold ledStep
    rw [List.mem_append, hmem]
    constructor
    · rintro (h | ⟨h, _⟩)
      · exact .inl h
      · exact .inr h
    · rintro (h | h)
      · exact .inl h
      · by_cases hx : x ∈ reached
        · exact .inl hx
        · exact .inr ⟨h, hx⟩
noncomputable def ledF (ps : List T3) (m : Int) (pl : List Nat) : List Nat := pl.foldl (ledStep ps m) []
theorem ledF_ok {ps : List T3} (s : Srt ps) (hq : ∀ z ∈ ps, 1 ≤ z.2.2 ∧ z.2.2 ≤ 4) {m : Int} (pl : List Nat) :
    (ledF ps m pl).Nodup ∧ (∀ x ∈ ledF ps m pl, 1 ≤ x ∧ x ≤ 4) ∧ ∀ x : Nat, x ∈ ledF ps m pl ↔ ∃ p ∈ pl, ((p : Int), m, (x : Int)) ∈ ps := by
  have key : ∀ (pl r : List Nat), r.Nodup → (∀ x ∈ r, 1 ≤ x ∧ x ≤ 4) → (pl.foldl (ledStep ps m) r).Nodup ∧ (∀ x ∈ pl.foldl (ledStep ps m) r, 1 ≤ x ∧ x ≤ 4) ∧ ∀ x : Nat, x ∈ pl.foldl (ledStep ps m) r ↔ x ∈ r ∨ ∃ p ∈ pl, ((p : Int), m, (x : Int)) ∈ ps := by
    intro pl
    induction pl with
    | nil => intro r nd hr; exact ⟨nd, hr, fun x => by simp⟩
    | cons p pl ih =>
      intro r nd hr
      obtain ⟨nd2, hr2, hm2⟩ := ledStep_ok s hq (m := m) (p := p) nd hr
      obtain ⟨a, b, c⟩ := ih _ nd2 hr2
      refine ⟨a, b, fun x => ?_⟩
      rw [List.foldl_cons, c, hm2]
      simp [or_assoc]
  obtain ⟨a, b, c⟩ := key pl [] List.nodup_nil (fun x hx => nomatch hx)
  exact ⟨a, b, fun x => by rw [ledF, c]; simp⟩
/-- the levels of the machine's words -/
noncomputable def lev (ps : List T3) : Nat → List (Str × List Nat)
  | 0 => [(Str.empty, [0])]
  | k + 1 => ((lev ps k).flatMap fun x => [(x.1 ++ Str.ofString "a", ledF ps 256 x.2), (x.1 ++ Str.ofString "b", ledF ps 257 x.2)]).filter fun y => decide (y.2 ≠ [])
noncomputable def accOf (ps : List T3) (lasts : List Nat) (k : Nat) : List Str := ((lev ps k).filter fun y => decide (y.2.filter (fun p => decide (p ∈ lasts)) ≠ [])).map (·.1)
noncomputable def takenOf (ps : List T3) (h : Bool) (lasts : List Nat) : List Str := (if h then [Str.empty] else []) ++ accOf ps lasts 1 ++ accOf ps lasts 2 ++ accOf ps lasts 3
theorem lev_len (ps : List T3) : ∀ k, (lev ps k).length ≤ 2 ^ k
  | 0 => by show 1 ≤ 2 ^ 0; decide
  | k + 1 => by
    rw [lev]
    refine Nat.le_trans (List.length_filter_le _ _) ?_
    have := lev_len ps k
    rw [List.length_flatMap]
    have h : ∀ l : List (Str × List Nat), (l.map fun x => [(x.1 ++ Str.ofString "a", ledF ps 256 x.2), (x.1 ++ Str.ofString "b", ledF ps 257 x.2)].length).sum = l.length * 2 := by
      intro l
      induction l with
      | nil => rfl
      | cons a l ih => rw [List.map_cons, List.sum_cons, ih, List.length_cons, List.length_cons, List.length_cons, List.length_nil]; (first | exact om93 | omega)
    rw [h, Nat.pow_succ]; (first | exact om94 this | omega)
theorem lev_ok {ps : List T3} (s : Srt ps) (hq : ∀ z ∈ ps, 1 ≤ z.2.2 ∧ z.2.2 ≤ 4) : ∀ k, ∀ x ∈ lev ps k, x.1.length = k ∧ x.2.length ≤ 4
  | 0, x, h => by
    rw [List.mem_singleton.mp h]; exact ⟨rfl, by decide⟩
  | k + 1, x, h => by
    rw [lev, List.mem_filter, List.mem_flatMap] at h
    obtain ⟨⟨y, hy, hx⟩, _⟩ := h
    have ih := lev_ok s hq k y hy
    have ea : (Str.ofString "a").length = 1 := by decide +kernel
    have eb : (Str.ofString "b").length = 1 := by decide +kernel
    rcases List.mem_cons.mp hx with rfl | hx
    · have L := ledF_ok s hq (m := 256) y.2
      exact ⟨by rw [Str.length_append, ih.1, ea], nodup_le 4 L.1 L.2.1⟩
    · rw [List.mem_singleton] at hx; subst hx
      have L := ledF_ok s hq (m := 257) y.2
      exact ⟨by rw [Str.length_append, ih.1, eb], nodup_le 4 L.1 L.2.1⟩
theorem prod_rng {ls fs : List Nat} {a b : Nat} (hl : ∀ x ∈ ls, a < x ∧ x ≤ b) (hf : ∀ x ∈ fs, a < x ∧ x ≤ b) : ∀ x ∈ prodL ls fs, (a < x.1 ∧ x.1 ≤ b) ∧ a < x.2 ∧ x.2 ≤ b := fun x hx =>
  ⟨hl _ (mem_prodL.mp hx).1, hf _ (mem_prodL.mp hx).2⟩
mutual
theorem lk_rngI (k : Nat) : ∀ (i : It), ∀ x ∈ lkI k i, (k < x.1 ∧ x.1 ≤ k + (lvI i).length) ∧ k < x.2 ∧ x.2 ≤ k + (lvI i).length
  | .lit d => fun x hx => by rw [lkI] at hx; cases hx
  | .grp e => fun x hx => by rw [lkI] at hx; rw [lvI]; exact lk_rngE k e x hx
  | .star i => fun x hx => by
    rw [lkI] at hx; rw [lvI]
    rcases List.mem_append.mp hx with h | h
    · exact lk_rngI k i x h
    · exact prod_rng (rngI k i).l (rngI k i).f x h
theorem lk_rngC (k : Nat) : ∀ (c : Ch), ∀ x ∈ lkC k c, (k < x.1 ∧ x.1 ≤ k + (lvC c).length) ∧ k < x.2 ∧ x.2 ≤ k + (lvC c).length
  | .one i => fun x hx => by rw [lkC] at hx; rw [lvC]; exact lk_rngI k i x hx
  | .more c i => fun x hx => by
    rw [lkC] at hx; rw [lvC, List.length_append]
    rcases List.mem_append.mp hx with h | h
    · rcases List.mem_append.mp h with h | h
      · have := lk_rngC k c x h; (first | exact om95 this | omega)
      · have := lk_rngI _ i x h; (first | exact om96 this | omega)
    · have h' := mem_prodL.mp h
      have h1 := (rngC k c).l _ h'.1
      have h2 := (rngI (k + (lvC c).length) i).f _ h'.2
      (first | exact om97 h1 h2 | omega)
theorem lk_rngE (k : Nat) : ∀ (e : El), ∀ x ∈ lkE k e, (k < x.1 ∧ x.1 ≤ k + (lvE e).length) ∧ k < x.2 ∧ x.2 ≤ k + (lvE e).length
  | .one c => fun x hx => by rw [lkE] at hx; rw [lvE]; exact lk_rngC k c x hx
  | .more e c => fun x hx => by
    rw [lkE] at hx; rw [lvE, List.length_append]
    rcases List.mem_append.mp hx with h | h
    · have := lk_rngE k e x h; (first | exact om95 this | omega)
    · have := lk_rngC _ c x h; (first | exact om96 this | omega)
end
end
section
set_option linter.unusedSimpArgs false
noncomputable def ltR (x : T3) : AV → Bool
  | .tup [.int a, .int b, .int c] => !lt3 x (a, b, c)
  | _ => false
theorem partsR {x : T3} {ps : List T3} (s : Srt ps) : Parts (ltR x) (ps.map tr3) (cutAt (fun e => !lt3 x e) ps) := by
  refine ⟨by rw [List.length_map]; exact cutAt_le, fun i e h => ?_⟩
  rw [List.getElem?_map] at h
  cases hz : ps[i]? with
  | none => rw [hz] at h; cases h
  | some z => rw [hz] at h; cases h; exact cutAt_at (f := fun e => !lt3 x e) (cut_mono_r x) s i z hz
inductive LedInv (pa ra : Addr) (pl : List Nat) (m : Int) (ps : List T3) (mem : Mem) (rest : List AV) (σ : AS) : Prop
  | mk (done todo out : List Nat) (u1 u2 u3 : AV) (h0 : pl = done ++ todo) (h1 : rest = todo.map (fun k => .int (k : Nat))) (h2 : out.Nodup) (h3 : (∀ x ∈ out, 1 ≤ x ∧ x ≤ 4)) (h4 : out = done.foldl (ledStep ps m) []) (h5 : σ = ⟨[.ref pa, nats pl, .int m, u1, u2, u3, .ref ra], (ra, .list (out.map fun k => .int (k : Nat))) :: mem⟩) : LedInv pa ra pl m ps mem rest σ
theorem led_spec {w : World} {n : Nat} {pa : Addr} {ps : List T3} {pl : List Nat} {m : Int} {mem : Mem} {Q : AV → Mem → Prop} (hpa : (pa, AO.list (ps.map tr3)) ∈ mem) (hs : Srt ps) (hq : ∀ z ∈ ps, 1 ≤ z.2.2 ∧ z.2.2 ≤ 4) (hsz : ps.length ≤ 1000000)
    (q : Q (nats (ledF ps m pl)) mem) : FS w (n + 2) (.ref 173) [.ref pa, nats pl, .int m] mem Q := by
  have hsl : sizeLine = 16777216 := rfl
  refine FS_in [Str.ofString "pairs", Str.ofString "places", Str.ofString "number"] [Str.ofString "pairs", Str.ofString "places", Str.ofString "number", Str.ofString "p", Str.ofString "low", Str.ofString "high", Str.ofString "reached"]
    [Str.ofString "bisect_left", Str.ofString "bisect_right"] [Str.ofString "reached"]
    [.ref pa, nats pl, .int m, .unb, .unb, .unb, .unb] rfl rfl (by kernel_rfl) (by kernel_rfl) rfl (dav := []) rfl (dv := []) (fun _ _ => rfl) rfl (fun vals h => ?_) (fun c hw O => ?_)
  · obtain ⟨a0, a1, a2, rfl⟩ := len3 h
    exact fun S => by kernel_rfl
  · subst hw
    walk_at "go"
    refine T_ListO ?_
    walk_at "go"
    refine ⟨by decide, fun ra hra => ?_⟩
    walk_at "go"
    refine T_For O (LedInv pa ra pl m ps mem) ?_ ?_ ?_ (fun _ => rfl) (fun _ _ => rfl)
    · walk_at "go"
      refine ⟨_, .lst, [], pl, [], _, _, _, rfl, rfl, List.nodup_nil, fun x hx => (nomatch hx), rfl, rfl⟩
    · rintro a rest σ' ⟨done, todo, out, u1, u2, u3, e1, e2, nd, hr, hmem, e3⟩
      subst e3
      cases todo with
      | nil => cases e2
      | cons p todo =>
      rw [List.map_cons, List.cons.injEq] at e2
      obtain ⟨rfl, rfl⟩ := e2
      obtain ⟨nd2, hr2, hmem2⟩ := ledStep_ok hs hq (m := m) (p := p) nd hr
      have hol := nodup_le 4 nd hr
      refine ta_name O (by walk_at "put") (by walk_at "mem") ?_
      walk_at "go"
      refine ⟨by show 3 ≤ _; (first | exact om170 hsl | omega), ?_⟩
      walk_at "go"
      generalize hlo : cutAt (lt3 · ((p : Int), m, (1 : Int))) ps = lo
      generalize hhi : cutAt (fun e => !lt3 ((p : Int), m, (4 : Int)) e) ps = hi
      have hlol : lo ≤ ps.length := by rw [← hlo]; exact cutAt_le
      have hhil : hi ≤ ps.length := by rw [← hhi]; exact cutAt_le
      refine ⟨n + 1, Nat.le_refl _, bisect_left_spec (x := tr3 ((p : Int), m, (1 : Int))) nofun nofun (.owned (.tail _ hpa)) (by rw [List.length_map]; omega) (parts3 (x := ((p : Int), m, (1 : Int))) hs) (fun c ks sk gl cs k σ Q e O he q => ?_) ?_⟩
      · obtain ⟨y, _, rfl⟩ := List.mem_map.mp he
        exact op_lt_tr3 O q
      rw [hlo]
      walk_at "go"
      refine ⟨by show 3 ≤ _; (first | exact om170 hsl | omega), ?_⟩
      walk_at "go"
      refine ⟨n + 1, Nat.le_refl _, bisect_right_spec (x := tr3 ((p : Int), m, (4 : Int))) nofun nofun (.owned (.tail _ hpa)) (by rw [List.length_map]; omega) (partsR (x := ((p : Int), m, (4 : Int))) hs) (fun c ks sk gl cs k σ Q e O he q => ?_) ?_⟩
      · obtain ⟨y, _, rfl⟩ := List.mem_map.mp he
        refine op_lt_tr3 O ?_
        have : (!ltR ((p : Int), m, (4 : Int)) (tr3 y)) = lt3 ((p : Int), m, (4 : Int)) y := by
          show (!!lt3 _ _) = _; rw [Bool.not_not]
        rw [this] at q
        exact q
      rw [hhi]
      walk_at "go"
      refine T_methL PySem.F.slot_list_extend rfl ?_
      walk_at "go"
      refine ⟨_, _, rfl, .head _, ?_⟩
      walk_at "go"
      refine T_compEP O [Str.ofString "reached"] [Str.ofString "one", Str.ofString "mark", Str.ofString "q"] [] [Str.ofString "reached"] (fun a => match a with | .tup [_, _, .int q] => !decide (q ∈ out.map Int.ofNat) | _ => false) (fun a => match a with | .tup [_, _, q] => q | _ => .none) (by kernel_rfl) (by decide) ?_ (fun _ => rfl)
      refine T_SliceL ?_
      walk_at "go"
      refine ⟨_, .owned (.tail _ hpa), by rw [List.length_map]; omega, nn_some (by (first | exact om180 hlo | omega)), nn_some (by (first | exact om180 hhi | omega)), ?_⟩
      have hsl2 : lslice (ps.map tr3) (some (lo : Int)) (some (hi : Int)) = (sliceOf ps p m).map tr3 := by
        show ((ps.map tr3).take (hi : Int).toNat).drop (lo : Int).toNat = _
        rw [Int.toNat_natCast, Int.toNat_natCast]
        unfold sliceOf
        rw [hlo, hhi, List.map_drop, List.map_take]
      rw [hsl2]
      have hsll : (sliceOf ps p m).length ≤ ps.length := by unfold sliceOf; rw [List.length_drop, List.length_take]; (first | exact om181 hlo hhi hhil | omega)
      have hints : (out.map fun k => AV.int (k : Nat)) = (out.map Int.ofNat).map AV.int := by rw [List.map_map]; rfl
      refine ⟨_, [.ref ra], .lst, by walk_at "cap", by rw [List.length_map]; omega, fun ic acc hwi Oi a ha => ?_, ?_⟩
      · obtain ⟨z, hz, rfl⟩ := List.mem_map.mp ha
        intro out2 tv htv
        match tv, htv with
        | [t1, t2, t3], _ =>
        refine ta_tup3 Oi (ta_name Oi (by walk_at "put") (by walk_at "mem") (ta_name Oi (by walk_at "put") (by walk_at "mem") (ta_name Oi (by walk_at "put") (by walk_at "mem") ?_))) rfl
        refine tests1 ?_
        refine T_isTrue_Compare ?_
        walk_at "go"
        rw [hints]
        refine op_notin_ints (.owned (.tail _ (.head _))) ?_
        walk_at "go"
        refine pcase (fun hh => ?_) fun hh => ?_
        · walk_at "go"
          exact ⟨rfl, [_, _, _], rfl, rfl⟩
        · exact ⟨[_, _, _], rfl, rfl⟩
      · walk_at "go"
        have hnew : (out.map fun k => AV.int (k : Nat)) ++ ((((sliceOf ps p m).map tr3).filter fun a => match a with | .tup [_, _, .int q] => !decide (q ∈ out.map Int.ofNat) | _ => false).map fun a => match a with | .tup [_, _, q] => q | _ => .none) = (ledStep ps m out p).map fun k => AV.int (k : Nat) := by
          unfold ledStep
          rw [List.map_append, List.filter_map, List.map_map, List.map_map]
          congr 1
          refine List.map_congr_left fun z hz => ?_
          have hz' := (mem_slice hs hq).mp (List.mem_filter.mp hz).1
          have := hq z hz'.1
          show AV.int z.2.2 = AV.int ((z.2.2.toNat : Nat) : Int)
          rw [Int.toNat_of_nonneg (by (first | exact om183 this | omega))]
        refine bs_extend (mem' := (ra, .list ((ledStep ps m out p).map fun k => AV.int (k : Nat))) :: mem) (by rw [hnew]; exact .head) .frozen ?_ ?_
        · have h1 := List.length_filter_le (fun a : AV => match a with | .tup [_, _, .int q] => !decide (q ∈ out.map Int.ofNat) | _ => false) ((sliceOf ps p m).map tr3)
          rw [List.length_map] at h1
          rw [List.length_map, List.length_map]
          omega
        refine ⟨rfl, ?_⟩
        walk_at "go"
        refine ⟨done ++ [p], todo, ledStep ps m out p, _, _, _, by rw [e1]; simp, rfl, nd2, hr2, by rw [hmem, List.foldl_append]; rfl, rfl⟩
    · rintro σ' ⟨done, todo, out, u1, u2, u3, e1, e2, nd, hr, hmem, e3⟩
      subst e3
      cases todo with
      | cons => cases e2
      | nil =>
      rw [List.append_nil] at e1
      subst e1
      refine T_nil ?_
      refine land (by assumption) ?_
      try dsimp only
      refine TT.freeze (a := ra) (by walk_at "mdel") (by walk_at "frz") ?_
      walk_at "go"
      rw [hmem]; exact q
end
section
set_option linter.unusedSimpArgs false
/-- entering a def; part of what is owned given up at the end; the kinds of some names -/
theorem FS_inDk {w : World} {n : Nat} {fa : Addr} {args : List AV} {mem : Mem} {Q : AV → Mem → Prop} {oc : Value} {od : Option Addr} {osl : Array (Option Value)} {fd : FuncData} {body : List Stmt} (pn ks gl cs lk : List Str) (vals0 : List AV) {rest : List Str} {dav : List AV} {dv : List Value}
    (ho : (KF w).lookup fa = some ⟨oc, od, .func fd, osl⟩) (hb : fd.body = .stmts body) (hst : fnSt fd ks gl cs = true) (hcd : codeIn (KF w) fd.code fd.qualname = true) (hks : ks = pn ++ rest)
    (hl : args.length + dav.length = pn.length) (hdv : ∀ P h, RelL P h dav dv) (hv : (args ++ dav) ++ rest.map (fun _ => .unb) = vals0) (hbind : ∀ vals : List Value, vals.length = args.length → ∀ S, peek (KF w) S (bindArgs fd ⟨vals, []⟩) = some (pn.zip (vals ++ dv)))
    (hlk : lk.all (fun x => fd.scope.names.lookup x == some .local) = true)
    (h : ∀ c : Cx, c.w = w → Ok c ks ks gl cs n → (∀ x ∈ lk, c.env.kindOf x = some .local) → TF c (execs body c.env) ⟨vals0, mem⟩ (fun f σ => ∃ mem', mem'.Sublist σ.mem ∧ match f with | .ret a => Q a mem' | _ => Q .none mem')) :
    FS w (n + 1) (.ref fa) args mem Q :=
  FS_enterX ho hb hst hcd hks hl hdv hbind fun c hw O ⟨Lo, hL⟩ => (hv ▸ h c hw O fun x hx => by rw [hL]; exact (show fd.scope.names.lookup x = some .local by simpa using List.all_eq_true.mp hlk x hx)).mono fun f σ ⟨mem', sub, q⟩ s' S' =>
    ⟨mem', fun b hb => .tail _ (List.mem_append_right _ ((sub.map _).subset hb)), hw ▸ (S'.drop sub).1.pre, by cases f <;> exact q⟩
noncomputable abbrev lvAV (x : Str × List Nat) : AV := .tup [.str x.1, nats x.2]
noncomputable def tkU (ps : List T3) (h : Bool) (lasts : List Nat) : Nat → List Str
  | 0 => if h then [Str.empty] else []
  | k + 1 => tkU ps h lasts k ++ accOf ps lasts (k + 1)
noncomputable def pNonE : AV → Bool
  | .tup [_, .lst l] => !l.isEmpty
  | _ => false
noncomputable def pHit (ls : List Int) : AV → Bool
  | .int i => decide (i ∈ ls)
  | _ => false
noncomputable def pHits (ls : List Int) : AV → Bool
  | .tup [_, .lst l] => !(l.filter (pHit ls)).isEmpty
  | _ => false
noncomputable def fstAV : AV → AV
  | .tup [w, _] => w
  | a => a
noncomputable def isZero : AV → AV
  | .int i => .bool (decide (i = 0))
  | a => a
theorem ne_isEmpty {α : Type} (l : List α) [inst : Decidable (l ≠ [])] : decide (l ≠ []) = !l.isEmpty := by
  cases l with
  | nil => simp
  | cons a l => simp
theorem nonE_lv (y : Str × List Nat) : pNonE (lvAV y) = !y.2.isEmpty := by
  show (!(y.2.map _).isEmpty) = _
  cases y.2 <;> rfl
theorem conv2 (l : List (Str × List Nat)) : (l.map lvAV).filter pNonE = (l.filter fun y => decide (y.2 ≠ [])).map lvAV := by
  rw [List.filter_map]
  congr 1
  refine List.filter_congr fun y _ => ?_
  show pNonE (lvAV y) = _
  rw [nonE_lv, ne_isEmpty]
theorem hits_lv (ls : List Nat) (y : Str × List Nat) : pHits (ls.map Int.ofNat) (lvAV y) = decide (y.2.filter (fun p => decide (p ∈ ls)) ≠ []) := by
  rw [ne_isEmpty]
  show (!((y.2.map fun k => AV.int (k : Nat)).filter (pHit (ls.map Int.ofNat))).isEmpty) = _
  rw [List.filter_map]
  have e : (pHit (ls.map Int.ofNat) ∘ fun k : Nat => AV.int (k : Nat)) = fun p => decide (p ∈ ls) := by
    funext k
    show decide ((k : Int) ∈ ls.map Int.ofNat) = decide (k ∈ ls)
    by_cases h : k ∈ ls
    · rw [decide_eq_true h, decide_eq_true]; exact List.mem_map.mpr ⟨k, h, rfl⟩
    · rw [decide_eq_false h, decide_eq_false]
      intro q
      obtain ⟨y, hy, e⟩ := List.mem_map.mp q
      exact h ((Int.ofNat.inj e) ▸ hy)
  rw [e]
  cases y.2.filter (fun p => decide (p ∈ ls)) <;> rfl
theorem conv3 (ps : List T3) (ls : List Nat) (k : Nat) : (((lev ps k).map lvAV).filter (pHits (ls.map Int.ofNat))).map fstAV = (accOf ps ls k).map .str := by
  unfold accOf
  rw [List.filter_map, List.map_map, List.map_map]
  have e : (pHits (ls.map Int.ofNat) ∘ lvAV) = fun y => decide (y.2.filter (fun p => decide (p ∈ ls)) ≠ []) := funext fun y => hits_lv ls y
  rw [e]; rfl
theorem loopR_post {ic : Cx} {e : Expr} {d : Nat} {it acc : Addr} {σ : AS} {s : Shared} {P P' : AS → Prop} (h : LoopR ic e d it acc σ s P) (k : ∀ σ', P σ' → P' σ') : LoopR ic e d it acc σ s P' := by
  unfold LoopR at h ⊢
  exact codeAny_mono h fun r s' ⟨e, σ', S', m', p⟩ => ⟨e, σ', S', m', k σ' p⟩
theorem tkU_len (ps : List T3) (h : Bool) (ls : List Nat) : ∀ k, (tkU ps h ls k).length ≤ 2 ^ (k + 1)
  | 0 => by
    cases h
    · show 0 ≤ 2; (first | exact om185 | omega)
    · show 1 ≤ 2; (first | exact om186 | omega)
  | k + 1 => by
    rw [tkU, List.length_append]
    have h1 := tkU_len ps h ls k
    have h2 : (accOf ps ls (k + 1)).length ≤ 2 ^ (k + 1) := by unfold accOf; rw [List.length_map]; exact Nat.le_trans (List.length_filter_le _ _) (lev_len ps (k + 1))
    rw [Nat.pow_succ 2 (k + 1)]; (first | exact om187 h1 h2 | omega)
theorem tkU_taken (ps : List T3) (h : Bool) (ls : List Nat) : tkU ps h ls 3 = takenOf ps h ls := rfl
structure TwoWords (q1 q2 la lb : Str) : Prop where
  ord : (q1 = la ∧ q2 = lb) ∨ (q1 = lb ∧ q2 = la)
  na : la ≠ Str.empty
  nb : lb ≠ Str.empty
  ta : TokAt la none
  tb : TokAt lb none
  ab : la.cps.toList < lb.cps.toList
  ba : ¬ lb.cps.toList < la.cps.toList
  aa : ¬ la.cps.toList < la.cps.toList
  bb : ¬ lb.cps.toList < lb.cps.toList
theorem TwoWords.numa {q1 q2 la lb : Str} (T : TwoWords q1 q2 la lb) : NumOf [la, lb] la 256 := by
  have h : Parts (ltS la) ([la, lb].map .str) 0 := by
    refine ⟨Nat.zero_le _, fun i e h => ?_⟩
    match i, h with
    | 0, h => cases h; exact decide_eq_false T.aa
    | 1, h => cases h; exact decide_eq_false T.ba
  exact .row (k := 0) T.na T.ta h
theorem TwoWords.numb {q1 q2 la lb : Str} (T : TwoWords q1 q2 la lb) : NumOf [la, lb] lb 257 := by
  have h : Parts (ltS lb) ([la, lb].map .str) 1 := by
    refine ⟨by show 1 ≤ 2; (first | exact om186 | omega), fun i e h => ?_⟩
    match i, h with
    | 0, h => cases h; exact decide_eq_true T.ab
    | 1, h => cases h; exact decide_eq_false T.bb
  exact .row (k := 1) T.nb T.tb h
theorem TwoWords.part {q1 q2 la lb : Str} (T : TwoWords q1 q2 la lb) : ∃ k, Parts (ltS q2) ([q1].map .str) k ∧ ([q1].map AV.str).take k ++ .str q2 :: ([q1].map AV.str).drop k = [la, lb].map .str := by
  rcases T.ord with ⟨rfl, rfl⟩ | ⟨rfl, rfl⟩
  · refine ⟨1, ⟨by show 1 ≤ 1; (first | exact om188 | omega), fun i e h => ?_⟩, rfl⟩
    match i, h with
    | 0, h => cases h; exact decide_eq_true T.ab
  · refine ⟨0, ⟨by show 0 ≤ 1; (first | exact om189 | omega), fun i e h => ?_⟩, rfl⟩
    match i, h with
    | 0, h => cases h; exact decide_eq_false T.ba
theorem TwoWords.n1 {q1 q2 la lb : Str} (T : TwoWords q1 q2 la lb) : q1 ≠ Str.empty := by
  rcases T.ord with ⟨rfl, rfl⟩ | ⟨rfl, rfl⟩
  · exact T.na
  · exact T.nb
theorem TwoWords.n2 {q1 q2 la lb : Str} (T : TwoWords q1 q2 la lb) : q2 ≠ Str.empty := by
  rcases T.ord with ⟨rfl, rfl⟩ | ⟨rfl, rfl⟩
  · exact T.nb
  · exact T.na
noncomputable def rowAt (q1 la lb : Str) : Nat → List Str
  | 0 => [la, lb]
  | 1 => [q1]
  | _ => []
noncomputable def wordAt (q1 q2 : Str) : Nat → Str
  | 0 => Str.empty
  | 1 => q2
  | _ => q1
noncomputable def tksAt (q2 : Str) (R : List Str) : Nat → List Str
  | 0 => R
  | 1 => Str.empty :: R
  | _ => q2 :: Str.empty :: R
theorem TwoWords.next {q1 q2 la lb : Str} (T : TwoWords q1 q2 la lb) (R : List Str) {k : Nat} (hk : k + 1 ≤ 2) : wordAt q1 q2 (k + 1) ≠ Str.empty ∧ tksAt q2 R (k + 1) = wordAt q1 q2 k :: tksAt q2 R k ∧
    ∃ j, Parts (ltS (wordAt q1 q2 (k + 1))) ((rowAt q1 la lb (k + 1)).map .str) j ∧ ((rowAt q1 la lb (k + 1)).map AV.str).take j ++ .str (wordAt q1 q2 (k + 1)) :: ((rowAt q1 la lb (k + 1)).map AV.str).drop j = (rowAt q1 la lb k).map .str := by
  match k, hk with
  | 0, _ => exact ⟨T.n2, rfl, T.part⟩
  | 1, _ => exact ⟨T.n1, rfl, 0, ⟨Nat.zero_le _, fun i e h => by cases h⟩, rfl⟩
inductive LevInv {w : World} (L : Lx w) (ra ma ta pa : Addr) (G : Part) (ps : List T3) (la lb : Str) (e : El) (pbs1 : List Str) (cs2 : List Nat) (rest : List AV) (σ : AS) : Prop
  | mk (j m : Nat) (u : AV) (h0 : j + m = 3) (h1 : rest = (List.range' j m).map (fun i => AV.int (i : Nat))) (h2 : σ = ⟨[.ref L.lx, .ref ra, .str Str.empty, .ref ma, .bool G.h, nats G.f, .ref ta, .lst ((lev ps j).map lvAV), u, .ref pa, nats G.l], (ta, .list ((tkU ps G.h G.l j).map .str)) :: (pa, .list (ps.map tr3)) :: (ma, .list (((lvE e).map num).map .int)) :: (ra, .list ([la, lb].map .str)) :: L.mem pbs1 cs2⟩) : LevInv L ra ma ta pa G ps la lb e pbs1 cs2 rest σ
theorem taken_spec {w : World} (L : Lx w) {n d : Nat} {e : El} {q1 q2 la lb : Str} {cs : List Nat} {Q : AV → Mem → Prop} (T : TwoWords q1 q2 la lb) (hd : dpE e ≤ d) (h4 : (lvE e).length ≤ 4)
    (hcl : cs.length ≤ 30000) (htk : Toks cs (q1 :: q2 :: Str.empty :: (tkE la lb e ++ [Str.empty]))) (hsz : 16 * (tkE la lb e).length ≤ 900000)
    (q : ∀ ps : List T3, Srt ps → (∀ z, z ∈ ps ↔ (∃ x ∈ lkE 0 e, z = lnk (lvE e) x.1 x.2) ∨ ∃ y ∈ (gE 0 e).f, z = lnk (lvE e) 0 y) → (∀ z ∈ ps, 1 ≤ z.2.2 ∧ z.2.2 ≤ 4) → ps.length ≤ 1000000 →
      Q (.tup [.lst ((takenOf ps (gE 0 e).h (gE 0 e).l).map .str), .lst (ps.map tr3), .lst (((lvE e).map num ++ [0]).map fun i => .bool (decide (i = 0)))]) (L.mem [] [])) :
    FS w (n + 3 * d + 10) (.ref 178) [.ref L.lx] (L.mem [] cs) Q := by
  have hsl : sizeLine = 16777216 := rfl
  refine FS_inDk [Str.ofString "lexer"] [Str.ofString "lexer", Str.ofString "row", Str.ofString "word", Str.ofString "marks", Str.ofString "hollow", Str.ofString "firsts", Str.ofString "taken", Str.ofString "level", Str.ofString "size", Str.ofString "pairs", Str.ofString "lasts"]
    [Str.ofString "insort_left", Str.ofString "_law_either", Str.ofString "_law_linked", Str.ofString "range", Str.ofString "_law_number"] [Str.ofString "pairs", Str.ofString "lasts"] [Str.ofString "level"]
    [.ref L.lx, .unb, .unb, .unb, .unb, .unb, .unb, .unb, .unb, .unb, .unb] rfl rfl (by kernel_rfl) (by kernel_rfl) rfl (dav := []) rfl (dv := []) (fun _ _ => rfl) rfl (fun vals h => ?_) (by kernel_rfl) (fun c hw O hkind => ?_)
  · obtain ⟨a0, rfl⟩ := len1 h
    exact fun S => by kernel_rfl
  · subst hw
    obtain ⟨fo, fd, hfo, hfd⟩ := (fun w => ⟨_, _, rfl, rfl⟩ : IsFn 69) c.w
    have e0 : Str.ofString "" = Str.empty := by decide +kernel
    walk_at "go"
    refine T_ListO ?_
    walk_at "go"
    refine ⟨by decide, fun ra hra => ?_⟩
    walk_at "go"
    refine T_methI O ?_ (by rfl) rfl
    walk_at "go"
    refine getm_meth (L.inst [(ra, .list [])] _ _ _) mn_get_token rfl ?_
    refine ⟨fo, fd, hfd, ?_⟩
    walk_at "go"
    refine ⟨.k hfo, n + 4, by (first | exact om190 hd | omega), get_spec (pre := [(ra, .list [])]) L ⟨hcl, .inl ⟨rfl, htk⟩⟩ fun cs1 hL1 _ => ?_⟩
    walk_at "go"
    generalize hR : tkE la lb e ++ [Str.empty] = R at *
    refine T_While (fun k σ => ∃ cs1, k ≤ 2 ∧ LSt (tksAt q2 R k) [] cs1 ∧ σ = ⟨[.ref L.lx, .ref ra, .str (wordAt q1 q2 k), .unb, .unb, .unb, .unb, .unb, .unb, .unb, .unb], (ra, .list ((rowAt q1 la lb k).map .str)) :: L.mem [] cs1⟩) ?_ 2 ⟨cs1, Nat.le_refl _, hL1, rfl⟩
    rintro k σ ⟨cs1, hk, hL1, rfl⟩
    walk_at "go"
    refine op_ne_str ?_
    rw [e0]
    walk_at "go"
    cases k with
    | succ k =>
      obtain ⟨hne, htks, j, hp, hrow⟩ := T.next R hk
      refine ite_t (by rw [decide_eq_false hne]; rfl) ?_
      rw [htks] at hL1
      walk_at "go"
      refine ⟨n + 3 * d + 9, Nat.le_refl _, insort_left_spec (n := n + 3 * d + 7) (k := j) (mem' := (ra, .list ((rowAt q1 la lb k).map .str)) :: L.mem [] cs1) nofun (by rw [hrow]; exact .head) (by rw [List.length_map]; match k, hk with | 0, _ => (show 1 ≤ _; (first | exact om191 hsl | omega)) | 1, _ => (show 0 ≤ _; (first | exact om192 hsl | omega))) hp (fun c ks sk gl cs m σ Q e O he q => ?_) ?_⟩
      · obtain ⟨y, _, rfl⟩ := List.mem_map.mp he
        exact op_lt_str q
      refine ⟨rfl, ?_⟩
      walk_at "go"
      refine T_methI O ?_ (by rfl) rfl
      walk_at "go"
      refine getm_meth (L.inst [(ra, .list ((rowAt q1 la lb k).map .str))] _ _ _) mn_get_token rfl ?_
      refine ⟨fo, fd, hfd, ?_⟩
      walk_at "go"
      refine ⟨.k hfo, n + 4, by (first | exact om190 hd | omega), get_spec (pre := [(ra, .list ((rowAt q1 la lb k).map .str))]) L hL1 fun cs2 hL2 _ => ?_⟩
      walk_at "go"
      exact ⟨k, Nat.lt_succ_self _, cs2, by (first | exact om193 hk | omega), hL2, rfl⟩
    | zero =>
      refine ite_f (by rw [decide_eq_true (show wordAt q1 q2 0 = Str.empty from rfl)]; decide) ?_
      refine T_nil ?_
      refine land (by assumption) ?_
      try dsimp only
      replace hL1 : LSt R [] cs1 := hL1
      walk_at "go"
      refine T_ListO ?_
      walk_at "go"
      refine ⟨by decide, fun ma hma => ?_⟩
      walk_at "go"
      refine T_ListO ?_
      walk_at "go"
      refine ⟨by decide, fun pa hpa => ?_⟩
      walk_at "go"
      rw [← hR] at hL1
      have hst0 : Stops [16, 51, 18] Str.empty := ⟨none, e0 ▸ tok_nil, by decide⟩
      refine ⟨n + 3 * d + 8, by (first | exact om194 | omega), (reads_all d n).2.2 e hd ⟨L, pa, ma, ra, la, lb, T.numa, T.numb⟩ (lvE e) [] [] [] Str.empty [] [] cs1 _ (by simp) h4 List.Pairwise.nil (by show 0 + 16 * (tkE la lb e).length ≤ _; (first | exact om195 hsz | omega)) hst0 hL1 fun ps1 pbs1 cs2 hs1 hmem1 hlen1 hL2 => ?_⟩
      replace hmem1 : ∀ z, z ∈ ps1 ↔ z ∈ ([] : List T3) ∨ ∃ x ∈ lkE 0 e, z = lnk (lvE e) x.1 x.2 := hmem1
      replace hlen1 : ps1.length ≤ 0 + 16 * (tkE la lb e).length := hlen1
      have hgr := rngE 0 e
      show TA c _ (gE 0 e).av ⟨_, (pa, .list (ps1.map tr3)) :: (ma, .list (((lvE e).map num).map .int)) :: (ra, .list ([la, lb].map .str)) :: L.mem pbs1 cs2⟩ _
      generalize hG : gE 0 e = G at *
      refine ta_tup3 O (ta_name O (by walk_at "put") (by walk_at "mem") (ta_name O (by walk_at "put") (by walk_at "mem") (ta_name O (by walk_at "put") (by walk_at "mem") ?_))) rfl
      walk_at "go"
      refine T_List ?_
      walk_at "go"
      refine ⟨by show 1 ≤ _; (first | exact om191 hsl | omega), ?_⟩
      walk_at "go"
      have hfl := hgr.fl
      refine ⟨n + 3 * d + 9, Nat.le_refl _, linked_spec (n := n + 3 * d + 7) (ps := ps1) (lasts := [0]) (mem := fun l => (pa, .list (l.map tr3)) :: (ma, .list (((lvE e).map num).map .int)) :: (ra, .list ([la, lb].map .str)) :: L.mem pbs1 cs2) (marks := (lvE e).map num) (fun l l' => by walk_at "mup") (fun l => by walk_at "mem") hs1 (by show ps1.length + 1 * G.f.length ≤ _; (first | exact om196 h4 hsz hlen1 hfl | omega)) (by rw [List.length_map]; (first | exact om197 h4 | omega)) (by show 1 ≤ _; (first | exact om198 | omega)) (by (first | exact om199 h4 hfl | omega)) (fun q hq => ?_) fun ps hs hmem hlen => ?_⟩
      · have := hgr.f q hq
        rw [List.length_map]; (first | exact om200 this | omega)
      refine ⟨rfl, ?_⟩
      replace hlen : ps.length ≤ ps1.length + 1 * G.f.length := hlen
      have hps : ∀ z, z ∈ ps ↔ (∃ x ∈ lkE 0 e, z = lnk (lvE e) x.1 x.2) ∨ ∃ y ∈ G.f, z = lnk (lvE e) 0 y := by
        intro z
        rw [hmem, hmem1]
        have el : ∀ y ∈ G.f, link ((lvE e).map num) 0 y = lnk (lvE e) 0 y := fun y hy => by
          have := hgr.f y hy
          exact link_lnk (post := []) (by simp) (by (first | exact om201 this | omega)) (by (first | exact om202 this | omega))
        constructor
        · rintro ((h | h) | ⟨p, hp, y, hy, e⟩)
          · cases h
          · exact .inl h
          · rw [List.mem_singleton] at hp; subst hp
            rw [el y hy] at e
            exact .inr ⟨y, hy, e⟩
        · rintro (h | ⟨y, hy, e⟩)
          · exact .inl (.inr h)
          · exact .inr ⟨0, by simp, y, hy, by rw [el y hy]; exact e⟩
      have hps4 : ∀ z ∈ ps, 1 ≤ z.2.2 ∧ z.2.2 ≤ 4 := fun z hz => by
        rcases (hps z).mp hz with ⟨x, hx, rfl⟩ | ⟨y, hy, rfl⟩
        · have := lk_rngE 0 e x hx
          show 1 ≤ ((x.2 : Nat) : Int) ∧ ((x.2 : Nat) : Int) ≤ 4
          (first | exact om203 h4 this | omega)
        · have := hgr.f y hy
          show 1 ≤ ((y : Nat) : Int) ∧ ((y : Nat) : Int) ≤ 4
          (first | exact om204 h4 this | omega)
      have hpl : ps.length ≤ 1000000 := by (first | exact om205 h4 hsz hlen1 hfl hlen | omega)
      walk_at "go"
      refine tb_plain ?_
      walk_at "go"
      refine ite_mono (Q' := fun a σ' => ∃ ta, a = .ref ta ∧ σ' = ⟨[.ref L.lx, .ref ra, .str Str.empty, .ref ma, .bool G.h, nats G.f, .unb, .unb, .unb, .ref pa, nats G.l], (ta, .list ((if G.h then [Str.empty] else []).map .str)) :: (pa, .list (ps.map tr3)) :: (ma, .list (((lvE e).map num).map .int)) :: (ra, .list ([la, lb].map .str)) :: L.mem pbs1 cs2⟩) ?_ ?_
      · cases hh : G.h with
        | true =>
          refine ite_t rfl ?_
          refine T_ListO ?_
          walk_at "go"
          refine ⟨by show 1 ≤ _; (first | exact om191 hsl | omega), fun ta hta => ⟨ta, rfl, ?_⟩⟩
          rfl
        | false =>
          refine ite_f (by decide) ?_
          refine T_ListO ?_
          walk_at "go"
          refine ⟨by show 0 ≤ _; (first | exact om192 hsl | omega), fun ta hta => ⟨ta, rfl, ?_⟩⟩
          rfl
      rintro a σ' ⟨ta, rfl, rfl⟩
      walk_at "go"
      refine T_List ?_
      walk_at "go"
      refine T_List ?_
      walk_at "go"
      refine ⟨by show 1 ≤ _; (first | exact om191 hsl | omega), ?_⟩
      walk_at "go"
      refine ⟨by show 2 ≤ _; (first | exact om206 hsl | omega), ?_⟩
      walk_at "go"
      refine ⟨by show 1 ≤ _; (first | exact om191 hsl | omega), ?_⟩
      walk_at "go"
      refine T_For O (LevInv L ra ma ta pa G ps la lb e pbs1 cs2) ?_ ?_ ?_ (fun _ => rfl) (fun _ _ => rfl)
      · walk_at "go"
        refine bs_range1 ?_
        refine ⟨_, yields_nat (k := 3) (by (first | exact om170 hsl | omega)), 0, 3, .unb, rfl, ?_, ?_⟩
        · rw [List.range_eq_range']
        · rfl
      · rintro a rest σ' ⟨j, m, u, hjm, e1, e2⟩
        subst e2
        cases m with
        | zero => cases e1
        | succ m =>
        rw [List.range'_succ, List.map_cons, List.cons.injEq] at e1
        obtain ⟨rfl, rfl⟩ := e1
        refine ta_name O (by walk_at "put") (by walk_at "mem") ?_
        walk_at "go"
        have hlev := lev_ok hs hps4 j
        have hlevl : (lev ps j).length ≤ 8 := Nat.le_trans (lev_len ps j) (by have : j = 0 ∨ j = 1 ∨ j = 2 := by (first | exact om207 hjm | omega)
                                                                              rcases this with rfl | rfl | rfl <;> decide)
        refine T_compA O (caps := [Str.ofString "pairs"]) (ts := [Str.ofString "word", Str.ofString "places", Str.ofString "sign", Str.ofString "number"]) (igl := [Str.ofString "_law_led"]) (ics := [Str.ofString "pairs"]) (by kernel_rfl) (by decide) (by walk_at "mem") ?_ (fun _ => rfl) (hkind _ (.head _)) rfl (by kernel_rfl)
        walk_at "go"
        refine ⟨_, [.ref pa], .lst, by walk_at "cap", fun ic acc it s' hwi Oi Si hni Iti => ?_⟩
        obtain ⟨icw, icA, icenv, ickeys, icoc, icg, icd, icos⟩ := ic
        dsimp only at hwi
        subst hwi
        refine loopR_post (loop_more Oi rfl (fun rest σ => ∃ (done todo : List (Str × List Nat)) (t1 t2 t3 t4 : AV), lev ps j = done ++ todo ∧ rest = todo.map lvAV ∧ σ = ⟨[.ref pa, t1, t2, t3, t4], (acc, .list ((done.flatMap fun x => [(x.1 ++ Str.ofString "a", ledF ps 256 x.2), (x.1 ++ Str.ofString "b", ledF ps 257 x.2)]).map lvAV)) ::
            (ta, .list ((tkU ps G.h G.l j).map .str)) :: (pa, .list (ps.map tr3)) :: (ma, .list (((lvE e).map num).map .int)) :: (ra, .list ([la, lb].map .str)) :: L.mem pbs1 cs2⟩) ?_ (fun _ => rfl) ⟨[], lev ps j, .unb, .unb, .unb, .unb, rfl, rfl, rfl⟩ Si hni Iti) ?_
        · rintro a rest σ' ⟨done, todo, t1, t2, t3, t4, e1, e2, e3⟩
          subst e3
          cases todo with
          | nil => cases e2
          | cons x todo =>
          rw [List.map_cons, List.cons.injEq] at e2
          obtain ⟨rfl, rfl⟩ := e2
          have hx := hlev x (by rw [e1]; simp)
          have hdl : (done.flatMap fun x => [(x.1 ++ Str.ofString "a", ledF ps 256 x.2), (x.1 ++ Str.ofString "b", ledF ps 257 x.2)]).length ≤ 16 := by
            have h1 : ∀ l : List (Str × List Nat), (l.flatMap fun x => [(x.1 ++ Str.ofString "a", ledF ps 256 x.2), (x.1 ++ Str.ofString "b", ledF ps 257 x.2)]).length = 2 * l.length := fun l => by
              induction l with
              | nil => rfl
              | cons a l ih => rw [List.flatMap_cons, List.length_append, ih, List.length_cons]; simp; (first | exact om208 | omega)
            rw [h1]
            have : done.length ≤ (lev ps j).length := by rw [e1]; simp
            (first | exact om209 hlevl this | omega)
          refine ta_tup2 Oi (ta_name Oi (by walk_at "put") (by walk_at "mem") (ta_name Oi (by walk_at "put") (by walk_at "mem") ?_)) rfl
          refine tests0 ?_
          refine ite_t rfl ?_
          refine T_List ?_
          walk_at "go"
          refine ⟨by show 2 ≤ _; (first | exact om206 hsl | omega), ?_⟩
          walk_at "go"
          refine ⟨by show 2 ≤ _; (first | exact om206 hsl | omega), ?_⟩
          walk_at "go"
          refine ⟨by show 2 ≤ _; (first | exact om206 hsl | omega), ?_⟩
          refine ⟨_, .lst, fun it' s2 S2 hn2 It2 => ?_⟩
          refine loopR_post (loop_emit Oi rfl rfl (fun rest σ => ∃ (dn td : List (Str × Int)) (t3 t4 : AV), [(Str.ofString "a", (256 : Int)), (Str.ofString "b", (257 : Int))] = dn ++ td ∧ rest = td.map (fun y => .tup [.str y.1, .int y.2]) ∧
            σ = ⟨[.ref pa, .str x.1, nats x.2, t3, t4], (acc, .list (((done.flatMap fun x => [(x.1 ++ Str.ofString "a", ledF ps 256 x.2), (x.1 ++ Str.ofString "b", ledF ps 257 x.2)]) ++ dn.map fun y => (x.1 ++ y.1, ledF ps y.2 x.2)).map lvAV)) ::
            (ta, .list ((tkU ps G.h G.l j).map .str)) :: (pa, .list (ps.map tr3)) :: (ma, .list (((lvE e).map num).map .int)) :: (ra, .list ([la, lb].map .str)) :: L.mem pbs1 cs2⟩) ?_ ⟨[], [(Str.ofString "a", (256 : Int)), (Str.ofString "b", (257 : Int))], _, _, rfl, rfl, by rw [List.map_nil, List.append_nil]⟩ S2 hn2 It2) ?_
          · rintro a rest σ' ⟨dn, td, t3, t4, e1', e2', e3'⟩
            subst e3'
            cases td with
            | nil => cases e2'
            | cons y td =>
            rw [List.map_cons, List.cons.injEq] at e2'
            obtain ⟨rfl, rfl⟩ := e2'
            have hdn : dn.length ≤ 2 := by
              have := congrArg List.length e1'
              simp at this; (first | exact om210 this | omega)
            have hy : y.1.length ≤ 1 := by
              have : y ∈ [(Str.ofString "a", (256 : Int)), (Str.ofString "b", (257 : Int))] := by rw [e1']; simp
              rcases List.mem_cons.mp this with rfl | this
              · decide +kernel
              · rw [List.mem_singleton.mp this]; decide +kernel
            refine ta_tup2 Oi (ta_name Oi (by walk_at "put") (by walk_at "mem") (ta_name Oi (by walk_at "put") (by walk_at "mem") ?_)) rfl
            refine tests0 ?_
            refine ite_t rfl ?_
            walk_at "go"
            refine op_add_str (by (first | exact om211 hsl hjm hx hy | omega)) ?_
            walk_at "go"
            refine ⟨n + 3 * d + 9, Nat.le_refl _, led_spec (n := n + 3 * d + 7) (by walk_at "mem") hs hps4 hpl ?_⟩
            walk_at "go"
            refine ⟨by show 2 ≤ _; (first | exact om206 hsl | omega), ?_⟩
            refine ⟨_, _, .head, by rw [List.length_map, List.length_append, List.length_map]; (first | exact om212 hsl hdl hdn | omega), dn ++ [y], td, .str y.1, .int y.2, by rw [e1']; simp, rfl, ?_⟩
            simp only [List.map_append, List.append_assoc]; rfl
          · rintro σ' ⟨dn, td, t3, t4, e1', e2', e3'⟩
            subst e3'
            cases td with
            | cons => cases e2'
            | nil =>
            rw [List.append_nil] at e1'
            subst e1'
            refine ⟨done ++ [x], todo, .str x.1, nats x.2, t3, t4, by rw [e1]; simp, rfl, ?_⟩
            rw [List.flatMap_append]; rfl
        · rintro σ' ⟨done, todo, t1, t2, t3, t4, e1, e2, e3⟩
          subst e3
          cases todo with
          | cons => cases e2
          | nil =>
          rw [List.append_nil] at e1
          subst e1
          refine ⟨_, _, rfl, ?_⟩
          walk_at "go"
          generalize hfl2 : ((lev ps j).flatMap fun x => [(x.1 ++ Str.ofString "a", ledF ps 256 x.2), (x.1 ++ Str.ofString "b", ledF ps 257 x.2)]) = fl at *
          have hnx : lev ps (j + 1) = fl.filter fun y => decide (y.2 ≠ []) := by rw [lev, hfl2]
          have hfll : fl.length ≤ 16 := by
            have h1 : ∀ l : List (Str × List Nat), (l.flatMap fun x => [(x.1 ++ Str.ofString "a", ledF ps 256 x.2), (x.1 ++ Str.ofString "b", ledF ps 257 x.2)]).length = 2 * l.length := fun l => by
              induction l with
              | nil => rfl
              | cons a l ih => rw [List.flatMap_cons, List.length_append, ih, List.length_cons]; simp; (first | exact om208 | omega)
            rw [← hfl2, h1]; (first | exact om213 hlevl | omega)
          refine T_compAP O [] [Str.ofString "word", Str.ofString "places"] [] [] pNonE (fun a => a) (by kernel_rfl) (by decide) (by walk_at "mem") ?_ (fun _ => rfl) (hkind _ (.head _)) rfl (by kernel_rfl)
          walk_at "go"
          refine ⟨_, [], .lst, by walk_at "cap", by rw [List.length_map]; (first | exact om214 hsl hfll | omega), fun ic acc hwi Oi a ha => ?_, ?_⟩
          · obtain ⟨y, hy, rfl⟩ := List.mem_map.mp ha
            intro out tv htv
            match tv, htv with
            | [t1, t2], _ =>
            refine ta_tup2 Oi (ta_name Oi (by walk_at "put") (by walk_at "mem") (ta_name Oi (by walk_at "put") (by walk_at "mem") ?_)) rfl
            refine tests1 ?_
            refine T_isTrue_Compare ?_
            walk_at "go"
            refine T_List ?_
            walk_at "go"
            refine ⟨by show 0 ≤ _; (first | exact om192 hsl | omega), ?_⟩
            refine op_ne_nil Oi .frozen ?_
            rw [ne_isEmpty]
            walk_at "go"
            refine pcase (fun hh => ?_) fun hh => ?_
            · walk_at "go"
              refine ⟨by show 2 ≤ _; (first | exact om206 hsl | omega), ?_⟩
              exact ⟨rfl, [_, _], rfl, rfl⟩
            · exact ⟨[_, _], rfl, rfl⟩
          rw [conv2, List.map_id', ← hnx]
          walk_at "go"
          have hlev' := lev_ok hs hps4 (j + 1)
          have hlevl' : (lev ps (j + 1)).length ≤ 16 := by rw [hnx]; exact Nat.le_trans (List.length_filter_le _ _) hfll
          have hints : nats G.l = .lst ((G.l.map Int.ofNat).map .int) := by show AV.lst _ = _; rw [List.map_map]; rfl
          refine T_methL PySem.F.slot_list_extend rfl ?_
          walk_at "go"
          refine ⟨_, _, rfl, .head _, ?_⟩
          walk_at "go"
          refine T_compEP O [Str.ofString "lasts"] [Str.ofString "word", Str.ofString "places"] [] [Str.ofString "lasts"] (pHits (G.l.map Int.ofNat)) fstAV (by kernel_rfl) (by decide) ?_ (fun _ => rfl)
          walk_at "go"
          refine ⟨_, [nats G.l], .lst, by walk_at "cap", by rw [List.length_map]; (first | exact om214 hsl hlevl' | omega), fun ic acc hwi Oi a ha => ?_, ?_⟩
          · obtain ⟨y, hy, rfl⟩ := List.mem_map.mp ha
            have hyl := (hlev' y hy).2
            intro out tv htv
            match tv, htv with
            | [t1, t2], _ =>
            refine ta_tup2 Oi (ta_name Oi (by walk_at "put") (by walk_at "mem") (ta_name Oi (by walk_at "put") (by walk_at "mem") ?_)) rfl
            refine tests1 ?_
            refine T_isTrue_Compare ?_
            refine T_compEP Oi [Str.ofString "lasts"] [Str.ofString "p"] [] [Str.ofString "lasts"] (pHit (G.l.map Int.ofNat)) (fun a => a) (by kernel_rfl) (by decide) ?_ (fun _ => rfl)
            walk_at "go"
            refine ⟨_, [nats G.l], .lst, by walk_at "cap", by rw [List.length_map]; (first | exact om215 hsl hyl | omega), fun ic2 acc2 hwi2 Oi2 a ha => ?_, ?_⟩
            · obtain ⟨k, hk, rfl⟩ := List.mem_map.mp ha
              intro out2 tv2 htv2
              match tv2, htv2 with
              | [t3], _ =>
              refine ta_name Oi2 (by walk_at "put") (by walk_at "mem") ?_
              refine tests1 ?_
              refine T_isTrue_Compare ?_
              walk_at "go"
              rw [hints]
              refine op_in_ints .frozen ?_
              walk_at "go"
              refine pcase (fun hh => ?_) fun hh => ?_
              · walk_at "go"
                exact ⟨rfl, [_], rfl, rfl⟩
              · exact ⟨[_], rfl, rfl⟩
            walk_at "go"
            refine T_List ?_
            walk_at "go"
            refine ⟨by show 0 ≤ _; (first | exact om192 hsl | omega), ?_⟩
            refine op_ne_nil Oi .frozen ?_
            rw [ne_isEmpty, List.map_id']
            walk_at "go"
            refine pcase (fun hh => ?_) fun hh => ?_
            · walk_at "go"
              exact ⟨rfl, [_, _], rfl, rfl⟩
            · exact ⟨[_, _], rfl, rfl⟩
          rw [conv3]
          walk_at "go"
          have hacc : (accOf ps G.l (j + 1)).length ≤ 16 := by
            unfold accOf; rw [List.length_map]; exact Nat.le_trans (List.length_filter_le _ _) hlevl'
          have hnew : ((tkU ps G.h G.l j).map AV.str) ++ ((accOf ps G.l (j + 1)).map AV.str) = (tkU ps G.h G.l (j + 1)).map .str := by rw [tkU, List.map_append]
          have h2j : 2 ^ (j + 1) ≤ 1000 := by
            have : j = 0 ∨ j = 1 ∨ j = 2 := by (first | exact om207 hjm | omega)
            rcases this with rfl | rfl | rfl <;> decide
          have htkl : (tkU ps G.h G.l j).length ≤ 1000 := Nat.le_trans (tkU_len ps G.h G.l j) h2j
          refine bs_extend (mem' := (ta, .list ((tkU ps G.h G.l (j + 1)).map .str)) :: (pa, .list (ps.map tr3)) :: (ma, .list (((lvE e).map num).map .int)) :: (ra, .list ([la, lb].map .str)) :: L.mem pbs1 cs2) (by rw [hnew]; exact .head) .frozen (by rw [List.length_map, List.length_map]; (first | exact om216 hsl hacc htkl | omega)) ?_
          refine ⟨rfl, ?_⟩
          walk_at "go"
          exact ⟨j + 1, m, _, by (first | exact om217 hjm | omega), rfl, rfl⟩
      · rintro σ' ⟨j, m, u, hjm, e1, e2⟩
        subst e2
        cases m with
        | succ m => rw [List.range'_succ] at e1; cases e1
        | zero =>
        obtain rfl : j = 3 := by (first | exact om218 hjm | omega)
        refine T_nil ?_
        refine land (by assumption) ?_
        try dsimp only
        refine TT.freeze (a := ta) (by walk_at "mdel") (by walk_at "frz") ?_
        refine TT.freeze (a := pa) (by walk_at "mdel") (by walk_at "frz") ?_
        walk_at "go"
        refine T_compEP O [] [Str.ofString "number"] [Str.ofString "ISEOF"] [] (fun _ => true) isZero (by kernel_rfl) (by decide) ?_ (fun _ => rfl)
        walk_at "go"
        refine T_List ?_
        walk_at "go"
        refine T_methI O ?_ (by rfl) rfl
        walk_at "go"
        refine getm_meth (L.inst [(ma, .list (((lvE e).map num).map .int)), (ra, .list ([la, lb].map .str))] _ _ _) mn_get_token rfl ?_
        refine ⟨fo, fd, hfd, ?_⟩
        walk_at "go"
        refine ⟨.k hfo, n + 4, by (first | exact om190 hd | omega), get_spec (pre := [(ma, .list (((lvE e).map num).map .int)), (ra, .list ([la, lb].map .str))]) L hL2 fun cs3 hL3 _ => ?_⟩
        have hcs3 : cs3 = [] := by
          rcases hL3.toks with ⟨_, h⟩ | ⟨t, r, h, _⟩
          · cases h; rfl
          · cases h
        subst hcs3
        walk_at "go"
        refine ⟨n + 4, by (first | exact om190 hd | omega), number_spec (ws := [la, lb]) (r := 0) nofun (.owned (by walk_at "mem")) (by show 2 ≤ _; (first | exact om219 | omega)) (.nil rfl) ?_⟩
        walk_at "go"
        refine ⟨by show 1 ≤ _; (first | exact om191 hsl | omega), ?_⟩
        refine op_add_list (.owned (by walk_at "mem")) .frozen (by rw [List.length_map, List.length_map]; show _ + 1 ≤ _; (first | exact om220 h4 hsl | omega)) ?_
        have hml : ((lvE e).map num).map AV.int ++ [.int 0] = (((lvE e).map num) ++ [0]).map AV.int := by rw [List.map_append]; rfl
        rw [hml]
        refine ⟨_, [], .lst, by walk_at "cap", by rw [List.length_map, List.length_append, List.length_map]; show _ + 1 ≤ _; (first | exact om220 h4 hsl | omega), fun ic acc hwi Oi a ha => ?_, ?_⟩
        · obtain ⟨y, hy, rfl⟩ := List.mem_map.mp ha
          intro out tv htv
          match tv, htv with
          | [t1], _ =>
          refine ta_name Oi (by walk_at "put") (by walk_at "mem") ?_
          refine tests0 ?_
          refine ptrue rfl ?_
          walk_at "go"
          refine ⟨n + 4, by (first | exact om190 hd | omega), iseof_spec (n := n + 3) ?_⟩
          exact ⟨rfl, [_], rfl, rfl⟩
        walk_at "go"
        refine ⟨by show 3 ≤ _; (first | exact om170 hsl | omega), ?_⟩
        walk_at "go"
        refine ⟨L.mem [] [], ((List.Sublist.refl _).cons _).cons _, ?_⟩
        have hz : (((((lvE e).map num) ++ [0]).map AV.int).filter fun _ => true).map isZero = (((lvE e).map num) ++ [0]).map fun i => .bool (decide (i = 0)) := by
          rw [List.filter_eq_self.mpr (fun _ _ => rfl), List.map_map]; rfl
        rw [hz, tkU_taken]
        exact q ps hs hps hps4 hpl
end
section
set_option linter.unusedSimpArgs false
noncomputable def wds : List Str := ["\"", "#", "\\", "a b"].map Str.ofString
noncomputable def textOf (f g : Nat) (p : Piece) : Str := qs.getD f Str.empty ++ qs.getD g Str.empty ++ Str.ofString "\"\"\n" ++ p.txt ++ Str.ofString "\n"
structure PatOk (f g : Nat) (p : Piece) (e : El) (la lb : Str) : Prop where
  two : TwoWords (wds.getD f Str.empty) (wds.getD g Str.empty) la lb
  dp : dpE e ≤ 8
  lv : (lvE e).length = 4
  tkl : (tkE la lb e).length ≤ 30000
  len : (textOf f g p).length ≤ 30000
  cnt : (textOf f g p).cps.toList.count 10 = 2
  toks : Toks (textOf f g p).cps.toList (wds.getD f Str.empty :: wds.getD g Str.empty :: Str.empty :: (tkE la lb e ++ [Str.empty]))
  taken : ∀ ps : List T3, Srt ps → (∀ z, z ∈ ps ↔ (∃ x ∈ lkE 0 e, z = lnk (lvE e) x.1 x.2) ∨ ∃ y ∈ (gE 0 e).f, z = lnk (lvE e) 0 y) → (∀ z ∈ ps, 1 ≤ z.2.2 ∧ z.2.2 ≤ 4) → takenOf ps (gE 0 e).h (gE 0 e).l = p.ws
  wsl : p.ws.length ≤ 1000
theorem law_spec {w : World} {n : Nat} {ns : List Int} {Q : AV → Mem → Prop} (hn : ns.length ≤ 63)
    (hpat : ∀ (f g : Nat) (p : Piece), f < 4 → g < 4 → f ≠ g → (∃ k, k ≤ 8 ∧ Reach (qs.getD (min f g) Str.empty) (qs.getD (max f g) Str.empty) k [p]) → p.txt.length ≤ 6000 → ∃ e la lb, PatOk f g p e la lb)
    (q : ∀ L : Lx w, Q (.bool true) (L.mem [] [])) : FS w (n + 35) (.ref 183) [.lst (ns.map .int)] [(121, .raw (tabObj #[]))] Q := by
  have hsl : sizeLine = 16777216 := rfl
  refine FS_in [Str.ofString "script"] [Str.ofString "script", Str.ofString "text", Str.ofString "meant", Str.ofString "lexer", Str.ofString "taken", Str.ofString "ended", Str.ofString "pairs"]
    [Str.ofString "_law_pattern", Str.ofString "_law_lexer", Str.ofString "_law_taken", Str.ofString "range", Str.ofString "len"] [Str.ofString "pairs"]
    [.lst (ns.map .int), .unb, .unb, .unb, .unb, .unb, .unb] rfl rfl (by kernel_rfl) (by kernel_rfl) rfl (dav := []) rfl (dv := []) (fun _ _ => rfl) rfl (fun vals h => ?_) (fun c hw O => ?_)
  · obtain ⟨a0, rfl⟩ := len1 h
    exact fun S => by kernel_rfl
  · subst hw
    walk_at "go"
    refine ⟨n + 34, Nat.le_refl _, pattern_spec (n := n + 31) hn fun f g p hf hg hfg hr hlen => ?_⟩
    obtain ⟨e, la, lb, P⟩ := hpat f g p hf hg hfg hr hlen
    show TA c _ (.tup [.str (textOf f g p), .lst (p.ws.map .str)]) _ _
    generalize htext : textOf f g p = text at *
    refine ta_tup2 O (ta_name O (by walk_at "put") (by walk_at "mem") (ta_name O (by walk_at "put") (by walk_at "mem") ?_)) rfl
    walk_at "go"
    refine ⟨n + 34, Nat.le_refl _, lexer_spec (n := n + 30) (by rw [← htext]; exact P.len) (by rw [← htext]; exact P.cnt) fun L => ?_⟩
    walk_at "go"
    have ptoks := P.toks
    have plen := P.len
    rw [htext] at ptoks plen
    refine ⟨n + 34, Nat.le_refl _, taken_spec L (n := n) (d := 8) P.two P.dp (by rw [P.lv]; (first | exact om221 hr | omega)) plen ptoks (by have := P.tkl; (first | exact om222 hr this | omega)) fun ps hs hps hps4 hpl => ?_⟩
    rw [P.taken ps hs hps hps4]
    refine ta_tup3 O (ta_name O (by walk_at "put") (by walk_at "mem") (ta_name O (by walk_at "put") (by walk_at "mem") (ta_name O (by walk_at "put") (by walk_at "mem") ?_))) rfl
    walk_at "go"
    refine T_compEP O [Str.ofString "pairs"] [Str.ofString "k"] [] [Str.ofString "pairs"] (fun _ => false) (fun a => a) (by kernel_rfl) (by decide) ?_ (fun _ => rfl)
    walk_at "go"
    refine bs_len_list .frozen (by rw [List.length_map]; omega) ?_
    rw [List.length_map]
    walk_at "go"
    refine bs_range2 ?_
    refine ⟨_, [.lst (ps.map tr3)], yields_rng (by omega) (by omega) (by omega) (by omega), by walk_at "cap", by rw [List.length_map, List.length_range]; omega, fun ic acc hwi Oi a ha => ?_, ?_⟩
    · obtain ⟨j, hj, rfl⟩ := List.mem_map.mp ha
      have hj' := List.mem_range.mp hj
      have hj2 : j + 1 < ps.length := by omega
      intro out tv htv
      match tv, htv with
      | [t1], _ =>
      refine ta_name Oi (by walk_at "put") (by walk_at "mem") ?_
      refine tests1 ?_
      refine tb_not ?_
      refine T_isTrue_Compare ?_
      refine T_Subscript ?_
      walk_at "go"
      refine op_sub_int ?_
      have g0 : (ps.map tr3)[((1 : Int) + (j : Nat) - 1).toNat]? = some (tr3 ps[j]) := by
        rw [show ((1 : Int) + (j : Nat) - 1).toNat = j from by (first | exact om231 hr | omega), List.getElem?_map, List.getElem?_eq_getElem (by omega)]; rfl
      have g1 : (ps.map tr3)[((1 : Int) + (j : Nat)).toNat]? = some (tr3 ps[j + 1]) := by
        rw [show ((1 : Int) + (j : Nat)).toNat = j + 1 from by (first | exact om233 hr | omega), List.getElem?_map, List.getElem?_eq_getElem (by omega)]; rfl
      refine op_item_list .frozen (by (first | exact om235 hr | omega)) g0 ?_ (by rw [List.length_map]; omega) (fun _ _ => rfl)
      refine T_Subscript ?_
      walk_at "go"
      refine op_item_list .frozen (by (first | exact om236 hr | omega)) g1 ?_ (by rw [List.length_map]; omega) (fun _ _ => rfl)
      refine op_lt_tr3 Oi ?_
      have hlt : lt3 ps[j] ps[j + 1] = true := List.pairwise_iff_getElem.mp hs j (j + 1) (by omega) hj2 (by (first | exact om237 hr | omega))
      rw [hlt]
      walk_at "go"
      refine pfalse rfl ?_
      exact ⟨[_], rfl, rfl⟩
    walk_at "go"
    refine T_List ?_
    walk_at "go"
    refine ⟨by show 0 ≤ _; (first | exact om238 hsl hr | omega), ?_⟩
    have hnil : ((((List.range (((ps.length : Int)) - 1).toNat).map fun j => AV.int (1 + (j : Nat))).filter fun _ => false).map fun a => a) = [] := by
      rw [List.filter_eq_nil_iff.mpr (fun _ _ => Bool.false_ne_true)]; rfl
    refine op_ne_nil O (l := []) (by rw [hnil]; exact .frozen) ?_
    rw [ne_isEmpty]
    walk_at "go"
    have hwl := P.wsl
    refine op_eq_list O (k := p.ws == p.ws) .frozen .frozen (.inl ⟨rfl, eqvs_map (fun a b => eqv_str) rfl⟩) ?_
    rw [show (p.ws == p.ws) = true from by simp]
    walk_at "go"
    refine ⟨rfl, ?_⟩
    refine ite_t rfl ?_
    walk_at "go"
    refine T_List ?_
    walk_at "go"
    refine ⟨by show 1 ≤ _; (first | exact om239 hsl hr | omega), ?_⟩
    walk_at "go"
    refine op_mul_list (k := 4) .frozen (by decide) (by decide) ?_
    refine T_List ?_
    walk_at "go"
    refine ⟨by show 1 ≤ _; (first | exact om239 hsl hr | omega), ?_⟩
    refine op_add_list .frozen .frozen (by show 4 + 1 ≤ _; (first | exact om240 hsl hr | omega)) ?_
    have hend : (((lvE e).map num ++ [0]).map fun i => AV.bool (decide (i = 0))) = ([false, false, false, false, true] : List Bool).map AV.bool := by
      have h4 := P.lv
      generalize lvE e = l at h4
      match l, h4 with
      | [a, b, c, d], _ => cases a <;> cases b <;> cases c <;> cases d <;> rfl
    rw [hend]
    refine op_eq_list O (k := [false, false, false, false, true] == [false, false, false, false, true]) .frozen .frozen (.inl ⟨rfl, eqvs_map (f := AV.bool) (l := [false, false, false, false, true]) (m := [false, false, false, false, true]) (fun a b => eqv_bool) rfl⟩) ?_
    rw [show (([false, false, false, false, true] : List Bool) == [false, false, false, false, true]) = true from rfl]
    walk_at "go"
    refine ⟨rfl, ?_⟩
    refine ite_t rfl ?_
    walk_at "go"
    refine T_attr ?_ (by rfl)
    walk_at "go"
    refine getf_own (L.inst [] _ _ _) on_lineno rfl trivial ?_
    walk_at "go"
    refine op_eq_int ?_
    rw [show decide (lnOf [] = 3) = true from rfl]
    walk_at "go"
    exact q L
end
section
theorem relL_ints {P : List Addr} {h : Heap} {vs : List Value} {ns : List Int} (H : IntsAre vs ns) : RelL P h (ns.map .int) vs := by
  induction H with
  | nil => rfl
  | cons i t _ ih => exact .cons ⟨_, rfl⟩ ih
theorem kf_tab (w : World) : (KF w).lookup 121 = none := by kernel_rfl
theorem kf_law (w : World) : nsIn (KF w) mainGlobals "law" = some (some (.ref 183)) := by kernel_rfl
theorem kf_bm (w : World) : nsIn (KF w) mainGlobals "__builtins__" = some (some (.ref 4)) := by kernel_rfl
theorem kf_code (w : World) : codeHdIn (KF w) 125 121 = true := by kernel_rfl
theorem room_caller : Room callerA 40 := ⟨rfl, by decide +kernel, by decide +kernel⟩
/-- the law's run from the ground -/
theorem run_core {w : World} {mg mb : Str → Option Value} {p : Program} {loose : List Str} {mean : ExcName → Option Value} {s : Shared} {fa ad : Addr} {vs : List Value} {ns : List Int} (T : Top p loose mean mg mb s.heap) (X : (KF w).In s.heap) (h121 : s.heap.get? 121 = some (tabObj #[]))
    (hfa : mg "law" = some (.ref fa)) (hl : s.heap.get? ad = some { cls := .type "list", data := .seq vs.toArray }) (hi : IntsAre vs ns)
    (law : FS w 40 (.ref 183) [.lst (ns.map .int)] [(121, .raw (tabObj #[]))] fun a m => a = .bool true ∧ ∃ ps, (121, AO.raw (tabObj ps)) ∈ m) :
    codeAny (model prog w) callerA (.call (.ref fa) ⟨[.ref ad], []⟩) (fun r s' => r = .ok (.ret (.bool true)) ∧ OldK s.heap s'.heap ∧ s'.os = s.os ∧ s'.gens = s.gens) s := by
  have hfa' : fa = 183 := by
    have := mg_of X T.g (kf_law w)
    rw [hfa] at this; cases this; rfl
  subst hfa'
  have gns := T.g
  have B : Base w [121] s.heap := by
    refine ⟨fun a o e => ⟨fun q => ?_, X a o e⟩, ⟨by decide, mb, T.b, T.builtins⟩, ?_⟩
    · rw [List.mem_singleton] at q; subst q; rw [kf_tab] at e; cases e
    · obtain ⟨bm, ob, h1, h2, h3, h4, h5, h6⟩ := T.bmain
      have := mg_of X T.g (kf_bm w)
      rw [h1] at this; cases this
      exact ⟨4, ob, kf_bm w, h2, by decide, h3, h4, h5, h6⟩
  have P : Pre w [(121, .raw (tabObj #[]))] s.heap := by
    refine ⟨B, by simp, fun q hq => ?_⟩
    rw [List.mem_singleton] at hq; subst hq; exact h121
  have hne : ad ≠ 121 := fun e => by rw [e, h121] at hl; cases hl
  have rl : RelL [121] s.heap [.lst (ns.map .int)] [.ref ad] := .one ⟨ad, vs, rfl, fun q => hne (List.mem_singleton.mp q), ⟨_, hl⟩, relL_ints hi⟩
  refine codeAny_mono (law callerA s [.ref ad] room_caller P rl) fun r s' ⟨v, av, mem', e, rv, P', mv, sm, ea, ps, hm⟩ => ?_
  subst e ea
  cases rv
  refine ⟨rfl, ⟨fun b o e => ?_, fun b o e => ?_⟩, sm.2.2, sm.1⟩
  · by_cases hb : b = 121
    · subst hb
      rw [h121] at e; cases e
      have := P'.mem _ hm
      refine .inr (.inl ⟨((codeHd_of_K X (kf_code w)).tab h121).isCodeTable, rfl, #[], ps, rfl, ?_⟩)
      rw [Array.empty_append]; exact this
    · exact .inl (mv b o (fun q => hb (List.mem_singleton.mp q)) e).2
  · by_cases hb : b = 121
    · subst hb
      exact ⟨_, P'.mem _ hm⟩
    · exact ⟨o, (mv b o (fun q => hb (List.mem_singleton.mp q)) e).2⟩
theorem post_ok (args : List WData) : (Challenge.rw_rl0097_01.row.claim.post args (.bool true) args) = true := by
  show (WShape.has [] (.bool true) .bool && WTm.holds [] (.eq .res (.lit (.bool true))) { args := args, res := some (.bool true), after := args }) = true
  have h1 : WShape.has [] (.bool true) .bool = true := by first | rfl | decide +kernel | simp [WShape.has, WShape.arms, WShape.hasAll]
  rw [h1, Bool.true_and]
  unfold WTm.holds
  simp only [WTm.value]
  first | rfl | decide +kernel | simp
theorem list_exact {P : Params} {h : Heap} {a : Addr} {xs : List WData} {items : List Value} (W : Well P h (.ref a) (.list xs)) (L : h.IsList a items.toArray) : h.get? a = some { cls := .type "list", data := .seq items.toArray } := by
  cases W with
  | list e _ =>
    obtain ⟨o, ho, _, n, hd⟩ := L
    rw [e] at ho
    cases ho
    have := Data.seq.inj hd
    rw [← this.1]; exact e
end
section
/-- words as lists of letters -/
noncomputable abbrev Wd := List Bool
mutual
/-- the words that a pattern means -/
inductive InI : It → Wd → Prop where
  | lit (d : Bool) : InI (.lit d) [d]
  | grp {e : El} {u : Wd} : InE e u → InI (.grp e) u
  | nil {i : It} : InI (.star i) []
  | star {i : It} {u v : Wd} : InI i u → InI (.star i) v → InI (.star i) (u ++ v)
inductive InC : Ch → Wd → Prop where
  | one {i : It} {u : Wd} : InI i u → InC (.one i) u
  | more {c : Ch} {i : It} {u v : Wd} : InC c u → InI i v → InC (.more c i) (u ++ v)
inductive InE : El → Wd → Prop where
  | one {c : Ch} {u : Wd} : InC c u → InE (.one c) u
  | l {e : El} {c : Ch} {u : Wd} : InE e u → InE (.more e c) u
  | r {e : El} {c : Ch} {u : Wd} : InC c u → InE (.more e c) u
end
/-- a path through the places: the letters read behind place p, ending in a last place -/
inductive Path (L : List (Nat × Nat)) (mk : Nat → Bool) : Nat → Wd → Nat → Prop where
  | nil (p : Nat) : Path L mk p [] p
  | cons {p q r : Nat} {u : Wd} : (p, q) ∈ L → Path L mk q u r → Path L mk p (mk q :: u) r
/-- a word that goes from a first place to a last one -/
noncomputable def Runs (L : List (Nat × Nat)) (mk : Nat → Bool) (f l : List Nat) (u : Wd) : Prop := ∃ q r v, u = mk q :: v ∧ q ∈ f ∧ r ∈ l ∧ Path L mk q v r
theorem Path.mono {L L' : List (Nat × Nat)} {mk : Nat → Bool} (h : ∀ x ∈ L, x ∈ L') {p r : Nat} {u : Wd} (P : Path L mk p u r) : Path L' mk p u r := by
  induction P with
  | nil => exact .nil _
  | cons h1 _ ih => exact .cons (h _ h1) ih
theorem Path.app {L : List (Nat × Nat)} {mk : Nat → Bool} {p q r : Nat} {u v : Wd} (P : Path L mk p u q) (R : Path L mk q v r) : Path L mk p (u ++ v) r := by
  induction P with
  | nil => exact R
  | cons h1 _ ih => exact .cons h1 (ih R)
/-- a path stays where its steps stay -/
theorem Path.stay {L : List (Nat × Nat)} {mk : Nat → Bool} {P : Nat → Prop} (h : ∀ x ∈ L, P x.1 → P x.2) {p r : Nat} {u : Wd} (R : Path L mk p u r) (hp : P p) : P r := by
  induction R with
  | nil => exact hp
  | cons h1 _ ih => exact ih (h _ h1 hp)
/-- steps of one part alone -/
theorem Path.only {L L' : List (Nat × Nat)} {mk : Nat → Bool} {P : Nat → Prop} (h : ∀ x ∈ L, P x.1 → x ∈ L' ∧ P x.2) {p r : Nat} {u : Wd} (R : Path L mk p u r) (hp : P p) : Path L' mk p u r := by
  induction R with
  | nil => exact .nil _
  | cons h1 _ ih => exact .cons (h _ h1 hp).1 (ih (h _ h1 hp).2)
/-- the first part's steps, then over the bridge, the other part's steps -/
theorem Path.cut {L A B : List (Nat × Nat)} {la fb : List Nat} {mk : Nat → Bool} {P : Nat → Prop} (h : ∀ x ∈ L, P x.1 → (x ∈ A ∧ P x.2) ∨ (x.1 ∈ la ∧ x.2 ∈ fb)) (hb : ∀ x ∈ L, ¬ P x.1 → x ∈ B ∧ ¬ P x.2) (hf : ∀ q ∈ fb, ¬ P q) {p r : Nat} {u : Wd} (R : Path L mk p u r) (hp : P p) :
    (P r ∧ Path A mk p u r) ∨ ∃ u1 q s v, u = u1 ++ mk s :: v ∧ Path A mk p u1 q ∧ q ∈ la ∧ s ∈ fb ∧ Path B mk s v r := by
  induction R with
  | nil => exact .inl ⟨hp, .nil _⟩
  | @cons p q r u h1 R ih =>
    rcases h _ h1 hp with ⟨hA, hq⟩ | ⟨hl, hq⟩
    · rcases ih hq with ⟨hr, R'⟩ | ⟨u1, q', s, v, e, R1, hq', hs, R2⟩
      · exact .inl ⟨hr, .cons hA R'⟩
      · exact .inr ⟨mk q :: u1, q', s, v, by rw [e]; rfl, .cons hA R1, hq', hs, R2⟩
    · exact .inr ⟨[], p, q, u, rfl, .nil _, hl, hq, R.only (P := fun x => ¬ P x) hb (hf q hq)⟩
noncomputable def Acc (g : Part) (L : List (Nat × Nat)) (mk : Nat → Bool) (u : Wd) : Prop := (u = [] ∧ g.h = true) ∨ Runs L mk g.f g.l u
noncomputable abbrev InRng (L : List (Nat × Nat)) (k n : Nat) : Prop := ∀ x ∈ L, (k < x.1 ∧ x.1 ≤ k + n) ∧ k < x.2 ∧ x.2 ≤ k + n
theorem Runs.mono {L L' : List (Nat × Nat)} {mk : Nat → Bool} {f l f' l' : List Nat} {u : Wd} (hL : ∀ x ∈ L, x ∈ L') (hf : ∀ x ∈ f, x ∈ f') (hl : ∀ x ∈ l, x ∈ l') : Runs L mk f l u → Runs L' mk f' l' u
  | ⟨q, r, v, e, h1, h2, P⟩ => ⟨q, r, v, e, hf _ h1, hl _ h2, P.mono hL⟩
theorem acc_alt {A B : Part} {LA LB : List (Nat × Nat)} {k n m : Nat} {mk : Nat → Bool} {u : Wd} (rA : A.Rng k n) (rB : B.Rng (k + n) m) (lA : InRng LA k n) (lB : InRng LB (k + n) m) :
    Acc (A.alt B) (LA ++ LB) mk u ↔ Acc A LA mk u ∨ Acc B LB mk u := by
  constructor
  · rintro (⟨h, hh⟩ | ⟨q, r, v, e, h1, h2, P⟩)
    · have : (A.h || B.h) = true := hh
      rcases Bool.or_eq_true_iff.mp this with h3 | h3
      · exact .inl (.inl ⟨h, h3⟩)
      · exact .inr (.inl ⟨h, h3⟩)
    · have h1 : q ∈ A.f ++ B.f := h1
      have h2 : r ∈ A.l ++ B.l := h2
      rcases List.mem_append.mp h1 with h1 | h1
      · have hq := rA.f q h1
        have st : ∀ x ∈ LA ++ LB, x.1 ≤ k + n → x ∈ LA ∧ x.2 ≤ k + n := fun x hx hx1 => by
          rcases List.mem_append.mp hx with h | h
          · exact ⟨h, (lA x h).2.2⟩
          · have := lB x h; (first | exact om98 hx1 this | omega)
        have hr : r ≤ k + n := P.stay (P := fun x => x ≤ k + n) (fun x hx h => (st x hx h).2) hq.2
        have P' := P.only (P := fun x => x ≤ k + n) st hq.2
        rcases List.mem_append.mp h2 with h2 | h2
        · exact .inl (.inr ⟨q, r, v, e, h1, h2, P'⟩)
        · have := rB.l r h2; (first | exact om99 hr this | omega)
      · have hq := rB.f q h1
        have st : ∀ x ∈ LA ++ LB, ¬ x.1 ≤ k + n → x ∈ LB ∧ ¬ x.2 ≤ k + n := fun x hx hx1 => by
          rcases List.mem_append.mp hx with h | h
          · have := lA x h; (first | exact om100 hx1 this | omega)
          · have := lB x h; exact ⟨h, by (first | exact om101 this | omega)⟩
        have hr : ¬ r ≤ k + n := P.stay (P := fun x => ¬ x ≤ k + n) (fun x hx h => (st x hx h).2) (by (first | exact om102 hq | omega))
        have P' := P.only (P := fun x => ¬ x ≤ k + n) st (by (first | exact om102 hq | omega))
        rcases List.mem_append.mp h2 with h2 | h2
        · have := rA.l r h2; (first | exact om103 hr this | omega)
        · exact .inr (.inr ⟨q, r, v, e, h1, h2, P'⟩)
  · rintro ((⟨h, hh⟩ | h) | (⟨h, hh⟩ | h))
    · exact .inl ⟨h, by show (A.h || B.h) = true; rw [hh]; rfl⟩
    · exact .inr (h.mono (fun x hx => List.mem_append_left _ hx) (fun x hx => List.mem_append_left _ hx) fun x hx => List.mem_append_left _ hx)
    · exact .inl ⟨h, by show (A.h || B.h) = true; rw [hh, Bool.or_true]⟩
    · exact .inr (h.mono (fun x hx => List.mem_append_right _ hx) (fun x hx => List.mem_append_right _ hx) fun x hx => List.mem_append_right _ hx)
theorem cat_f {A B : Part} {x : Nat} : x ∈ (A.cat B).f ↔ x ∈ A.f ∨ (A.h = true ∧ x ∈ B.f) := by
  unfold Part.cat; dsimp only
  cases h : A.h <;> simp
theorem cat_l {A B : Part} {x : Nat} : x ∈ (A.cat B).l ↔ (B.h = true ∧ x ∈ A.l) ∨ x ∈ B.l := by
  unfold Part.cat; dsimp only
  cases h : B.h <;> simp
theorem acc_cat {A B : Part} {LA LB : List (Nat × Nat)} {k n m : Nat} {mk : Nat → Bool} {u : Wd} (rA : A.Rng k n) (rB : B.Rng (k + n) m) (lA : InRng LA k n) (lB : InRng LB (k + n) m) :
    Acc (A.cat B) (LA ++ LB ++ prodL A.l B.f) mk u ↔ ∃ u1 u2, u = u1 ++ u2 ∧ Acc A LA mk u1 ∧ Acc B LB mk u2 := by
  have iA : ∀ x ∈ LA, x ∈ LA ++ LB ++ prodL A.l B.f := fun x hx => List.mem_append_left _ (List.mem_append_left _ hx)
  have iB : ∀ x ∈ LB, x ∈ LA ++ LB ++ prodL A.l B.f := fun x hx => List.mem_append_left _ (List.mem_append_right _ hx)
  constructor
  · rintro (⟨h, hh⟩ | ⟨q, r, v, e, h1, h2, P⟩)
    · have : (A.h && B.h) = true := hh
      obtain ⟨h3, h4⟩ := Bool.and_eq_true_iff.mp this
      exact ⟨[], [], h, .inl ⟨rfl, h3⟩, .inl ⟨rfl, h4⟩⟩
    · have stB : ∀ x ∈ LA ++ LB ++ prodL A.l B.f, ¬ x.1 ≤ k + n → x ∈ LB ∧ ¬ x.2 ≤ k + n := fun x hx hx1 => by
        rcases List.mem_append.mp hx with h | h
        · rcases List.mem_append.mp h with h | h
          · have := lA x h; (first | exact om100 hx1 this | omega)
          · have := lB x h; exact ⟨h, by (first | exact om101 this | omega)⟩
        · have := rA.l _ (mem_prodL.mp h).1; (first | exact om104 hx1 this | omega)
      have stA : ∀ x ∈ LA ++ LB ++ prodL A.l B.f, x.1 ≤ k + n → (x ∈ LA ∧ x.2 ≤ k + n) ∨ (x.1 ∈ A.l ∧ x.2 ∈ B.f) := fun x hx hx1 => by
        rcases List.mem_append.mp hx with h | h
        · rcases List.mem_append.mp h with h | h
          · exact .inl ⟨h, (lA x h).2.2⟩
          · have := lB x h; (first | exact om105 hx1 this | omega)
        · exact .inr (mem_prodL.mp h)
      have fB : ∀ q ∈ B.f, ¬ q ≤ k + n := fun q hq => by have := rB.f q hq; (first | exact om102 this | omega)
      rcases cat_f.mp h1 with h1 | ⟨hA, h1⟩
      · have hq := rA.f q h1
        rcases P.cut (P := fun x => x ≤ k + n) stA stB fB hq.2 with ⟨hr, P'⟩ | ⟨u1, q', s, v', e', R1, hq', hs, R2⟩
        · rcases cat_l.mp h2 with ⟨hB, h2⟩ | h2
          · exact ⟨u, [], by rw [List.append_nil], .inr ⟨q, r, v, e, h1, h2, P'⟩, .inl ⟨rfl, hB⟩⟩
          · have := rB.l r h2; (first | exact om106 hr this | omega)
        · have hr : ¬ r ≤ k + n := R2.stay (P := fun x => ¬ x ≤ k + n) (fun x hx h => by have := lB x hx; (first | exact om101 this | omega)) (fB s hs)
          rcases cat_l.mp h2 with ⟨_, h2⟩ | h2
          · have := rA.l r h2; (first | exact om107 hr this | omega)
          · exact ⟨mk q :: u1, mk s :: v', by rw [e, e']; rfl, .inr ⟨q, q', u1, rfl, h1, hq', R1⟩, .inr ⟨s, r, v', rfl, hs, h2, R2⟩⟩
      · have P' := P.only (P := fun x => ¬ x ≤ k + n) stB (fB q h1)
        have hr : ¬ r ≤ k + n := P.stay (P := fun x => ¬ x ≤ k + n) (fun x hx h => (stB x hx h).2) (fB q h1)
        rcases cat_l.mp h2 with ⟨_, h2⟩ | h2
        · have := rA.l r h2; (first | exact om107 hr this | omega)
        · exact ⟨[], u, rfl, .inl ⟨rfl, hA⟩, .inr ⟨q, r, v, e, h1, h2, P'⟩⟩
  · rintro ⟨u1, u2, rfl, (⟨rfl, hA⟩ | ⟨q, r, v, rfl, h1, h2, P⟩), (⟨rfl, hB⟩ | ⟨q', r', v', rfl, h1', h2', P'⟩)⟩
    · exact .inl ⟨rfl, by show (A.h && B.h) = true; rw [hA, hB]; rfl⟩
    · exact .inr ⟨q', r', v', rfl, cat_f.mpr (.inr ⟨hA, h1'⟩), cat_l.mpr (.inr h2'), P'.mono iB⟩
    · exact .inr ⟨q, r, v, by rw [List.append_nil], cat_f.mpr (.inl h1), cat_l.mpr (.inl ⟨hB, h2⟩), P.mono iA⟩
    · exact .inr ⟨q, r', v ++ mk q' :: v', rfl, cat_f.mpr (.inl h1), cat_l.mpr (.inr h2'), (P.mono iA).app (.cons (List.mem_append_right _ (mem_prodL.mpr ⟨h2, h1'⟩)) (P'.mono iB))⟩
inductive Star (S : Wd → Prop) : Wd → Prop where
  | nil : Star S []
  | more {u v : Wd} : S u → Star S v → Star S (u ++ v)
theorem acc_star {A : Part} {LA : List (Nat × Nat)} {mk : Nat → Bool} {u : Wd} : Acc A.star (LA ++ prodL A.l A.f) mk u ↔ Star (Acc A LA mk) u := by
  have iA : ∀ x ∈ LA, x ∈ LA ++ prodL A.l A.f := fun x hx => List.mem_append_left _ hx
  constructor
  · rintro (⟨rfl, _⟩ | ⟨q, r, v, rfl, h1, h2, P⟩)
    · exact .nil
    · have key : ∀ {q r : Nat} {v : Wd}, Path (LA ++ prodL A.l A.f) mk q v r → r ∈ A.l → ∃ v1 v2 r1, v = v1 ++ v2 ∧ Path LA mk q v1 r1 ∧ r1 ∈ A.l ∧ Star (Acc A LA mk) v2 := by
        intro q r v P
        induction P with
        | nil p => exact fun hr => ⟨[], [], p, rfl, .nil _, hr, .nil⟩
        | @cons p q r u hx P ih =>
          intro hr
          obtain ⟨v1, v2, r1, rfl, P1, hr1, S⟩ := ih hr
          rcases List.mem_append.mp hx with h | h
          · exact ⟨mk q :: v1, v2, r1, rfl, .cons h P1, hr1, S⟩
          · obtain ⟨h3, h4⟩ := mem_prodL.mp h
            exact ⟨[], mk q :: (v1 ++ v2), p, rfl, .nil _, h3, .more (u := mk q :: v1) (.inr ⟨q, r1, v1, rfl, h4, hr1, P1⟩) S⟩
      obtain ⟨v1, v2, r1, rfl, P1, hr1, S⟩ := key P h2
      exact .more (u := mk q :: v1) (.inr ⟨q, r1, v1, rfl, h1, hr1, P1⟩) S
  · intro S
    induction S with
    | nil => exact .inl ⟨rfl, rfl⟩
    | @more u v hu _ ih =>
      rcases hu with ⟨rfl, _⟩ | ⟨q, r, w, rfl, h1, h2, P⟩
      · exact ih
      · rcases ih with ⟨rfl, _⟩ | ⟨q', r', w', rfl, h1', h2', P'⟩
        · rw [List.append_nil]
          exact .inr ⟨q, r, w, rfl, h1, h2, P.mono iA⟩
        · exact .inr ⟨q, r', w ++ mk q' :: w', rfl, h1, h2', (P.mono iA).app (.cons (List.mem_append_right _ (mem_prodL.mpr ⟨h2, h1'⟩)) P')⟩
noncomputable def MkOk (mk : Nat → Bool) (k : Nat) (lv : List Bool) : Prop := ∀ j d, lv[j]? = some d → mk (k + 1 + j) = d
theorem MkOk.l {mk : Nat → Bool} {k : Nat} {a b : List Bool} (h : MkOk mk k (a ++ b)) : MkOk mk k a := fun j d e => h j d (by
  have := (List.getElem?_eq_some_iff.mp e).1
  rw [List.getElem?_append_left this]; exact e)
theorem MkOk.r {mk : Nat → Bool} {k : Nat} {a b : List Bool} (h : MkOk mk k (a ++ b)) : MkOk mk (k + a.length) b := fun j d e => by
  have := h (a.length + j) d (by rw [List.getElem?_append_right (by (first | exact om108 | omega))]; rw [Nat.add_sub_cancel_left]; exact e)
  rw [← this]; congr 1; (first | exact om109 | omega)
theorem star_iff {i : It} {u : Wd} : InI (.star i) u ↔ Star (InI i) u := by
  constructor
  · intro h
    generalize hj : It.star i = j at h
    refine InI.rec (motive_1 := fun j u _ => It.star i = j → Star (InI i) u) (motive_2 := fun _ _ _ => True) (motive_3 := fun _ _ _ => True) ?_ ?_ ?_ ?_ ?_ ?_ ?_ ?_ ?_ h hj
    · intro d e; cases e
    · intro e u _ _ h; cases h
    · intro j e; exact .nil
    · intro j u v hu hv _ ih e; cases e; exact .more hu (ih rfl)
    all_goals intros; trivial
  · intro h
    induction h with
    | nil => exact .nil
    | more hu _ ih => exact .star hu ih
theorem Star.congr {S T : Wd → Prop} (h : ∀ u, S u ↔ T u) {u : Wd} : Star S u ↔ Star T u := by
  have : S = T := funext fun u => propext (h u)
  rw [this]
mutual
theorem glI {mk : Nat → Bool} : ∀ (i : It) (k : Nat) (u : Wd), MkOk mk k (lvI i) → (InI i u ↔ Acc (gI k i) (lkI k i) mk u)
  | .lit d, k, u, h => by
    rw [gI, lkI]
    have hd : mk (k + 1) = d := h 0 d (by rw [lvI]; rfl)
    constructor
    · intro q
      cases q
      exact .inr ⟨k + 1, k + 1, [], by rw [hd], by simp, by simp, .nil _⟩
    · rintro (⟨_, q⟩ | ⟨q, r, v, rfl, h1, h2, P⟩)
      · cases q
      · rw [List.mem_singleton.mp h1] at P ⊢
        cases P with
        | nil => rw [hd]; exact .lit d
        | cons q _ => cases q
  | .grp e, k, u, h => by
    rw [gI, lkI]
    rw [lvI] at h
    rw [← glE e k u h]
    exact ⟨fun q => by cases q; assumption, .grp⟩
  | .star i, k, u, h => by
    rw [gI, lkI]
    rw [lvI] at h
    rw [acc_star, star_iff]
    exact Star.congr fun u => glI i k u h
theorem glC {mk : Nat → Bool} : ∀ (c : Ch) (k : Nat) (u : Wd), MkOk mk k (lvC c) → (InC c u ↔ Acc (gC k c) (lkC k c) mk u)
  | .one i, k, u, h => by
    rw [gC, lkC]
    rw [lvC] at h
    rw [← glI i k u h]
    exact ⟨fun q => by cases q; assumption, .one⟩
  | .more c i, k, u, h => by
    rw [gC, lkC]
    rw [lvC] at h
    rw [acc_cat (rngC k c) (rngI _ i) (lk_rngC k c) (lk_rngI _ i)]
    constructor
    · intro q
      cases q with
      | more h1 h2 => exact ⟨_, _, rfl, (glC c k _ h.l).mp h1, (glI i _ _ h.r).mp h2⟩
    · rintro ⟨u1, u2, rfl, h1, h2⟩
      exact .more ((glC c k _ h.l).mpr h1) ((glI i _ _ h.r).mpr h2)
theorem glE {mk : Nat → Bool} : ∀ (e : El) (k : Nat) (u : Wd), MkOk mk k (lvE e) → (InE e u ↔ Acc (gE k e) (lkE k e) mk u)
  | .one c, k, u, h => by
    rw [gE, lkE]
    rw [lvE] at h
    rw [← glC c k u h]
    exact ⟨fun q => by cases q; assumption, .one⟩
  | .more e c, k, u, h => by
    rw [gE, lkE]
    rw [lvE] at h
    rw [acc_alt (rngE k e) (rngC _ c) (lk_rngE k e) (lk_rngC _ c), ← glE e k u h.l, ← glC c _ u h.r]
    constructor
    · intro q
      cases q with
      | l q => exact .inl q
      | r q => exact .inr q
    · rintro (q | q)
      · exact .l q
      · exact .r q
end
end
section
noncomputable def inE (e : El) (w : Wd) : Bool := @decide (InE e w) (Classical.propDecidable _)
theorem inE_iff {e : El} {w : Wd} : inE e w = true ↔ InE e w := @decide_eq_true_iff _ (Classical.propDecidable _)
noncomputable def wordsB : Nat → List Wd
  | 0 => [[]]
  | k + 1 => (wordsB k).flatMap fun w => [w ++ [false], w ++ [true]]
noncomputable def allW : List Wd := wordsB 0 ++ wordsB 1 ++ wordsB 2 ++ wordsB 3
noncomputable def strW (w : Wd) : Str := w.foldl (fun s d => s ++ (if d then Str.ofString "b" else Str.ofString "a")) Str.empty
noncomputable def wsOf (e : El) : List Str := (allW.filter (inE e)).map strW
noncomputable def runL (ps : List T3) (w : Wd) (pl : List Nat) : List Nat := w.foldl (fun pl d => ledF ps (if d then 257 else 256) pl) pl
theorem lev_eq (ps : List T3) : ∀ k, lev ps k = ((wordsB k).map fun w => (strW w, runL ps w [0])).filter fun y => decide (y.2 ≠ [])
  | 0 => rfl
  | k + 1 => by
    have drop : ∀ l : List (Str × List Nat), ((l.filter fun y => decide (y.2 ≠ [])).flatMap fun x => [(x.1 ++ Str.ofString "a", ledF ps 256 x.2), (x.1 ++ Str.ofString "b", ledF ps 257 x.2)]).filter (fun y => decide (y.2 ≠ [])) =
        (l.flatMap fun x => [(x.1 ++ Str.ofString "a", ledF ps 256 x.2), (x.1 ++ Str.ofString "b", ledF ps 257 x.2)]).filter fun y => decide (y.2 ≠ []) := by
      intro l
      induction l with
      | nil => rfl
      | cons a l ih =>
        obtain ⟨a1, a2⟩ := a
        cases a2 with
        | nil =>
          rw [List.filter_cons_of_neg (by simp), ih, List.flatMap_cons, List.filter_append]
          rfl
        | cons b r =>
          rw [List.filter_cons_of_pos (by simp), List.flatMap_cons, List.flatMap_cons, List.filter_append, List.filter_append, ih]
    rw [lev, lev_eq ps k, drop]
    congr 1
    rw [wordsB]
    generalize wordsB k = l
    induction l with
    | nil => rfl
    | cons w l ih =>
      rw [List.map_cons, List.flatMap_cons, ih, List.flatMap_cons, List.map_append]
      congr 1
      show _ = [(strW (w ++ [false]), runL ps (w ++ [false]) [0]), (strW (w ++ [true]), runL ps (w ++ [true]) [0])]
      unfold strW runL
      simp only [List.foldl_append, List.foldl_cons, List.foldl_nil]
      rfl
theorem acc_eq (ps : List T3) (ls : List Nat) (k : Nat) : accOf ps ls k = ((wordsB k).filter fun w => decide (∃ x ∈ runL ps w [0], x ∈ ls)).map strW := by
  unfold accOf
  rw [lev_eq, List.filter_filter, List.filter_map, List.map_map]
  have e : ((wordsB k).filter ((fun a : Str × List Nat => decide (a.2.filter (fun p => decide (p ∈ ls)) ≠ []) && decide (a.2 ≠ [])) ∘ fun w => (strW w, runL ps w [0]))) = (wordsB k).filter fun w => decide (∃ x ∈ runL ps w [0], x ∈ ls) := by
    refine List.filter_congr fun w _ => ?_
    show (decide ((runL ps w [0]).filter (fun p => decide (p ∈ ls)) ≠ []) && decide (runL ps w [0] ≠ [])) = _
    generalize runL ps w [0] = l
    by_cases h : ∃ x ∈ l, x ∈ ls
    · rw [decide_eq_true h]
      obtain ⟨x, hx, hl⟩ := h
      have h1 : x ∈ l.filter (fun p => decide (p ∈ ls)) := List.mem_filter.mpr ⟨hx, decide_eq_true hl⟩
      rw [decide_eq_true (List.ne_nil_of_mem h1), decide_eq_true (List.ne_nil_of_mem hx)]; rfl
    · rw [decide_eq_false h]
      have h1 : l.filter (fun p => decide (p ∈ ls)) = [] := List.filter_eq_nil_iff.mpr fun x hx hl => h ⟨x, hx, of_decide_eq_true hl⟩
      rw [h1]; rfl
  rw [e]; rfl
theorem bool_eq_of {a b : Bool} (h : a = true ↔ b = true) : a = b := by
  cases a <;> cases b <;> simp_all
/-- the machine of a pattern, its start included -/
structure Mach (ps : List T3) (e : El) (mk : Nat → Bool) : Prop where
  srt : Srt ps
  q : ∀ z ∈ ps, 1 ≤ z.2.2 ∧ z.2.2 ≤ 4
  mem : ∀ p q : Nat, ∀ d : Bool, ((p : Int), (if d then (257 : Int) else 256), (q : Int)) ∈ ps ↔ ((p, q) ∈ lkE 0 e ∨ (p = 0 ∧ q ∈ (gE 0 e).f)) ∧ mk q = d
  ok : MkOk mk 0 (lvE e)
theorem run_mem {ps : List T3} {e : El} {mk : Nat → Bool} (M : Mach ps e mk) : ∀ (w : Wd) (pl : List Nat) (x : Nat), x ∈ runL ps w pl ↔ ∃ p ∈ pl, Path (lkE 0 e ++ prodL [0] (gE 0 e).f) mk p w x
  | [], pl, x => by
    constructor
    · intro h; exact ⟨x, h, .nil _⟩
    · rintro ⟨p, hp, P⟩; cases P; exact hp
  | d :: w, pl, x => by
    have hm : ∀ p q : Nat, (p, q) ∈ lkE 0 e ++ prodL [0] (gE 0 e).f ↔ (p, q) ∈ lkE 0 e ∨ (p = 0 ∧ q ∈ (gE 0 e).f) := fun p q => by
      rw [List.mem_append, mem_prodL, List.mem_singleton]
    show x ∈ runL ps w (ledF ps (if d then 257 else 256) pl) ↔ _
    rw [run_mem M w]
    constructor
    · rintro ⟨p', hp', P⟩
      obtain ⟨p, hp, hz⟩ := ((ledF_ok M.srt M.q pl).2.2 p').mp hp'
      obtain ⟨h1, rfl⟩ := (M.mem p p' d).mp hz
      exact ⟨p, hp, .cons ((hm p p').mpr h1) P⟩
    · rintro ⟨p, hp, P⟩
      cases P with
      | @cons _ q _ _ h1 P => exact ⟨q, ((ledF_ok M.srt M.q pl).2.2 q).mpr ⟨p, hp, (M.mem p q (mk q)).mpr ⟨(hm p q).mp h1, rfl⟩⟩, P⟩
theorem run_acc {ps : List T3} {e : El} {mk : Nat → Bool} (M : Mach ps e mk) {w : Wd} (hw : w ≠ []) : (∃ x ∈ runL ps w [0], x ∈ (gE 0 e).l) ↔ InE e w := by
  rw [glE e 0 w M.ok]
  have st : ∀ x ∈ lkE 0 e ++ prodL [0] (gE 0 e).f, 0 < x.1 → x ∈ lkE 0 e ∧ 0 < x.2 := fun x hx h => by
    rcases List.mem_append.mp hx with h1 | h1
    · exact ⟨h1, (lk_rngE 0 e x h1).2.1⟩
    · have := List.mem_singleton.mp (mem_prodL.mp h1).1; (first | exact om110 h this | omega)
  constructor
  · rintro ⟨x, hx, hl⟩
    obtain ⟨p, hp, P⟩ := (run_mem M w [0] x).mp hx
    rw [List.mem_singleton] at hp; subst hp
    cases P with
    | nil => exact absurd rfl hw
    | @cons _ q _ u h1 P =>
      have hq : q ∈ (gE 0 e).f := by
        rcases List.mem_append.mp h1 with h | h
        · have := lk_rngE 0 e _ h; dsimp only at this; (first | exact om111 this | omega)
        · exact (mem_prodL.mp h).2
      exact .inr ⟨q, x, u, rfl, hq, hl, P.only (P := fun x => 0 < x) st ((rngE 0 e).f q hq).1⟩
  · rintro (⟨h, _⟩ | ⟨q, r, v, rfl, h1, h2, P⟩)
    · exact absurd h hw
    · exact ⟨r, (run_mem M _ [0] r).mpr ⟨0, by simp, .cons (List.mem_append_right _ (mem_prodL.mpr ⟨by simp, h1⟩)) (P.mono fun x hx => List.mem_append_left _ hx)⟩, h2⟩
theorem taken_ok {ps : List T3} {e : El} {mk : Nat → Bool} (M : Mach ps e mk) : takenOf ps (gE 0 e).h (gE 0 e).l = wsOf e := by
  have hk : ∀ k, (∀ w ∈ wordsB k, w ≠ []) → accOf ps (gE 0 e).l k = ((wordsB k).filter (inE e)).map strW := fun k hne => by
    rw [acc_eq]
    congr 1
    refine List.filter_congr fun w hw => bool_eq_of ?_
    rw [decide_eq_true_iff, inE_iff]
    exact run_acc M (hne w hw)
  have h0 : (if (gE 0 e).h then [Str.empty] else []) = ((wordsB 0).filter (inE e)).map strW := by
    have hh : (gE 0 e).h = inE e [] := bool_eq_of (by
      rw [inE_iff, glE e 0 [] M.ok]
      constructor
      · intro h; exact .inl ⟨rfl, h⟩
      · rintro (⟨_, h⟩ | ⟨q, r, v, h, _⟩)
        · exact h
        · cases h)
    rw [hh]
    show _ = (List.filter (inE e) [[]]).map strW
    cases hi : inE e [] with
    | true => rw [List.filter_cons_of_pos hi]; rfl
    | false => rw [List.filter_cons_of_neg (by rw [hi]; decide)]; rfl
  unfold takenOf wsOf allW
  rw [hk 1 (by decide), hk 2 (by decide), hk 3 (by decide), h0]
  simp only [List.filter_append, List.map_append]
end
section
noncomputable def wsP (S : Wd → Bool) : List Str := (allW.filter S).map strW
theorem strW_inj : ∀ a ∈ allW, ∀ b ∈ allW, strW a = strW b → a = b := by decide +kernel
theorem every_all : Str.ofString "" :: every = allW.map strW := by decide +kernel
theorem cut_all : ∀ w ∈ allW, ∀ k, k ≤ w.length → w.take k ∈ allW ∧ w.drop k ∈ allW ∧ stake (strW w) k = strW (w.take k) ∧ sdrop (strW w) k = strW (w.drop k) := by decide +kernel
theorem len_all : ∀ w ∈ allW, (strW w).length = w.length := by decide +kernel
theorem mem_wsP {S : Wd → Bool} {w : Wd} (hw : w ∈ allW) : strW w ∈ wsP S ↔ S w = true := by
  unfold wsP
  rw [List.mem_map]
  constructor
  · rintro ⟨a, ha, e⟩
    obtain ⟨h1, h2⟩ := List.mem_filter.mp ha
    rw [← strW_inj a h1 w hw e]; exact h2
  · intro h; exact ⟨w, List.mem_filter.mpr ⟨hw, h⟩, rfl⟩
theorem wsP_congr {S T : Wd → Bool} (h : ∀ w ∈ allW, S w = T w) : wsP S = wsP T := by
  unfold wsP; rw [List.filter_congr h]
theorem filter_every {P : Str → Bool} : (Str.ofString "" :: every).filter P = wsP fun w => P (strW w) := by
  rw [every_all, List.filter_map]; rfl
theorem split_iff {S T : Wd → Bool} {lo : Nat} {w : Wd} (hw : w ∈ allW) : splitIn (wsP S) (wsP T) lo (strW w) = true ↔ ∃ k, lo ≤ k ∧ k ≤ w.length ∧ S (w.take k) = true ∧ T (w.drop k) = true := by
  unfold splitIn
  rw [decide_eq_true_iff]
  constructor
  · intro h
    obtain ⟨i, hi⟩ := List.exists_mem_of_ne_nil _ h
    obtain ⟨h1, h2⟩ := List.mem_filter.mp hi
    unfold cuts at h1
    obtain ⟨j, hj, rfl⟩ := List.mem_map.mp h1
    have hj' := List.mem_range.mp hj
    rw [len_all w hw] at hj'
    have e : ((lo : Int) + (j : Nat)).toNat = lo + j := by (first | exact om112 | omega)
    unfold cutOk at h2
    rw [e] at h2
    obtain ⟨c1, c2, c3, c4⟩ := cut_all w hw (lo + j) (by (first | exact om113 hj' e | omega))
    rw [c3, c4, Bool.and_eq_true, decide_eq_true_iff, decide_eq_true_iff, mem_wsP c1, mem_wsP c2] at h2
    exact ⟨lo + j, by (first | exact om114 e | omega), by (first | exact om113 hj' e | omega), h2.1, h2.2⟩
  · rintro ⟨k, h1, h2, h3, h4⟩
    obtain ⟨c1, c2, c3, c4⟩ := cut_all w hw k h2
    refine List.ne_nil_of_mem (a := (k : Int)) (List.mem_filter.mpr ⟨?_, ?_⟩)
    · unfold cuts
      rw [len_all w hw]
      exact List.mem_map.mpr ⟨k - lo, List.mem_range.mpr (by (first | exact om115 h1 h2 | omega)), by (first | exact om116 h1 | omega)⟩
    · unfold cutOk
      rw [Int.toNat_natCast, c3, c4, Bool.and_eq_true, decide_eq_true_iff, decide_eq_true_iff, mem_wsP c1, mem_wsP c2]
      exact ⟨h3, h4⟩
theorem altW_ws (S T : Wd → Bool) : altW (wsP S) (wsP T) = wsP fun w => S w || T w := by
  unfold altW
  rw [filter_every]
  refine wsP_congr fun w hw => bool_eq_of ?_
  rw [Bool.or_eq_true, Bool.or_eq_true, decide_eq_true_iff, decide_eq_true_iff, mem_wsP hw, mem_wsP hw]
theorem catW_ws {S T U : Wd → Bool} (h : ∀ w, U w = true ↔ ∃ u v, w = u ++ v ∧ S u = true ∧ T v = true) : catW (wsP S) (wsP T) = wsP U := by
  unfold catW
  rw [filter_every]
  refine wsP_congr fun w hw => bool_eq_of ?_
  rw [split_iff hw, h]
  constructor
  · rintro ⟨k, _, _, h3, h4⟩; exact ⟨_, _, (List.take_append_drop k w).symm, h3, h4⟩
  · rintro ⟨u, v, rfl, h3, h4⟩
    exact ⟨u.length, Nat.zero_le _, by simp, by rw [List.take_left']; exact h3; rfl, by rw [List.drop_left']; exact h4; rfl⟩
theorem all_nodup : allW.Nodup := by decide +kernel
theorem all_sorted : allW.Pairwise (fun a b => a.length ≤ b.length) := by decide +kernel
theorem filter_pre {A B : List Wd} (h : allW = A ++ B) (T : Wd → Bool) : allW.filter (fun v => T v && decide (v ∈ A)) = A.filter T := by
  have nd := all_nodup
  rw [h] at nd ⊢
  have ⟨_, _, dj⟩ := List.nodup_append.mp nd
  rw [List.filter_append]
  have h1 : A.filter (fun v => T v && decide (v ∈ A)) = A.filter T := List.filter_congr fun v hv => by rw [decide_eq_true hv, Bool.and_true]
  have h2 : B.filter (fun v => T v && decide (v ∈ A)) = [] := List.filter_eq_nil_iff.mpr fun v hv hh => by
    rw [Bool.and_eq_true, decide_eq_true_iff] at hh
    exact dj v hh.2 v hv rfl
  rw [h1, h2, List.append_nil]
theorem Star.first {S : Wd → Prop} {w : Wd} (h : Star S w) : w ≠ [] → ∃ u v, u ≠ [] ∧ w = u ++ v ∧ S u ∧ Star S v := by
  induction h with
  | nil => exact fun h => absurd rfl h
  | @more u v hu hv ih =>
    intro hne
    cases u with
    | nil => exact ih hne
    | cons a u => exact ⟨a :: u, v, by simp, rfl, hu, hv⟩
theorem starW_ws {S T : Wd → Bool} (h : ∀ w, T w = true ↔ Star (fun u => S u = true) w) : starW (wsP S) = wsP T := by
  have key : ∀ (B A : List Wd), allW = A ++ B → A ≠ [] → (B.map strW).foldl (starStep (wsP S)) ((A.filter T).map strW) = (allW.filter T).map strW := by
    intro B
    induction B with
    | nil => intro A e _; rw [e, List.append_nil]; rfl
    | cons w B ih =>
      intro A e hA
      have hw : w ∈ allW := by rw [e]; simp
      have hA0 : ([] : Wd) ∈ A := by
        cases A with
        | nil => exact absurd rfl hA
        | cons a A =>
          have : allW.head? = some a := by rw [e]; rfl
          have h0 : allW.head? = some ([] : Wd) := rfl
          rw [h0] at this; cases this; exact .head _
      have hwne : w ≠ [] := fun z => by
        subst z
        have nd := all_nodup
        rw [e] at nd
        exact (List.nodup_append.mp nd).2.2 _ hA0 [] (.head _) rfl
      have hp := filter_pre e T
      have step : starStep (wsP S) ((A.filter T).map strW) (strW w) = ((A ++ [w]).filter T).map strW := by
        unfold starStep
        have hsp : splitIn (wsP S) ((A.filter T).map strW) 1 (strW w) = T w := by
          refine bool_eq_of ?_
          rw [← hp]
          show splitIn (wsP S) (wsP fun v => T v && decide (v ∈ A)) 1 (strW w) = true ↔ _
          rw [split_iff hw]
          constructor
          · rintro ⟨k, _, _, h3, h4⟩
            rw [Bool.and_eq_true] at h4
            rw [h, ← List.take_append_drop k w]
            exact .more h3 ((h _).mp h4.1)
          · intro hT
            obtain ⟨u, v, hu, rfl, h3, h4⟩ := ((h w).mp hT).first hwne
            have hul : 1 ≤ u.length := by cases u with
              | nil => exact absurd rfl hu
              | cons a u => simp
            have hd : (u ++ v).drop u.length = v := List.drop_left' rfl
            have hv : v ∈ allW := hd ▸ (cut_all _ hw u.length (by simp)).2.1
            refine ⟨u.length, hul, by simp, by rw [List.take_left' rfl]; exact h3, ?_⟩
            rw [hd, Bool.and_eq_true, decide_eq_true_iff]
            refine ⟨(h v).mpr h4, ?_⟩
            rw [e] at hv
            rcases List.mem_append.mp hv with q | q
            · exact q
            · have so := all_sorted
              rw [e] at so
              have so2 := (List.pairwise_append.mp so).2.1
              rcases List.mem_cons.mp q with q | q
              · have := congrArg List.length q; rw [List.length_append] at this; (first | exact om117 hul this | omega)
              · have := (List.pairwise_cons.mp so2).1 v q; rw [List.length_append] at this; (first | exact om118 hul this | omega)
        rw [hsp, List.filter_append, List.map_append]
        cases hT : T w with
        | true => rw [if_pos rfl, List.filter_cons_of_pos hT]; rfl
        | false => rw [if_neg Bool.false_ne_true, List.filter_cons_of_neg (by rw [hT]; decide)]; simp
      rw [List.map_cons, List.foldl_cons, step]
      exact ih (A ++ [w]) (by rw [e]; simp) (by simp)
  have hT0 : T [] = true := (h []).mpr .nil
  have := key (allW.drop 1) [[]] rfl (by simp)
  unfold starW wsP
  rw [← this]
  have e1 : (allW.drop 1).map strW = every := by decide +kernel
  rw [e1, List.filter_cons_of_pos hT0]
  rfl
end
section
mutual
noncomputable def txI (qa qb : Str) : It → Str
  | .lit d => if d then qb else qa
  | .grp e => Str.ofString "\\( " ++ txE qa qb e ++ Str.ofString "\\) "
  | .star i => txI qa qb i ++ Str.ofString "\\* "
noncomputable def txC (qa qb : Str) : Ch → Str
  | .one i => txI qa qb i
  | .more c i => txC qa qb c ++ Str.ofString "\\-\\> " ++ txI qa qb i
noncomputable def txE (qa qb : Str) : El → Str
  | .one c => txC qa qb c
  | .more e c => txE qa qb e ++ Str.ofString "\\| " ++ txC qa qb c
end
theorem str_assoc (a b c : Str) : a ++ b ++ c = a ++ (b ++ c) := by
  obtain ⟨a⟩ := a; obtain ⟨b⟩ := b; obtain ⟨c⟩ := c
  show Str.mk (a ++ b ++ c) = Str.mk (a ++ (b ++ c))
  rw [Array.append_assoc]
noncomputable def Ch.cat (c : Ch) : Ch → Ch
  | .one i => .more c i
  | .more d i => .more (c.cat d) i
noncomputable def El.cat (e : El) : El → El
  | .one c => .more e c
  | .more d c => .more (e.cat d) c
theorem cat_tx {qa qb : Str} (c : Ch) : ∀ d : Ch, txC qa qb (c.cat d) = txC qa qb c ++ Str.ofString "\\-\\> " ++ txC qa qb d
  | .one i => by rw [Ch.cat, txC, txC]
  | .more d i => by rw [Ch.cat, txC, cat_tx c d, txC]; simp only [str_assoc]
theorem ecat_tx {qa qb : Str} (c : El) : ∀ d : El, txE qa qb (c.cat d) = txE qa qb c ++ Str.ofString "\\| " ++ txE qa qb d
  | .one i => by rw [El.cat, txE, txE]
  | .more d i => by rw [El.cat, txE, ecat_tx c d, txE]; simp only [str_assoc]
theorem cat_lv (c : Ch) : ∀ d : Ch, lvC (c.cat d) = lvC c ++ lvC d
  | .one i => by rw [Ch.cat, lvC, lvC]
  | .more d i => by rw [Ch.cat, lvC, cat_lv c d, lvC, List.append_assoc]
theorem ecat_lv (c : El) : ∀ d : El, lvE (c.cat d) = lvE c ++ lvE d
  | .one i => by rw [El.cat, lvE, lvE]
  | .more d i => by rw [El.cat, lvE, ecat_lv c d, lvE, List.append_assoc]
theorem cat_dp (c : Ch) : ∀ d : Ch, dpC (c.cat d) = max (dpC c) (dpC d)
  | .one i => by rw [Ch.cat, dpC, dpC]
  | .more d i => by rw [Ch.cat, dpC, cat_dp c d, dpC]; exact Nat.max_assoc ..
theorem ecat_dp (c : El) : ∀ d : El, dpE (c.cat d) = max (dpE c) (dpE d)
  | .one i => by rw [El.cat, dpE, dpE]
  | .more d i => by rw [El.cat, dpE, ecat_dp c d, dpE]; exact Nat.max_assoc ..
theorem inC_more {c : Ch} {i : It} {w : Wd} : InC (.more c i) w ↔ ∃ u v, w = u ++ v ∧ InC c u ∧ InI i v :=
  ⟨fun h => by cases h with | more a b => exact ⟨_, _, rfl, a, b⟩, fun ⟨u, v, e, a, b⟩ => e ▸ .more a b⟩
theorem inC_one {i : It} {w : Wd} : InC (.one i) w ↔ InI i w := ⟨fun h => by cases h; assumption, .one⟩
theorem inE_one {c : Ch} {w : Wd} : InE (.one c) w ↔ InC c w := ⟨fun h => by cases h; assumption, .one⟩
theorem inE_more {e : El} {c : Ch} {w : Wd} : InE (.more e c) w ↔ InE e w ∨ InC c w :=
  ⟨fun h => by cases h with | l a => exact .inl a | r a => exact .inr a, fun h => h.elim .l .r⟩
theorem inI_grp {e : El} {w : Wd} : InI (.grp e) w ↔ InE e w := ⟨fun h => by cases h; assumption, .grp⟩
theorem cat_in (c : Ch) : ∀ (d : Ch) (w : Wd), InC (c.cat d) w ↔ ∃ u v, w = u ++ v ∧ InC c u ∧ InC d v
  | .one i, w => by
    rw [Ch.cat, inC_more]
    simp only [inC_one]
  | .more d i, w => by
    rw [Ch.cat, inC_more]
    constructor
    · rintro ⟨u, v, rfl, h1, h2⟩
      obtain ⟨u1, u2, rfl, h3, h4⟩ := (cat_in c d u).mp h1
      exact ⟨u1, u2 ++ v, List.append_assoc _ _ _, h3, .more h4 h2⟩
    · rintro ⟨u, v, rfl, h1, h2⟩
      obtain ⟨v1, v2, rfl, h3, h4⟩ := inC_more.mp h2
      exact ⟨u ++ v1, v2, (List.append_assoc _ _ _).symm, (cat_in c d _).mpr ⟨u, v1, rfl, h1, h3⟩, h4⟩
theorem ecat_in (c : El) : ∀ (d : El) (w : Wd), InE (c.cat d) w ↔ InE c w ∨ InE d w
  | .one i, w => by rw [El.cat, inE_more, inE_one]
  | .more d i, w => by rw [El.cat, inE_more, ecat_in c d w, inE_more, or_assoc]
structure PieceOk (qa qb : Str) (n : Nat) (p : Piece) (e : El) : Prop where
  lvl : (p.lvl = 2 ∧ ∃ i, e = .one (.one i)) ∨ (p.lvl = 1 ∧ ∃ c, e = .one c) ∨ p.lvl = 0
  txt : p.txt = txE qa qb e
  ws : p.ws = wsOf e
  dp : dpE e ≤ n
theorem PieceOk.up {qa qb : Str} {n : Nat} {p : Piece} {e : El} (h : PieceOk qa qb n p e) : PieceOk qa qb (n + 1) p e := ⟨h.lvl, h.txt, h.ws, by have := h.dp; (first | exact om83 this | omega)⟩
/-- a part as an item -/
theorem PieceOk.item {qa qb : Str} {n : Nat} {p : Piece} {e : El} (h : PieceOk qa qb n p e) : ∃ i, brk p.lvl p.txt 2 = txI qa qb i ∧ (∀ w, InI i w ↔ InE e w) ∧ dpI i ≤ n + 1 ∧ lvI i = lvE e := by
  have hd := h.dp
  have grp : ¬ p.lvl ≥ 2 → ∃ i, brk p.lvl p.txt 2 = txI qa qb i ∧ (∀ w, InI i w ↔ InE e w) ∧ dpI i ≤ n + 1 ∧ lvI i = lvE e := fun hl => by
    refine ⟨.grp e, ?_, fun w => inI_grp, by rw [dpI]; (first | exact om2 hd | omega), by rw [lvI]⟩
    rw [brk, if_neg hl, txI, h.txt]
  rcases h.lvl with ⟨hl, i, rfl⟩ | ⟨hl, _⟩ | hl
  · refine ⟨i, ?_, fun w => by rw [inE_one, inC_one], ?_, by rw [lvE, lvC]⟩
    · rw [brk, if_pos (by (first | exact om119 hl | omega)), h.txt, txE, txC]
    · rw [dpE, dpC] at hd; (first | exact om83 hd | omega)
  · exact grp (by (first | exact om120 hl | omega))
  · exact grp (by (first | exact om121 hl | omega))
/-- a part as a chain -/
theorem PieceOk.chain {qa qb : Str} {n : Nat} {p : Piece} {e : El} (h : PieceOk qa qb n p e) : ∃ c, brk p.lvl p.txt 1 = txC qa qb c ∧ (∀ w, InC c w ↔ InE e w) ∧ dpC c ≤ n + 1 ∧ lvC c = lvE e := by
  have hd := h.dp
  rcases h.lvl with ⟨hl, i, rfl⟩ | ⟨hl, c, rfl⟩ | hl
  · refine ⟨.one i, ?_, fun w => by rw [inE_one], ?_, by rw [lvE]⟩
    · rw [brk, if_pos (by (first | exact om122 hl | omega)), h.txt, txE]
    · rw [dpE] at hd; (first | exact om83 hd | omega)
  · refine ⟨c, ?_, fun w => by rw [inE_one], ?_, by rw [lvE]⟩
    · rw [brk, if_pos (by (first | exact om123 hl | omega)), h.txt, txE]
    · rw [dpE] at hd; (first | exact om83 hd | omega)
  · refine ⟨.one (.grp e), ?_, fun w => by rw [inC_one, inI_grp], by rw [dpC, dpI]; (first | exact om2 hd | omega), by rw [lvC, lvI]⟩
    rw [brk, if_neg (by (first | exact om124 hl | omega)), txC, txI, h.txt]
theorem wsOf_P (e : El) : wsOf e = wsP (inE e) := rfl
theorem lit_ok {qa qb : Str} (d : Bool) : PieceOk qa qb 0 (litP qa qb d) (.one (.one (.lit d))) := by
  refine ⟨.inl ⟨rfl, _, rfl⟩, by rw [txE, txC, txI]; rfl, ?_, by rw [dpE, dpC, dpI]; exact Nat.le_refl _⟩
  rw [wsOf_P]
  have h : ∀ w ∈ allW, inE (.one (.one (.lit d))) w = decide (w = [d]) := fun w _ => bool_eq_of (by
    rw [inE_iff, decide_eq_true_iff, inE_one, inC_one]
    exact ⟨fun h => by cases h; rfl, fun h => h ▸ .lit d⟩)
  rw [wsP_congr h]
  have key : ∀ d : Bool, ([if d then Str.ofString "b" else Str.ofString "a"] : List Str) = wsP fun w => decide (w = [d]) := by decide +kernel
  exact key d
theorem star_ok {qa qb : Str} {n : Nat} {p : Piece} {e : El} (h : PieceOk qa qb n p e) : ∃ e', PieceOk qa qb (n + 1) (starP p) e' ∧ lvE e' = lvE e := by
  obtain ⟨i, h1, h2, h3, h4⟩ := h.item
  refine ⟨.one (.one (.star i)), ⟨.inl ⟨rfl, _, rfl⟩, by rw [txE, txC, txI, ← h1]; rfl, ?_, by rw [dpE, dpC, dpI]; exact h3⟩, by rw [lvE, lvC, lvI]; exact h4⟩
  show starW p.ws = _
  rw [h.ws, wsOf_P, wsOf_P]
  refine starW_ws fun w => ?_
  rw [inE_iff, inE_one, inC_one, star_iff]
  exact Star.congr fun u => by rw [h2, inE_iff]
theorem alt_ok {qa qb : Str} {n : Nat} {p q : Piece} {e e' : El} (h : PieceOk qa qb n p e) (h' : PieceOk qa qb n q e') : PieceOk qa qb (n + 1) (altP p q) (e.cat e') := by
  have hd := h.dp
  have hd' := h'.dp
  refine ⟨.inr (.inr rfl), by rw [ecat_tx, ← h.txt, ← h'.txt]; rfl, ?_, by rw [ecat_dp]; (first | exact om125 hd hd' | omega)⟩
  show altW p.ws q.ws = _
  rw [h.ws, h'.ws, wsOf_P, wsOf_P, wsOf_P, altW_ws]
  exact wsP_congr fun w _ => bool_eq_of (by rw [Bool.or_eq_true, inE_iff, inE_iff, inE_iff, ecat_in])
theorem cat_ok {qa qb : Str} {n : Nat} {p q : Piece} {e e' : El} (h : PieceOk qa qb n p e) (h' : PieceOk qa qb n q e') : ∃ e2, PieceOk qa qb (n + 1) (catP p q) e2 ∧ lvE e2 = lvE e ++ lvE e' := by
  obtain ⟨c, h1, h2, h3, h4⟩ := h.chain
  obtain ⟨c', h1', h2', h3', h4'⟩ := h'.chain
  refine ⟨.one (c.cat c'), ⟨.inr (.inl ⟨rfl, _, rfl⟩), by rw [txE, cat_tx, ← h1, ← h1']; rfl, ?_, by rw [dpE, cat_dp]; (first | exact om126 h3 h3' | omega)⟩, by rw [lvE, cat_lv, h4, h4']⟩
  show catW p.ws q.ws = _
  rw [h.ws, h'.ws, wsOf_P, wsOf_P, wsOf_P]
  refine catW_ws fun w => ?_
  rw [inE_iff, inE_one, cat_in]
  simp only [h2, h2', inE_iff]
theorem reach_ok {qa qb : Str} {n : Nat} {ps : List Piece} (h : Reach qa qb n ps) : ∃ xs : List (Piece × El), ps = xs.map (·.1) ∧ (∀ x ∈ xs, PieceOk qa qb n x.1 x.2) ∧ (xs.flatMap fun x => lvE x.2).length = 4 := by
  induction h with
  | init d0 d1 d2 d3 =>
    refine ⟨[d0, d1, d2, d3].map fun d => (litP qa qb d, .one (.one (.lit d))), by rw [List.map_map]; rfl, fun x hx => ?_, rfl⟩
    obtain ⟨d, _, rfl⟩ := List.mem_map.mp hx
    exact lit_ok d
  | @star n A B p _ ih =>
    obtain ⟨xs, e, ok, l4⟩ := ih
    obtain ⟨xa, xb, rfl, rfl, e2⟩ := List.map_eq_append_iff.mp e.symm
    obtain ⟨x, xb', rfl, rfl, rfl⟩ := List.map_eq_cons_iff.mp e2
    obtain ⟨e', h1, h2⟩ := star_ok (ok x (by simp))
    refine ⟨xa ++ (starP x.1, e') :: xb', by simp, fun y hy => ?_, ?_⟩
    · rcases List.mem_append.mp hy with q | q
      · exact (ok y (by simp [q])).up
      · rcases List.mem_cons.mp q with rfl | q
        · exact h1
        · exact (ok y (by simp [q])).up
    · rw [List.flatMap_append, List.flatMap_cons, List.length_append, List.length_append] at l4 ⊢
      dsimp only
      rw [h2]; exact l4
  | @alt n A B p q _ ih =>
    obtain ⟨xs, e, ok, l4⟩ := ih
    obtain ⟨xa, xb, rfl, rfl, e2⟩ := List.map_eq_append_iff.mp e.symm
    obtain ⟨x, xb', rfl, rfl, e3⟩ := List.map_eq_cons_iff.mp e2
    obtain ⟨x2, xb2, rfl, rfl, rfl⟩ := List.map_eq_cons_iff.mp e3
    have h1 := alt_ok (ok x (by simp)) (ok x2 (by simp))
    refine ⟨xa ++ (altP x.1 x2.1, x.2.cat x2.2) :: xb2, by simp, fun y hy => ?_, ?_⟩
    · rcases List.mem_append.mp hy with q | q
      · exact (ok y (by simp [q])).up
      · rcases List.mem_cons.mp q with rfl | q
        · exact h1
        · exact (ok y (by simp [q])).up
    · rw [List.flatMap_append, List.flatMap_cons, List.length_append, List.length_append] at l4 ⊢
      rw [List.flatMap_cons, List.length_append] at l4
      dsimp only
      rw [ecat_lv, List.length_append]; (first | exact om127 l4 | omega)
  | @cat n A B p q _ ih =>
    obtain ⟨xs, e, ok, l4⟩ := ih
    obtain ⟨xa, xb, rfl, rfl, e2⟩ := List.map_eq_append_iff.mp e.symm
    obtain ⟨x, xb', rfl, rfl, e3⟩ := List.map_eq_cons_iff.mp e2
    obtain ⟨x2, xb2, rfl, rfl, rfl⟩ := List.map_eq_cons_iff.mp e3
    obtain ⟨e', h1, h2⟩ := cat_ok (ok x (by simp)) (ok x2 (by simp))
    refine ⟨xa ++ (catP x.1 x2.1, e') :: xb2, by simp, fun y hy => ?_, ?_⟩
    · rcases List.mem_append.mp hy with q | q
      · exact (ok y (by simp [q])).up
      · rcases List.mem_cons.mp q with rfl | q
        · exact h1
        · exact (ok y (by simp [q])).up
    · rw [List.flatMap_append, List.flatMap_cons, List.length_append, List.length_append] at l4 ⊢
      rw [List.flatMap_cons, List.length_append] at l4
      dsimp only
      rw [h2, List.length_append]; (first | exact om127 l4 | omega)
end
section
theorem cps_app (a b : Str) : (a ++ b).cps.toList = a.cps.toList ++ b.cps.toList := by
  obtain ⟨a⟩ := a; obtain ⟨b⟩ := b
  show (a ++ b).toList = _
  rw [Array.toList_append]
theorem lexQ_end (R : List Nat) (t : Str) : lexQ (34 :: R) t = some (t, R) := by cases R <;> rfl
theorem lexU_end (R : List Nat) (t : Str) : lexU (32 :: R) t = some (t, R) := by cases R <;> rfl
theorem lex_nl (R : List Nat) : lexTok (10 :: R) = lexTok R := by cases R <;> rfl
theorem lex_q0 (R : List Nat) : lexTok ((Str.ofString "\"\\\"\"").cps.toList ++ R) = some (Str.ofString "\"", R) := by
  rw [show (Str.ofString "\"\\\"\"").cps.toList = [34, 92, 34, 34] from by decide +kernel]
  show lexQ (34 :: R) (Str.empty ++ ch 34) = _
  rw [lexQ_end, show Str.empty ++ ch 34 = Str.ofString "\"" from by decide +kernel]
theorem lex_q1 (R : List Nat) : lexTok ((Str.ofString "\"#\"").cps.toList ++ R) = some (Str.ofString "#", R) := by
  rw [show (Str.ofString "\"#\"").cps.toList = [34, 35, 34] from by decide +kernel]
  show lexQ (34 :: R) (Str.empty ++ ch 35) = _
  rw [lexQ_end, show Str.empty ++ ch 35 = Str.ofString "#" from by decide +kernel]
theorem lex_q2 (R : List Nat) : lexTok ((Str.ofString "\"\\\\\"").cps.toList ++ R) = some (Str.ofString "\\", R) := by
  rw [show (Str.ofString "\"\\\\\"").cps.toList = [34, 92, 92, 34] from by decide +kernel]
  show lexQ (34 :: R) (Str.empty ++ ch 92) = _
  rw [lexQ_end, show Str.empty ++ ch 92 = Str.ofString "\\" from by decide +kernel]
theorem lex_q3 (R : List Nat) : lexTok ((Str.ofString "\"a b\"").cps.toList ++ R) = some (Str.ofString "a b", R) := by
  rw [show (Str.ofString "\"a b\"").cps.toList = [34, 97, 32, 98, 34] from by decide +kernel]
  show lexQ (34 :: R) (Str.empty ++ ch 97 ++ ch 32 ++ ch 98) = _
  rw [lexQ_end, show Str.empty ++ ch 97 ++ ch 32 ++ ch 98 = Str.ofString "a b" from by decide +kernel]
theorem lex_open (R : List Nat) : lexTok ((Str.ofString "\\( ").cps.toList ++ R) = some (tOpen, R) := by
  rw [show (Str.ofString "\\( ").cps.toList = [92, 40, 32] from by decide +kernel]
  show lexU (32 :: R) (Str.empty ++ ch 40) = _
  rw [lexU_end, show Str.empty ++ ch 40 = tOpen from by decide +kernel]
theorem lex_close (R : List Nat) : lexTok ((Str.ofString "\\) ").cps.toList ++ R) = some (tClose, R) := by
  rw [show (Str.ofString "\\) ").cps.toList = [92, 41, 32] from by decide +kernel]
  show lexU (32 :: R) (Str.empty ++ ch 41) = _
  rw [lexU_end, show Str.empty ++ ch 41 = tClose from by decide +kernel]
theorem lex_star (R : List Nat) : lexTok ((Str.ofString "\\* ").cps.toList ++ R) = some (tStar, R) := by
  rw [show (Str.ofString "\\* ").cps.toList = [92, 42, 32] from by decide +kernel]
  show lexU (32 :: R) (Str.empty ++ ch 42) = _
  rw [lexU_end, show Str.empty ++ ch 42 = tStar from by decide +kernel]
theorem lex_bar (R : List Nat) : lexTok ((Str.ofString "\\| ").cps.toList ++ R) = some (tBar, R) := by
  rw [show (Str.ofString "\\| ").cps.toList = [92, 124, 32] from by decide +kernel]
  show lexU (32 :: R) (Str.empty ++ ch 124) = _
  rw [lexU_end, show Str.empty ++ ch 124 = tBar from by decide +kernel]
theorem lex_arrow (R : List Nat) : lexTok ((Str.ofString "\\-\\> ").cps.toList ++ R) = some (tArrow, R) := by
  rw [show (Str.ofString "\\-\\> ").cps.toList = [92, 45, 92, 62, 32] from by decide +kernel]
  show lexU (32 :: R) (Str.empty ++ ch 45 ++ ch 62) = _
  rw [lexU_end, show Str.empty ++ ch 45 ++ ch 62 = tArrow from by decide +kernel]
noncomputable abbrev LexTo (q w : Str) : Prop := ∀ R, lexTok (q.cps.toList ++ R) = some (w, R)
mutual
theorem toksI {qa qb la lb : Str} (ha : LexTo qa la) (hb : LexTo qb lb) : ∀ (i : It) (R : List Nat) (ts : List Str), Toks R ts → Toks ((txI qa qb i).cps.toList ++ R) (tkI la lb i ++ ts)
  | .lit d, R, ts, h => by
    rw [txI, tkI]
    cases d
    · exact .cons (ha R) h
    · exact .cons (hb R) h
  | .grp e, R, ts, h => by
    rw [txI, tkI, cps_app, cps_app, List.append_assoc, List.append_assoc, List.cons_append, List.append_assoc]
    exact .cons (lex_open _) (toksE ha hb e _ _ (.cons (lex_close R) h))
  | .star i, R, ts, h => by
    rw [txI, tkI, cps_app, List.append_assoc, List.append_assoc]
    exact toksI ha hb i _ _ (.cons (lex_star R) h)
theorem toksC {qa qb la lb : Str} (ha : LexTo qa la) (hb : LexTo qb lb) : ∀ (c : Ch) (R : List Nat) (ts : List Str), Toks R ts → Toks ((txC qa qb c).cps.toList ++ R) (tkC la lb c ++ ts)
  | .one i, R, ts, h => by rw [txC, tkC]; exact toksI ha hb i R ts h
  | .more c i, R, ts, h => by
    rw [txC, tkC, cps_app, cps_app, List.append_assoc, List.append_assoc, List.append_assoc, List.cons_append]
    exact toksC ha hb c _ _ (.cons (lex_arrow _) (toksI ha hb i R ts h))
theorem toksE {qa qb la lb : Str} (ha : LexTo qa la) (hb : LexTo qb lb) : ∀ (e : El) (R : List Nat) (ts : List Str), Toks R ts → Toks ((txE qa qb e).cps.toList ++ R) (tkE la lb e ++ ts)
  | .one c, R, ts, h => by rw [txE, tkE]; exact toksC ha hb c R ts h
  | .more e c, R, ts, h => by
    rw [txE, tkE, cps_app, cps_app, List.append_assoc, List.append_assoc, List.append_assoc, List.cons_append]
    exact toksE ha hb e _ _ (.cons (lex_bar _) (toksC ha hb c R ts h))
end
end
section
mutual
theorem tkl_I {qa qb la lb : Str} (ha : 1 ≤ qa.length) (hb : 1 ≤ qb.length) : ∀ i : It, (tkI la lb i).length ≤ (txI qa qb i).length
  | .lit d => by rw [tkI, txI]; cases d <;> simpa
  | .grp e => by
    have e1 : (Str.ofString "\\( ").length = 3 := by decide +kernel
    have e2 : (Str.ofString "\\) ").length = 3 := by decide +kernel
    have := tkl_E (la := la) (lb := lb) ha hb e
    rw [tkI, txI, Str.length_append, Str.length_append, List.length_cons, List.length_append, List.length_singleton]; (first | exact om128 e1 e2 this | omega)
  | .star i => by
    have e1 : (Str.ofString "\\* ").length = 3 := by decide +kernel
    have := tkl_I (la := la) (lb := lb) ha hb i
    rw [tkI, txI, Str.length_append, List.length_append, List.length_singleton]; (first | exact om129 e1 this | omega)
theorem tkl_C {qa qb la lb : Str} (ha : 1 ≤ qa.length) (hb : 1 ≤ qb.length) : ∀ c : Ch, (tkC la lb c).length ≤ (txC qa qb c).length
  | .one i => by rw [tkC, txC]; exact tkl_I ha hb i
  | .more c i => by
    have e1 : (Str.ofString "\\-\\> ").length = 5 := by decide +kernel
    have := tkl_I (la := la) (lb := lb) ha hb i
    have := tkl_C (la := la) (lb := lb) ha hb c
    rw [tkC, txC, Str.length_append, Str.length_append, List.length_append, List.length_cons]; (first | exact om130 e1 ‹_› this | omega)
theorem tkl_E {qa qb la lb : Str} (ha : 1 ≤ qa.length) (hb : 1 ≤ qb.length) : ∀ e : El, (tkE la lb e).length ≤ (txE qa qb e).length
  | .one c => by rw [tkE, txE]; exact tkl_C ha hb c
  | .more e c => by
    have e1 : (Str.ofString "\\| ").length = 3 := by decide +kernel
    have := tkl_C (la := la) (lb := lb) ha hb c
    have := tkl_E (la := la) (lb := lb) ha hb e
    rw [tkE, txE, Str.length_append, Str.length_append, List.length_append, List.length_cons]; (first | exact om131 e1 ‹_› this | omega)
end
noncomputable abbrev NoNl (x : Str) : Prop := x.cps.toList.count 10 = 0
theorem nonl_app {a b : Str} (h : NoNl a) (h' : NoNl b) : NoNl (a ++ b) := by unfold NoNl; rw [cps_app, List.count_append, h, h']
mutual
theorem nl_I {qa qb : Str} (ha : NoNl qa) (hb : NoNl qb) : ∀ i : It, NoNl (txI qa qb i)
  | .lit d => by rw [txI]; cases d <;> assumption
  | .grp e => by rw [txI]; exact nonl_app (nonl_app (by decide +kernel) (nl_E ha hb e)) (by decide +kernel)
  | .star i => by rw [txI]; exact nonl_app (nl_I ha hb i) (by decide +kernel)
theorem nl_C {qa qb : Str} (ha : NoNl qa) (hb : NoNl qb) : ∀ c : Ch, NoNl (txC qa qb c)
  | .one i => by rw [txC]; exact nl_I ha hb i
  | .more c i => by rw [txC]; exact nonl_app (nonl_app (nl_C ha hb c) (by decide +kernel)) (nl_I ha hb i)
theorem nl_E {qa qb : Str} (ha : NoNl qa) (hb : NoNl qb) : ∀ e : El, NoNl (txE qa qb e)
  | .one c => by rw [txE]; exact nl_C ha hb c
  | .more e c => by rw [txE]; exact nonl_app (nonl_app (nl_E ha hb e) (by decide +kernel)) (nl_C ha hb c)
end
theorem q_lex : ∀ k, k < 4 → LexTo (qs.getD k Str.empty) (wds.getD k Str.empty)
  | 0, _ => lex_q0
  | 1, _ => lex_q1
  | 2, _ => lex_q2
  | 3, _ => lex_q3
theorem q_nl : ∀ k, k < 4 → NoNl (qs.getD k Str.empty) := by decide +kernel
theorem q_len : ∀ k, k < 4 → 1 ≤ (qs.getD k Str.empty).length ∧ (qs.getD k Str.empty).length ≤ 5 := by decide +kernel
theorem w_tok : ∀ k, k < 4 → TokAt (wds.getD k Str.empty) none
  | 0, _ => tok_quote
  | 1, _ => tok_hash
  | 2, _ => tok_back
  | 3, _ => tok_ab
theorem w_ne : ∀ k, k < 4 → wds.getD k Str.empty ≠ Str.empty := by decide +kernel
theorem w_lt : ∀ j, j < 4 → ∀ k, k < 4 → ((wds.getD j Str.empty).cps.toList < (wds.getD k Str.empty).cps.toList ↔ j < k) := by decide +kernel
theorem two_ok {f g : Nat} (hf : f < 4) (hg : g < 4) (hne : f ≠ g) : TwoWords (wds.getD f Str.empty) (wds.getD g Str.empty) (wds.getD (min f g) Str.empty) (wds.getD (max f g) Str.empty) := by
  have h1 : min f g < 4 := by (first | exact om132 hf hg | omega)
  have h2 : max f g < 4 := by (first | exact om133 hf hg | omega)
  refine ⟨?_, w_ne _ h1, w_ne _ h2, w_tok _ h1, w_tok _ h2, (w_lt _ h1 _ h2).mpr (by (first | exact om134 hne | omega)), fun h => by have := (w_lt _ h2 _ h1).mp h; (first | exact om135 this | omega), fun h => by have := (w_lt _ h1 _ h1).mp h; (first | exact om136 this | omega), fun h => by have := (w_lt _ h2 _ h2).mp h; (first | exact om137 this | omega)⟩
  rcases Nat.lt_or_ge f g with h | h
  · exact .inl ⟨by rw [Nat.min_eq_left (by (first | exact om138 h | omega))], by rw [Nat.max_eq_right (by (first | exact om138 h | omega))]⟩
  · exact .inr ⟨by rw [Nat.max_eq_left (by (first | exact om139 h | omega))], by rw [Nat.min_eq_right (by (first | exact om139 h | omega))]⟩
theorem mach_ok {ps : List T3} {e : El} (hs : Srt ps) (hps : ∀ z, z ∈ ps ↔ (∃ x ∈ lkE 0 e, z = lnk (lvE e) x.1 x.2) ∨ ∃ y ∈ (gE 0 e).f, z = lnk (lvE e) 0 y) (h4 : ∀ z ∈ ps, 1 ≤ z.2.2 ∧ z.2.2 ≤ 4) : Mach ps e fun q => (lvE e).getD (q - 1) false := by
  refine ⟨hs, h4, fun p q d => ?_, fun j d h => ?_⟩
  · have hl : ∀ a b : Nat, ((p : Int), (if d then (257 : Int) else 256), (q : Int)) = lnk (lvE e) a b ↔ (p = a ∧ q = b ∧ (lvE e).getD (q - 1) false = d) := fun a b => by
      unfold lnk markOf num
      rw [Prod.mk.injEq, Prod.mk.injEq]
      constructor
      · rintro ⟨h1, h2, h3⟩
        have e1 : p = a := by (first | exact om140 h1 | omega)
        have e2 : q = b := by (first | exact om140 h3 | omega)
        subst e1 e2
        refine ⟨rfl, rfl, ?_⟩
        cases hx : (lvE e).getD (q - 1) false <;> cases d <;> rw [hx] at h2 <;> simp_all
      · rintro ⟨rfl, rfl, h⟩
        rw [h]; exact ⟨rfl, rfl, rfl⟩
    rw [hps]
    constructor
    · rintro (⟨x, hx, e1⟩ | ⟨y, hy, e1⟩)
      · obtain ⟨rfl, rfl, h⟩ := (hl _ _).mp e1
        exact ⟨.inl hx, h⟩
      · obtain ⟨rfl, rfl, h⟩ := (hl _ _).mp e1
        exact ⟨.inr ⟨rfl, hy⟩, h⟩
    · rintro ⟨hx | ⟨rfl, hy⟩, h⟩
      · exact .inl ⟨(p, q), hx, (hl _ _).mpr ⟨rfl, rfl, h⟩⟩
      · exact .inr ⟨q, hy, (hl _ _).mpr ⟨rfl, rfl, h⟩⟩
  · show (lvE e).getD (0 + 1 + j - 1) false = d
    rw [show 0 + 1 + j - 1 = j from by (first | exact om141 | omega), List.getD_eq_getElem?_getD, h]; rfl
theorem toks_nl {X : List Nat} {ts : List Str} (h : Toks X ts) (hne : ts ≠ []) : Toks (10 :: X) ts := by
  cases h with
  | nil => exact absurd rfl hne
  | cons h t => exact .cons (by rw [lex_nl]; exact h) t
theorem hpat (f g : Nat) (p : Piece) (hf : f < 4) (hg : g < 4) (hfg : f ≠ g) (hr : ∃ k, k ≤ 8 ∧ Reach (qs.getD (min f g) Str.empty) (qs.getD (max f g) Str.empty) k [p]) (hlen : p.txt.length ≤ 6000) : ∃ e la lb, PatOk f g p e la lb := by
  obtain ⟨k, hk, r⟩ := hr
  obtain ⟨xs, e1, ok, l4⟩ := reach_ok r
  obtain ⟨x, rfl⟩ : ∃ x, xs = [x] := by
    match xs, e1 with
    | [x], _ => exact ⟨x, rfl⟩
  obtain rfl : p = x.1 := by cases e1; rfl
  have K := ok x (.head _)
  have h1 : min f g < 4 := by (first | exact om132 hf hg | omega)
  have h2 : max f g < 4 := by (first | exact om133 hf hg | omega)
  have e2 : (Str.ofString "\"\"\n").length = 3 := by decide +kernel
  have e3 : (Str.ofString "\n").length = 1 := by decide +kernel
  have l1 := q_len f hf
  have l2 := q_len g hg
  have hd := K.dp
  refine ⟨x.2, wds.getD (min f g) Str.empty, wds.getD (max f g) Str.empty, two_ok hf hg hfg, by (first | exact om142 hk hd | omega), by simpa using l4, ?_, ?_, ?_, ?_, fun ps hs hps h4 => ?_, ?_⟩
  · have := tkl_E (la := wds.getD (min f g) Str.empty) (lb := wds.getD (max f g) Str.empty) (q_len _ h1).1 (q_len _ h2).1 x.2
    rw [K.txt] at hlen; (first | exact om143 hlen this | omega)
  · unfold textOf
    rw [Str.length_append, Str.length_append, Str.length_append, Str.length_append]; (first | exact om144 hlen e2 e3 l1 l2 | omega)
  · unfold textOf
    rw [cps_app, cps_app, cps_app, cps_app, List.count_append, List.count_append, List.count_append, List.count_append, q_nl f hf, q_nl g hg, K.txt, nl_E (q_nl _ h1) (q_nl _ h2) x.2]
    decide +kernel
  · unfold textOf
    rw [cps_app, cps_app, cps_app, cps_app, K.txt]
    rw [show (Str.ofString "\"\"\n").cps.toList = [34, 34, 10] from by decide +kernel, show (Str.ofString "\n").cps.toList = [10] from by decide +kernel]
    simp only [List.append_assoc]
    have body := toksE (q_lex _ h1) (q_lex _ h2) x.2 [10] [Str.empty] (.cons (by rfl) .nil)
    have head : Toks (10 :: ((txE (qs.getD (min f g) Str.empty) (qs.getD (max f g) Str.empty) x.2).cps.toList ++ [10])) (tkE (wds.getD (min f g) Str.empty) (wds.getD (max f g) Str.empty) x.2 ++ [Str.empty]) := by
      have hne : tkE (wds.getD (min f g) Str.empty) (wds.getD (max f g) Str.empty) x.2 ++ [Str.empty] ≠ [] := by simp
      exact toks_nl body hne
    refine .cons (q_lex f hf _) (.cons (q_lex g hg _) (.cons ?_ head))
    exact lexQ_end _ _
  · rw [taken_ok (mach_ok hs hps h4), K.ws]
  · rw [K.ws]
    unfold wsOf
    rw [List.length_map]
    refine Nat.le_trans (List.length_filter_le _ _) (by decide +kernel)
theorem law_fs (w : World) (ns : List Int) (hn : ns.length ≤ 63) : FS w 40 (.ref 183) [.lst (ns.map .int)] [(121, .raw (tabObj #[]))] fun a m => a = .bool true ∧ ∃ ps, (121, AO.raw (tabObj ps)) ∈ m :=
  law_spec (n := 5) hn hpat fun L => ⟨rfl, L.tps, by walk_at "mem"⟩
end
end Mine
end
section
open PySem PySem.W PyProof.Rows
set_option maxRecDepth 100000
set_option maxHeartbeats 8000000
namespace Mine
noncomputable abbrev rl : OpenLaw := Challenge.rw_rl0097_01
theorem sa1 : noRoadLSs { strict := !(importedModules prog.main.body).all cThrough.contains, foot := none, bare := (["vars", "dir", "locals"] : List Str).filter (readsOut prog prog.main.body) } prog.main.body = true := by kernel_rfl
theorem sa2 : namesMeet prog prog.main.body (fun _ n => attrL n) = true := by kernel_rfl
theorem sa3 : namesResolve prog = true := by kernel_rfl
theorem sa4 : prog.boundNames.all (fun n => !worldNames.contains n) = true := by kernel_rfl
theorem said0 : looksOpen prog = true := by
  unfold looksOpen
  repeat' (with_reducible refine look_both ?_ ?_)
  all_goals with_reducible first | exact sa1 | exact sa2 | exact sa3 | exact sa4 | skip
  all_goals kernel_rfl
theorem said1 : rl.row.wellSaid = true := by
  unfold OpenRow.wellSaid OpenRow.partSaid
  repeat' (with_reducible refine look_both ?_ ?_)
  · exact said0
  all_goals kernel_rfl
theorem said2 : noClassBlock rl.prog rl.footing = true := by kernel_rfl
theorem said3 : noRoadLSs { strict := true, foot := some rl.bound', writes := rl.writes, may := rl.may } rl.footing = true := by kernel_rfl
theorem said4 : (rl.bound'.all (fun n => !builtinNamed n || rl.about == [n] || !rl.reads n)) = true := by kernel_rfl
theorem said5 : namesMeet rl.prog rl.footing (fun sc n => (!(["type", "isinstance", "issubclass", "getattr", "hasattr"] : List Str).contains n || sc.names.lookup n == some .globalImplicit) &&
    (rl.may != some n || sc.kind == .module || sc.names.lookup n == some .globalImplicit)) = true := by kernel_rfl
theorem said6 : namesMeet rl.prog rl.above (fun _ n => !rl.own.contains n) = true := by kernel_rfl
theorem law_said : rl.wellSaid = true := by
  unfold OpenLaw.wellSaid
  repeat' (with_reducible refine look_both ?_ ?_)
  · exact said1
  all_goals with_reducible first | exact said2 | exact said3 | exact said4 | exact said5 | exact said6 | skip
  all_goals kernel_rfl
end Mine
end
section
open PySem PySem.W PyProof.Rows
set_option maxRecDepth 100000
set_option maxHeartbeats 8000000
namespace Mine
/-- the machine's pieces behind the boot: the objects that the opening of the text makes -/
noncomputable def oT (P : Params) : Obj := { cls := .type "tuple", data := .seq #[] }
noncomputable def oN (P : Params) : Obj := { cls := .none, data := .fields #[] }
noncomputable def oM (P : Params) : Obj := { cls := .type "code", data := .fields #[kS "<module>" 182, kS "<module>" 183, kS "/claim/cut.py" 184, .int 1 0, .int 0 0, .int 0 0, .int 0 0, .int 0 0, .ref 11, .bool false, .int 181 0, .ref 12, kN, kN, kN, kN, .int 185 0, .int 1 0, kS "/claim/cut.py" 186] }
noncomputable def oF (P : Params) : Obj := { cls := .type "frame", slots := #[some (.ref 13), some (.ref 3), some (.ref 3), none, some (kS "__main__" 164), none, some (.ref 0)] }
noncomputable def env0 : Env := { scope := prog.main.scope, locals := mainNs, globals := mainNs, cells := [], code := .ref 13, frame := some 14 }
noncomputable def tree0 (P : Params) : BT :=
  .node (boot_o_0 P)
    (.node (boot_o_1 P) (.node (boot_o_3 P) (.node (boot_o_7 P) .nil .nil) (.node (oT P) .nil .nil)) (.node (boot_o_5 P) (.node (boot_o_9 P) .nil .nil) (.node (oM P) .nil .nil)))
    (.node (boot_o_2 P) (.node (boot_o_4 P) (.node (boot_o_8 P) .nil .nil) (.node (oN P) .nil .nil)) (.node (boot_o_6 P) (.node (boot_o_10 P) .nil .nil) (.node (oF P) .nil .nil)))
noncomputable def p0 : Pos := { line := 0, col := 0, endLine := 0, endCol := 0 }
noncomputable def bE : List Stmt := behindTheImports prog
noncomputable def cE : Code := .body bE env0
noncomputable abbrev ann0 : Option Value := some (.ref 6)
/-- the view: the law's def alone; every other name is loose -/
noncomputable def qv : Program := { prog with main := { prog.main with body := [stAt 73] } }
noncomputable def lo : List Str := (prog.main.scope.names.map (·.1)).filter fun x => x != Str.ofString "law"
noncomputable def Xq (s : Shared) : Bool := xlAt qv [] s && recOk [] s
noncomputable abbrev HK : Hook := kmHook KH asK asK_eq [121]
/-- what the head asks of the state behind the top -/
noncomputable def asks (H : Heap) (s : Shared) :=
  (staticsOk (importedModules prog.main.body) H s.heap && namesBound prog s.heap && gensDone s && laidKept H s.heap, openSeen qv lo (importedModules prog.main.body) Xq true s, HK.obs s)
theorem left_of {p q : Program} {loose : List Str} {Xt : Shared → Bool} {α : Type} {Yf : Shared → α} {Ya : World → α} {n : Nat} {g0 : Bool} {H₀ : Params → Heap} {gs₀ : Array GenState} {d₀ : Drawn} {k₀ : Nat} {m₀ : Nat} {ann : Option Value} {M : Nat}
    (open_ : ∀ w : World, (fencedOpening treeTable p w n).map (fun s => (s.heap, s.gens, s.drawn, s.toks)) = some (H₀ w.params, gs₀, d₀, k₀))
    (size : ∀ w : World, ((H₀ w.params).isNs mainGlobals && gs₀.size == 0, (H₀ w.params).objs.size, (H₀ w.params).nsMap mainGlobals "__annotations__") = (true, m₀, ann))
    (run : ∀ (w : World) (os : OsState), ∃ s₁, topRun treeTable p w m₀ ann M ⟨H₀ w.params, gs₀, d₀, k₀, os⟩ (topStub p) = some s₁ ∧
      (staticsOk (importedModules p.main.body) (H₀ w.params) s₁.heap && namesBound p s₁.heap && gensDone s₁ && laidKept (H₀ w.params) s₁.heap, openSeen q loose (importedModules p.main.body) Xt g0 s₁, Yf s₁) = (true, openGood q loose, Ya w)) (le : Nat.ble M n = true) :
    LeftO p q loose Xt Yf Ya n g0 := fun w => by
  obtain ⟨⟨h, gs, d, k, os⟩, e, e'⟩ := Option.map_eq_some_iff.mp (open_ w)
  obtain ⟨rfl, rfl, rfl, rfl⟩ : h = H₀ w.params ∧ gs = gs₀ ∧ d = d₀ ∧ k = k₀ := by simpa using e'
  obtain ⟨z1, z2, z3⟩ : _ ∧ _ ∧ _ := by simpa only [Prod.mk.injEq] using size w
  obtain ⟨s₁, r, l⟩ := run w os
  obtain ⟨l1, l2, l3⟩ : _ ∧ _ ∧ _ := by simpa only [Prod.mk.injEq] using l
  have r := topRun_mono (n - M) _ _ _ _ r
  rw [show M + (n - M) = n by have := Nat.le_of_ble_eq_true le; omega] at r
  have t : topFrom treeTable p w n ⟨H₀ w.params, gs, d, k, os⟩ = some s₁ := by
    unfold topFrom
    dsimp only
    rw [z1, z2, z3, r]
    show (match staticsOk (importedModules p.main.body) (H₀ w.params) s₁.heap && namesBound p s₁.heap && gensDone s₁ && laidKept (H₀ w.params) s₁.heap with | true => _ | false => _) = _
    rw [l1]
  unfold openEnds
  rw [e, Option.bind_some, t, Option.map_some, l2, l3]
theorem boot : ∀ w : World, (fencedOpening treeTable prog w 4870).map (fun s => (s.heap, s.gens, s.drawn, s.toks)) = some (boot_heap w.params, Array.mk [], boot_drawn, boot_toks) :=
  boot_open (by kernel_rfl) (by kernel_rfl) (fun s => by kernel_rfl)
theorem size0 (w : World) : ((boot_heap w.params).isNs mainGlobals && (Array.mk [] : Array GenState).size == 0, (boot_heap w.params).objs.size, (boot_heap w.params).nsMap mainGlobals "__annotations__") = (true, 11, ann0) := by kernel_rfl
noncomputable def sh0 (w : World) (os : OsState) : SharedT := ⟨tree0 w.params, 15, {}, #[], {}, 187, os⟩
theorem pre0 (w : World) (os : OsState) : topGo treeTable prog w 11 ann0 12 ⟨boot_heap w.params, Array.mk [], boot_drawn, boot_toks, os⟩ (topStub prog) = some ((sh0 w os).abs, ⟨denote treeTable cE, cE, p0, [topFrame p0]⟩) := by kernel_rfl
theorem block0 (w : World) (os : OsState) : segRun treeTable prog w 11 ann0 1 1 (sh0 w os).abs (blockOf bE env0 cE p0 [topFrame p0]) = some (.next, (sh0 w os).abs, cE, p0) := by kernel_rfl
theorem fin0 (w : World) (s : Shared) (p : Pos) : topRun treeTable prog w 11 ann0 2 s ⟨doneF .next, cE, p, [topFrame p0]⟩ = some s := by kernel_rfl
end Mine
end
section
open PySem PySem.W PyProof.Rows
set_option maxRecDepth 100000
set_option maxHeartbeats 8000000
namespace Mine
/-- the names in a tuple, their marks in a row -/
noncomputable def kNs : List String → Nat → List Value
  | [], _ => []
  | x :: l, t => kS x t :: kNs l (t + 1)
noncomputable def kT (l : List String) (t : Nat) : Obj := ⟨.type "tuple", none, .seq (kNs l t).toArray 0, #[]⟩
/-- what the top keeps of a def beside its function -/
noncomputable def kQ (st : Stmt) (q : String) : Obj := match st with
  | .FunctionDef n ps b _ _ _ sc _ _ _ => ⟨kN, none, .func { name := n, qualname := Str.ofString q, params := ps, body := .stmts b, scope := sc, globals := 0, closure := [], defaults := kN, kwdefaults := kN }, #[]⟩
  | _ => ⟨kN, none, .plain, #[]⟩
/-- the names of the text, n of them, while its third file is read -/
noncomputable def esC (P : Params) (n : Nat) : List DictEntry := kE P "__name__" 165 (kS "cpy313.token" 290) :: ((es3 P).drop 1).take (n - 1)
noncomputable def btOf : Nat → List Obj → Nat → Nat → BT
  | 0, _, _, _ => .nil
  | f + 1, l, a, b => match l[b]? with
    | some o => .node o (btOf f l (2 * a) (a + b)) (btOf f l (2 * a) (2 * a + b))
    | none => .nil
/-- the heap ahead of EXACT_TOKEN_TYPES -/
noncomputable def objs1 (P : Params) : List Obj := [
  boot_o_0 P,
  boot_o_1 P,
  boot_o_2 P,
  ⟨.type "dict", none, .dict (esC P 63).toArray 63, #[]⟩,
  boot_o_4 P,
  boot_o_5 P,
  boot_o_6 P,
  boot_o_7 P,
  boot_o_8 P,
  boot_o_9 P,
  boot_o_10 P,
  oT P,
  ⟨kN, none, .fields #[(.int 2 0), (.int 0 0), (.ref 22), (.int 22 0), (.int 0 0), (.ref 31), (.int 28 0), (.int 0 0), (.ref 40), (.int 49 0), (.int 0 0), (.ref 47)], #[]⟩,
  oM P,
  oF P,
  ⟨.type "tuple", none, .seq #[(.int 0 189), kN] 0, #[]⟩,
  ⟨(.type "dict"), none, .dict #[kE P "key" 190 kN] 1, #[]⟩,
  kT [] 0,
  ⟨kN, none, .fields #[], #[]⟩,
  kT ["a", "x", "lo", "hi", "key", "mid"] 194,
  kT [] 0,
  kQ (stAt 1) "bisect_right",
  kC "bisect_right" "bisect_right" 191 2 4 1 17 200,
  kF (stAt 1) "bisect_right" (.ref 15) (.ref 16) (kS "cpy313.bisect" 187) 22,
  ⟨.type "tuple", none, .seq #[(.int 0 203), kN] 0, #[]⟩,
  ⟨(.type "dict"), none, .dict #[kE P "key" 204 kN] 1, #[]⟩,
  kT [] 0,
  ⟨kN, none, .fields #[], #[]⟩,
  kT ["a", "x", "lo", "hi", "key"] 208,
  kT [] 0,
  kQ (stAt 2) "insort_left",
  kC "insort_left" "insort_left" 205 22 4 1 26 213,
  kF (stAt 2) "insort_left" (.ref 24) (.ref 25) (kS "cpy313.bisect" 187) 31,
  ⟨.type "tuple", none, .seq #[(.int 0 216), kN] 0, #[]⟩,
  ⟨(.type "dict"), none, .dict #[kE P "key" 217 kN] 1, #[]⟩,
  kT [] 0,
  ⟨kN, none, .fields #[], #[]⟩,
  kT ["a", "x", "lo", "hi", "key", "mid"] 221,
  kT [] 0,
  kQ (stAt 3) "bisect_left",
  kC "bisect_left" "bisect_left" 218 28 4 1 35 227,
  kF (stAt 3) "bisect_left" (.ref 33) (.ref 34) (kS "cpy313.bisect" 187) 40,
  kT [] 0,
  ⟨(.type "builtin_function_or_method"), none, .fields #[(.builtin "type.__prepare__"), (.type "type")], #[]⟩,
  ⟨.type "dict", none, .dict #[kE P "__module__" 239 (kS "cpy313.netrc" 230), kE P "__qualname__" 241 (kS "_netrclex" 240), kE P "__firstlineno__" 243 (.int 49 242), kE P "__init__" 251 (.ref 55), kE P "_read_char" 259 (.ref 62), kE P "get_token" 269 (.ref 69), kE P "push_token" 277 (.ref 76), kE P "__static_attributes__" 282 (.ref 77)] 8, #[]⟩,
  kT [] 0,
  ⟨kN, none, .fields #[(.int 51 0), (.int 4 0), (.ref 54), (.int 57 0), (.int 4 0), (.ref 61), (.int 63 0), (.int 4 0), (.ref 68), (.int 90 0), (.int 4 0), (.ref 75)], #[]⟩,
  ⟨(.type "code"), none, .fields #[(kS "_netrclex" 234), (kS "_netrclex" 235), (kS "/claim/cut.py" 236), (.int 49 0), (.int 0 0), (.int 0 0), (.int 0 0), (.int 0 0), (.ref 45), (.bool false), (.int 181 0), (.ref 46), kN, kN, kN, kN, (.int 237 0), (.int 49 0), (kS "/claim/cut.py" 238)], #[]⟩,
  ⟨.type "frame", none, .plain, #[some (.ref 47), some (.ref 3), some (.ref 44), none, some (kS "cpy313.netrc" 230), none, some (.ref 0)]⟩,
  kT [] 0,
  ⟨kN, none, .fields #[], #[]⟩,
  kT ["self", "fp"] 247,
  kT [] 0,
  kQ (inAt 0) "_netrclex.__init__",
  kC "__init__" "_netrclex.__init__" 244 51 2 0 49 249,
  kF (inAt 0) "_netrclex.__init__" kN kN (kS "cpy313.netrc" 230) 54,
  kT [] 0,
  ⟨kN, none, .fields #[], #[]⟩,
  kT ["self", "ch"] 255,
  kT [] 0,
  kQ (inAt 1) "_netrclex._read_char",
  kC "_read_char" "_netrclex._read_char" 252 57 1 0 56 257,
  kF (inAt 1) "_netrclex._read_char" kN kN (kS "cpy313.netrc" 230) 61,
  kT [] 0,
  ⟨kN, none, .fields #[], #[]⟩,
  kT ["self", "token", "fiter", "ch"] 263,
  kT [] 0,
  kQ (inAt 2) "_netrclex.get_token",
  kC "get_token" "_netrclex.get_token" 260 63 1 0 63 267,
  kF (inAt 2) "_netrclex.get_token" kN kN (kS "cpy313.netrc" 230) 68,
  kT [] 0,
  ⟨kN, none, .fields #[], #[]⟩,
  kT ["self", "token"] 273,
  kT [] 0,
  kQ (inAt 3) "_netrclex.push_token",
  kC "push_token" "_netrclex.push_token" 270 90 2 0 70 275,
  kF (inAt 3) "_netrclex.push_token" kN kN (kS "cpy313.netrc" 230) 75,
  kT ["instream", "lineno", "pushback", "whitespace"] 278,
  ⟨(.type "dict"), none, .dict #[kE P "__module__" 239 (kS "cpy313.netrc" 230), kE P "__firstlineno__" 243 (.int 49 242), kE P "__init__" 251 (.ref 55), kE P "_read_char" 259 (.ref 62), kE P "get_token" 269 (.ref 69), kE P "push_token" 277 (.ref 76), kE P "__static_attributes__" 282 (.ref 77), kE P "__dict__" 284 (.ref 80), kE P "__weakref__" 286 (.ref 81), kE P "__doc__" 287 kN] 4, #[]⟩,
  ⟨.type "type", none, .cls { name := Str.ofString "_netrclex", bases := [.type "object"], mro := [.ref 79, .type "object"], ns := 78, qualname := Str.ofString "_netrclex" }, #[none, none, some (kS "_netrclex" 232), some (kS "_netrclex" 240), some (.builtin "object.__new__"), some (.bool true)]⟩,
  ⟨.type "getset_descriptor", none, .fields #[(kS "__dict__" 283), (.ref 79), (.builtin "function.__dict__"), (.builtin "function.__dict__#set")], #[]⟩,
  ⟨.type "getset_descriptor", none, .fields #[(kS "__weakref__" 285), (.ref 79), (.builtin "ExceptionGroup.__weakref__"), kN], #[]⟩,
  ⟨(.type "super"), none, .fields #[(.ref 79), (.ref 79), (.ref 79)], #[]⟩,
  ⟨(.type "builtin_function_or_method"), none, .fields #[(.builtin "object.__init_subclass__"), (.ref 79)], #[]⟩]
/-- the heap behind EXACT_TOKEN_TYPES -/
noncomputable def objs2 (P : Params) : List Obj := ((objs1 P).set 3 ⟨.type "dict", none, .dict (esC P 64).toArray 64, #[]⟩) ++ [⟨.type "dict", none, .dict (es84 P).toArray 48, #[]⟩,
  ⟨.type "dict", none, .dict (((es84 P).drop 17).take 17).toArray 17, #[]⟩, ⟨.type "dict", none, .dict ((es84 P).drop 34).toArray 14, #[]⟩]
noncomputable def sh1 (w : World) (os : OsState) : SharedT := ⟨btOf 8 (objs1 w.params) 1 0, 84, {}, #[], {}, 392, os⟩
noncomputable def sh2 (w : World) (os : OsState) : SharedT := ⟨btOf 8 (objs2 w.params) 1 0, 87, {}, #[], {}, 489, os⟩
noncomputable def p1 : Pos := { line := 142, col := 0, endLine := 142, endCol := 9 }
noncomputable def p2 : Pos := { line := 143, col := 0, endLine := 143, endCol := 17 }
noncomputable def b1 : List Stmt := bE.take 57
noncomputable def b2 : List Stmt := (bE.drop 57).take 1
noncomputable def b3 : List Stmt := (bE.drop 57).drop 1
theorem b_eq : b1 ++ (b2 ++ b3) = bE := by unfold b1 b2 b3; rw [List.take_append_drop, List.take_append_drop]
theorem run1 (w : World) (os : OsState) : segRunT treeTable prog w 11 ann0 1 1000 (sh0 w os) (piecesOf b1 env0 cE p0 [topFrame p0]) = some (.next, sh1 w os, cE, p1) := by
  show segRunT treeTable prog w 11 ann0 1 1000 (sh0 w os) ⟨(execs b1 env0).wrap doneF deadEnd id id, cE, p0, [topFrame p0]⟩ = _
  rw [Fast.te10110043849684766642, Fast.te14364793385576792824, Fast.te12563942051412417395]
  kernel_rfl
noncomputable abbrev Run2 (w : World) (os : OsState) : Prop := segRunT treeTable prog w 11 ann0 1 1100 (sh1 w os) ⟨(execs b2 env0).wrap doneF deadEnd id id, cE, p1, [topFrame p0]⟩ = some (.next, sh2 w os, cE, p2)
theorem run2_f (w : World) (os : OsState) : Run2 (w.withFollow "special-get-raises" false) os := by
  unfold Run2
  rw [Fast.te10110043849684766642, Fast.te14364793385576792824, Fast.te12563942051412417395]
  kernel_rfl
theorem run2_t (w : World) (os : OsState) : Run2 (w.withFollow "special-get-raises" true) os := by
  unfold Run2
  rw [Fast.te10110043849684766642, Fast.te14364793385576792824, Fast.te12563942051412417395]
  kernel_rfl
theorem run2 (w : World) (os : OsState) : Run2 w os := byRow2 "special-get-raises" (P := fun w => Run2 w os) (fun w => run2_f w os) (fun w => run2_t w os) w
theorem run3 (w : World) (os : OsState) : (segRunT treeTable prog w 11 ann0 1 600 (sh2 w os) ⟨(execs b3 env0).wrap doneF deadEnd id id, cE, p2, [topFrame p0]⟩).map (fun r => (r.1, r.2.2.1, asks (boot_heap w.params) r.2.1.abs)) = some (.next, cE, true, openGood qv lo, HK.val w) := by
  rw [Fast.te10110043849684766642, Fast.te14364793385576792824, Fast.te12563942051412417395]
  kernel_rfl
theorem left : LeftO prog qv lo Xq HK.obs HK.val 4870 := left_of (M := 12 + (1 + (1000 + (1100 + (600 + 2))))) boot size0 (fun w os => by
  obtain ⟨⟨f, sT, c, p⟩, hr, he⟩ := Option.map_eq_some_iff.mp (run3 w os)
  obtain ⟨rfl, rfl, hg⟩ : f = .next ∧ c = cE ∧ asks (boot_heap w.params) sT.abs = (true, openGood qv lo, HK.val w) := by simpa only [Prod.mk.injEq] using he
  have a := piece_app (segRun_of (run1 w os)) (piece_app (segRun_of (run2 w os)) (piece_app (rest := []) (segRun_of hr) (piece_nil (fin0 w sT.abs p))))
  rw [List.append_nil, b_eq] at a
  exact ⟨sT.abs, go_top (pre0 w os) (piece_block (block0 w os) a), hg⟩) (by kernel_rfl)
end Mine
end
set_option maxRecDepth 100000 in
set_option maxHeartbeats 8000000 in
theorem PySem.Challenge.cw_rl0097_01_holds : PySem.Challenge.rw_rl0097_01.Holds :=
  holds_law Mine.law_said fun said => by
  refine holds_open (q := Mine.qv) (loose := Mine.lo) (Xt := Mine.Xq) (XP := XL Mine.qv []) (Yf := Mine.HK.obs) (Ya := Mine.HK.val) (YP := Mine.HK.says) (N := 4870) Mine.left Mine.HK.of Mine.HK.keeps (fun s e => xl_of s (Bool.and_eq_true_iff.mp e).1) XL.keeps (by rfl) (by rfl) (by rfl)
    (fun s e => recFacts_of (Bool.and_eq_true_iff.mp e).2) (by rfl) said (by decide +kernel) ⟨rfl, rfl, rfl, rfl, rfl, by decide +kernel⟩ ?hw ?hc
  case hw => w_witness2
  case hc =>
    intro w s₀ s₁ mg mb G Y fa o pm cd doc dV kV ho hd hcd hD hmg hg args vals as hpre hlay hrd hwl hlo
    have KX := km_in_of Y; have KT := km_tabs_of Y
    refine Ground.open G ?_
    intro T B D TE TW
    wrow_args hpre hlay hrd hwl hlo
    refine enter_call (codeAny_mono (Mine.run_core T KX (KT 121 (.head _)) hmg (Mine.list_exact ‹Well _ _ (.ref _) _› ‹Heap.IsList _ _ _›) ‹IntsAre _ _› (Mine.law_fs w _ (by omega))) fun r s' ⟨e, old, os, gens⟩ => ?_)
    subst e
    exact ⟨.inl ⟨.bool true, .bool true, [], rfl, fun _ => rfl, .bool true, Mine.post_ok _, fun _ => ⟨List.nodup_nil, nofun⟩⟩, old, os, .of_eq (gens.trans hg)⟩
