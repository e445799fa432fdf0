import PyProof.Rows.All
import Wide.All
import OpenK.AllK
import Wide.FinOn
import Lean
import PySem.Challenge.RW_sw0022_01
open PySem PySem.W PyProof.Rows PySem.Calls
set_option Elab.async false
set_option linter.unusedSimpArgs false
set_option linter.unusedVariables false
set_option linter.unusedSectionVars false
set_option linter.deprecated false
set_option maxHeartbeats 8000000

-- HL
set_option maxRecDepth 100000
namespace Mine

noncomputable abbrev pw : Program := PySem.Challenge.pw_sw0022_01
set_option backward.match.sparseCases false in
noncomputable def findDef (name : Str) : List Stmt → Option (List Stmt × Scope)
  | [] => none
  | .FunctionDef n _ b _ _ _ sc _ _ _ :: r => if n == name then some (b, sc) else findDef name r
  | _ :: r => findDef name r
noncomputable def bodyOf (name : Str) : List Stmt := ((findDef name pw.main.body).map (·.1)).getD []
noncomputable def scopeOf (name : Str) : Scope := ((findDef name pw.main.body).map (·.2)).getD default
noncomputable def scOf (name : Str) : List (Str × NameKind) := (scopeOf name).names

noncomputable def sv (x : Str) (t : Nat) : Value := .str x t
noncomputable def de (P : Params) (x : Str) (t : Nat) (v : Value) : DictEntry := { hash := PyData.keyHash P x, key := .str x t, val := v }
noncomputable def findArgs (name : Str) : List Stmt → Option Arguments
  | [] => none
  | .FunctionDef n a _ _ _ _ _ _ _ _ :: r => if n == name then some a else findArgs name r
  | _ :: r => findArgs name r
noncomputable def paramsOf (name : Str) : Arguments := ((findArgs name pw.main.body)).getD ⟨[], [], none, [], [], none, []⟩
noncomputable def KK (P : Params) : Frag := [
  (3, { cls := .type "dict", data := .dict #[de P "__name__" 165 (sv "law_sw0022_01" 575), de P "__doc__" 166 (.none), de P "__package__" 167 (.none), de P "__loader__" 168 (.builtin "__main__.__loader__#opaque"), de P "__spec__" 169 (.none), de P "__annotations__" 170 (.ref 6), de P "__builtins__" 171 (.ref 4), de P "__file__" 173 (sv "/claim/cut.py" 172), de P "__cached__" 174 (.none), de P "_sre" 275 (.ref 12), de P "_strcoll" 291 (.ref 38), de P "_strip_padding" 301 (.ref 45), de P "_twin_re_1" 319 (.ref 50), de P "_twin_re_2" 361 (.ref 55), de P "CRLF" 363 (sv "\x0d\n" 362), de P "quotedata" 370 (.ref 62), de P "ENDMARKER" 374 (.int 0 373), de P "LPAR" 376 (.int 7 375), de P "RPAR" 378 (.int 8 377), de P "LSQB" 380 (.int 9 379), de P "RSQB" 382 (.int 10 381), de P "COLON" 384 (.int 11 383), de P "COMMA" 386 (.int 12 385), de P "SEMI" 388 (.int 13 387), de P "PLUS" 390 (.int 14 389), de P "MINUS" 392 (.int 15 391), de P "STAR" 394 (.int 16 393), de P "SLASH" 396 (.int 17 395), de P "VBAR" 398 (.int 18 397), de P "AMPER" 400 (.int 19 399), de P "LESS" 402 (.int 20 401), de P "GREATER" 404 (.int 21 403), de P "EQUAL" 406 (.int 22 405), de P "DOT" 408 (.int 23 407), de P "PERCENT" 410 (.int 24 409), de P "LBRACE" 412 (.int 25 411), de P "RBRACE" 414 (.int 26 413), de P "EQEQUAL" 416 (.int 27 415), de P "NOTEQUAL" 418 (.int 28 417), de P "LESSEQUAL" 420 (.int 29 419), de P "GREATEREQUAL" 422 (.int 30 421), de P "TILDE" 424 (.int 31 423), de P "CIRCUMFLEX" 426 (.int 32 425), de P "LEFTSHIFT" 428 (.int 33 427), de P "RIGHTSHIFT" 430 (.int 34 429), de P "DOUBLESTAR" 432 (.int 35 431), de P "PLUSEQUAL" 434 (.int 36 433), de P "MINEQUAL" 436 (.int 37 435), de P "STAREQUAL" 438 (.int 38 437), de P "SLASHEQUAL" 440 (.int 39 439), de P "PERCENTEQUAL" 442 (.int 40 441), de P "AMPEREQUAL" 444 (.int 41 443), de P "VBAREQUAL" 446 (.int 42 445), de P "CIRCUMFLEXEQUAL" 448 (.int 43 447), de P "LEFTSHIFTEQUAL" 450 (.int 44 449), de P "RIGHTSHIFTEQUAL" 452 (.int 45 451), de P "DOUBLESTAREQUAL" 454 (.int 46 453), de P "DOUBLESLASH" 456 (.int 47 455), de P "DOUBLESLASHEQUAL" 458 (.int 48 457), de P "AT" 460 (.int 49 459), de P "ATEQUAL" 462 (.int 50 461), de P "RARROW" 464 (.int 51 463), de P "ELLIPSIS" 466 (.int 52 465), de P "COLONEQUAL" 468 (.int 53 467), de P "EXCLAMATION" 470 (.int 54 469), de P "EXACT_TOKEN_TYPES" 567 (.ref 63), de P "ISEOF" 574 (.ref 72), de P "_law_people" 582 (.ref 77), de P "_law_mail" 593 (.ref 84), de P "_law_read" 603 (.ref 91), de P "_law_by_mail" 609 (.ref 96), de P "_law_by_numbers" 615 (.ref 101), de P "_law_can_be" 621 (.ref 106), de P "law" 627 (.ref 111)] 74 }),
  (37, { cls := .type "code", data := .fields #[sv "_strcoll" 284, sv "_strcoll" 285, sv "/claim/cut.py" 286, .int 3 0, .int 2 0, .int 0 0, .int 0 0, .int 3 0, .ref 32, .bool true, .int 276 0, .ref 33, .none, .ref 34, .ref 35, .ref 36, .int 289 0, .int 3 0, sv "/claim/cut.py" 290] }),
  (38, { cls := .type "function", data := .func { name := Str.ofString "_strcoll", qualname := Str.ofString "_strcoll", params := paramsOf "_strcoll", body := .stmts (bodyOf "_strcoll"), scope := scopeOf "_strcoll", globals := 3, closure := [], defaults := .none, kwdefaults := .none, pyModule := sv "cpy313.locale" 282, code := .ref 37 } }),
  (44, { cls := .type "code", data := .fields #[sv "_strip_padding" 292, sv "_strip_padding" 293, sv "/claim/cut.py" 294, .int 5 0, .int 2 0, .int 0 0, .int 0 0, .int 3 0, .ref 39, .bool true, .int 276 0, .ref 40, .none, .ref 41, .ref 42, .ref 43, .int 299 0, .int 5 0, sv "/claim/cut.py" 300] }),
  (45, { cls := .type "function", data := .func { name := Str.ofString "_strip_padding", qualname := Str.ofString "_strip_padding", params := paramsOf "_strip_padding", body := .stmts (bodyOf "_strip_padding"), scope := scopeOf "_strip_padding", globals := 3, closure := [], defaults := .none, kwdefaults := .none, pyModule := sv "cpy313.locale" 282, code := .ref 44 } }),
  (49, { cls := .type "tuple", data := .seq #[.int 14 0, .int 4 0, .int 0 0, .int 1 0, .int 1 0, .int 6 0, .int 1 0, .int 16 0, .int 46 0, .int 1 0] }),
  (50, { cls := .type "re.Pattern", data := .fields #[sv "(?m)^\\." 305, .int 40 318, .int 0 0, .none, .none, .ref 49, .int 0 0] }),
  (54, { cls := .type "tuple", data := .seq #[.int 14 0, .int 9 0, .int 4 0, .int 1 0, .int 2 0, .int 16 0, .int 10 0, .int 16 0, .int 13 0, .int 0 0, .int 7 0, .int 7 0, .int 16 0, .int 13 0, .int 16 0, .int 10 0, .int 15 0, .int 18 0, .int 5 0, .int 16 0, .int 10 0, .int 15 0, .int 13 0, .int 11 0, .int 16 0, .int 13 0, .int 5 0, .int 5 0, .int 0 0, .int 16 0, .int 10 0, .int 1 0, .int 15 0, .int 2 0, .int 0 0, .int 1 0] }),
  (55, { cls := .type "re.Pattern", data := .fields #[sv "(?:\\r\\n|\\n|\\r(?!\\n))" 321, .int 32 360, .int 0 0, .none, .none, .ref 54, .int 0 0] }),
  (61, { cls := .type "code", data := .fields #[sv "quotedata" 364, sv "quotedata" 365, sv "/claim/cut.py" 366, .int 19 0, .int 1 0, .int 0 0, .int 0 0, .int 3 0, .ref 56, .bool true, .int 276 0, .ref 57, .none, .ref 58, .ref 59, .ref 60, .int 368 0, .int 19 0, sv "/claim/cut.py" 369] }),
  (62, { cls := .type "function", data := .func { name := Str.ofString "quotedata", qualname := Str.ofString "quotedata", params := paramsOf "quotedata", body := .stmts (bodyOf "quotedata"), scope := scopeOf "quotedata", globals := 3, closure := [], defaults := .none, kwdefaults := .none, pyModule := sv "cpy313.smtplib" 302, code := .ref 61 } }),
  (63, { cls := .type "dict", data := .dict #[de P "!" 471 (.int 54 469), de P "!=" 473 (.int 28 417), de P "%" 475 (.int 24 409), de P "%=" 477 (.int 40 441), de P "&" 479 (.int 19 399), de P "&=" 481 (.int 41 443), de P "(" 483 (.int 7 375), de P ")" 485 (.int 8 377), de P "*" 487 (.int 16 393), de P "**" 489 (.int 35 431), de P "**=" 491 (.int 46 453), de P "*=" 493 (.int 38 437), de P "+" 495 (.int 14 389), de P "+=" 497 (.int 36 433), de P "," 499 (.int 12 385), de P "-" 501 (.int 15 391), de P "-=" 503 (.int 37 435), de P "->" 505 (.int 51 463), de P "." 507 (.int 23 407), de P "..." 509 (.int 52 465), de P "/" 511 (.int 17 395), de P "//" 513 (.int 47 455), de P "//=" 515 (.int 48 457), de P "/=" 517 (.int 39 439), de P ":" 519 (.int 11 383), de P ":=" 521 (.int 53 467), de P ";" 523 (.int 13 387), de P "<" 525 (.int 20 401), de P "<<" 527 (.int 33 427), de P "<<=" 529 (.int 44 449), de P "<=" 531 (.int 29 419), de P "=" 533 (.int 22 405), de P "==" 535 (.int 27 415), de P ">" 537 (.int 21 403), de P ">=" 539 (.int 30 421), de P ">>" 540 (.int 34 429), de P ">>=" 541 (.int 45 451), de P "@" 542 (.int 49 459), de P "@=" 543 (.int 50 461), de P "[" 544 (.int 9 379), de P "]" 545 (.int 10 381), de P "^" 546 (.int 32 425), de P "^=" 547 (.int 43 447), de P "{" 548 (.int 25 411), de P "|" 549 (.int 18 397), de P "|=" 550 (.int 42 445), de P "}" 551 (.int 26 413), de P "~" 552 (.int 31 423)] 48 }),
  (71, { cls := .type "code", data := .fields #[sv "ISEOF" 568, sv "ISEOF" 569, sv "/claim/cut.py" 570, .int 72 0, .int 1 0, .int 0 0, .int 0 0, .int 3 0, .ref 66, .bool true, .int 276 0, .ref 67, .none, .ref 68, .ref 69, .ref 70, .int 572 0, .int 72 0, sv "/claim/cut.py" 573] }),
  (72, { cls := .type "function", data := .func { name := Str.ofString "ISEOF", qualname := Str.ofString "ISEOF", params := paramsOf "ISEOF", body := .stmts (bodyOf "ISEOF"), scope := scopeOf "ISEOF", globals := 3, closure := [], defaults := .none, kwdefaults := .none, pyModule := sv "cpy313.token" 371, code := .ref 71 } }),
  (76, { cls := .type "code", data := .fields #[sv "_law_people" 577, sv "_law_people" 578, sv "/claim/cut.py" 579, .int 75 0, .int 1 0, .int 0 0, .int 0 0, .int 3 0, .ref 73, .bool true, .int 276 0, .ref 74, .none, .none, .none, .ref 75, .int 580 0, .int 75 0, sv "/claim/cut.py" 581] }),
  (77, { cls := .type "function", data := .func { name := Str.ofString "_law_people", qualname := Str.ofString "_law_people", params := paramsOf "_law_people", body := .stmts (bodyOf "_law_people"), scope := scopeOf "_law_people", globals := 3, closure := [], defaults := .none, kwdefaults := .none, pyModule := sv "law_sw0022_01" 575, code := .ref 76 } }),
  (83, { cls := .type "code", data := .fields #[sv "_law_mail" 583, sv "_law_mail" 584, sv "/claim/cut.py" 585, .int 81 0, .int 2 0, .int 0 0, .int 0 0, .int 3 0, .ref 78, .bool true, .int 276 0, .ref 79, .none, .ref 80, .ref 81, .ref 82, .int 591 0, .int 81 0, sv "/claim/cut.py" 592] }),
  (84, { cls := .type "function", data := .func { name := Str.ofString "_law_mail", qualname := Str.ofString "_law_mail", params := paramsOf "_law_mail", body := .stmts (bodyOf "_law_mail"), scope := scopeOf "_law_mail", globals := 3, closure := [], defaults := .none, kwdefaults := .none, pyModule := sv "law_sw0022_01" 575, code := .ref 83 } }),
  (90, { cls := .type "code", data := .fields #[sv "_law_read" 594, sv "_law_read" 595, sv "/claim/cut.py" 596, .int 87 0, .int 1 0, .int 0 0, .int 0 0, .int 3 0, .ref 85, .bool true, .int 276 0, .ref 86, .none, .ref 87, .ref 88, .ref 89, .int 601 0, .int 87 0, sv "/claim/cut.py" 602] }),
  (91, { cls := .type "function", data := .func { name := Str.ofString "_law_read", qualname := Str.ofString "_law_read", params := paramsOf "_law_read", body := .stmts (bodyOf "_law_read"), scope := scopeOf "_law_read", globals := 3, closure := [], defaults := .none, kwdefaults := .none, pyModule := sv "law_sw0022_01" 575, code := .ref 90 } }),
  (95, { cls := .type "code", data := .fields #[sv "_law_by_mail" 604, sv "_law_by_mail" 605, sv "/claim/cut.py" 606, .int 97 0, .int 1 0, .int 0 0, .int 0 0, .int 3 0, .ref 92, .bool true, .int 276 0, .ref 93, .none, .none, .none, .ref 94, .int 607 0, .int 97 0, sv "/claim/cut.py" 608] }),
  (96, { cls := .type "function", data := .func { name := Str.ofString "_law_by_mail", qualname := Str.ofString "_law_by_mail", params := paramsOf "_law_by_mail", body := .stmts (bodyOf "_law_by_mail"), scope := scopeOf "_law_by_mail", globals := 3, closure := [], defaults := .none, kwdefaults := .none, pyModule := sv "law_sw0022_01" 575, code := .ref 95 } }),
  (100, { cls := .type "code", data := .fields #[sv "_law_by_numbers" 610, sv "_law_by_numbers" 611, sv "/claim/cut.py" 612, .int 128 0, .int 2 0, .int 0 0, .int 0 0, .int 3 0, .ref 97, .bool true, .int 276 0, .ref 98, .none, .none, .none, .ref 99, .int 613 0, .int 128 0, sv "/claim/cut.py" 614] }),
  (101, { cls := .type "function", data := .func { name := Str.ofString "_law_by_numbers", qualname := Str.ofString "_law_by_numbers", params := paramsOf "_law_by_numbers", body := .stmts (bodyOf "_law_by_numbers"), scope := scopeOf "_law_by_numbers", globals := 3, closure := [], defaults := .none, kwdefaults := .none, pyModule := sv "law_sw0022_01" 575, code := .ref 100 } }),
  (105, { cls := .type "code", data := .fields #[sv "_law_can_be" 616, sv "_law_can_be" 617, sv "/claim/cut.py" 618, .int 151 0, .int 1 0, .int 0 0, .int 0 0, .int 3 0, .ref 102, .bool true, .int 276 0, .ref 103, .none, .none, .none, .ref 104, .int 619 0, .int 151 0, sv "/claim/cut.py" 620] }),
  (106, { cls := .type "function", data := .func { name := Str.ofString "_law_can_be", qualname := Str.ofString "_law_can_be", params := paramsOf "_law_can_be", body := .stmts (bodyOf "_law_can_be"), scope := scopeOf "_law_can_be", globals := 3, closure := [], defaults := .none, kwdefaults := .none, pyModule := sv "law_sw0022_01" 575, code := .ref 105 } }),
  (110, { cls := .type "code", data := .fields #[sv "law" 622, sv "law" 623, sv "/claim/cut.py" 624, .int 157 0, .int 1 0, .int 0 0, .int 0 0, .int 3 0, .ref 107, .bool true, .int 276 0, .ref 108, .none, .none, .none, .ref 109, .int 625 0, .int 157 0, sv "/claim/cut.py" 626] }),
  (111, { cls := .type "function", data := .func { name := Str.ofString "law", qualname := Str.ofString "law", params := paramsOf "law", body := .stmts (bodyOf "law"), scope := scopeOf "law", globals := 3, closure := [], defaults := .none, kwdefaults := .none, pyModule := sv "law_sw0022_01" 575, code := .ref 110 } })]
noncomputable def asL : List Addr := [3, 37, 38, 44, 45, 49, 50, 54, 55, 61, 62, 63, 71, 72, 76, 77, 83, 84, 90, 91, 95, 96, 100, 101, 105, 106, 110, 111]

abbrev rw : OpenLaw := PySem.Challenge.rw_sw0022_01
set_option backward.match.sparseCases false in
noncomputable def keptS : Stmt → Bool
  | .Import .. => true
  | .FunctionDef n .. => n == ("law" : Str)
  | _ => false
noncomputable def vw : Program := { pw with main := { pw.main with body := pw.main.body.filter keptS } }
noncomputable def looseN : List Str := (pw.boundNames).filter fun x => !(x == ("law" : Str)) && !(x == ("_sre" : Str))
noncomputable def hk : Hook := kmHook KK asL (fun P => by kernel_rfl) [98]
theorem said : rw.wellSaid = true := by kernel_rfl
noncomputable abbrev seenS (s : Shared) := (openSeen vw looseN (importedModules pw.main.body) (fun s => xlAt vw [] s && recOk (RowW.records rw.row.toRowW) s) true s, hk.obs s)
theorem leftF (w : World) : (openEnds treeTable pw (w.withFollow "special-get-raises" false) 3972).map seenS = some (openGood vw looseN, hk.val (w.withFollow "special-get-raises" false)) := by kernel_rfl
theorem leftT (w : World) : (openEnds treeTable pw (w.withFollow "special-get-raises" true) 3972).map seenS = some (openGood vw looseN, hk.val (w.withFollow "special-get-raises" true)) := by kernel_rfl
theorem left : LeftO rw.row.toRowW.prog vw looseN (fun s => xlAt vw [] s && recOk (RowW.records rw.row.toRowW) s) hk.obs hk.val 3972 :=
  byRow2 "special-get-raises" (P := fun w => (openEnds treeTable pw w 3972).map seenS = some (openGood vw looseN, hk.val w)) leftF leftT
noncomputable def posIn (name : Str) : List Stmt → Pos
  | [] => default
  | .FunctionDef n _ _ _ _ _ _ _ _ p :: r => if n == name then p else posIn name r
  | _ :: r => posIn name r
noncomputable def dLaw : DefRec := ⟨"law", paramsOf "law", bodyOf "law", scopeOf "law", posIn "law" pw.main.body⟩
theorem holds0 (call : WalkO vw looseN (XL vw []) hk.says rw.row.toRowW dLaw [] fun f vs => PySem.call f vs) : rw.Holds :=
  holds_law said fun k1 => holds_open (q := vw) (loose := looseN) (Xt := fun s => xlAt vw [] s && recOk (RowW.records rw.row.toRowW) s) (XP := XL vw []) (Yf := hk.obs) (Ya := hk.val) (YP := hk.says) (N := 3972) left hk.of hk.keeps
    (fun s e => xl_of s (Bool.and_eq_true_iff.mp e).1) XL.keeps (by kernel_rfl) (by kernel_rfl) (by kernel_rfl) (fun s e => recFacts_of (Bool.and_eq_true_iff.mp e).2) (by kernel_rfl) k1 (by decide +kernel) ⟨rfl, rfl, rfl, rfl, rfl, by decide +kernel⟩
    (by w_witness2) call
end Mine

-- MA
namespace Mine
set_option tactic.hygienic false
theorem ex2 {α β : Type} {p : α → β → Prop} {b : Prop} (h : ∃ x y, p x y) (k : ∀ x y, p x y → b) : b := h.elim fun x h => h.elim (k x)
theorem ex3 {α β γ : Type} {p : α → β → γ → Prop} {b : Prop} (h : ∃ x y z, p x y z) (k : ∀ x y z, p x y z → b) : b := h.elim fun x h => ex2 h (k x)
theorem ex4 {α β γ δ : Type} {p : α → β → γ → δ → Prop} {b : Prop} (h : ∃ x y z u, p x y z u) (k : ∀ x y z u, p x y z u → b) : b := h.elim fun x h => ex3 h (k x)
set_option genInjectivity false in
set_option genSizeOf false in
structure EA (α : Type) where
  f0 : BoolOp → List Expr → Pos → α
  f1 : Expr → Expr → Pos → α
  f2 : Expr → Operator → Expr → Pos → α
  f3 : UnaryOp → Expr → Pos → α
  f4 : Arguments → Expr → Scope → Pos → α
  f5 : Expr → Expr → Expr → Pos → α
  f6 : List (Option Expr) → List Expr → Pos → α
  f7 : List Expr → Nat → Pos → α
  f8 : Expr → List Comprehension → Scope → Pos → α
  f9 : Expr → List Comprehension → Scope → Pos → α
  f10 : Expr → Expr → List Comprehension → Scope → Pos → α
  f11 : Expr → List Comprehension → Scope → Pos → α
  f12 : Expr → Pos → α
  f13 : Option Expr → Pos → α
  f14 : Expr → Pos → α
  f15 : Expr → List CmpOp → List Expr → Pos → α
  f16 : Expr → List Expr → List Keyword → Pos → α
  f17 : Expr → Int → Option Expr → Pos → α
  f18 : List Expr → Pos → α
  f19 : Const → Nat → Pos → α
  f20 : Expr → Str → Pos → α
  f21 : Expr → Expr → Pos → α
  f22 : Expr → Pos → α
  f23 : Str → Pos → α
  f24 : List Expr → Pos → α
  f25 : List Expr → Nat → Pos → α
  f26 : Option Expr → Option Expr → Option Expr → Pos → α
noncomputable def eaL {α : Type} (F : Expr → α) : EA α := ⟨fun a b c => F (.BoolOp a b c), fun a b c => F (.NamedExpr a b c), fun a b c d => F (.BinOp a b c d), fun a b c => F (.UnaryOp a b c), fun a b c d => F (.Lambda a b c d), fun a b c d => F (.IfExp a b c d), fun a b c => F (.Dict a b c), fun a b c => F (.Set a b c), fun a b c d => F (.ListComp a b c d), fun a b c d => F (.SetComp a b c d), fun a b c d e => F (.DictComp a b c d e), fun a b c d => F (.GeneratorExp a b c d), fun a b => F (.Await a b), fun a b => F (.Yield a b), fun a b => F (.YieldFrom a b), fun a b c d => F (.Compare a b c d), fun a b c d => F (.Call a b c d), fun a b c d => F (.FormattedValue a b c d), fun a b => F (.JoinedStr a b), fun a b c => F (.Constant a b c), fun a b c => F (.Attribute a b c), fun a b c => F (.Subscript a b c), fun a b => F (.Starred a b), fun a b => F (.Name a b), fun a b => F (.List a b), fun a b c => F (.Tuple a b c), fun a b c d => F (.Slice a b c d)⟩
noncomputable def eaR {α : Type} (F : Expr → α) : EA α := ⟨fun a b c => F (.BoolOp a b c), fun a b c => F (.NamedExpr a b c), fun a b c d => F (.BinOp a b c d), fun a b c => F (.UnaryOp a b c), fun a b c d => F (.Lambda a b c d), fun a b c d => F (.IfExp a b c d), fun a b c => F (.Dict a b c), fun a b c => F (.Set a b c), fun a b c d => F (.ListComp a b c d), fun a b c d => F (.SetComp a b c d), fun a b c d e => F (.DictComp a b c d e), fun a b c d => F (.GeneratorExp a b c d), fun a b => F (.Await a b), fun a b => F (.Yield a b), fun a b => F (.YieldFrom a b), fun a b c d => F (.Compare a b c d), fun a b c d => F (.Call a b c d), fun a b c d => F (.FormattedValue a b c d), fun a b => F (.JoinedStr a b), fun a b c => F (.Constant a b c), fun a b c => F (.Attribute a b c), fun a b c => F (.Subscript a b c), fun a b => F (.Starred a b), fun a b => F (.Name a b), fun a b => F (.List a b), fun a b c => F (.Tuple a b c), fun a b c d => F (.Slice a b c d)⟩
theorem ea {α : Type} {F G : Expr → α} (h : eaL F = eaR G) (e : Expr) : F e = G e := by
  cases e with
  | BoolOp a b c => exact congrFun (congrFun (congrFun (congrArg EA.f0 h) a) b) c
  | NamedExpr a b c => exact congrFun (congrFun (congrFun (congrArg EA.f1 h) a) b) c
  | BinOp a b c d => exact congrFun (congrFun (congrFun (congrFun (congrArg EA.f2 h) a) b) c) d
  | UnaryOp a b c => exact congrFun (congrFun (congrFun (congrArg EA.f3 h) a) b) c
  | Lambda a b c d => exact congrFun (congrFun (congrFun (congrFun (congrArg EA.f4 h) a) b) c) d
  | IfExp a b c d => exact congrFun (congrFun (congrFun (congrFun (congrArg EA.f5 h) a) b) c) d
  | Dict a b c => exact congrFun (congrFun (congrFun (congrArg EA.f6 h) a) b) c
  | Set a b c => exact congrFun (congrFun (congrFun (congrArg EA.f7 h) a) b) c
  | ListComp a b c d => exact congrFun (congrFun (congrFun (congrFun (congrArg EA.f8 h) a) b) c) d
  | SetComp a b c d => exact congrFun (congrFun (congrFun (congrFun (congrArg EA.f9 h) a) b) c) d
  | DictComp a b c d e => exact congrFun (congrFun (congrFun (congrFun (congrFun (congrArg EA.f10 h) a) b) c) d) e
  | GeneratorExp a b c d => exact congrFun (congrFun (congrFun (congrFun (congrArg EA.f11 h) a) b) c) d
  | Await a b => exact congrFun (congrFun (congrArg EA.f12 h) a) b
  | Yield a b => exact congrFun (congrFun (congrArg EA.f13 h) a) b
  | YieldFrom a b => exact congrFun (congrFun (congrArg EA.f14 h) a) b
  | Compare a b c d => exact congrFun (congrFun (congrFun (congrFun (congrArg EA.f15 h) a) b) c) d
  | Call a b c d => exact congrFun (congrFun (congrFun (congrFun (congrArg EA.f16 h) a) b) c) d
  | FormattedValue a b c d => exact congrFun (congrFun (congrFun (congrFun (congrArg EA.f17 h) a) b) c) d
  | JoinedStr a b => exact congrFun (congrFun (congrArg EA.f18 h) a) b
  | Constant a b c => exact congrFun (congrFun (congrFun (congrArg EA.f19 h) a) b) c
  | Attribute a b c => exact congrFun (congrFun (congrFun (congrArg EA.f20 h) a) b) c
  | Subscript a b c => exact congrFun (congrFun (congrFun (congrArg EA.f21 h) a) b) c
  | Starred a b => exact congrFun (congrFun (congrArg EA.f22 h) a) b
  | Name a b => exact congrFun (congrFun (congrArg EA.f23 h) a) b
  | List a b => exact congrFun (congrFun (congrArg EA.f24 h) a) b
  | Tuple a b c => exact congrFun (congrFun (congrFun (congrArg EA.f25 h) a) b) c
  | Slice a b c d => exact congrFun (congrFun (congrFun (congrFun (congrArg EA.f26 h) a) b) c) d
set_option backward.match.sparseCases false in
noncomputable def plainE : Expr → Bool
  | .Name .. => false
  | .Tuple .. => false
  | .Subscript .. => false
  | .Attribute .. => false
  | .Call .. => false
  | _ => true
inductive KE : Expr → Prop
  | name (x p) : KE (.Name x p)
  | tup (es k p) : KE (.Tuple es k p)
  | sub (v i p) : KE (.Subscript v i p)
  | attr (v m p) : KE (.Attribute v m p)
  | call (f a k p) : KE (.Call f a k p)
  | oth (e) (h : plainE e = true) : KE e
theorem ke (e : Expr) : KE e := by
  cases e with
  | Name x p => exact .name x p
  | Tuple es k p => exact .tup es k p
  | Subscript v i p => exact .sub v i p
  | Attribute v m p => exact .attr v m p
  | Call f a k p => exact .call f a k p
  | _ => exact .oth _ rfl
set_option backward.match.sparseCases false in
noncomputable def starV (e : Expr) : Option { x : Expr × Pos // e = .Starred x.1 x.2 } := match e with
  | .Starred a p => some ⟨(a, p), rfl⟩
  | _ => none
noncomputable def starB (e : Expr) : Bool := (starV e).isSome
theorem starB_is {e : Expr} (h : starB e = true) : ∃ a p, e = .Starred a p := by
  obtain ⟨v, _⟩ := Option.isSome_iff_exists.mp h
  exact ⟨v.1.1, v.1.2, v.2⟩
theorem plain_of {α : Type} {F : Expr → α} {z : α} (h : eaL F = eaR fun e => bif plainE e then z else F e) {e : Expr} (he : plainE e = true) : F e = z := by rw [ea h e, he]; rfl

inductive V where
  | none
  | bool (b : Bool)
  | int (i : Int)
  | str (l : List Nat)
  | tup (ds : List V)
  | lst (ds : List V)
  deriving Inhabited

noncomputable abbrev toStr (l : List Nat) : Str := ⟨l.toArray⟩
noncomputable abbrev Asc (l : List Nat) : Prop := ∀ c ∈ l, c < 128

mutual
noncomputable def V.toPy : V → PyData
  | .none => .none
  | .bool b => .bool b
  | .int i => .int i
  | .str l => .str (toStr l)
  | .tup ds => .tuple (toPys ds)
  | .lst ds => .list (toPys ds)
noncomputable def toPys : List V → List PyData
  | [] => []
  | d :: ds => d.toPy :: toPys ds
end
mutual
noncomputable def V.dep : V → Nat
  | .tup ds => deps ds + 1
  | .lst ds => deps ds + 1
  | _ => 0
noncomputable def deps : List V → Nat
  | [] => 0
  | d :: ds => max d.dep (deps ds)
end
mutual
theorem dep_toPy : ∀ d : V, d.toPy.depth = d.dep
  | .none => rfl
  | .bool _ => rfl
  | .int _ => rfl
  | .str _ => rfl
  | .tup ds => by simp only [V.toPy, PyData.depth, V.dep, deps_toPys ds]
  | .lst ds => by simp only [V.toPy, PyData.depth, V.dep, deps_toPys ds]
theorem deps_toPys : ∀ ds : List V, PyData.depthAll (toPys ds) = deps ds
  | [] => rfl
  | d :: ds => by simp only [toPys, PyData.depthAll, deps, dep_toPy d, deps_toPys ds]
end

mutual
inductive Rep (O : List Addr) (h : Heap) : Value → V → Prop
  | none : Rep O h .none .none
  | bool (b : Bool) : Rep O h (.bool b) (.bool b)
  | int (i : Int) (t : Tok) : Rep O h (.int i t) (.int i)
  | str (l : List Nat) (t : Tok) : Asc l → Rep O h (.str (toStr l) t) (.str l)
  | tup {a : Addr} {vs : List Value} {ds : List V} : a ∉ O → h.IsTuple a vs.toArray → Reps O h vs ds → Rep O h (.ref a) (.tup ds)
  | lst {a : Addr} {vs : List Value} {ds : List V} : a ∉ O → h.PlainList a vs.toArray → Reps O h vs ds → Rep O h (.ref a) (.lst ds)
inductive Reps (O : List Addr) (h : Heap) : List Value → List V → Prop
  | nil : Reps O h [] []
  | cons {v : Value} {vs : List Value} {d : V} {ds : List V} : Rep O h v d → Reps O h vs ds → Reps O h (v :: vs) (d :: ds)
end

theorem Rep.both {O : List Addr} {h : Heap} {P : Value → V → Prop} {Q : List Value → List V → Prop} (h1 : P .none .none) (h2 : ∀ b, P (.bool b) (.bool b)) (h3 : ∀ i t, P (.int i t) (.int i)) (h4 : ∀ l t, Asc l → P (.str (toStr l) t) (.str l))
    (h5 : ∀ {a : Addr} {vs : List Value} {ds : List V}, a ∉ O → h.IsTuple a vs.toArray → Q vs ds → P (.ref a) (.tup ds)) (h6 : ∀ {a : Addr} {vs : List Value} {ds : List V}, a ∉ O → h.PlainList a vs.toArray → Q vs ds → P (.ref a) (.lst ds))
    (h7 : Q [] []) (h8 : ∀ {v : Value} {vs : List Value} {d : V} {ds : List V}, P v d → Q vs ds → Q (v :: vs) (d :: ds)) : (∀ {v : Value} {d : V}, Rep O h v d → P v d) ∧ (∀ {vs : List Value} {ds : List V}, Reps O h vs ds → Q vs ds) :=
  ⟨fun r => Rep.rec (motive_1 := fun v d _ => P v d) (motive_2 := fun vs ds _ => Q vs ds) h1 h2 h3 h4 (fun a b _ c => h5 a b c) (fun a b _ c => h6 a b c) h7 (fun _ _ c d => h8 c d) r,
   fun r => Reps.rec (motive_1 := fun v d _ => P v d) (motive_2 := fun vs ds _ => Q vs ds) h1 h2 h3 h4 (fun a b _ c => h5 a b c) (fun a b _ c => h6 a b c) h7 (fun _ _ c d => h8 c d) r⟩
theorem Reps.ind {O : List Addr} {h : Heap} {P : List Value → List V → Prop} (hn : P [] []) (hc : ∀ {v : Value} {vs : List Value} {d : V} {ds : List V}, Rep O h v d → Reps O h vs ds → P vs ds → P (v :: vs) (d :: ds)) {vs : List Value} {ds : List V} (r : Reps O h vs ds) : P vs ds :=
  Reps.rec (motive_1 := fun _ _ _ => True) (motive_2 := fun vs ds _ => P vs ds) trivial (fun _ => trivial) (fun _ _ => trivial) (fun _ _ _ => trivial) (fun _ _ _ _ => trivial) (fun _ _ _ _ => trivial) hn (fun a r _ ih => hc a r ih) r
theorem Reps.length {O : List Addr} {h : Heap} {vs : List Value} {ds : List V} (r : Reps O h vs ds) : vs.length = ds.length :=
  Reps.ind (P := fun vs ds => vs.length = ds.length) rfl (fun _ _ ih => congrArg Nat.succ ih) r
theorem Reps.append {O : List Addr} {h : Heap} {vs ws : List Value} {ds es : List V} (r : Reps O h vs ds) (k : Reps O h ws es) : Reps O h (vs ++ ws) (ds ++ es) :=
  Reps.ind (P := fun vs ds => Reps O h (vs ++ ws) (ds ++ es)) k (fun a _ ih => .cons a ih) r
theorem Reps.get {O : List Addr} {h : Heap} {vs : List Value} {ds : List V} (r : Reps O h vs ds) {i : Nat} {d : V} (e : ds[i]? = some d) : ∃ v, vs[i]? = some v ∧ Rep O h v d :=
  Reps.ind (P := fun vs ds => ∀ (i : Nat) (d : V), ds[i]? = some d → ∃ v, vs[i]? = some v ∧ Rep O h v d) (fun _ _ e => by cases e) (fun a _ ih i d e => by
    cases i with
    | zero => obtain rfl := Option.some.inj e; exact ⟨_, rfl, a⟩
    | succ i => exact ih i d e) r i d e
theorem Reps.get' {O : List Addr} {h : Heap} {vs : List Value} {ds : List V} (r : Reps O h vs ds) {i : Nat} {v : Value} (e : vs[i]? = some v) : ∃ d, ds[i]? = some d ∧ Rep O h v d :=
  Reps.ind (P := fun vs ds => ∀ (i : Nat) (v : Value), vs[i]? = some v → ∃ d, ds[i]? = some d ∧ Rep O h v d) (fun _ _ e => by cases e) (fun a _ ih i d e => by
    cases i with
    | zero => obtain rfl := Option.some.inj e; exact ⟨_, rfl, a⟩
    | succ i => exact ih i d e) r i v e
theorem Reps.take {O : List Addr} {h : Heap} {vs : List Value} {ds : List V} (r : Reps O h vs ds) : ∀ n, Reps O h (vs.take n) (ds.take n) :=
  Reps.ind (P := fun vs ds => ∀ n, Reps O h (vs.take n) (ds.take n)) (fun n => by rw [List.take_nil, List.take_nil]; exact .nil) (fun a _ ih n => by
    cases n with
    | zero => exact .nil
    | succ n => exact .cons a (ih n)) r
theorem Reps.drop {O : List Addr} {h : Heap} {vs : List Value} {ds : List V} (r : Reps O h vs ds) : ∀ n, Reps O h (vs.drop n) (ds.drop n) :=
  Reps.ind (P := fun vs ds => ∀ n, Reps O h (vs.drop n) (ds.drop n)) (fun n => by rw [List.drop_nil, List.drop_nil]; exact .nil) (fun a r ih n => by
    cases n with
    | zero => exact .cons a r
    | succ n => exact ih n) r
theorem Reps.set {O : List Addr} {h : Heap} {vs : List Value} {ds : List V} (r : Reps O h vs ds) (i : Nat) {v : Value} {d : V} (k : Rep O h v d) : Reps O h (vs.set i v) (ds.set i d) :=
  Reps.ind (P := fun vs ds => ∀ i, Reps O h (vs.set i v) (ds.set i d)) (fun _ => .nil) (fun a r ih i => by
    cases i with
    | zero => exact .cons k r
    | succ i => exact .cons a (ih i)) r i
theorem Reps.replicate {O : List Addr} {h : Heap} {v : Value} {d : V} (r : Rep O h v d) : ∀ n, Reps O h (List.replicate n v) (List.replicate n d)
  | 0 => .nil
  | n + 1 => .cons r (Reps.replicate r n)
theorem Reps.insert {O : List Addr} {h : Heap} {vs : List Value} {ds : List V} (r : Reps O h vs ds) (i : Nat) {v : Value} {d : V} (k : Rep O h v d) : Reps O h (vs.take i ++ v :: vs.drop i) (ds.take i ++ d :: ds.drop i) :=
  (r.take i).append (.cons k (r.drop i))
theorem Rep.intI {O : List Addr} {h : Heap} {v : Value} {i : Int} (r : Rep O h v (.int i)) : ∃ t, v = .int i t := by
  cases r with
  | int i t => exact ⟨t, rfl⟩
theorem Reps.intsAre {O : List Addr} {h : Heap} {vs : List Value} {ns : List Int} (r : Reps O h vs (ns.map V.int)) : IntsAre vs ns :=
  Reps.ind (P := fun vs ds => ∀ ns : List Int, ds = ns.map V.int → IntsAre vs ns) (fun ns e => by
    cases ns with
    | nil => exact .nil
    | cons _ _ => cases e) (fun a _ ih ns e => by
    cases ns with
    | nil => cases e
    | cons n ns =>
      obtain ⟨t, rfl⟩ := Rep.intI ((List.cons.inj e).1 ▸ a)
      exact .cons n t (ih ns (List.cons.inj e).2)) r ns rfl
theorem Reps.ofInts {O : List Addr} {h : Heap} {vs : List Value} {ns : List Int} (r : IntsAre vs ns) : Reps O h vs (ns.map V.int) :=
  IntsAre.rec (motive := fun vs ns _ => Reps O h vs (ns.map V.int)) .nil (fun i t _ _ _ ih => .cons (.int i t) ih) r

theorem keep_both {O O' : List Addr} {h h' : Heap} (hO : ∀ a o, h.get? a = some o → a ∉ O → a ∉ O') (hk : ∀ a o, h.get? a = some o → a ∉ O → (∃ vs n, o.data = .seq vs n) → h'.get? a = some o) :
    (∀ {v : Value} {d : V}, Rep O h v d → Rep O' h' v d) ∧ (∀ {vs : List Value} {ds : List V}, Reps O h vs ds → Reps O' h' vs ds) :=
  Rep.both .none .bool .int .str
    (fun ha e r => Exists.elim e fun o e => .tup (hO _ o e.1 ha) ⟨o, hk _ o e.1 ha ⟨_, e.2.2⟩, e.2⟩ r)
    (fun ha e r => Exists.elim e fun n e => .lst (hO _ _ e ha) ⟨n, hk _ _ e ha ⟨_, n, rfl⟩⟩ r) .nil .cons
theorem Rep.keep {O O' : List Addr} {h h' : Heap} (hO : ∀ a o, h.get? a = some o → a ∉ O → a ∉ O') (hk : ∀ a o, h.get? a = some o → a ∉ O → (∃ vs n, o.data = .seq vs n) → h'.get? a = some o)
    {v : Value} {d : V} (r : Rep O h v d) : Rep O' h' v d := (keep_both hO hk).1 r
theorem Reps.keep {O O' : List Addr} {h h' : Heap} (hO : ∀ a o, h.get? a = some o → a ∉ O → a ∉ O') (hk : ∀ a o, h.get? a = some o → a ∉ O → (∃ vs n, o.data = .seq vs n) → h'.get? a = some o)
    {vs : List Value} {ds : List V} (r : Reps O h vs ds) : Reps O' h' vs ds := (keep_both hO hk).2 r
theorem Rep.lessO {O O' : List Addr} {h : Heap} {v : Value} {d : V} (r : Rep O h v d) (hs : ∀ a ∈ O', a ∈ O) : Rep O' h v d :=
  r.keep (fun a _ _ hn hm => hn (hs a hm)) fun _ _ e _ _ => e
theorem Reps.lessO {O O' : List Addr} {h : Heap} {vs : List Value} {ds : List V} (r : Reps O h vs ds) (hs : ∀ a ∈ O', a ∈ O) : Reps O' h vs ds :=
  r.keep (fun a _ _ hn hm => hn (hs a hm)) fun _ _ e _ _ => e
theorem Rep.more {O : List Addr} {h : Heap} {a : Addr} {v : Value} {d : V} (r : Rep O h v d) (ha : h.get? a = .none) : Rep (a :: O) h v d :=
  r.keep (fun b _ e hn hm => (List.mem_cons.mp hm).elim (fun q => by rw [q, ha] at e; cases e) hn) fun _ _ e _ _ => e
theorem Reps.more {O : List Addr} {h : Heap} {a : Addr} {vs : List Value} {ds : List V} (r : Reps O h vs ds) (ha : h.get? a = .none) : Reps (a :: O) h vs ds :=
  r.keep (fun b _ e hn hm => (List.mem_cons.mp hm).elim (fun q => by rw [q, ha] at e; cases e) hn) fun _ _ e _ _ => e

noncomputable def RepTop (W O : List Addr) (h : Heap) (v : Value) (d : V) : Prop :=
  match d with
  | .lst ds => ∃ a vs, v = .ref a ∧ (a ∉ O ∨ a ∈ W) ∧ h.IsList a vs.toArray ∧ Reps O h vs ds
  | d => Rep O h v d
theorem Rep.top {W O : List Addr} {h : Heap} {v : Value} {d : V} (r : Rep O h v d) : RepTop W O h v d := by
  cases r with
  | lst hn hl r => exact ⟨_, _, rfl, .inl hn, hl.isList, r⟩
  | none => exact .none
  | bool b => exact .bool b
  | int i t => exact .int i t
  | str l t a => exact .str l t a
  | tup hn x r => exact .tup hn x r
noncomputable def RepFresh (O : List Addr) (h h' : Heap) (v : Value) (d : V) : Prop := ∃ a vs ds, v = .ref a ∧ d = .lst ds ∧ h.get? a = none ∧ h'.PlainList a vs.toArray ∧ Reps (a :: O) h' vs ds

theorem reads_both {O : List Addr} {h : Heap} : (∀ {v : Value} {d : V}, Rep O h v d → ∃ as, Reads h v d.toPy as ∧ d.toPy.canLay0 = true) ∧ (∀ {vs : List Value} {ds : List V}, Reps O h vs ds → ∃ as, ReadsAll h vs (toPys ds) as ∧ PyData.canLayAll0 (toPys ds) = true) :=
  Rep.both ⟨_, .none, rfl⟩ (fun b => ⟨_, .bool b, rfl⟩) (fun i t => ⟨_, .int i t, rfl⟩)
    (fun l t a => ⟨_, .str _ t, by
      simp only [V.toPy, PyData.canLay0]
      unfold PyData.strOk
      rw [← Array.all_toList, List.all_eq_true]
      intro c hc
      have := a c hc
      simp; omega⟩)
    (fun _ e r => Exists.elim e fun _ e => Exists.elim r fun _ r => ⟨_, .tuple e.1 e.2.1 e.2.2.choose_spec r.1, r.2⟩)
    (fun _ e r => Exists.elim e fun _ e => Exists.elim r fun _ r => ⟨_, .list e rfl rfl r.1, r.2⟩)
    ⟨_, .nil, rfl⟩
    (fun a r => Exists.elim a fun _ a => Exists.elim r fun _ r => ⟨_, .cons a.1 r.1, by show (_ && _) = true; rw [a.2, r.2]; rfl⟩)
theorem Rep.reads {O : List Addr} {h : Heap} {v : Value} {d : V} (r : Rep O h v d) : ∃ as, Reads h v d.toPy as ∧ d.toPy.canLay0 = true := reads_both.1 r
theorem Reps.reads {O : List Addr} {h : Heap} {vs : List Value} {ds : List V} (r : Reps O h vs ds) : ∃ as, ReadsAll h vs (toPys ds) as ∧ PyData.canLayAll0 (toPys ds) = true := reads_both.2 r
theorem RepTop.reads {W O : List Addr} {h : Heap} {v : Value} {d : V} (r : RepTop W O h v d) : ∃ as, Reads h v d.toPy as ∧ d.toPy.canLay0 = true := by
  cases d with
  | lst ds =>
    obtain ⟨a, vs, rfl, _, ⟨o, ho, hc, n, hd⟩, r⟩ := r
    obtain ⟨_, r', c⟩ := r.reads
    exact ⟨_, .list ho hc hd r', c⟩
  | _ => exact Rep.reads (O := O) r

structure Par where
  H0 : Heap
  P : Addr
  lp : Pos
  lq : Str
  mg : Str → Option Value
  mb : Str → Option Value
  hP : H0.get? P = none
  g : H0.Ns mainGlobals mg
  b : H0.Ns builtinsNs mb
  nolim : H0.NoLimit

noncomputable def TabOK (Z : Par) (h : Heap) : Prop := ∃ ps, h.get? Z.P = some (tabObj ps) ∧ TriplesOk ps.toList ∧ ∀ cv, codeAmong Z.lp ps.toList = some cv → h.CodeRec cv Z.lq
structure Gd (Z : Par) (h : Heap) : Prop where
  base : ∀ b o, Z.H0.get? b = some o → h.get? b = some o
  tab : TabOK Z h
structure Ext (Z : Par) (h h' : Heap) : Prop where
  keep : ∀ b o, b ≠ Z.P → h.get? b = some o → h'.get? b = some o
  tab : TabOK Z h
  tab' : TabOK Z h'
section
variable {Z : Par} {h h' h₁ h₂ h₃ : Heap}
theorem Ext.trans (x : Ext Z h₁ h₂) (y : Ext Z h₂ h₃) : Ext Z h₁ h₃ := ⟨fun b o hb e => y.keep b o hb (x.keep b o hb e), x.tab, y.tab'⟩
theorem Ext.refl (g : Gd Z h) : Ext Z h h := ⟨fun _ _ _ e => e, g.tab, g.tab⟩
theorem TabOK.keeps (x : TabOK Z h) (k : ∀ b o, h.get? b = some o → h'.get? b = some o) : TabOK Z h' :=
  let ⟨ps, e, t, c⟩ := x; ⟨ps, k _ _ e, t, fun cv q => (c cv q).keeps k⟩
theorem Ext.ofKeep (g : Gd Z h) (k : ∀ b o, h.get? b = some o → h'.get? b = some o) : Ext Z h h' := ⟨fun b o _ e => k b o e, g.tab, g.tab.keeps k⟩
theorem Ext.gd (g : Gd Z h) (x : Ext Z h h') : Gd Z h' := ⟨fun b o e => x.keep b o (fun q => by rw [q, Z.hP] at e; cases e) (g.base b o e), x.tab'⟩
theorem Ext.obj {a : Addr} {o : Obj} (x : Ext Z h h') (e : h.get? a = some o) (hc : o.cls ≠ .none) : h'.get? a = some o :=
  x.keep a o (fun q => by obtain ⟨ps, e2, _⟩ := x.tab; rw [q, e2] at e; obtain rfl := Option.some.inj e; exact hc rfl) e
theorem Ext.seq {a : Addr} {o : Obj} (x : Ext Z h h') (e : h.get? a = some o) (hc : ∃ vs n, o.data = .seq vs n) : h'.get? a = some o :=
  x.keep a o (fun q => by obtain ⟨ps, e2, _⟩ := x.tab; obtain ⟨vs, n, hc⟩ := hc; rw [q, e2] at e; cases e; cases hc) e
theorem Ext.rep {O : List Addr} {v : Value} {d : V} (x : Ext Z h h') (r : Rep O h v d) : Rep O h' v d :=
  r.keep (fun _ _ _ n => n) fun _ _ e _ c => x.seq e c
theorem Ext.reps {O : List Addr} {vs : List Value} {ds : List V} (x : Ext Z h h') (r : Reps O h vs ds) : Reps O h' vs ds :=
  r.keep (fun _ _ _ n => n) fun _ _ e _ c => x.seq e c
theorem Ext.isList {a : Addr} {its : Array Value} (x : Ext Z h h') (l : h.IsList a its) : h'.IsList a its :=
  let ⟨o, e, c, r⟩ := l; ⟨o, x.obj e (by rw [c]; nofun), c, r⟩
theorem Ext.plain {a : Addr} {its : Array Value} (x : Ext Z h h') (l : h.PlainList a its) : h'.PlainList a its :=
  let ⟨n, e⟩ := l; ⟨n, x.obj e nofun⟩
theorem Ext.isTuple {a : Addr} {its : Array Value} (x : Ext Z h h') (l : h.IsTuple a its) : h'.IsTuple a its :=
  let ⟨o, e, c, r⟩ := l; ⟨o, x.obj e (by rw [c]; nofun), c, r⟩
theorem Ext.repTop {W O : List Addr} {v : Value} {d : V} (x : Ext Z h h') (r : RepTop W O h v d) : RepTop W O h' v d := by
  cases d with
  | lst ds => obtain ⟨a, vs, e, hn, l, r⟩ := r; exact ⟨a, vs, e, hn, x.isList l, x.reps r⟩
  | _ => exact x.rep (O := O) r
theorem Ext.ns {a : Addr} {m : Str → Option Value} (x : Ext Z h h') (n : h.Ns a m) : h'.Ns a m := by
  obtain ⟨o, es, ep, e, hd, r⟩ := n
  refine ⟨o, es, ep, x.keep a o (fun q => ?_) e, hd, r⟩
  obtain ⟨ps, e2, _⟩ := x.tab
  rw [q, e2] at e
  obtain rfl := Option.some.inj e
  cases hd
theorem Ext.cell {a : Addr} {v : Option Value} (x : Ext Z h h') (n : h.IsCell a v) : h'.IsCell a v := by
  obtain ⟨o, e, hd⟩ := n
  refine ⟨o, x.keep a o (fun q => ?_) e, hd⟩
  obtain ⟨ps, e2, _⟩ := x.tab
  rw [q, e2] at e
  obtain rfl := Option.some.inj e
  cases hd
theorem Ext.kSome {a : Addr} (x : Ext Z h h') (e : (h.get? a).isSome = true) : (h'.get? a).isSome = true := by
  by_cases q : a = Z.P
  · obtain ⟨ps, e2, _⟩ := x.tab'; rw [q, e2]; rfl
  · obtain ⟨o, ho⟩ := Option.isSome_iff_exists.mp e
    rw [x.keep a o q ho]; rfl
theorem Ext.kNone {a : Addr} (x : Ext Z h h') (e : h'.get? a = .none) : h.get? a = .none := by
  cases q : h.get? a with
  | none => rfl
  | some o => have := x.kSome (a := a) (by rw [q]; rfl); rw [e] at this; exact Bool.noConfusion this
theorem RepFresh.rep {O : List Addr} {v : Value} {d : V} (x : RepFresh O h h' v d) (hO : ∀ a ∈ O, (h.get? a).isSome = true) : Rep O h' v d := by
  obtain ⟨a, vs, ds, rfl, rfl, hn, hl, r⟩ := x
  exact .lst (fun hm => by have := hO a hm; rw [hn] at this; exact Bool.noConfusion this) hl (r.lessO fun b hb => List.mem_cons_of_mem _ hb)
theorem RepFresh.later {O : List Addr} {v : Value} {d : V} (y : Ext Z h₁ h₂) (x : RepFresh O h₂ h₃ v d) : RepFresh O h₁ h₃ v d :=
  x.imp fun _ x => x.imp fun _ x => x.imp fun _ x => ⟨x.1, x.2.1, y.kNone x.2.2.1, x.2.2.2⟩
theorem RepFresh.grown {O : List Addr} {v : Value} {d : V} (x : RepFresh O h₁ h₂ v d) (y : Ext Z h₂ h₃) : RepFresh O h₁ h₃ v d :=
  x.imp fun _ x => x.imp fun _ x => x.imp fun _ x => ⟨x.1, x.2.1, x.2.2.1, y.plain x.2.2.2.1, y.reps x.2.2.2.2⟩
theorem Ext.push (g : Gd Z h) (o : Obj) : Ext Z h (h.push o) := .ofKeep g fun _ _ e => Heap.get?_push_of_some o e
theorem get_size (h : Heap) : h.get? h.objs.size = .none := by
  cases q : h.get? h.objs.size with
  | none => rfl
  | some o => exact absurd (Heap.lt_size q) (Nat.lt_irrefl _)
theorem fresh_push {O : List Addr} {vs : List Value} {ds : List V} {n : Nat} (g : Gd Z h) (r : Reps O h vs ds) :
    RepFresh O h (h.push { cls := .type "list", data := .seq vs.toArray n }) (.ref h.objs.size) (.lst ds) :=
  ⟨_, vs, ds, rfl, rfl, get_size h, ⟨n, Heap.get?_push_size _ rfl⟩, (Ext.push g _).reps (r.more (get_size h))⟩
end

structure GoodA (k : Nat) (A : Around) : Prop where
  handled : A.handled = none
  depth : A.depth + k < recursionLimit
  units : A.units + 50 * k + 200 < cLine
theorem GoodA.in1 {k : Nat} {A : Around} (x : GoodA (k + 1) A) : GoodA k A.in1 := ⟨x.handled, by have := x.depth; show A.depth + k < _; omega, by have := x.units; show A.units + 1 + _ + _ < _; omega⟩
theorem GoodA.deeper {k : Nat} {A : Around} (x : GoodA (k + 1) A) (env : Env) : GoodA k (A.deeper env) := ⟨x.handled, by have := x.depth; show A.depth + 1 + k < _; omega, by have := x.units; show A.units + 3 + _ + _ < _; omega⟩
theorem GoodA.less {k : Nat} {A : Around} (x : GoodA (k + 1) A) : GoodA k A := ⟨x.handled, by have := x.depth; omega, by have := x.units; omega⟩
end Mine

-- MB
set_option maxRecDepth 10000
namespace Mine
set_option tactic.hygienic false

noncomputable def mkS (l : List Nat) : Option V := if l.length ≤ 100000 then some (.str l) else none
noncomputable def mkL (ds : List V) : Option V := if ds.length ≤ 100000 then some (.lst ds) else none
noncomputable def b2iV (b : Bool) : Int := if b then 1 else 0

inductive BQ where
  | addI (a b : Int)
  | subI (a b : Int)
  | subB (a b : Bool)
  | mulI (a b : Int)
  | modI (a b : Int)
  | divI (a b : Int)
  | addS (a b : List Nat)
  | addL (a b : List V)
  | mulS (a : List Nat) (n : Int)
  | mulL (a : List V) (n : Int)
noncomputable def BQ.form : BQ → Operator × V × V
  | .addI a b => (.Add, .int a, .int b)
  | .subI a b => (.Sub, .int a, .int b)
  | .subB a b => (.Sub, .bool a, .bool b)
  | .mulI a b => (.Mult, .int a, .int b)
  | .modI a b => (.Mod, .int a, .int b)
  | .divI a b => (.FloorDiv, .int a, .int b)
  | .addS a b => (.Add, .str a, .str b)
  | .addL a b => (.Add, .lst a, .lst b)
  | .mulS a n => (.Mult, .str a, .int n)
  | .mulL a n => (.Mult, .lst a, .int n)
noncomputable def BQ.val : BQ → Option V
  | .addI a b => some (.int (a + b))
  | .subI a b => some (.int (a - b))
  | .subB a b => some (.int (b2iV a - b2iV b))
  | .mulI a b => if a.natAbs ≤ 1000000 ∧ b.natAbs ≤ 1000000 then some (.int (a * b)) else none
  | .modI a b => if b = 0 then none else some (.int (a.fmod b))
  | .divI a b => if 0 < b ∧ b ≤ 1000 then some (.int (a.fdiv b)) else none
  | .addS a b => mkS (a ++ b)
  | .addL a b => mkL (a ++ b)
  | .mulS a n => if n ≤ 100000 ∧ -100000 ≤ n then mkS (List.replicate n.toNat a).flatten else none
  | .mulL a n => if n ≤ 100000 ∧ -100000 ≤ n then mkL (List.replicate n.toNat a).flatten else none
noncomputable def isBin : (op : Operator) → (a b : V) → Option { q : BQ // (op, a, b) = q.form }
  | .Add, .int a, .int b => some ⟨.addI a b, rfl⟩
  | .Sub, .int a, .int b => some ⟨.subI a b, rfl⟩
  | .Sub, .bool a, .bool b => some ⟨.subB a b, rfl⟩
  | .Mult, .int a, .int b => some ⟨.mulI a b, rfl⟩
  | .Mod, .int a, .int b => some ⟨.modI a b, rfl⟩
  | .FloorDiv, .int a, .int b => some ⟨.divI a b, rfl⟩
  | .Add, .str a, .str b => some ⟨.addS a b, rfl⟩
  | .Add, .lst a, .lst b => some ⟨.addL a b, rfl⟩
  | .Mult, .str a, .int n => some ⟨.mulS a n, rfl⟩
  | .Mult, .lst a, .int n => some ⟨.mulL a n, rfl⟩
  | _, _, _ => none
noncomputable def binop (op : Operator) (a b : V) : Option V := match isBin op a b with
  | some q => q.1.val
  | none => none

inductive CQ where
  | eqI (a b : Int)
  | neI (a b : Int)
  | ltI (a b : Int)
  | gtI (a b : Int)
  | eqS (a b : List Nat)
  | ltS (a b : List Nat)
  | gtS (a b : List Nat)
  | eqL (a b : List V)
  | neL (a b : List V)
  | inL (a : Int) (b : List V)
  | inT (a : Int) (b : List V)
  | isN (a b : Bool)
noncomputable def CQ.form : CQ → CmpOp × V × V
  | .eqI a b => (.Eq, .int a, .int b)
  | .neI a b => (.NotEq, .int a, .int b)
  | .ltI a b => (.Lt, .int a, .int b)
  | .gtI a b => (.Gt, .int a, .int b)
  | .eqS a b => (.Eq, .str a, .str b)
  | .ltS a b => (.Lt, .str a, .str b)
  | .gtS a b => (.Gt, .str a, .str b)
  | .eqL a b => (.Eq, .lst a, .lst b)
  | .neL a b => (.NotEq, .lst a, .lst b)
  | .inL a b => (.In, .int a, .lst b)
  | .inT a b => (.In, .int a, .tup b)
  | .isN a b => (.IsNot, .bool a, .bool b)
noncomputable def CQ.val : CQ → Option Bool
  | .eqI a b => some (a == b)
  | .neI a b => some (a != b)
  | .ltI a b => some (decide (a < b))
  | .gtI a b => some (decide (b < a))
  | .eqS a b => some (a == b)
  | .ltS a b => some (decide (a < b))
  | .gtS a b => some (decide (b < a))
  | .eqL a b => if deps a ≤ 50 then some (PyData.eqvAll (toPys a) (toPys b)) else none
  | .neL a b => if deps a ≤ 50 then some (!PyData.eqvAll (toPys a) (toPys b)) else none
  | .inL a b => some ((toPys b).any fun y => PyData.eqv y (.int a))
  | .inT a b => some ((toPys b).any fun y => PyData.eqv y (.int a))
  | .isN a b => some (a != b)
noncomputable def isCmp : (op : CmpOp) → (a b : V) → Option { q : CQ // (op, a, b) = q.form }
  | .Eq, .int a, .int b => some ⟨.eqI a b, rfl⟩
  | .NotEq, .int a, .int b => some ⟨.neI a b, rfl⟩
  | .Lt, .int a, .int b => some ⟨.ltI a b, rfl⟩
  | .Gt, .int a, .int b => some ⟨.gtI a b, rfl⟩
  | .Eq, .str a, .str b => some ⟨.eqS a b, rfl⟩
  | .Lt, .str a, .str b => some ⟨.ltS a b, rfl⟩
  | .Gt, .str a, .str b => some ⟨.gtS a b, rfl⟩
  | .Eq, .lst a, .lst b => some ⟨.eqL a b, rfl⟩
  | .NotEq, .lst a, .lst b => some ⟨.neL a b, rfl⟩
  | .In, .int a, .lst b => some ⟨.inL a b, rfl⟩
  | .In, .int a, .tup b => some ⟨.inT a b, rfl⟩
  | .IsNot, .bool a, .bool b => some ⟨.isN a b, rfl⟩
  | _, _, _ => none
noncomputable def cmpop (op : CmpOp) (a b : V) : Option Bool := match isCmp op a b with
  | some q => q.1.val
  | none => none

noncomputable def truth : V → Option Bool
  | .bool b => some b
  | .int i => some (i != 0)
  | _ => none

noncomputable def New (Z : Par) (O : List Addr) (h h' : Heap) (v : Value) (d : V) : Prop := Ext Z h h' ∧ Rep O h' v d ∧ ∀ ds, d = .lst ds → RepFresh O h h' v d
noncomputable abbrev OIn (O : List Addr) (h : Heap) : Prop := ∀ a ∈ O, (h.get? a).isSome = true

theorem RepTop.bool {W O : List Addr} {h : Heap} {v : Value} {b : Bool} (r : RepTop W O h v (.bool b)) : v = .bool b := by cases (show Rep O h v (.bool b) from r); rfl
theorem RepTop.int {W O : List Addr} {h : Heap} {v : Value} {i : Int} (r : RepTop W O h v (.int i)) : ∃ t, v = .int i t := by cases (show Rep O h v (.int i) from r); exact ⟨_, rfl⟩
theorem RepTop.str {W O : List Addr} {h : Heap} {v : Value} {l : List Nat} (r : RepTop W O h v (.str l)) : Asc l ∧ ∃ t, v = .str (toStr l) t := by cases (show Rep O h v (.str l) from r); exact ⟨by assumption, _, rfl⟩
theorem RepTop.lst {W O : List Addr} {h : Heap} {v : Value} {ds : List V} (r : RepTop W O h v (.lst ds)) : ∃ a vs, v = .ref a ∧ h.IsList a vs.toArray ∧ Reps O h vs ds := let ⟨a, vs, e, _, l, r⟩ := r; ⟨a, vs, e, l, r⟩
theorem RepTop.tup {W O : List Addr} {h : Heap} {v : Value} {ds : List V} (r : RepTop W O h v (.tup ds)) : ∃ a vs, v = .ref a ∧ h.IsTuple a vs.toArray ∧ Reps O h vs ds := by
  cases (show Rep O h v (.tup ds) from r); exact ⟨_, _, rfl, by assumption, by assumption⟩

section
variable {Z : Par} {prog : Program} {w : World} {A : Around} {E : Value → Shared → Prop} {W O : List Addr} {s : Shared}

theorem New.atom {h : Heap} {v : Value} {d : V} (g : Gd Z h) (r : Rep O h v d) (hd : ∀ ds, d ≠ .lst ds) : New Z O h h v d := ⟨.refl g, r, fun ds e => absurd e (hd ds)⟩
theorem New.ofFresh {h h' : Heap} {v : Value} {d : V} (hO : OIn O h) (x : Ext Z h h') (r : RepFresh O h h' v d) : New Z O h h' v d := ⟨x, r.rep hO, fun _ _ => r⟩
theorem New.push {h : Heap} {vs : List Value} {ds : List V} {n : Nat} (g : Gd Z h) (hO : OIn O h) (r : Reps O h vs ds) :
    New Z O h (h.push { cls := .type "list", data := .seq vs.toArray n }) (.ref h.objs.size) (.lst ds) := .ofFresh hO (.push g _) (fresh_push g r)

theorem asc_append {a b : List Nat} (x : Asc a) (y : Asc b) : Asc (a ++ b) := fun c hc => (List.mem_append.mp hc).elim (x c) (y c)
theorem asc_rep {a : List Nat} (x : Asc a) (n : Nat) : Asc (List.replicate n a).flatten := fun c hc => by
  obtain ⟨l, hl, hc⟩ := List.mem_flatten.mp hc
  rw [List.eq_of_mem_replicate hl] at hc
  exact x c hc
theorem reps_rep {h : Heap} {vs : List Value} {ds : List V} (r : Reps O h vs ds) : ∀ n, Reps O h (List.replicate n vs).flatten (List.replicate n ds).flatten
  | 0 => .nil
  | n + 1 => by rw [List.replicate_succ, List.replicate_succ, List.flatten_cons, List.flatten_cons]; exact r.append (reps_rep r n)
theorem foldl_arr (l : List Nat) : ∀ (n : Nat) (acc : Array Nat), (List.replicate n l.toArray).foldl (· ++ ·) acc = (acc.toList ++ (List.replicate n l).flatten).toArray
  | 0, acc => by simp
  | n + 1, acc => by rw [List.replicate_succ, List.foldl_cons, foldl_arr l n, List.replicate_succ, List.flatten_cons]; simp

theorem bin_str_add {a b : List Nat} {t u : Tok} {d : V} {Q : Value → Shared → Prop} (ha : Asc a) (hb : Asc b) (e : mkS (a ++ b) = some d) (g : Gd Z s.heap)
    (h : ∀ tk v, New Z O s.heap s.heap v d → Q v { s with toks := tk }) :
    (if (toStr a).length == 0 then Made.val (.str (toStr b) u) else if (toStr b).length == 0 then Made.val (.str (toStr a) t) else Made.str (toStr a ++ toStr b)).post Q s := by
  unfold mkS at e
  split at e
  · rename_i hl
    cases e
    have r : ∀ x, a ++ b = x → ∀ t, New Z O s.heap s.heap (.str (toStr x) t) (.str (a ++ b)) := fun x q t => by subst q; exact .atom g (.str _ t (asc_append ha hb)) (fun _ => nofun)
    split
    · rename_i h0
      have : a = [] := by simpa [Str.length] using h0
      subst this
      exact h s.toks _ (r _ rfl u)
    · split
      · rename_i h0
        have : b = [] := by simpa [Str.length] using h0
        subst this
        exact h s.toks _ (r _ (List.append_nil a) t)
      · refine ⟨?_, ?_⟩
        · show (a.toArray ++ b.toArray).size ≤ _
          rw [sizeLine_eq]; simp at hl ⊢; grind
        · have := h (s.toks + 1) _ (r _ rfl s.toks)
          have e : (toStr a ++ toStr b) = toStr (a ++ b) := by show (⟨a.toArray ++ b.toArray⟩ : Str) = _; simp [toStr]
          rw [e]; exact this
  · cases e

theorem iteS {α : Type} {p : Prop} [Decidable p] {x : Option α} {d : α} (e : (if p then x else none) = some d) : p ∧ x = some d := by
  split at e
  · exact ⟨‹_›, e⟩
  · cases e
theorem iteN {α : Type} {p : Prop} [Decidable p] {x : Option α} {d : α} (e : (if p then none else x) = some d) : ¬ p ∧ x = some d := by
  split at e
  · cases e
  · exact ⟨‹_›, e⟩

set_option tactic.hygienic true in
theorem binop_ok {op : Operator} {a b d : V} {va vb : Value} {Q : Value → Shared → Prop} (e : binop op a b = some d) (g : Gd Z s.heap) (hO : OIn O s.heap)
    (ra : RepTop W O s.heap va a) (rb : RepTop W O s.heap vb b) (h : ∀ h' tk v, New Z O s.heap h' v d → Q v { s with heap := h', toks := tk }) :
    wpAny (model prog w) A (binaryOp op va vb) Q E s := by
  unfold binop at e
  cases hq : isBin op a b with
  | none => rw [hq] at e; cases e
  | some q =>
  rw [hq] at e
  clear hq
  obtain ⟨q, hq⟩ := q
  replace e : q.val = some d := e
  cases q <;> cases hq
  · obtain ⟨t, rfl⟩ := ra.int; obtain ⟨u, rfl⟩ := rb.int; cases e
    exact P.add_int (h s.heap _ _ (.atom g (.int _ _) fun _ => nofun))
  · obtain ⟨t, rfl⟩ := ra.int; obtain ⟨u, rfl⟩ := rb.int; cases e
    exact P.sub_int (h s.heap _ _ (.atom g (.int _ _) fun _ => nofun))
  · obtain rfl := ra.bool; obtain rfl := rb.bool; cases e
    exact PyProof.Rows.sub_bool (h s.heap _ _ (.atom g (by
      rename_i x y
      have : b2i x - b2i y = b2iV x - b2iV y := by cases x <;> cases y <;> rfl
      rw [this]; exact .int _ _) fun _ => nofun))
  · rename_i x y
    obtain ⟨t, rfl⟩ := ra.int; obtain ⟨u, rfl⟩ := rb.int
    obtain ⟨hxy, e⟩ := iteS e
    · cases e
      refine P.mul_int (h s.heap _ _ (.atom g (.int _ _) fun _ => nofun)) ?_
      unfold IntMulOk
      have hb : ∀ z : Int, z.natAbs ≤ 1000000 → ¬ Builtin.Int.intBits z > shortFactorBits := by
        intro z hz
        unfold Builtin.Int.intBits shortFactorBits
        have h1 : z.natAbs.log2 < 20 + 1 ∨ z = 0 := by
          by_cases q : z = 0
          · exact .inr q
          · left
            have h2 : z.natAbs ≠ 0 := by grind
            exact (Nat.log2_lt h2).mpr (by grind)
        rcases h1 with h1 | h1
        · split <;> grind
        · subst h1; decide
      rw [decide_eq_false (hb x hxy.1)]
      simp
  · obtain ⟨t, rfl⟩ := ra.int; obtain ⟨u, rfl⟩ := rb.int
    obtain ⟨hb, e⟩ := iteN e
    · cases e
      exact mod_int' hb (h s.heap _ _ (.atom g (.int _ _) fun _ => nofun))
  · rename_i x y
    obtain ⟨t, rfl⟩ := ra.int; obtain ⟨u, rfl⟩ := rb.int
    obtain ⟨hxy, e⟩ := iteS e
    · cases e
      refine floordiv_int (by grind) (h s.heap _ _ (.atom g (.int _ _) fun _ => nofun)) (.inl ?_)
      unfold Builtin.divisionGoesByPylong
      have h1 : ¬ ((if (y == 0) = true then 0 else y.natAbs.log2 / 30 + 1) > 300) := by
        split
        · grind
        · have h2 : y.natAbs ≠ 0 := by grind
          have : y.natAbs.log2 < 10 := (Nat.log2_lt h2).mpr (by grind)
          grind
      simp only [decide_eq_false h1, Bool.false_and]
  · obtain ⟨ha, t, rfl⟩ := ra.str; obtain ⟨hb, u, rfl⟩ := rb.str
    exact P.add_str (bin_str_add ha hb e g fun tk v n => h s.heap tk v n)
  · obtain ⟨l, vs, rfl, hl, r⟩ := ra.lst; obtain ⟨b, ws, rfl, hb, r'⟩ := rb.lst
    obtain ⟨hsz, e⟩ := iteS e
    · cases e
      obtain ⟨⟨cls, dd, data, sl⟩, ho, hc, n, hd⟩ := id hl
      obtain ⟨⟨cls2, dd2, data2, sl2⟩, ho2, hc2, n2, hd2⟩ := id hb
      simp only at hc hd hc2 hd2
      subst hc hd hc2 hd2
      have hs2 : vs.toArray.size + ws.toArray.size ≤ sizeLine := by
        rw [sizeLine_eq]; simp [r.length, r'.length] at hsz ⊢; grind
      refine concat_meets ⟨_, ho, rfl⟩ ⟨_, ho2, rfl⟩ noFill_list_add seq_list_add PySem.F.slot_list_add PySem.F.entry_list_add (PySem.F.args_list_add_2 _ _) (list_addW l b vs.toArray ws.toArray n n2 dd dd2 sl sl2 hs2) ⟨ho, ho2, ?_⟩
      have e2 : vs.toArray ++ ws.toArray = (vs ++ ws).toArray := by simp
      rw [e2]
      exact h _ _ _ (.push g hO (r.append r'))
  · rename_i x n
    obtain ⟨ha, t, rfl⟩ := ra.str; obtain ⟨u, rfl⟩ := rb.int
    obtain ⟨hn, e⟩ := iteS e
    · obtain ⟨hsz, e⟩ := iteS e
      · cases e
        have hfl : (List.replicate n.toNat x).flatten.length = n.toNat * x.length := by simp [List.length_flatten]
        rw [hfl] at hsz
        have r : ∀ y, (List.replicate n.toNat x).flatten = y → ∀ t, New Z O s.heap s.heap (.str (toStr y) t) (.str (List.replicate n.toNat x).flatten) := fun y q t => by subst q; exact .atom g (.str _ t (asc_rep ha _)) (fun _ => nofun)
        have hx : (toStr x).length = x.length := by simp [Str.length]
        refine P.mul_str ?_ ?_ ?_ ?_
        · rw [decide_eq_false (by grind), decide_eq_false (by grind)]; rfl
        · intro h1 _
          rw [hx]
          have h2 : (x.length : Int) ≤ 100000 := by
            have h3 : 1 ≤ n.toNat := by grind
            have : 1 * x.length ≤ n.toNat * x.length := Nat.mul_le_mul_right _ h3
            grind
          have : (2 ^ 63 - 1 : Int) / n ≥ (2 ^ 63 - 1 : Int) / 100000 := by
            have hn1 : (1 : Int) ≤ n := by grind
            apply Int.le_ediv_of_mul_le (by grind)
            calc (2 ^ 63 - 1 : Int) / 100000 * n ≤ (2 ^ 63 - 1 : Int) / 100000 * 100000 := Int.mul_le_mul_of_nonneg_left hn.1 (by decide)
              _ ≤ _ := by decide
          have h4 : (2 ^ 63 - 1 : Int) / 100000 > 100000 := by decide
          grind
        · intro _ _
          rw [hx]
          unfold Builtin.Str.tooLong
          have : x.length * n.toNat ≤ 100000 := by rw [Nat.mul_comm]; exact hsz
          rw [decide_eq_false]; rw [sizeLine_eq]; grind
        · split
          · rename_i h1
            refine ⟨by decide, ?_⟩
            have : n.toNat = 0 := by grind
            exact h s.heap _ _ (r [] (by rw [this]; rfl) _)
          · split
            · rename_i h1 h2
              have : (List.replicate n.toNat x).flatten = x := by
                rcases Bool.or_eq_true_iff.mp h2 with q | q
                · have : n = 1 := by simpa using q
                  subst this; simp
                · have : x = [] := by rw [hx] at q; simpa using q
                  subst this
                  simp
              exact h s.heap s.toks _ (r _ this _)
            · refine ⟨?_, ?_⟩
              · show Array.size _ ≤ _
                rw [foldl_arr, sizeLine_eq]; simp only [List.size_toArray, List.nil_append, hfl]; grind
              · rw [foldl_arr]
                exact h s.heap _ _ (r _ rfl _)
  · rename_i x n
    obtain ⟨l, vs, rfl, hl, r⟩ := ra.lst; obtain ⟨u, rfl⟩ := rb.int
    obtain ⟨hn, e⟩ := iteS e
    · obtain ⟨hsz, e⟩ := iteS e
      · cases e
        have hfl : (List.replicate n.toNat x).flatten.length = n.toNat * x.length := by simp [List.length_flatten]
        rw [hfl] at hsz
        obtain ⟨⟨cls, d, data, sl⟩, ho, hcl, k, hd⟩ := id hl
        simp only at hcl hd
        subst hcl hd
        have hsz' : vs.toArray.size * n.toNat ≤ 100000 := by rw [Nat.mul_comm]; simpa [r.length] using hsz
        have hsz2 : vs.length * n.toNat ≤ 100000 := by simpa using hsz'
        refine wpAny_binaryOp_repeat_ref (T := "list") (U := "int") (by decide) ⟨_, ho, rfl⟩ (fun s' => typeIs_int s' n u) noFill_list_mul PySem.F.fills_int_mul PySem.F.slot_int_rmul repeat_list PySem.F.slot_int_index.lookup
          (call_meets PySem.F.slot_int_rmul (typeIs_int s n u) PySem.F.entry_int_rmul (PySem.F.args_int_rmul_2 _ _) (lm_int_rmul_list_any n u l vs.toArray k d sl)
            ⟨ho, rfl, ⟨_, ho, rfl⟩, call_meets PySem.F.slot_list_mul ⟨_, ho, rfl⟩ PySem.F.entry_list_mul (PySem.F.args_list_mul_2 _ _)
              (lm_list_mul_any l vs.toArray k d sl n u (by simp [Builtin.List.listFitsIndex]; grind) (by grind) (by simp [Builtin.List.listTooLong, sizeLine]; grind))
              ⟨ho, ?_⟩⟩)
        rw [listMul_foldl_if]
        exact h _ _ _ (.push g hO (reps_rep r _))

theorem iadd_ok {a b : Int} {va vb : Value} {Q : Value → Shared → Prop} (ra : RepTop W O s.heap va (.int a)) (rb : RepTop W O s.heap vb (.int b)) (h : ∀ tk v, Rep O s.heap v (.int (a + b)) → Q v { s with toks := tk }) :
    wpAny (model prog w) A (inplaceOp .Add va vb) Q E s := by
  obtain ⟨t, rfl⟩ := ra.int; obtain ⟨u, rfl⟩ := rb.int
  exact P.iadd_int (h _ _ (.int _ _))
theorem isub_ok {a b : Int} {va vb : Value} {Q : Value → Shared → Prop} (ra : RepTop W O s.heap va (.int a)) (rb : RepTop W O s.heap vb (.int b)) (h : ∀ tk v, Rep O s.heap v (.int (a - b)) → Q v { s with toks := tk }) :
    wpAny (model prog w) A (inplaceOp .Sub va vb) Q E s := by
  obtain ⟨t, rfl⟩ := ra.int; obtain ⟨u, rfl⟩ := rb.int
  exact P.isub_int (h _ _ (.int _ _))

theorem toStr_inj {a b : List Nat} : (toStr a == toStr b) = (a == b) := by
  by_cases q : a = b
  · subst q; simp
  · have : toStr a ≠ toStr b := fun e => q (by simpa [toStr] using e)
    rw [beq_eq_false_iff_ne.mpr this, beq_eq_false_iff_ne.mpr q]

theorem room {k : Nat} {A : Around} (hA : GoodA k A) {n : Nat} (hn : n ≤ 51) : A.units + n < cLine := Nat.lt_of_le_of_lt (Nat.add_le_add (Nat.le_add_right A.units (50 * k)) (Nat.le_trans hn (by decide))) hA.units
theorem cmpop_ok {k : Nat} {op : CmpOp} {a b : V} {c : Bool} {va vb : Value} {Q : Value → Shared → Prop} (hA : GoodA k A) (e : cmpop op a b = some c)
    (ra : RepTop W O s.heap va a) (rb : RepTop W O s.heap vb b) (h : Q (.bool c) s) : wpAny (model prog w) A (compareOp op va vb) Q E s := by
  have hu := hA.units
  unfold cmpop at e
  cases hq : isCmp op a b with
  | none => rw [hq] at e; cases e
  | some q =>
  rw [hq] at e
  clear hq
  obtain ⟨q, hq⟩ := q
  replace e : q.val = some c := e
  cases q <;> cases hq
  · obtain ⟨t, rfl⟩ := ra.int; obtain ⟨u, rfl⟩ := rb.int; cases e; exact P.eq_int h
  · obtain ⟨t, rfl⟩ := ra.int; obtain ⟨u, rfl⟩ := rb.int; cases e; exact P.ne_int h
  · obtain ⟨t, rfl⟩ := ra.int; obtain ⟨u, rfl⟩ := rb.int; cases e; exact P.lt_int h
  · obtain ⟨t, rfl⟩ := ra.int; obtain ⟨u, rfl⟩ := rb.int; cases e; exact P.gt_int h
  · obtain ⟨x, r1, c1⟩ := ra.reads; obtain ⟨y, r2, c2⟩ := rb.reads; cases e
    refine SeqAt.compareEq_reads r1 r2 c1 c2 (by simp only [V.toPy, PyData.depth]; grind) ?_
    show Q (.bool (toStr _ == toStr _)) s
    rw [toStr_inj]; exact h
  · obtain ⟨_, t, rfl⟩ := ra.str; obtain ⟨_, u, rfl⟩ := rb.str; cases e; exact P.lt_str h
  · obtain ⟨_, t, rfl⟩ := ra.str; obtain ⟨_, u, rfl⟩ := rb.str; cases e; exact P.gt_str h
  · obtain ⟨hd, e⟩ := iteS e
    · obtain ⟨x, r1, c1⟩ := ra.reads; obtain ⟨y, r2, c2⟩ := rb.reads; cases e
      refine SeqAt.compareEq_reads r1 r2 c1 c2 ?_ ?_
      · rw [dep_toPy, dep_toPy]; exact room hA (Nat.le_trans (Nat.min_le_left _ _) (Nat.succ_le_succ hd))
      · simp only [V.toPy, PyData.eqv]; exact h
  · obtain ⟨hd, e⟩ := iteS e
    · obtain ⟨x, r1, c1⟩ := ra.reads; obtain ⟨y, r2, c2⟩ := rb.reads; cases e
      refine cmp_ofNotEq (SeqAt.rcNeAt_reads r1 r2 c1 c2 ?_ prog w E Q ?_)
      · rw [dep_toPy, dep_toPy]; exact room hA (Nat.le_trans (Nat.min_le_left _ _) (Nat.succ_le_succ hd))
      · simp only [V.toPy, PyData.eqv]; exact h
  · obtain ⟨x, r1, c1⟩ := ra.reads; obtain ⟨y, r2, c2⟩ := rb.reads; cases e
    refine SeqAt.in_list_reads r2 r1 c2 c1 (by simp only [V.toPy, PyData.depth]; grind) ?_
    exact h
  · obtain ⟨x, r1, c1⟩ := ra.reads; obtain ⟨y, r2, c2⟩ := rb.reads; cases e
    refine SeqAt.in_tuple_reads r2 r1 c2 c1 (by simp only [V.toPy, PyData.depth]; grind) ?_
    exact h
  · obtain rfl := ra.bool; obtain rfl := rb.bool; cases e; exact isnot_bool h

theorem truth_ok {a : V} {c : Bool} {va : Value} {Q : Bool → Shared → Prop} (e : truth a = some c) (ra : RepTop W O s.heap va a) (h : Q c s) : wpAny (model prog w) A (truthy va) Q E s := by
  unfold truth at e
  split at e
  · obtain rfl := ra.bool; cases e; exact wpAny_truthy_bool h
  · obtain ⟨t, rfl⟩ := ra.int; cases e; exact P.truthy_int h
  · cases e
end
end Mine

-- MC
set_option maxRecDepth 10000
namespace Mine
set_option tactic.hygienic false

noncomputable abbrev Nm := List (Str × NameKind)
noncomputable abbrev Rho := List (Str × V)

noncomputable def VarIn (env : Env) (h : Heap) (x : Str) (v : Value) : Prop :=
  (env.kindOf x = some .local ∧ ∃ m, h.Ns env.locals m ∧ m x = some v) ∨ ((env.kindOf x = some .cell ∨ env.kindOf x = some .free) ∧ ∃ c, env.cells.lookup x = some c ∧ h.IsCell c (some v))
noncomputable def RepOwn (W O : List Addr) (h : Heap) (v : Value) (d : V) : Prop := ∃ a vs ds, v = .ref a ∧ d = .lst ds ∧ a ∈ W ∧ h.PlainList a vs.toArray ∧ Reps O h vs ds
noncomputable def RepBy (own : Bool) (W O : List Addr) (h : Heap) (v : Value) (d : V) : Prop := if own then RepOwn W O h v d else Rep O h v d
theorem RepOwn.top {W O : List Addr} {h : Heap} {v : Value} {d : V} (r : RepOwn W O h v d) : RepTop W O h v d := by
  obtain ⟨a, vs, ds, rfl, rfl, ha, hl, r⟩ := r; exact ⟨a, vs, rfl, .inr ha, hl.isList, r⟩
theorem RepOwn.all {W O : List Addr} {h : Heap} {v : Value} {d : V} (r : RepOwn W O h v d) : Rep [] h v d := by
  obtain ⟨a, vs, ds, rfl, rfl, _, hl, r⟩ := r; exact .lst (by simp) hl (r.lessO (by simp))
theorem RepBy.top {b : Bool} {W O : List Addr} {h : Heap} {v : Value} {d : V} (r : RepBy b W O h v d) : RepTop W O h v d := by
  cases b
  · exact Rep.top (O := O) r
  · exact RepOwn.top (W := W) (O := O) r
theorem RepBy.all {b : Bool} {W O : List Addr} {h : Heap} {v : Value} {d : V} (r : RepBy b W O h v d) : Rep [] h v d := by
  cases b
  · exact Rep.lessO (O := O) r (by simp)
  · exact RepOwn.all (W := W) (O := O) r

noncomputable def Gl (Z : Par) (x : Str) (v : Value) : Prop := Z.mg x = some v ∨ (Z.mg x = none ∧ Z.mb x = some v)

structure EnvOK (Z : Par) (W O : List Addr) (env : Env) (sc : Nm) (own : List Str) (ρ : Rho) (h : Heap) : Prop where
  kind : env.scope.kind = .function
  glob : env.globals = mainGlobals
  blt : env.builtins = builtinsNs
  win : OIn W h
  oin : OIn O h
  nodbg : sc.lookup ("__debug__" : Str) = none
  nocd : sc.lookup ("__classdict__" : Str) = none
  gk : ∀ x, sc.lookup x = some .globalImplicit → env.kindOf x = some .globalImplicit
  ck : ∀ x, (sc.lookup x = some .cell ∨ sc.lookup x = some .free) → (env.kindOf x = some .cell ∨ env.kindOf x = some .free)
  var : ∀ x k d, sc.lookup x = some k → k ≠ .globalImplicit → ρ.lookup x = some d → ∃ v, VarIn env h x v ∧ RepBy (own.contains x) W O h v d

section
variable {Z : Par} {h h' : Heap}
theorem Ext.varIn {env : Env} {x : Str} {v : Value} (y : Ext Z h h') (r : VarIn env h x v) : VarIn env h' x v := by
  rcases r with ⟨k, m, n, e⟩ | ⟨k, c, e, n⟩
  · exact .inl ⟨k, m, y.ns n, e⟩
  · exact .inr ⟨k, c, e, y.cell n⟩
theorem Ext.repBy {b : Bool} {W O : List Addr} {v : Value} {d : V} (y : Ext Z h h') (r : RepBy b W O h v d) : RepBy b W O h' v d := by
  cases b
  · exact y.rep (O := O) r
  · obtain ⟨a, vs, ds, e1, e2, ha, hl, r⟩ := r
    exact ⟨a, vs, ds, e1, e2, ha, y.plain hl, y.reps r⟩
theorem EnvOK.ext {W O : List Addr} {env : Env} {sc : Nm} {own : List Str} {ρ : Rho} (x : EnvOK Z W O env sc own ρ h) (y : Ext Z h h') : EnvOK Z W O env sc own ρ h' :=
  ⟨x.kind, x.glob, x.blt, fun a ha => y.kSome (x.win a ha), fun a ha => y.kSome (x.oin a ha), x.nodbg, x.nocd, x.gk, x.ck, fun z k d h1 h2 h3 => let ⟨v, a, b⟩ := x.var z k d h1 h2 h3; ⟨v, y.varIn a, y.repBy b⟩⟩
theorem EnvOK.ne {W O : List Addr} {env : Env} {sc : Nm} {own : List Str} {ρ : Rho} (x : EnvOK Z W O env sc own ρ h) {y : Str} {k : NameKind} (e : sc.lookup y = some k) : (y == ("__debug__" : Str)) = false ∧ (y == ("__classdict__" : Str)) = false := by
  constructor
  · cases q : y == ("__debug__" : Str) with
    | false => rfl
    | true => have e2 := x.nodbg; rw [eq_of_beq q, e2] at e; cases e
  · cases q : y == ("__classdict__" : Str) with
    | false => rfl
    | true => have e2 := x.nocd; rw [eq_of_beq q, e2] at e; cases e
end

section
variable {Z : Par} {M : Model} {A : Around} {E : Value → Shared → Prop} {W O : List Addr} {s : Shared} {env : Env} {sc : Nm} {own : List Str} {ρ : Rho} {Q : Value → Shared → Prop}
theorem name_var {x : Str} {k : NameKind} {pos : Pos} {v : Value} (e : EnvOK Z W O env sc own ρ s.heap) (hx : sc.lookup x = some k) (hv : VarIn env s.heap x v) (h : Q v s) : wpAny M A (eval (.Name x pos) env) Q E s := by
  obtain ⟨hd, hc⟩ := e.ne hx
  rcases hv with ⟨k, m, n, em⟩ | ⟨k, c, ec, n⟩
  · exact wpAny_Name (wpAny_loadName_local e.kind k n em h) hd
  · rcases k with k | k
    · exact wpAny_Name (wpAny_loadName_cell e.kind k ec n h) hd
    · exact wpAny_Name (wpAny_loadName_free e.kind k ec n h hc) hd
theorem name_glob {x : Str} {pos : Pos} {v : Value} (g : Gd Z s.heap) (e : EnvOK Z W O env sc own ρ s.heap) (hx : sc.lookup x = some .globalImplicit) (hv : Gl Z x v) (h : Q v s) : wpAny M A (eval (.Name x pos) env) Q E s := by
  obtain ⟨hd, _⟩ := e.ne hx
  refine Name_function_global e.kind (e.gk x hx) ?_ hd
  have hg : s.heap.Ns env.globals Z.mg := by rw [e.glob]; exact Z.g.keeps g.base
  rcases hv with hv | ⟨hm, hv⟩
  · exact loadGlobal_global hg hv h
  · exact loadGlobal_builtin hg hm (by rw [e.blt]; exact Z.b.keeps g.base) hv h
end

structure Cx where
  F : Str → List V → Option V
  G : Str → Option V
  B : Str → Option (List V → Option V)
  tab : Str → Option (List Nat → Option Int)
  X : Expr → Option ((Bool → List (Str × NameKind) → List Str → List (Str × V) → Expr → Option V) → Bool → List (Str × NameKind) → List Str → List (Str × V) → Option V)

noncomputable def mapO {α β : Type} (f : α → Option β) : List α → Option (List β)
  | [] => some []
  | a :: r => match f a with
    | some b => (match mapO f r with | some bs => some (b :: bs) | none => none)
    | none => none
noncomputable def constV : Const → Option V
  | .none => some .none
  | .bool b => some (.bool b)
  | .int i => some (.int i)
  | .str x => if x.cps.toList.all (· < 128) then some (.str x.cps.toList) else none
  | _ => none
noncomputable def boolG (op : BoolOp) : List (Option V) → Option V
  | [] => none
  | [x] => x
  | x :: r => match x with
    | some v => (match truth v with
      | some t => (match op, t with
        | .And, false => some v
        | .Or, true => some v
        | _, _ => boolG op r)
      | none => none)
    | none => none
noncomputable def atomV : V → Bool
  | .tup _ | .lst _ => false
  | _ => true
noncomputable def partO : Option (Option V) → Option (Option Int)
  | none => some none
  | some (some (.int i)) => if i.natAbs ≤ 1000000 then some (some i) else none
  | _ => none
noncomputable def sliceV (lo hi : Option Int) : V → Option V
  | .lst ds => if ds.length ≤ 100000 then some (.lst ((ds.drop (lo.elim 0 (clipAt ds.length))).take (hi.elim ds.length (clipAt ds.length) - lo.elim 0 (clipAt ds.length)))) else none
  | .str l => if l.length ≤ 100000 then some (.str ((l.drop (lo.elim 0 (clipAt l.length))).take (hi.elim l.length (clipAt l.length) - lo.elim 0 (clipAt l.length)))) else none
  | _ => none
noncomputable def itemV : V → V → Option V
  | .lst ds, .int i => if i.natAbs ≤ 1000000 then (seqIndex? i ds.length).bind (ds[·]?) else none
  | .str l, .int i => if i.natAbs ≤ 1000000 then ((seqIndex? i l.length).bind (l[·]?)).map fun c => .str [c] else none
  | _, _ => none

noncomputable abbrev Evl := Bool → Nm → List Str → Rho → Expr → Option V
noncomputable def namesIn? : List Expr → Option (List Str)
  | [] => some []
  | .Name x _ :: r => (namesIn? r).map (x :: ·)
  | _ => none
noncomputable def bindSeq : List Str → List V → Rho → Option Rho
  | [], [], ρ => some ρ
  | x :: xs, d :: ds, ρ => if (ρ.lookup x).isNone then bindSeq xs ds ((x, d) :: ρ) else none
  | _, _, _ => none
noncomputable def bindT (t : Expr) (d : V) (ρ : Rho) : Option Rho := match t with
  | .Name x _ => bindSeq [x] [d] ρ
  | .Tuple es _ _ => (match namesIn? es, d with
    | some xs, .lst ds => bindSeq xs ds ρ
    | _, _ => none)
  | _ => none
noncomputable def isGl (sc : Nm) (x : Str) : Bool := sc.lookup x == some .globalImplicit
noncomputable def intO : Option V → Option Int
  | some (.int i) => some i
  | _ => none
theorem intO_some {o : Option V} {i : Int} (h : intO o = some i) : o = some (.int i) := by
  cases o with
  | none => cases h
  | some d =>
    cases d with
    | int j => rw [Option.some.inj h]
    | _ => cases h
noncomputable def strO : Option V → Option (List Nat)
  | some (.str l) => some l
  | _ => none
theorem strO_some {o : Option V} {l : List Nat} (h : strO o = some l) : o = some (.str l) := by
  cases o with
  | none => cases h
  | some d =>
    cases d with
    | str j => rw [Option.some.inj h]
    | _ => cases h
noncomputable def rangeE (E : Evl) (sc : Nm) (own : List Str) (ρ : Rho) (args : List Expr) : Option (List V) := match args with
  | [a] => (match intO (E true sc own ρ a) with
      | some b => if b ≤ 100000 ∧ -100000 ≤ b then some ((List.range b.toNat).map fun i => .int (i : Nat)) else none
      | none => none)
  | [a, b] => (match intO (E true sc own ρ a), intO (E true sc own ρ b) with
      | some a, some b => if 0 ≤ a ∧ a ≤ 100000 ∧ b ≤ 100000 ∧ -100000 ≤ b then some ((List.range (b - a).toNat).map fun i => .int (a + (i : Nat))) else none
      | _, _ => none)
  | _ => none
noncomputable def lstE (E : Evl) (pk : Bool) (sc : Nm) (own : List Str) (ρ : Rho) (e : Expr) : Option (List V) := match E pk sc own ρ e with
  | some (.lst ds) => some ds
  | _ => none
set_option backward.match.sparseCases false in
noncomputable def nmV (e : Expr) : Option { x : Str × Pos // e = .Name x.1 x.2 } := match e with
  | .Name x p => some ⟨(x, p), rfl⟩
  | _ => none
set_option backward.match.sparseCases false in
noncomputable def callV (e : Expr) : Option { x : (Expr × List Expr) × Pos // e = .Call x.1.1 x.1.2 [] x.2 } := match e with
  | .Call f args kws p => (match kws with
    | [] => some ⟨((f, args), p), rfl⟩
    | _ :: _ => none)
  | _ => none
set_option backward.match.sparseCases false in
noncomputable def trueV (e : Expr) : Option { x : Nat × Pos // e = .Constant (.bool true) x.1 x.2 } := match e with
  | .Constant c k p => (match c with
    | .bool b => (match b with
      | true => some ⟨(k, p), rfl⟩
      | false => none)
    | _ => none)
  | _ => none
noncomputable def oneO (es : List Expr) : Option { x : Expr // es = [x] } := match es with
  | [] => none
  | x :: r => (match r with
    | [] => some ⟨x, rfl⟩
    | _ :: _ => none)
noncomputable def twoO (es : List Expr) : Option { x : Expr × Expr // es = [x.1, x.2] } := match es with
  | [] => none
  | x :: r => (match oneO r with
    | some y => some ⟨(x, y.1), congrArg (x :: ·) y.2⟩
    | none => none)
noncomputable def ncV (e : Expr) : Option { x : (Str × Pos) × List Expr × Pos // e = .Call (.Name x.1.1 x.1.2) x.2.1 [] x.2.2 } := match callV e with
  | some v => (match nmV v.1.1.1 with
    | some n => some ⟨(n.1, v.1.1.2, v.1.2), v.2.trans (congrArg (fun f => Expr.Call f v.1.1.2 [] v.1.2) n.2)⟩
    | none => none)
  | none => none
noncomputable def range? (sc : Nm) (e : Expr) : Option (List Expr) := (ncV e).bind fun v => if v.1.1.1 == ("range" : Str) && isGl sc v.1.1.1 then some v.1.2.1 else none
noncomputable def itrE (E : Evl) (pk : Bool) (sc : Nm) (own : List Str) (ρ : Rho) (e : Expr) : Option (List V) := match range? sc e with
  | some args => rangeE E sc own ρ args
  | none => lstE E pk sc own ρ e
noncomputable def ifsE (E : Evl) (sc : Nm) (own : List Str) (ρ : Rho) : List Expr → Option Bool
  | [] => some true
  | e :: r => match E true sc own ρ e with
    | some d => (match truth d with
      | some true => ifsE E sc own ρ r
      | some false => some false
      | none => none)
    | none => none
noncomputable def overE (f : V → Option (List V)) : List V → Option (List V)
  | [] => some []
  | d :: r => match f d with
    | some a => (match overE f r with | some b => some (a ++ b) | none => none)
    | none => none
noncomputable def genE (E : Evl) (sc : Nm) (own : List Str) (elt : Expr) : List Comprehension → Rho → Option (List V)
  | [], ρ => (match E false sc own ρ elt with | some d => some [d] | none => none)
  | g :: gs, ρ => match itrE E true sc own ρ g.iter with
    | some items => overE (fun d => match bindT g.target d ρ with
      | some ρ' => (match ifsE E sc own ρ' g.ifs with
        | some true => genE E sc own elt gs ρ'
        | some false => some []
        | none => none)
      | none => none) items
    | none => none
noncomputable def turnE (E : Evl) (sc : Nm) (own : List Str) (elt : Expr) (g : Comprehension) (gs : List Comprehension) (ρ : Rho) (d : V) : Option (List V) := match bindT g.target d ρ with
  | some ρ' => (match ifsE E sc own ρ' g.ifs with
    | some true => genE E sc own elt gs ρ'
    | some false => some []
    | none => none)
  | none => none
noncomputable def plainGen (g : Comprehension) : Bool := g.is_async == 0 && (match g.iter with | .Set .. => false | _ => true)
noncomputable def scopeOk (sc : Nm) (scope : Scope) : Bool :=
  scope.kind == .function && (scope.names.lookup ("__debug__" : Str)).isNone && (scope.names.lookup ("__classdict__" : Str)).isNone &&
  (scope.names.all fun p => scope.names.lookup p.1 == some p.2) &&
  scope.names.all fun p => p.2 == .local || p.2 == .cell || p.2 == .globalImplicit || (p.2 == .free && (sc.lookup p.1 == some .cell || sc.lookup p.1 == some .free))
noncomputable def targetNames : Expr → List Str
  | .Name x _ => [x]
  | .Tuple es _ _ => (namesIn? es).getD []
  | _ => []
noncomputable def targetsOk (scope : Scope) (g : Comprehension) : Bool := (targetNames g.target).all fun x => scope.names.lookup x == some .local || scope.names.lookup x == some .cell
noncomputable def compE (E : Evl) (sc : Nm) (own : List Str) (ρ : Rho) (elt : Expr) (gens : List Comprehension) (scope : Scope) : Option (List V) := match gens with
  | [] => none
  | g :: gs => if scopeOk sc scope && (scope.names.all fun p => p.2 != .free || (ρ.lookup p.1).isSome) && (g :: gs).all plainGen && (g :: gs).all (targetsOk scope) then
      (match itrE E true sc own ρ g.iter with
        | some items => overE (turnE E scope.names (own.filter fun x => scope.names.lookup x == some .free) elt g gs (ρ.filter fun p => scope.names.lookup p.1 == some .free)) items
        | none => none)
    else none
noncomputable def argE (E : Evl) (sc : Nm) (own : List Str) (ρ : Rho) (e : Expr) : Option V := match e with
  | .Name x p => if own.contains x then E true sc own ρ (.Name x p) else E false sc own ρ (.Name x p)
  | e => E false sc own ρ e
noncomputable def leak1 (own : List Str) : Expr → Bool
  | .Name x _ => own.contains x
  | _ => false
noncomputable def leakE (own : List Str) (es : List Expr) : Bool := es.any (leak1 own)
noncomputable def isTab (c : Cx) (sc : Nm) (x : Str) : Option (List Nat → Option Int) := if sc.lookup x == some .globalImplicit then c.tab x else none

noncomputable def intsO (ds : List V) : Option (List Int) := mapO (fun d => intO (some d)) ds
noncomputable def getE (c : Cx) (E : Evl) (sc : Nm) (own : List Str) (ρ : Rho) (t m : Str) (args : List Expr) : Option V := match args with
  | [x, y] => if m == ("get" : Str) then (match isTab c sc t, strO (E true sc own ρ x), intO (E true sc own ρ y) with
      | some f, some l, some i => some (.int ((f l).getD i))
      | _, _, _ => none) else none
  | _ => none
noncomputable def lenSet? (sc : Nm) (f : Str) (args : List Expr) : Option Expr := (oneO args).bind fun a => (ncV a.1).bind fun v => (oneO v.1.2.1).bind fun x =>
  if f == ("len" : Str) && v.1.1.1 == ("set" : Str) && isGl sc f && isGl sc v.1.1.1 then some x.1 else none
noncomputable def revK (kws : List Keyword) : Option { x : Str × Pos × Nat × Pos // kws = [⟨some x.1, .Constant (.bool true) x.2.2.1 x.2.2.2, x.2.1⟩] } := match kws with
  | [] => none
  | k :: r => (match r with
    | _ :: _ => none
    | [] => (match k with
      | ⟨a, e, q⟩ => (match a with
        | none => none
        | some s => (match trueV e with
          | some v => some ⟨(s, q, v.1.1, v.1.2), congrArg (fun e => [(⟨some s, e, q⟩ : Keyword)]) v.2⟩
          | none => none))))
noncomputable def sortRev? (sc : Nm) (f : Str) (args : List Expr) (kws : List Keyword) : Option Expr := (oneO args).bind fun x => (revK kws).bind fun v =>
  if f == ("sorted" : Str) && isGl sc f && v.1.1 == ("reverse" : Str) then some x.1 else none
noncomputable def plainCallE (c : Cx) (E : Evl) (sc : Nm) (own : List Str) (ρ : Rho) (f : Str) (args : List Expr) : Option V := match c.B f with
  | some g => (match mapO (E true sc own ρ) args with | some ds => g ds | none => none)
  | none => (match mapO (argE E sc own ρ) args with
    | some ds => (match c.F f ds with
      | some d => if leakE own args && !atomV d then none else some d
      | none => none)
    | none => none)
noncomputable def callE (c : Cx) (E : Evl) (sc : Nm) (own : List Str) (ρ : Rho) (f : Str) (args : List Expr) (kws : List Keyword) : Option V := match kws with
  | [] => (match lenSet? sc f args with
    | some x => (match lstE E true sc own ρ x with
      | some ds => (match intsO ds with
        | some ns => if ns.length ≤ 1000 then some (.int (firstMet (fun i => ns.getD i 0) ns.length).length) else none
        | none => none)
      | none => none)
    | none => if isGl sc f then plainCallE c E sc own ρ f args else none)
  | k :: ks => (match sortRev? sc f args (k :: ks) with
    | some x => (match lstE E true sc own ρ x with
      | some ds => (match intsO ds with
        | some ns => if ns.length < 64 then some (.lst ((ns.mergeSort fun a b => decide (b ≤ a)).map .int)) else none
        | none => none)
      | none => none)
    | none => none)

noncomputable def evName (c : Cx) (pk : Bool) (sc : Nm) (own : List Str) (ρ : Rho) (x : Str) : Option V := match sc.lookup x with
  | some .globalImplicit => c.G x
  | some _ => if pk || !own.contains x then ρ.lookup x else none
  | none => none
noncomputable def evBin (E : Evl) (sc : Nm) (own : List Str) (ρ : Rho) (l : Expr) (op : Operator) (r : Expr) : Option V := match E true sc own ρ l, E true sc own ρ r with
  | some a, some b => binop op a b
  | _, _ => none
noncomputable def evNot (E : Evl) (sc : Nm) (own : List Str) (ρ : Rho) (x : Expr) : Option V := match E true sc own ρ x with
  | some a => (match truth a with | some b => some (.bool !b) | none => none)
  | none => none
noncomputable def evNeg (E : Evl) (sc : Nm) (own : List Str) (ρ : Rho) (x : Expr) : Option V := match E true sc own ρ x with
  | some (.int i) => some (.int (-i))
  | _ => none
noncomputable def evUn (E : Evl) (sc : Nm) (own : List Str) (ρ : Rho) (op : UnaryOp) (x : Expr) : Option V := match op with
  | .Not => evNot E sc own ρ x
  | .USub => evNeg E sc own ρ x
  | _ => none
noncomputable def evNotIn (c : Cx) (E : Evl) (sc : Nm) (own : List Str) (ρ : Rho) (l : Expr) (t : Str) : Option V := match isTab c sc t, E true sc own ρ l with
  | some f, some (.str x) => some (.bool (f x).isNone)
  | _, _ => none
noncomputable def evCmpG (E : Evl) (sc : Nm) (own : List Str) (ρ : Rho) (l : Expr) (op : CmpOp) (r : Expr) : Option V := match E true sc own ρ l, E true sc own ρ r with
  | some a, some b => (match cmpop op a b with | some t => some (.bool t) | none => none)
  | _, _ => none
noncomputable def evCmp1 (c : Cx) (E : Evl) (sc : Nm) (own : List Str) (ρ : Rho) (l : Expr) (op : CmpOp) (r : Expr) : Option V := match op with
  | .NotIn => (match r with
    | .Name t _ => evNotIn c E sc own ρ l t
    | _ => none)
  | op => evCmpG E sc own ρ l op r
noncomputable def evCmp (c : Cx) (E : Evl) (sc : Nm) (own : List Str) (ρ : Rho) (l : Expr) (ops : List CmpOp) (rs : List Expr) : Option V := match ops with
  | [] => none
  | op :: ops => (match ops with
    | _ :: _ => none
    | [] => (match rs with
      | [] => none
      | r :: rs => (match rs with
        | _ :: _ => none
        | [] => evCmp1 c E sc own ρ l op r)))
noncomputable def evIf (E : Evl) (sc : Nm) (own : List Str) (ρ : Rho) (t a b : Expr) : Option V := match E true sc own ρ t with
  | some d => (match truth d with
    | some true => E false sc own ρ a
    | some false => E false sc own ρ b
    | none => none)
  | none => none
noncomputable def evList (E : Evl) (sc : Nm) (own : List Str) (ρ : Rho) (es : List Expr) : Option V := match mapO (E false sc own ρ) es with
  | some ds => mkL ds
  | none => none
noncomputable def evTup (E : Evl) (sc : Nm) (own : List Str) (ρ : Rho) (es : List Expr) : Option V := match mapO (E false sc own ρ) es with
  | some ds => if ds.length ≤ 1000 then some (.tup ds) else none
  | none => none
noncomputable def evSlice (E : Evl) (sc : Nm) (own : List Str) (ρ : Rho) (v : Expr) (lo hi : Option Expr) : Option V := match E true sc own ρ v, partO (lo.map (E true sc own ρ)), partO (hi.map (E true sc own ρ)) with
  | some a, some l, some u => sliceV l u a
  | _, _, _ => none
noncomputable def evItem (E : Evl) (sc : Nm) (own : List Str) (ρ : Rho) (v i : Expr) : Option V := match E true sc own ρ v, E true sc own ρ i with
  | some a, some b => itemV a b
  | _, _ => none
set_option backward.match.sparseCases false in
noncomputable def evSub (E : Evl) (sc : Nm) (own : List Str) (ρ : Rho) (v i : Expr) : Option V := match i with
  | .Slice lo hi st _ => (match st with
    | none => evSlice E sc own ρ v lo hi
    | some _ => none)
  | i => evItem E sc own ρ v i
noncomputable def evComp (E : Evl) (sc : Nm) (own : List Str) (ρ : Rho) (elt : Expr) (gens : List Comprehension) (scope : Scope) : Option V := match compE E sc own ρ elt gens scope with
  | some ds => mkL ds
  | none => none
set_option backward.match.sparseCases false in
noncomputable def evCall (c : Cx) (E : Evl) (sc : Nm) (own : List Str) (ρ : Rho) (f : Expr) (args : List Expr) (kws : List Keyword) (pos : Pos) : Option V := match f with
  | .Attribute v m apos => (match v with
    | .Name t _ => (match kws with
      | [] => if apos.endLine == pos.line then getE c E sc own ρ t m args else none
      | _ :: _ => none)
    | _ => none)
  | .Name f _ => callE c E sc own ρ f args kws
  | _ => none
set_option backward.match.sparseCases false in
noncomputable def evB (c : Cx) (E : Evl) (pk : Bool) (sc : Nm) (own : List Str) (ρ : Rho) (e : Expr) : Option V := match e with
  | .Constant k _ _ => constV k
  | .Name x _ => evName c pk sc own ρ x
  | .BinOp l op r _ => evBin E sc own ρ l op r
  | .UnaryOp op x _ => evUn E sc own ρ op x
  | .Compare l ops rs _ => evCmp c E sc own ρ l ops rs
  | .BoolOp op es _ => boolG op (es.map (E false sc own ρ))
  | .IfExp t a b _ => evIf E sc own ρ t a b
  | .List es _ => evList E sc own ρ es
  | .Tuple es _ _ => evTup E sc own ρ es
  | .Subscript v i _ => evSub E sc own ρ v i
  | .ListComp elt gens scope _ => evComp E sc own ρ elt gens scope
  | .Call f args kws pos => evCall c E sc own ρ f args kws pos
  | _ => none
noncomputable def ev (c : Cx) : Nat → Evl
  | 0, _, _, _, _, _ => none
  | n + 1, pk, sc, own, ρ, e => match c.X e with
   | some H => H (ev c n) pk sc own ρ
   | none => evB c (ev c n) pk sc own ρ e
end Mine

-- MD
set_option maxRecDepth 10000
namespace Mine
set_option tactic.hygienic false

theorem strIdx (lo hi : Option Int) (n : Nat) : Builtin.Str.strSliceIndices lo hi 1 n = sliceRange ((lo.elim 0 (clipAt n) : Nat) : Int) ((hi.elim n (clipAt n) : Nat) : Int) 1 := by
  cases lo <;> cases hi <;> simp [Builtin.Str.strSliceIndices, clipAt_cast]
theorem strPick (l : List Nat) (lo hi : Option Int) :
    (Builtin.Str.strSliceIndices lo hi 1 l.length).filterMap (l.toArray[·]?) = (l.drop (lo.elim 0 (clipAt l.length))).take (hi.elim l.length (clipAt l.length) - lo.elim 0 (clipAt l.length)) := by
  rw [strIdx, sliceRange_one, pick_run]
theorem asc_sub {l m : List Nat} (h : Asc l) (hs : ∀ c ∈ m, c ∈ l) : Asc m := fun c hc => h c (hs c hc)
theorem len_clip (l : List Nat) (lo hi : Option Int) : ((l.drop (lo.elim 0 (clipAt l.length))).take (hi.elim l.length (clipAt l.length) - lo.elim 0 (clipAt l.length))).length ≤ l.length := by
  rw [List.length_take, List.length_drop]; exact Nat.le_trans (Nat.min_le_right _ _) (Nat.sub_le _ _)

section
variable {Z : Par} {prog : Program} {w : World} {A : Around} {E : Value → Shared → Prop} {W O : List Addr} {s : Shared}

set_option tactic.hygienic true in
theorem item_ok {a i d : V} {va vi : Value} {Q : Value → Shared → Prop} (e : itemV a i = some d) (ra : RepTop W O s.heap va a) (ri : RepTop W O s.heap vi i)
    (h : ∀ tk v, Rep O s.heap v d → Q v { s with toks := tk }) : wpAny (model prog w) A (getItem va vi) Q E s := by
  unfold itemV at e
  split at e
  · rename_i ds k
    obtain ⟨l, vs, rfl, hl, r⟩ := ra.lst; obtain ⟨t, rfl⟩ := ri.int
    split at e
    · rename_i hk
      obtain ⟨j, hj, hd⟩ := Option.bind_eq_some_iff.mp e
      obtain ⟨v, hv, rv⟩ := r.get hd
      unfold seqIndex? at hj
      rw [← r.length] at hj
      by_cases hneg : k < 0
      · simp only [hneg, if_true] at hj
        split at hj
        · rename_i hc
          simp only [Bool.and_eq_true, decide_eq_true_eq] at hc
          obtain rfl := Option.some.inj hj
          refine wpAny_getItem_list_neg hl hneg ?_ (by omega) ?_ (h s.toks v rv)
          · simp; omega
          · simpa using hv
        · cases hj
      · simp only [hneg, if_false] at hj
        split at hj
        · obtain rfl := Option.some.inj hj
          refine wpAny_getItem_list hl (by omega) (by omega) ?_ (h s.toks v rv)
          simpa using hv
        · cases hj
    · cases e
  · rename_i l k
    obtain ⟨hasc, t, rfl⟩ := ra.str; obtain ⟨u, rfl⟩ := ri.int
    split at e
    · rename_i hk
      obtain ⟨c, hc, rfl⟩ := Option.map_eq_some_iff.mp e
      refine P.getItem_str (c := c) (by rw [decide_eq_false (by omega), decide_eq_false (by omega)]; rfl) ?_ ?_
      · have : (toStr l).length = l.length := by simp [Str.length]
        rw [this]
        obtain ⟨j, hj, hd⟩ := Option.bind_eq_some_iff.mp hc
        rw [hj]
        show l.toArray[j]? = some c
        simpa using hd
      · obtain ⟨j, hj, hd⟩ := Option.bind_eq_some_iff.mp hc
        exact h _ _ (.str [c] _ fun x hx => by rw [List.mem_singleton.mp hx]; exact hasc c (List.mem_of_getElem? hd))
    · cases e
  · cases e

theorem subIdx {slice : Expr} {o i : Value} (hs : ∀ lo hi p, slice ≠ .Slice lo hi none p) : subscripted slice false o i = operate [o, i] (getItem o i) := by
  cases slice with
  | Slice lo hi st p =>
    cases st with
    | none => exact absurd rfl (hs lo hi p)
    | some _ => rfl
  | _ => rfl

theorem itemTail_ok {value slice : Expr} {a i d : V} {va vi : Value} {Q : Value → Shared → Prop} (e : itemV a i = some d) (ra : RepTop W O s.heap va a) (ri : RepTop W O s.heap vi i) (hs : ∀ lo hi p, slice ≠ .Slice lo hi none p)
    (h : ∀ tk v, Rep O s.heap v d → Q v { s with toks := tk }) : wpAny (model prog w) A (subscriptTail value slice va vi) Q E s := by
  cases a with
  | lst ds =>
    obtain ⟨l, vs, rfl, hl, r⟩ := ra.lst
    exact tail_any hl.typeIs slot_list_getitem.lookup (item_ok e ra ri h) (subIdx hs)
  | str l =>
    obtain ⟨_, t, rfl⟩ := ra.str
    exact tail_any (T := "str") (typeIs_str s _ t) PySem.F.slot_str_getitem.lookup (item_ok e ra ri h) (subIdx hs)
  | _ => cases e

noncomputable def PartIs (v : Value) (p : Option Int) : Prop := match p with
  | none => v = .none
  | some i => ∃ t, v = .int i t

theorem sliceTail_ok {value : Expr} {lo hi : Option Expr} {p : Pos} {a d : V} {l u : Option Int} {va vl vu : Value} {sl : Addr} {Q : Value → Shared → Prop} (e : sliceV l u a = some d) (g : Gd Z s.heap) (hO : OIn O s.heap)
    (ra : RepTop W O s.heap va a) (hl : PartIs vl l) (hu : PartIs vu u)
    (hsl : s.heap.get? sl = some { cls := .type "slice", data := .fields #[vl, vu, .none] })
    (h : ∀ h' tk v, New Z O s.heap h' v d → Q v { s with heap := h', toks := tk }) : wpAny (model prog w) A (subscriptTail value (.Slice lo hi none p) va (.ref sl)) Q E s := by
  have pl : IsPart vl l := by
    cases l with
    | none => subst hl; exact .none
    | some i => obtain ⟨t, rfl⟩ := hl; exact .int i t
  have pu : IsPart vu u := by
    cases u with
    | none => subst hu; exact .none
    | some i => obtain ⟨t, rfl⟩ := hu; exact .int i t
  cases a with
  | lst ds =>
    obtain ⟨b, vs, rfl, hlist, r⟩ := ra.lst
    simp only [sliceV] at e
    have hds : ds.length ≤ 100000 := by
      by_cases q : ds.length ≤ 100000
      · exact q
      · rw [if_neg q] at e; cases e
    rw [if_pos hds] at e
    obtain rfl := Option.some.inj e
    refine tail_any (ops := [.ref sl, .ref b]) hlist.typeIs slot_list_getitem.lookup ?_ rfl
    refine wpAny_getItem_list_slice hlist ⟨_, hsl, rfl, rfl⟩ pl pu .none (by simp) ?_ (by rw [List.size_toArray, r.length, sizeLine_eq]; omega)
    rw [slicePick_plain, show vs.toArray.size = ds.length by rw [List.size_toArray, r.length]]
    exact h _ s.toks _ (.push g hO ((r.drop _).take _))
  | str x =>
    obtain ⟨hasc, t, rfl⟩ := ra.str
    simp only [sliceV] at e
    have hx : x.length ≤ 100000 := by
      by_cases q : x.length ≤ 100000
      · exact q
      · rw [if_neg q] at e; cases e
    rw [if_pos hx] at e
    obtain rfl := Option.some.inj e
    have hlen : (toStr x).length = x.length := by simp [Str.length]
    refine tail_any (T := "str") (ops := [.ref sl, .str (toStr x) t]) (typeIs_str s _ t) PySem.F.slot_str_getitem.lookup ?_ rfl
    obtain ⟨l', hl'1, hl'2⟩ : ∃ l' : Option (Int × Tok), vl = partValue l' ∧ l'.map (·.1) = l := by
      cases l with
      | none => exact ⟨none, hl, rfl⟩
      | some i => obtain ⟨t, rfl⟩ := hl; exact ⟨some (i, t), rfl, rfl⟩
    obtain ⟨u', hu'1, hu'2⟩ : ∃ l' : Option (Int × Tok), vu = partValue l' ∧ l'.map (·.1) = u := by
      cases u with
      | none => exact ⟨none, hu, rfl⟩
      | some i => obtain ⟨t, rfl⟩ := hu; exact ⟨some (i, t), rfl, rfl⟩
    refine wpAny_getItem_str_slice (l := l') (u := u') (st := none) ⟨_, hsl, rfl, by rw [hl'1, hu'1]; rfl⟩ rfl ?_
    have hpick : slicePicked (toStr x) l' u' none = Builtin.Str.strSliceIndices l u 1 x.length := by
      unfold slicePicked
      rw [hl'2, hu'2, hlen]; rfl
    have hp2 := strPick x l u
    unfold sliceMade
    rw [hpick, hlen]
    have hsub : ∀ c ∈ (x.drop (l.elim 0 (clipAt x.length))).take (u.elim x.length (clipAt x.length) - l.elim 0 (clipAt x.length)), c ∈ x := fun c hc => List.mem_of_mem_drop (List.mem_of_mem_take hc)
    split
    · rename_i hall
      have h1 : (Builtin.Str.strSliceIndices l u 1 x.length).length = x.length := by simpa using hall
      have hlen2 : (sliceRange ((l.elim 0 (clipAt x.length) : Nat) : Int) ((u.elim x.length (clipAt x.length) : Nat) : Int) 1).length = x.length := by rw [← strIdx]; exact h1
      rw [sliceRange_one, List.length_map, List.length_range] at hlen2
      have hle : u.elim x.length (clipAt x.length) ≤ x.length := by
        cases u with
        | none => exact Nat.le_refl _
        | some i => have := clipAt_cast x.length i; show clipAt x.length i ≤ _; omega
      have heq : (x.drop (l.elim 0 (clipAt x.length))).take (u.elim x.length (clipAt x.length) - l.elim 0 (clipAt x.length)) = x := by
        rw [hlen2]
        rcases Nat.eq_zero_or_pos x.length with h0 | h0
        · have : x = [] := List.eq_nil_of_length_eq_zero h0
          subst this; simp
        · have hz : l.elim 0 (clipAt x.length) = 0 := by omega
          rw [hz, List.drop_zero, List.take_length]
      rw [heq] at h
      exact h s.heap s.toks _ (.atom g (.str x t hasc) fun _ => nofun)
    · refine ⟨?_, ?_⟩
      · show Array.size _ ≤ _
        rw [hp2, sizeLine_eq, List.size_toArray]
        have := len_clip x l u
        omega
      · rw [hp2]
        exact h s.heap _ _ (.atom g (.str _ _ (asc_sub hasc hsub)) fun _ => nofun)
  | _ => cases e
end
end Mine

-- ME
set_option maxRecDepth 10000
namespace Mine
set_option tactic.hygienic false

theorem lookup_relabel (env : Env) (x : Str) : ∀ names : Nm,
    (names.map fun (p : Str × NameKind) => if (p.2 == NameKind.free && env.scope.kind == .function && env.kindOf p.1 == some .cell) then (p.1, NameKind.cell) else (p.1, p.2)).lookup x =
      (names.lookup x).map fun k => if (k == NameKind.free && env.scope.kind == .function && env.kindOf x == some .cell) then NameKind.cell else k
  | [] => rfl
  | (n, k) :: r => by
    have ih := lookup_relabel env x r
    rw [List.map_cons]
    cases hx : x == n with
    | true =>
      have e : x = n := eq_of_beq hx
      subst e
      cases hc : (k == NameKind.free && env.scope.kind == .function && env.kindOf x == some .cell) with
      | true => simp only [if_true, List.lookup_cons, beq_self_eq_true, Option.map_some, hc]
      | false => simp only [Bool.false_eq_true, if_false, List.lookup_cons, beq_self_eq_true, Option.map_some, hc]
    | false =>
      cases hc : (k == NameKind.free && env.scope.kind == .function && env.kindOf n == some .cell) with
      | true => simp only [if_true, List.lookup_cons, hx]; exact ih
      | false => simp only [Bool.false_eq_true, if_false, List.lookup_cons, hx]; exact ih

theorem closure_of {scope : Scope} {env : Env} (f : Str → Addr) (hf : ∀ x, (x, NameKind.free) ∈ scope.names → env.cells.lookup x = some (f x)) :
    ∃ cl : List (Str × Addr), closureFor scope env = pure cl ∧ (∀ x c, cl.lookup x = some c → c = f x) ∧ (∀ x, (x, NameKind.free) ∈ scope.names → cl.lookup x = some (f x)) := by
  have key : ∀ (names : Nm) (acc : List (Str × Addr)), (∀ x, (x, NameKind.free) ∈ names → env.cells.lookup x = some (f x)) → (∀ x c, acc.lookup x = some c → c = f x) →
      ∃ cl : List (Str × Addr), (forIn names acc fun (p : Str × NameKind) (cs : List (Str × Addr)) => if (p.2 == NameKind.free) = true then (do let a ← cellOf env p.1; pure (ForInStep.yield ((p.1, a) :: cs))) else pure (ForInStep.yield cs) : Sem (List (Str × Addr))) = pure cl ∧
        (∀ x c, cl.lookup x = some c → c = f x) ∧ (∀ x, ((x, NameKind.free) ∈ names ∨ acc.lookup x = some (f x)) → cl.lookup x = some (f x)) := by
    intro names
    induction names with
    | nil => intro acc _ ha; exact ⟨acc, rfl, ha, fun x h => h.elim (fun h => nomatch h) id⟩
    | cons p r ih =>
      intro acc hn ha
      obtain ⟨n, k⟩ := p
      rw [List.forIn_cons]
      by_cases hk : k = .free
      · subst hk
        have hc := hn n List.mem_cons_self
        obtain ⟨cl, e, h1, h2⟩ := ih ((n, f n) :: acc) (fun x hx => hn x (List.mem_cons_of_mem _ hx)) (fun x c h => by
          rw [List.lookup_cons] at h
          cases q : x == n with
          | true => rw [q] at h; obtain rfl := Option.some.inj h; rw [eq_of_beq q]
          | false => rw [q] at h; exact ha x c h)
        refine ⟨cl, ?_, h1, fun x h => h2 x ?_⟩
        · have e2 : cellOf env n = pure (f n) := by unfold cellOf; rw [hc]
          simp only [beq_self_eq_true, if_true]
          rw [e2]
          exact e
        · rcases h with h | h
          · rcases List.mem_cons.mp h with h | h
            · cases h; exact .inr (by rw [List.lookup_cons, beq_self_eq_true])
            · exact .inl h
          · right
            rw [List.lookup_cons]
            cases q : x == n with
            | true => rw [eq_of_beq q]
            | false => exact h
      · obtain ⟨cl, e, h1, h2⟩ := ih acc (fun x hx => hn x (List.mem_cons_of_mem _ hx)) ha
        refine ⟨cl, ?_, h1, fun x h => h2 x ?_⟩
        · have : (k == NameKind.free) = false := by simpa using hk
          simp only [this, Bool.false_eq_true, if_false]
          exact e
        · rcases h with h | h
          · rcases List.mem_cons.mp h with h | h
            · cases h; exact absurd rfl hk
            · exact .inl h
          · exact .inr h
  obtain ⟨cl, e, h1, h2⟩ := key scope.names [] hf (fun x c h => by cases h)
  refine ⟨cl, ?_, h1, fun x h => h2 x (.inl h)⟩
  unfold closureFor
  simp only [bind_pure]
  exact e

theorem cellsFrom_app : ∀ (names : Nm) (n : Nat) (acc : List (Str × Addr)), cellsFrom n names acc = cellsFrom n names [] ++ acc
  | [], _, _ => rfl
  | (x, k) :: r, n, acc => by
    unfold cellsFrom
    split
    · rw [cellsFrom_app r (n + 1) ((x, n) :: acc), cellsFrom_app r (n + 1) [(x, n)], List.append_assoc]; rfl
    · exact cellsFrom_app r n acc
theorem cellsFrom_mem : ∀ (names : Nm) (n : Nat) (x : Str) (c : Addr), (x, c) ∈ cellsFrom n names [] → (x, NameKind.cell) ∈ names
  | [], _, _, _, h => nomatch h
  | (y, k) :: r, n, x, c, h => by
    unfold cellsFrom at h
    split at h
    · rename_i hk
      rw [cellsFrom_app] at h
      rcases List.mem_append.mp h with h | h
      · exact List.mem_cons_of_mem _ (cellsFrom_mem r _ x c h)
      · cases List.mem_singleton.mp h; rw [eq_of_beq hk]; exact List.mem_cons_self
    · exact List.mem_cons_of_mem _ (cellsFrom_mem r _ x c h)
theorem lookup_app {α : Type} (x : Str) : ∀ (a b : List (Str × α)), (a ++ b).lookup x = (a.lookup x).or (b.lookup x)
  | [], _ => rfl
  | (y, v) :: r, b => by
    rw [List.cons_append, List.lookup_cons, List.lookup_cons]
    cases x == y with
    | true => rfl
    | false => exact lookup_app x r b
theorem lookup_none_of {α : Type} (x : Str) : ∀ (a : List (Str × α)), (∀ c, (x, c) ∉ a) → a.lookup x = none
  | [], _ => rfl
  | (y, v) :: r, h => by
    rw [List.lookup_cons]
    cases q : x == y with
    | true => rw [eq_of_beq q] at h; exact absurd List.mem_cons_self (h v)
    | false => exact lookup_none_of x r fun c hc => h c (List.mem_cons_of_mem _ hc)

noncomputable abbrev cEnv (scope : Scope) (C : Addr) (cells : List (Str × Addr)) (env : Env) : Env :=
  { scope := relabel scope env, locals := C, globals := env.globals, cells, qual := env.qual, func := none, code := env.code, frame := env.frame, builtins := env.builtins }
section
variable {M : Model} {A : Around} {E : Value → Shared → Prop} {s : Shared}
theorem newEnvComp {scope : Scope} {env : Env} {cl : List (Str × Addr)} {Q : Env → Shared → Prop}
    (h : Q { scope, locals := s.heap.objs.size, globals := env.globals, cells := cellsFrom (s.heap.objs.size + 1) scope.names cl, qual := env.qual, func := none, code := env.code, frame := env.frame, builtins := env.builtins }
      { s with heap := pushCells (s.heap.push { cls := .type "dict", data := .dict #[] }) scope.names }) :
    wpAny M A (newFunctionEnv scope env.globals cl [] env.qual none .none (some env)) Q E s := by
  simp only [newFunctionEnv, Option.isSome_some, if_true]
  refine wpAny_bind (wpAny_alloc ?_)
  refine wpAny_bind (wpAny_layCells _ (fun name kind cells => by cases kind == NameKind.cell <;> simp) _ _ _ _ ?_)
  rw [show ({ s with heap := s.heap.push { cls := .type "dict", data := .dict #[] } } : Shared).heap.objs.size = s.heap.objs.size + 1 from Heap.size_push ..]
  exact wpAny_bind (wpAny_pure (wpAny_pure h))
end

noncomputable def Wx (W O : List Addr) (h h' : Heap) : Prop := ∀ a o, h.get? a = some o → (a ∉ O ∨ a ∈ W) → (∃ vs n, o.data = .seq vs n) → h'.get? a = some o
theorem Wx.refl {W O : List Addr} {h : Heap} : Wx W O h h := fun _ _ e _ _ => e
theorem Wx.trans {W O : List Addr} {h₁ h₂ h₃ : Heap} (x : Wx W O h₁ h₂) (y : Wx W O h₂ h₃) : Wx W O h₁ h₃ := fun a o e n c => y a o (x a o e n c) n c
theorem Wx.rep {W O : List Addr} {h h' : Heap} (x : Wx W O h h') {v : Value} {d : V} (r : Rep O h v d) : Rep O h' v d := r.keep (fun _ _ _ n => n) fun a o e n c => x a o e (.inl n) c
theorem Wx.reps {W O : List Addr} {h h' : Heap} (x : Wx W O h h') {vs : List Value} {ds : List V} (r : Reps O h vs ds) : Reps O h' vs ds := r.keep (fun _ _ _ n => n) fun a o e n c => x a o e (.inl n) c
theorem Ext.wx {Z : Par} {W O : List Addr} {h h' : Heap} (x : Ext Z h h') : Wx W O h h' := fun _ _ e _ c => x.seq e c
theorem Wx.but {W O : List Addr} {h h' : Heap} {a : Addr} (x : Heap.ExtBut a h h') (hk : ∀ o, h.get? a = some o → (∀ vs n, o.data ≠ .seq vs n) ∨ (a ∈ O ∧ a ∉ W)) : Wx W O h h' := fun b o e n c =>
  x b o (fun q => by
    subst q
    rcases hk o e with h1 | ⟨h1, h2⟩
    · obtain ⟨vs, n, c⟩ := c; exact h1 vs n c
    · exact n.elim (fun n => n h1) h2) e

structure It (prog : Program) (w : World) (A : Around) (W O : List Addr) (h₁ : Heap) (I : Addr) (fp : List Addr) (P : Nat → Value → Prop) (St : Nat → Heap → Prop) (ds : List V) : Prop where
  walks : Walks prog w A I fp [I] ds.length P St
  foot : ∀ b ∈ fp, b = I ∨ ∃ o, h₁.get? b = some o ∧ (∃ vs n, o.data = .seq vs n) ∧ (b ∉ O ∨ b ∈ W)
  obj : ∀ i h, St i h → ∃ o fs, h.get? I = some o ∧ (o.cls = .type "list_iterator" ∨ o.cls = .type "range_iterator") ∧ o.data = .fields fs ∧ ∀ q t, fs[1]? ≠ some (.str q t)
  new : h₁.get? I = none
  el : ∀ i v, i < ds.length → P i v → ∃ d, ds[i]? = some d ∧ Rep O h₁ v d
noncomputable def ItOK (prog : Program) (w : World) (A : Around) (W O : List Addr) (h₁ h₂ : Heap) (it : Value) (ds : List V) : Prop :=
  ∃ I fp, ∃ P : Nat → Value → Prop, ∃ St, it = .ref I ∧ It prog w A W O h₁ I fp P St ds ∧ St 0 h₂

section
variable {Z : Par} {prog : Program} {w : World} {A : Around} {E : Value → Shared → Prop} {W O : List Addr} {s : Shared}
theorem pyIter_list_ok {v : Value} {ds : List V} {Q : Value → Shared → Prop} (hh : A.handled = none) (g : Gd Z s.heap) (r : RepTop W O s.heap v (.lst ds))
    (h : ∀ h₂ it, (∀ b o, s.heap.get? b = some o → h₂.get? b = some o) → Ext Z s.heap h₂ → ItOK prog w A W O s.heap h₂ it ds → Q it { s with heap := h₂ }) : wpAny (model prog w) A (pyIter v) Q E s := by
  obtain ⟨l, vs, rfl, hn, hl, r⟩ := r
  have hne : l ≠ s.heap.objs.size := by obtain ⟨o, ho, _⟩ := hl; exact Nat.ne_of_lt (Heap.lt_size ho)
  refine wpAny_pyIter_list hl (h _ _ (fun _ _ e => Heap.get?_push_of_some _ e) (.push g _) ?_)
  have hlen : vs.toArray.size = ds.length := by rw [List.size_toArray, r.length]
  have W' := Walks.list (prog := prog) (w := w) (A := A) hh s.heap.objs.size l hne vs.toArray
  rw [hlen] at W'
  refine ⟨_, _, _, _, rfl, ⟨W', ?_, ?_, get_size _, ?_⟩, ⟨⟨_, Heap.get?_push_size _ rfl, rfl, rfl⟩, hl.push _⟩⟩
  · intro b hb
    rcases List.mem_cons.mp hb with e | hb
    · exact .inl e
    · obtain ⟨o, ho, hc, n, hd⟩ := hl
      rw [List.mem_singleton.mp hb]
      exact .inr ⟨o, ho, ⟨_, n, hd⟩, hn⟩
  · rintro i h ⟨⟨o, ho, hc, hd⟩, _⟩; exact ⟨o, _, ho, .inl hc, hd, fun q t e => by cases e⟩
  · intro i v _ hp
    have hp' : vs[i]? = some v := by simpa using hp
    exact r.get' hp'

theorem walks_bound {I : Addr} {fp wr : List Addr} {n : Nat} {P : Nat → Value → Prop} {St : Nat → Heap → Prop} (W : Walks prog w A I fp wr n P St) : Walks prog w A I fp wr n (fun i v => i < n ∧ P i v) St where
  sub := W.sub
  frame := W.frame
  item := fun i s Q E hi st hQ => W.item i s Q E hi st fun v h' tk hp => hQ v h' tk ⟨hi, hp⟩
  done := W.done
  self := W.self

theorem pyIter_range_ok {a b : Int} {t u v : Tok} {r : Addr} {Q : Value → Shared → Prop} (hh : A.handled = none) (g : Gd Z s.heap) (hr : IsRange s.heap r a b 1 t u v) (h0 : 0 ≤ a) (ha : a ≤ 2 ^ 40) (hb : b ≤ 100000) (hb0 : -(2 ^ 40) ≤ b)
    (h : ∀ h₂ it, (∀ b o, s.heap.get? b = some o → h₂.get? b = some o) → Ext Z s.heap h₂ → ItOK prog w A W O s.heap h₂ it ((List.range (b - a).toNat).map fun i => V.int (a + (i : Nat))) → Q it { s with heap := h₂ }) :
    wpAny (model prog w) A (pyIter (.ref r)) Q E s := by
  refine wpAny_pyIter_range hr (small_one (by omega) (by omega) (by omega) (by omega)) (h _ _ (fun _ _ e => Heap.get?_push_of_some _ e) (.push g _) ?_)
  have W' := walks_bound (Walks.range (prog := prog) (w := w) (A := A) hh s.heap.objs.size a 1 (b - a).toNat)
  have hlen : ((List.range (b - a).toNat).map fun i => V.int (a + (i : Nat))).length = (b - a).toNat := by simp
  have hsz : Builtin.Range.rangeSize a b 1 = ((b - a).toNat : Int) := by
    rw [rangeSize_one]; split <;> omega
  refine ⟨_, _, _, _, rfl, ⟨hlen.symm ▸ W', ?_, ?_, get_size _, ?_⟩, ?_⟩
  · intro b hb; exact .inl (List.mem_singleton.mp hb)
  · intro i h st; exact ⟨_, _, st, .inr rfl, rfl, fun q t e => by cases e⟩
  · rintro i v _ ⟨hi, t, rfl⟩
    refine ⟨.int (a + (i : Nat)), ?_, ?_⟩
    · rw [hlen] at hi
      rw [List.getElem?_map, List.getElem?_range hi]; rfl
    · have : a + (i : Int) * 1 = a + (i : Int) := by omega
      rw [this]; exact .int _ _
  · show IsRangeIter _ _ _ _ _
    rw [hsz]
    simpa using Heap.get?_push_size _ rfl
end
end Mine

-- MF
set_option maxRecDepth 10000
namespace Mine
set_option tactic.hygienic false

set_option backward.match.sparseCases false in
noncomputable def isFresh : Expr → Bool
  | .List .. | .ListComp .. | .BinOp .. => true
  | .Subscript _ (.Slice ..) _ => true
  | _ => false

structure Got (Z : Par) (W O : List Addr) (h h' : Heap) (pk : Bool) (e : Expr) (v : Value) (d : V) : Prop where
  ext : Ext Z h h'
  top : RepTop W O h' v d
  rep : pk = false → Rep O h' v d
  fresh : isFresh e = true → ∀ ds, d = .lst ds → RepFresh O h h' v d
theorem Got.ofNew {Z : Par} {W O : List Addr} {h h' : Heap} {pk : Bool} {e : Expr} {v : Value} {d : V} (n : New Z O h h' v d) : Got Z W O h h' pk e v d := ⟨n.1, n.2.1.top, fun _ => n.2.1, fun _ ds q => n.2.2 ds q⟩
theorem Got.later {Z : Par} {W O : List Addr} {h h₁ h' : Heap} {pk : Bool} {e : Expr} {v : Value} {d : V} (x : Ext Z h h₁) (n : Got Z W O h₁ h' pk e v d) : Got Z W O h h' pk e v d :=
  ⟨x.trans n.ext, n.top, n.rep, fun f ds q => (n.fresh f ds q).later x⟩

noncomputable def EvS (Z : Par) (prog : Program) (w : World) (k : Nat) (T : Evl) : Prop :=
  ∀ pk sc own ρ e d, T pk sc own ρ e = some d → ∀ (A : Around) (env : Env) (W O : List Addr) (s : Shared) (Q : Value → Shared → Prop) (E : Value → Shared → Prop), GoodA k A → Gd Z s.heap → EnvOK Z W O env sc own ρ s.heap →
    (∀ h' tk v, Got Z W O s.heap h' pk e v d → Q v { s with heap := h', toks := tk }) → wpAny (model prog w) A (eval e env) Q E s
noncomputable def TsS (Z : Par) (prog : Program) (w : World) (k : Nat) (T : Evl) : Prop :=
  ∀ pk sc own ρ e d b, T pk sc own ρ e = some d → truth d = some b → ∀ (A : Around) (env : Env) (W O : List Addr) (s : Shared) (Q : Bool → Shared → Prop) (E : Value → Shared → Prop), GoodA k A → Gd Z s.heap → EnvOK Z W O env sc own ρ s.heap →
    (∀ h' tk, Ext Z s.heap h' → Q b { s with heap := h', toks := tk }) → wpAny (model prog w) A (isTrue e env (eval e env)) Q E s

section
variable {Z : Par} {prog : Program} {w : World} {A : Around} {E : Value → Shared → Prop} {W O : List Addr} {s : Shared} {k : Nat} {T : Evl}

theorem range?_some {sc : Nm} {e : Expr} {args : List Expr} (h : range? sc e = some args) : ∃ p pos, e = .Call (.Name ("range" : Str) p) args [] pos ∧ sc.lookup ("range" : Str) = some .globalImplicit := by
  obtain ⟨v, _, h⟩ := Option.bind_eq_some_iff.mp h
  obtain ⟨hc, h⟩ := Option.ite_none_right_eq_some.mp h
  have hc := Bool.and_eq_true_iff.mp hc
  have e1 := eq_of_beq hc.1
  exact ⟨v.1.1.2, v.1.2.2, v.2.trans ((congrArg (fun s => Expr.Call (.Name s v.1.1.2) v.1.2.1 [] v.1.2.2) e1).trans (congrArg (fun l => Expr.Call (.Name ("range" : Str) v.1.1.2) l [] v.1.2.2) (Option.some.inj h))), e1 ▸ eq_of_beq hc.2⟩

theorem star1 {T : Evl} {pk : Bool} {sc : Nm} {own : List Str} {ρ : Rho} {e : Expr} {d : V} (ht : ∀ e p pk sc own ρ, T pk sc own ρ (.Starred e p) = none) (h : T pk sc own ρ e = some d) (rest : List Expr) (env : Env) :
    starEach (e :: rest) env = (false, eval e env) :: starEach rest env := by
  have q := ea (F := fun e => starEach (e :: rest) env) (G := fun e => bif starB e then starEach (e :: rest) env else (false, eval e env) :: starEach rest env) (by kernel_rfl) e
  cases hs : starB e with
  | false => rw [hs] at q; exact q
  | true =>
    obtain ⟨a, p, e1⟩ := starB_is hs
    rw [e1, ht] at h; cases h

inductive RepTops (W O : List Addr) (h : Heap) : List Value → List V → Prop
  | nil : RepTops W O h [] []
  | cons {v : Value} {vs : List Value} {d : V} {ds : List V} : RepTop W O h v d → RepTops W O h vs ds → RepTops W O h (v :: vs) (d :: ds)
theorem RepTops.one {W O : List Addr} {h : Heap} {d : V} {motive : ∀ vs, RepTops W O h vs [d] → Prop} (k : ∀ v (r : RepTop W O h v d), motive [v] (.cons r .nil)) (vs : List Value) (r : RepTops W O h vs [d]) : motive vs r := by
  cases r with | cons r1 r2 => cases r2; exact k _ r1
theorem RepTops.two {W O : List Addr} {h : Heap} {d e : V} {motive : ∀ vs, RepTops W O h vs [d, e] → Prop} (k : ∀ v u (r : RepTop W O h v d) (q : RepTop W O h u e), motive [v, u] (.cons r (.cons q .nil))) (vs : List Value) (r : RepTops W O h vs [d, e]) : motive vs r := by
  cases r with | cons r1 r2 => cases r2 with | cons r2 r3 => cases r3; exact k _ _ r1 r2
theorem Ext.repTops {h h' : Heap} (x : Ext Z h h') : ∀ {vs : List Value} {ds : List V}, RepTops W O h vs ds → RepTops W O h' vs ds
  | _, _, .nil => .nil
  | _, _, .cons a r => .cons (x.repTop a) (Ext.repTops x r)

set_option tactic.hygienic true in
theorem spl_ok (hT : EvS Z prog w k T) (hst : ∀ e p pk sc own ρ, T pk sc own ρ (.Starred e p) = none) {pk : Bool} {sc : Nm} {own : List Str} {ρ : Rho} {env : Env} {pos : Pos} : ∀ {args : List Expr} {ds : List V}, mapO (T pk sc own ρ) args = some ds →
    ∀ {s : Shared} {Q : List Value → Shared → Prop}, GoodA k A → Gd Z s.heap → EnvOK Z W O env sc own ρ s.heap →
    (∀ h' tk vs, Ext Z s.heap h' → RepTops W O h' vs ds → (pk = false → Reps O h' vs ds) → Q vs { s with heap := h', toks := tk }) → wpAny (model prog w) A (spliced (backTo pos (starEach args env))) Q E s
  | [], ds, h, s, Q, hA, g, ok, hQ => by
    obtain rfl := Option.some.inj h
    exact wpAny_pure (hQ s.heap s.toks [] (.refl g) .nil fun _ => .nil)
  | e :: r, ds, h, s, Q, hA, g, ok, hQ => by
    unfold mapO at h
    split at h
    · rename_i d hd
      split at h
      · rename_i ds' hds
        obtain rfl := Option.some.inj h
        refine wpAny_items_cons ?_ (star1 hst hd r env)
        refine hT _ _ _ _ _ _ hd A env W O s _ E hA g ok fun h' tk v q => ?_
        have g' := q.ext.gd g
        refine spl_ok hT hst hds hA g' (ok.ext q.ext) fun h2 tk2 vs x y z => ?_
        exact hQ _ _ _ (q.ext.trans x) (.cons (x.repTop q.top) y) fun hp => .cons (x.rep (q.rep hp)) (z hp)
      · cases h
    · cases h

set_option tactic.hygienic true in
theorem back_plain {T : Evl} (hst : ∀ e p pk sc own ρ, T pk sc own ρ (.Starred e p) = none) {pk : Bool} {sc : Nm} {own : List Str} {ρ : Rho} {env : Env} {pos : Pos} : ∀ {args : List Expr} {ds : List V}, mapO (T pk sc own ρ) args = some ds →
    (backTo pos (starEach args env)).any (·.1) = false
  | [], _, _ => rfl
  | e :: r, ds, h => by
    unfold mapO at h
    split at h
    · rename_i d hd
      split at h
      · rename_i ds' hds
        rw [star1 hst hd r env]
        have := back_plain (env := env) (pos := pos) hst hds
        show (false || _) = false
        exact this
      · cases h
    · cases h
theorem evalArgs_of {f : Value} : ∀ {l : List (Bool × Sem Value)} {Q : Args → Shared → Prop}, l.any (·.1) = false → wpAny (model prog w) A (spliced l) (fun vs s' => Q ⟨vs, []⟩ s') E s → wpAny (model prog w) A (evalArgs f true l []) Q E s
  | [], Q, _, h => by
    exact fun Γ p hΓ => PySem.evalArgs_none (show Q ⟨[], []⟩ s from h Γ p hΓ) Γ p hΓ
  | (b, x) :: r, Q, hb, h => by
    have : b = false := by
      cases b with
      | false => rfl
      | true => simp at hb
    subst this
    exact evalArgs_plain h

set_option tactic.hygienic true in
theorem itr_ok (hT : EvS Z prog w k T) (hst : ∀ e p pk sc own ρ, T pk sc own ρ (.Starred e p) = none) (hrange : Gl Z "range" (.type "range")) {pk : Bool} {sc : Nm} {own : List Str} {ρ : Rho} {e : Expr} {ds : List V} {env : Env} {Q : Value → Shared → Prop}
    (h : itrE T pk sc own ρ e = some ds) (hA : GoodA k A) (g : Gd Z s.heap) (ok : EnvOK Z W O env sc own ρ s.heap)
    (hQ : ∀ h₁ h₂ tk it, Ext Z s.heap h₁ → Ext Z h₁ h₂ → ItOK prog w A (if pk then W else []) O h₁ h₂ it ds → Q it { s with heap := h₂, toks := tk }) :
    wpAny (model prog w) A (eval e env) (fun xv s₁ => wpAny (model prog w) A (pyIter xv) Q E s₁) E s := by
  unfold itrE at h
  split at h
  · rename_i args hr
    obtain ⟨p, pos, rfl, hg⟩ := range?_some hr
    have call : ∀ ds', mapO (T true sc own ρ) args = some ds' → (∀ h' tk vs, Ext Z s.heap h' → RepTops W O h' vs ds' → wpAny (model prog w) A (call (.type "range") vs) (fun xv s₁ => wpAny (model prog w) A (pyIter xv) Q E s₁) E { s with heap := h', toks := tk }) →
        wpAny (model prog w) A (eval (.Call (.Name ("range" : Str) p) args [] pos) env) (fun xv s₁ => wpAny (model prog w) A (pyIter xv) Q E s₁) E s := by
      intro ds' hm hc
      show wpAny _ _ (do callWith pos (← eval (.Name ("range" : Str) p) env) [] (backTo pos (starEach args env)) (backToKw pos (keywordEach [] env))) _ _ _
      refine wpAny_bind (name_glob g ok hg hrange ?_)
      refine PySem.callWith_type (back_plain hst hm) (evalArgs_of (back_plain hst hm) ?_)
      exact spl_ok hT hst hm hA g ok fun h' tk vs x y _ => hc h' tk vs x y
    unfold rangeE at h
    split at h
    · rename_i a
      split at h
      · rename_i b hb
        have hb := intO_some hb
        split at h
        · rename_i hle
          obtain rfl := Option.some.inj h
          refine call [.int b] (by simp only [mapO, hb]) fun h' tk vs q r => ?_
          cases vs, r using RepTops.one with
          | _ v r1 =>
            obtain ⟨t, rfl⟩ := r1.int
            have g' := q.gd g
            refine call_range_1 ?_
            have hr := IsRange.new h' 0 b 1 tk t (tk + 1)
            have e1 : Ext Z h' _ := Ext.push g' { cls := .type "range", data := .fields #[.int 0 tk, .int b t, .int 1 (tk + 1)] }
            refine pyIter_range_ok (W := if pk then W else []) (O := O) hA.handled (e1.gd g') hr (by omega) (by omega) hle.1 (by omega) fun h₂ it _ x y => ?_
            have z : (List.range (b - 0).toNat).map (fun i => V.int (0 + (i : Nat))) = (List.range b.toNat).map fun i => V.int (i : Nat) := by simp
            rw [z] at y
            exact hQ _ _ _ _ (q.trans e1) x y
        · cases h
      · cases h
    · rename_i a b
      split at h
      · rename_i x y hx hy
        have hx := intO_some hx
        have hy := intO_some hy
        split at h
        · rename_i hle
          obtain rfl := Option.some.inj h
          refine call [.int x, .int y] (by simp only [mapO, hx, hy]) fun h' tk vs q r => ?_
          cases vs, r using RepTops.two with
          | _ v u r1 r2 =>
              obtain ⟨t, rfl⟩ := r1.int
              obtain ⟨u, rfl⟩ := r2.int
              have g' := q.gd g
              refine call_range_2 ?_
              have hr := IsRange.new h' x y 1 t u tk
              have e1 : Ext Z h' _ := Ext.push g' { cls := .type "range", data := .fields #[.int x t, .int y u, .int 1 tk] }
              refine pyIter_range_ok (W := if pk then W else []) (O := O) hA.handled (e1.gd g') hr hle.1 (by omega) hle.2.2.1 (by omega) fun h₂ it _ x y => ?_
              exact hQ _ _ _ _ (q.trans e1) x y
        · cases h
      · cases h
    · cases h
  · unfold lstE at h
    split at h
    · rename_i ds' hd
      obtain rfl := Option.some.inj h
      refine hT _ _ _ _ _ _ hd A env W O s _ E hA g ok fun h' tk v q => ?_
      refine pyIter_list_ok (W := if pk then W else []) (O := O) hA.handled (q.ext.gd g) ?_ fun h₂ it _ x y => hQ _ _ _ _ q.ext x y
      cases pk with
      | true => exact q.top
      | false => exact (q.rep rfl).top
    · cases h

theorem draw_ok {I : Addr} {fp : List Addr} {P : Nat → Value → Prop} {St : Nat → Heap → Prop} {m : Nat} (Wk : Walks prog w A I fp [I] m P St) : ∀ (n i : Nat) (s : Shared) (Q : List Value → Shared → Prop), St i s.heap → i + n ≤ m →
    (∀ h' tk vs, vs.length = n → (∀ j v, vs[j]? = some v → P (i + j) v) → St (i + n) h' → (∀ b o, b ≠ I → s.heap.get? b = some o → h'.get? b = some o) → Q vs { s with heap := h', toks := tk }) → wpAny (model prog w) A (draw (.ref I) n) Q E s
  | 0, i, s, Q, st, _, hQ => by
    show wpAny _ _ (pure []) Q E s
    exact wpAny_pure (hQ s.heap s.toks [] rfl (fun j v h => by cases h) (by simpa using st) fun _ _ _ e => e)
  | n + 1, i, s, Q, st, hle, hQ => by
    show wpAny _ _ (pyNext (.ref I) >>= _) Q E s
    refine wpAny_bind (Wk.item i s _ E (by omega) st fun v h' tk hp st' hk => ?_)
    refine wpAny_bind (wpAny_holding (draw_ok Wk n (i + 1) _ _ st' (by omega) fun h2 tk2 vs hl hv st2 hk2 => wpAny_pure ?_))
    refine hQ h2 tk2 (v :: vs) (by rw [List.length_cons, hl]) ?_ (by rw [show i + (n + 1) = i + 1 + n by omega]; exact st2) fun b o hb e => hk2 b o hb (hk b o (by simpa using hb) e)
    intro j u hj
    cases j with
    | zero => obtain rfl := Option.some.inj hj; exact hp
    | succ j => have := hv j u hj; rw [show i + (j + 1) = i + 1 + j by omega]; exact this

theorem unpackItems_list {v : Value} {ds : List V} {Q : List Value → Shared → Prop} (hh : A.handled = none) (g : Gd Z s.heap) (r : RepTop W O s.heap v (.lst ds))
    (hQ : ∀ h' tk vs, Ext Z s.heap h' → Reps O h' vs ds → Q vs { s with heap := h', toks := tk }) : wpAny (model prog w) A (unpackItems v ds.length none) Q E s := by
  obtain ⟨l, vs, rfl, hn, hl, r⟩ := id r
  have hne : l ≠ s.heap.objs.size := by obtain ⟨o, ho, _⟩ := hl; exact Nat.ne_of_lt (Heap.lt_size ho)
  unfold unpackItems
  refine wpAny_bind ?_
  unfold notIterableAtAll
  refine wpAny_bind (wpAny_specialOf hl.typeIs slot_list_iter.lookup ?_)
  refine wpAny_pure ?_
  simp only [Bool.false_eq_true, if_false]
  refine wpAny_bind (wpAny_holding (wpAny_pyIter_list hl ?_))
  have hlen : vs.toArray.size = ds.length := by rw [List.size_toArray, r.length]
  have Wk := Walks.list (prog := prog) (w := w) (A := A) hh s.heap.objs.size l hne vs.toArray
  refine wpAny_bind (wpAny_holding (draw_ok Wk ds.length 0 _ _ ⟨⟨_, Heap.get?_push_size _ rfl, rfl, rfl⟩, hl.push _⟩ (by omega) fun h₁ tk us hus hP st hk => ?_))
  have hu : us = vs := by
    have := list_of_places (items := vs.toArray) (by rw [hus, hlen]) (fun j v hj => by simpa using hP j v hj)
    simpa using this
  subst hu
  rw [if_neg (by rw [r.length]; omega)]
  refine wpAny_bind (wpAny_holding (Wk.done _ _ _ (by rw [hlen]; simpa using st) fun h2 tk2 hk2 => ?_))
  simp only [Option.isSome_none, Bool.false_eq_true, if_false]
  have e : Ext Z s.heap h2 := .ofKeep g fun b o e => hk2 b o (fun q => by rw [List.mem_singleton.mp q, get_size] at e; cases e) (hk b o (fun q => by rw [q, get_size] at e; cases e) (Heap.get?_push_of_some _ e))
  exact wpAny_pure (hQ h2 tk2 us e (e.reps r))
end
end Mine

-- MG
set_option maxRecDepth 10000
namespace Mine
set_option tactic.hygienic false

structure CompSt (Z : Par) (hs : Heap) (W O : List Addr) (D : Addr) (env : Env) (sc : Nm) (own : List Str) (ρ : Rho) (ds : List V) (h : Heap) : Prop where
  ext : Ext Z hs h
  newC : hs.get? env.locals = none
  newD : hs.get? D = none
  dC : D ≠ env.locals
  dO : D ∈ O
  win : OIn W hs
  ns : ∃ m, h.Ns env.locals m
  acc : ∃ ys, h.PlainList D ys.toArray ∧ Reps O h ys ds
  ownf : ∀ x, own.contains x = true → sc.lookup x = some .free
  kinds : ∀ x k, sc.lookup x = some k → k = .local ∨ k = .cell ∨ k = .globalImplicit ∨ k = .free
  loc : ∀ x, sc.lookup x = some .local → env.kindOf x = some .local
  cel : ∀ x, sc.lookup x = some .cell → env.kindOf x = some .cell ∧ ∃ c, env.cells.lookup x = some c ∧ hs.get? c = none ∧ ∃ v, h.IsCell c v
  inj : ∀ x y c, sc.lookup x = some .cell → sc.lookup y = some .cell → env.cells.lookup x = some c → env.cells.lookup y = some c → x = y
  fre : ∀ x, sc.lookup x = some .free → env.kindOf x ≠ some .local ∧ ∀ c, env.cells.lookup x = some c → (hs.get? c).isSome = true
  env : EnvOK Z W O env sc own ρ h

section
variable {Z : Par} {hs h h' : Heap} {W O : List Addr} {D : Addr} {env : Env} {sc : Nm} {own : List Str} {ρ : Rho} {ds : List V}

theorem CompSt.grown (x : CompSt Z hs W O D env sc own ρ ds h) (y : Ext Z h h') : CompSt Z hs W O D env sc own ρ ds h' where
  ext := x.ext.trans y
  newC := x.newC
  newD := x.newD
  dC := x.dC
  dO := x.dO
  win := x.win
  ns := let ⟨m, n⟩ := x.ns; ⟨m, y.ns n⟩
  acc := let ⟨ys, l, r⟩ := x.acc; ⟨ys, y.plain l, y.reps r⟩
  ownf := x.ownf
  kinds := x.kinds
  loc := x.loc
  cel := fun z hz => let ⟨a, c, e1, e2, v, e3⟩ := x.cel z hz; ⟨a, c, e1, e2, v, y.cell e3⟩
  inj := x.inj
  fre := x.fre
  env := x.env.ext y

theorem dNotW (x : CompSt Z hs W O D env sc own ρ ds h) : D ∉ W := fun hm => by have := x.win D hm; rw [x.newD] at this; exact Bool.noConfusion this

theorem CompSt.place (x : CompSt Z hs W O D env sc own ρ ds h) {y : Str} {k : NameKind} {v : Value} (hk : sc.lookup y = some k) (hv : VarIn env h y v) :
    (sc.lookup y = some .local ∧ ∃ m, h.Ns env.locals m ∧ m y = some v) ∨ (sc.lookup y = some .cell ∧ ∃ c, env.cells.lookup y = some c ∧ hs.get? c = none ∧ h.IsCell c (some v)) ∨ (sc.lookup y = some .free ∧ ∃ c, env.cells.lookup y = some c ∧ (hs.get? c).isSome = true ∧ h.IsCell c (some v)) ∨ k = .globalImplicit := by
  rcases x.kinds y k hk with rfl | rfl | rfl | rfl
  · have hl := x.loc y hk
    rcases hv with ⟨_, m, n, e⟩ | ⟨q, _⟩
    · exact .inl ⟨hk, m, n, e⟩
    · rw [hl] at q; rcases q with q | q <;> cases q
  · obtain ⟨hc, c, e1, e2, _⟩ := x.cel y hk
    rcases hv with ⟨q, _⟩ | ⟨_, c', e3, e4⟩
    · rw [hc] at q; cases q
    · rw [e1] at e3; obtain rfl := Option.some.inj e3; exact .inr (.inl ⟨hk, c, e1, e2, e4⟩)
  · exact .inr (.inr (.inr rfl))
  · obtain ⟨hn, hf⟩ := x.fre y hk
    rcases hv with ⟨q, _⟩ | ⟨_, c, e1, e2⟩
    · exact absurd q hn
    · exact .inr (.inr (.inl ⟨hk, c, e1, hf c e1, e2⟩))

noncomputable def NoCode (o : Obj) : Prop := ∀ vs q t, o.data = .fields vs → vs[1]? ≠ some (.str q t)
theorem Ext.but {a : Addr} (x : Ext Z hs h) (y : Heap.ExtBut a h h') (ha : hs.get? a = none) (hk : ∀ o, h.get? a = some o → NoCode o) : Ext Z hs h' := by
  have up : ∀ b o, hs.get? b = some o → b ≠ a := fun b o e q => by rw [q, ha] at e; cases e
  have hP : Z.P ≠ a := by obtain ⟨ps, e, _⟩ := x.tab; exact up _ _ e
  refine ⟨fun b o hb e => y b o (up b o e) (x.keep b o hb e), x.tab, ?_⟩
  refine Exists.elim x.tab' fun ps q_70 => ?_
  have e := q_70.1
  have t := q_70.2.1
  have c := q_70.2.2
  refine ⟨ps, y _ _ hP e, t, fun cv q => ?_⟩
  refine ex4 (c cv q) fun c' o vs t' q_72 => ?_
  have e1 := q_72.1
  have e2 := q_72.2.1
  have e3 := q_72.2.2.1
  have e4 := q_72.2.2.2
  exact ⟨c', o, vs, t', e1, y _ _ (fun q => by subst q; exact hk o e2 vs _ _ e3 e4) e2, e3, e4⟩

theorem CompSt.but {a : Addr} (x : CompSt Z hs W O D env sc own ρ ds h) (y : Heap.ExtBut a h h') (ha : hs.get? a = none) (haC : a ≠ env.locals) (haD : a ≠ D)
    (hac : ∀ z c, sc.lookup z = some .cell → env.cells.lookup z = some c → c ≠ a) (hk : ∀ o, h.get? a = some o → (∀ vs n, o.data ≠ .seq vs n) ∧ NoCode o) (ho : ∀ b, b ∈ W ∨ b ∈ O → (h.get? b).isSome = true → (h'.get? b).isSome = true) :
    CompSt Z hs W O D env sc own ρ ds h' := by
  have wx : Wx W O h h' := .but y fun o e => .inl (hk o e).1
  have up : ∀ b o, hs.get? b = some o → b ≠ a := fun b o e q => by rw [q, ha] at e; cases e
  have cellUp : ∀ {c : Addr} {v : Option Value}, h.IsCell c v → c ≠ a → h'.IsCell c v := fun ⟨o, e, d⟩ n => ⟨o, y _ o n e, d⟩
  have nsUp : ∀ {m : Str → Option Value}, h.Ns env.locals m → h'.Ns env.locals m := fun n => n.extBut y (Ne.symm haC)
  refine ⟨x.ext.but y ha fun o e => (hk o e).2, x.newC, x.newD, x.dC, x.dO, x.win, let ⟨m, n⟩ := x.ns; ⟨m, nsUp n⟩, ?_, x.ownf, x.kinds, x.loc, ?_, x.inj, x.fre, ?_⟩
  · obtain ⟨ys, ⟨n, e⟩, r⟩ := x.acc
    exact ⟨ys, ⟨n, y _ _ (Ne.symm haD) e⟩, wx.reps r⟩
  · intro z hz
    obtain ⟨h1, c, h2, h3, v, h4⟩ := x.cel z hz
    exact ⟨h1, c, h2, h3, v, cellUp h4 (hac z c hz h2)⟩
  · refine ⟨x.env.kind, x.env.glob, x.env.blt, fun b hb => ho b (.inl hb) (x.env.win b hb), fun b hb => ho b (.inr hb) (x.env.oin b hb), x.env.nodbg, x.env.nocd, x.env.gk, x.env.ck, fun z k d h1 h2 h3 => ?_⟩
    obtain ⟨v, hv, hr⟩ := x.env.var z k d h1 h2 h3
    refine ⟨v, ?_, ?_⟩
    · rcases x.place h1 hv with ⟨hz, m, n, e⟩ | ⟨hz, c, e1, _, e2⟩ | ⟨hz, c, e1, e2, e3⟩ | e
      · exact .inl ⟨x.loc z hz, m, nsUp n, e⟩
      · exact .inr ⟨.inl (x.cel z hz).1, c, e1, cellUp e2 (hac z c hz e1)⟩
      · obtain ⟨o, e4⟩ := Option.isSome_iff_exists.mp e2
        rcases hv with ⟨q, _⟩ | ⟨q, c', e5, e6⟩
        · exact absurd q (x.fre z hz).1
        · exact .inr ⟨q, c, e1, cellUp e3 (up c o e4)⟩
      · exact absurd e h2
    · generalize own.contains z = b at hr ⊢
      cases b with
      | false => exact wx.rep (O := O) hr
      | true =>
        obtain ⟨l, vs, ds', e1, e2, hl, ⟨n, e3⟩, r⟩ := hr
        exact ⟨l, vs, ds', e1, e2, hl, ⟨n, wx l _ e3 (.inr hl) ⟨_, n, rfl⟩⟩, wx.reps r⟩

theorem EnvOK.less {x : Str} {d : V} (e : EnvOK Z W O env sc own ((x, d) :: ρ) h) (hx : (ρ.lookup x).isNone = true) : EnvOK Z W O env sc own ρ h :=
  ⟨e.kind, e.glob, e.blt, e.win, e.oin, e.nodbg, e.nocd, e.gk, e.ck, fun z k d' h1 h2 h3 => e.var z k d' h1 h2 (by
    rw [List.lookup_cons]
    cases q : z == x with
    | true => rw [eq_of_beq q] at h3; rw [h3] at hx; exact Bool.noConfusion hx
    | false => exact h3)⟩
theorem CompSt.less {x : Str} {d : V} (s : CompSt Z hs W O D env sc own ((x, d) :: ρ) ds h) (hx : (ρ.lookup x).isNone = true) : CompSt Z hs W O D env sc own ρ ds h :=
  ⟨s.ext, s.newC, s.newD, s.dC, s.dO, s.win, s.ns, s.acc, s.ownf, s.kinds, s.loc, s.cel, s.inj, s.fre, s.env.less hx⟩

noncomputable def StoreKeep (h h' : Heap) : Prop := ∃ a, Heap.SameBut a h h' ∧ (∀ o, h.get? a = some o → (∃ es n, o.data = .dict es n) ∨ ∃ v, o.data = .cell v) ∧ (h'.get? a).isSome = true

theorem ns_one {a : Addr} {m m' : Str → Option Value} (n : h.Ns a m) (n' : h.Ns a m') : m = m' := by
  obtain ⟨o, es, ep, e, hd, _, hm⟩ := n
  obtain ⟨o', es', ep', e', hd', _, hm'⟩ := n'
  rw [e] at e'
  obtain rfl := Option.some.inj e'
  rw [hd] at hd'
  cases hd'
  funext x
  rw [← hm x, ← hm' x]
theorem ns_dict {a : Addr} {m : Str → Option Value} (n : h.Ns a m) : ∀ o, h.get? a = some o → ∃ es n, o.data = .dict es n := fun o e => by
  obtain ⟨o', es, ep, e', hd, _⟩ := n; rw [e] at e'; obtain rfl := Option.some.inj e'; exact ⟨es, ep, hd⟩
theorem cell_cell {a : Addr} {v : Option Value} (n : h.IsCell a v) : ∀ o, h.get? a = some o → ∃ v, o.data = .cell v := fun o e => by
  obtain ⟨o', e', hd⟩ := n; rw [e] at e'; obtain rfl := Option.some.inj e'; exact ⟨v, hd⟩
theorem ns_some {a : Addr} {m : Str → Option Value} (n : h.Ns a m) : (h.get? a).isSome = true := by obtain ⟨o', es, ep, e', hd, _⟩ := n; rw [e']; rfl
theorem cell_some {a : Addr} {v : Option Value} (n : h.IsCell a v) : (h.get? a).isSome = true := by obtain ⟨o', e', hd⟩ := n; rw [e']; rfl
theorem StoreKeep.wx (x : StoreKeep h h') : Wx W O h h' := by
  obtain ⟨a, sb, hk, _⟩ := x
  exact .but sb.extBut fun o e => .inl fun vs n d => by rcases hk o e with ⟨_, _, q⟩ | ⟨_, q⟩ <;> rw [d] at q <;> cases q
theorem StoreKeep.obj (x : StoreKeep h h') {b : Addr} {o : Obj} (e : h.get? b = some o) (hd : (∃ vs n, o.data = .seq vs n) ∨ ∃ fs, o.data = .fields fs) : h'.get? b = some o := by
  obtain ⟨a, sb, hk, _⟩ := x
  refine sb.extBut b o (fun q => ?_) e
  subst q
  rcases hk o e with ⟨_, _, q⟩ | ⟨_, q⟩ <;> rcases hd with ⟨_, _, d⟩ | ⟨_, d⟩ <;> rw [d] at q <;> cases q
theorem StoreKeep.some (x : StoreKeep h h') {b : Addr} (e : (h.get? b).isSome = true) : (h'.get? b).isSome = true := by
  obtain ⟨a, sb, hk, ha⟩ := x
  by_cases q : b = a
  · rw [q]; exact ha
  · rw [sb.2 b q]; exact e

theorem CompSt.store {A : Around} {M : Model} {E : Value → Shared → Prop} {s : Shared} {x : Str} {d : V} {v : Value} {Q : Unit → Shared → Prop} (c : CompSt Z hs W O D env sc own ρ ds s.heap)
    (hx : sc.lookup x = .some .local ∨ sc.lookup x = .some .cell) (hn : (ρ.lookup x).isNone = true) (r : Rep O s.heap v d)
    (hQ : ∀ h' tk, CompSt Z hs W O D env sc own ((x, d) :: ρ) ds h' → StoreKeep s.heap h' → Q () { s with heap := h', toks := tk }) : wpAny M A (storeName env x v) Q E s := by
  have hb : own.contains x = false := by
    cases q : own.contains x with
    | false => rfl
    | true => have := c.ownf x q; rcases hx with hx | hx <;> rw [hx] at this <;> cases this
  obtain ⟨ys, ⟨nD, eD⟩, rD⟩ := c.acc
  refine Exists.elim c.ns fun m hns => ?_
  -- whatever is stored, the rest of the state is told in one way
  have core : ∀ h' a, Heap.SameBut a s.heap h' → hs.get? a = .none → (∀ o, s.heap.get? a = .some o → (∃ es n, o.data = .dict es n) ∨ ∃ v, o.data = .cell v) → StoreKeep s.heap h' → (∃ m, h'.Ns env.locals m) → VarIn env h' x v →
      (∀ y w k, y ≠ x → sc.lookup y = .some k → k ≠ .globalImplicit → VarIn env s.heap y w → VarIn env h' y w) → (∀ z c, sc.lookup z = .some .cell → env.cells.lookup z = .some c → (∃ v, s.heap.IsCell c v) → ∃ v, h'.IsCell c v) →
      CompSt Z hs W O D env sc own ((x, d) :: ρ) ds h' := by
    intro h' a sb ha hka sk hns' hvx hvy hcells
    have wx : Wx W O s.heap h' := sk.wx
    have hnc : ∀ o, s.heap.get? a = .some o → NoCode o := fun o e vs q t d => by
      rcases hka o e with ⟨_, _, q⟩ | ⟨_, q⟩ <;> rw [d] at q <;> cases q
    refine ⟨c.ext.but sb.extBut ha hnc, c.newC, c.newD, c.dC, c.dO, c.win, hns', ⟨ys, ⟨nD, sk.obj eD (.inl ⟨_, _, rfl⟩)⟩, wx.reps rD⟩, c.ownf, c.kinds, c.loc, ?_, c.inj, c.fre, ?_⟩
    · intro z hz
      obtain ⟨h1, c', h2, h3, h4⟩ := c.cel z hz
      exact ⟨h1, c', h2, h3, hcells z c' hz h2 h4⟩
    · refine ⟨c.env.kind, c.env.glob, c.env.blt, fun b hb => sk.some (c.env.win b hb), fun b hb => sk.some (c.env.oin b hb), c.env.nodbg, c.env.nocd, c.env.gk, c.env.ck, fun z k d' h1 h2 h3 => ?_⟩
      rw [List.lookup_cons] at h3
      cases q : z == x with
      | true =>
        rw [q] at h3
        obtain rfl := Option.some.inj h3
        rw [eq_of_beq q, hb]
        exact ⟨v, hvx, wx.rep r⟩
      | false =>
        rw [q] at h3
        obtain ⟨w, hw, hr⟩ := c.env.var z k d' h1 h2 h3
        refine ⟨w, hvy z w k (by simpa using q) h1 h2 hw, ?_⟩
        generalize own.contains z = b at hr ⊢
        cases b with
        | false => exact wx.rep (O := O) hr
        | true =>
          obtain ⟨l, vs, ds', e1, e2, hl, ⟨n, e3⟩, r⟩ := hr
          exact ⟨l, vs, ds', e1, e2, hl, ⟨n, wx l _ e3 (.inr hl) ⟨_, n, rfl⟩⟩, wx.reps r⟩
  rcases hx with hx | hx
  · refine wpAny_storeName_local (c.loc x hx) hns (fun h' hn' sb => ?_) (by rw [c.env.kind]; rfl)
    have sk : StoreKeep s.heap h' := ⟨_, sb, fun o e => .inl (ns_dict hns o e), ns_some hn'⟩
    have cellUp : ∀ {c : Addr} {v : Option Value}, s.heap.IsCell c v → h'.IsCell c v := fun {c v} n => n.sameBut sb fun q => by
      subst q
      obtain ⟨o, e, hd⟩ := n
      obtain ⟨es, k, q⟩ := ns_dict hns o e
      rw [hd] at q; cases q
    refine hQ h' _ (core h' _ sb c.newC (fun o e => .inl (ns_dict hns o e)) sk ⟨_, hn'⟩ (.inl ⟨c.loc x hx, _, hn', by simp⟩) ?_ fun z c' _ _ ⟨v, n⟩ => ⟨v, cellUp n⟩) sk
    intro y w k hne h1 h2 hw
    rcases hw with ⟨q, m', n', e⟩ | ⟨q, c', e1, e2⟩
    · refine .inl ⟨q, _, hn', ?_⟩
      simp only [if_neg hne]
      rw [ns_one hns n']; exact e
    · exact .inr ⟨q, c', e1, cellUp e2⟩
  · obtain ⟨hk, c', hc, hc', v0, hv0⟩ := c.cel x hx
    refine wpAny_storeName_cell c.env.kind hk hc hv0 fun h' hv' sb => ?_
    have sk : StoreKeep s.heap h' := ⟨_, sb, fun o e => .inr (cell_cell hv0 o e), cell_some hv'⟩
    have nsUp : ∀ {m : Str → Option Value}, s.heap.Ns env.locals m → h'.Ns env.locals m := fun n => n.sameBut sb fun q => by
      refine ex3 n fun o es ep q_207 => ?_
      have e := q_207.1
      have hd := q_207.2.1
      rw [q] at e
      refine Exists.elim (cell_cell hv0 o e) fun v q => ?_
      rw [hd] at q; cases q
    refine hQ h' _ (core h' _ sb hc' (fun o e => .inr (cell_cell hv0 o e)) sk ⟨_, nsUp hns⟩ (.inr ⟨.inl hk, c', hc, hv'⟩) ?_ ?_) sk
    · intro y w k hne h1 h2 hw
      rcases c.place h1 hw with ⟨hz, m', n', e⟩ | ⟨hz, c2, e1, _, e2⟩ | ⟨hz, c2, e1, e2, e3⟩ | e
      · exact .inl ⟨c.loc y hz, m', nsUp n', e⟩
      · exact .inr ⟨.inl (c.cel y hz).1, c2, e1, e2.sameBut sb fun q => hne (c.inj y x c' hz hx (q ▸ e1) hc)⟩
      · rcases hw with ⟨q, _⟩ | ⟨q, _⟩
        · exact absurd q (c.fre y hz).1
        · exact .inr ⟨q, c2, e1, e3.sameBut sb fun q => by rw [q, hc'] at e2; exact Bool.noConfusion e2⟩
      · exact absurd e h2
    · rintro z c2 hz e1 ⟨v2, n⟩
      by_cases q : c2 = c'
      · subst q; exact ⟨_, hv'⟩
      · exact ⟨v2, n.sameBut sb q⟩
end
end Mine

-- MH
set_option maxRecDepth 10000
namespace Mine
set_option tactic.hygienic false

noncomputable def Kq (Z : Par) (D : Addr) (h h' : Heap) : Prop := ∀ b o, h.get? b = some o → b ≠ Z.P → b ≠ D → ((∃ vs n, o.data = .seq vs n) ∨ ∃ fs, o.data = .fields fs) → h'.get? b = some o
section
variable {Z : Par} {hs h h' h₁ h₂ h₃ : Heap} {W O : List Addr} {D : Addr} {env : Env} {sc : Nm} {own : List Str} {ρ : Rho} {ds : List V}
theorem Kq.refl : Kq Z D h h := fun _ _ e _ _ _ => e
theorem Kq.trans (x : Kq Z D h₁ h₂) (y : Kq Z D h₂ h₃) : Kq Z D h₁ h₃ := fun b o e n1 n2 c => y b o (x b o e n1 n2 c) n1 n2 c
theorem Ext.kq (x : Ext Z h h') : Kq Z D h h' := fun b o e n _ _ => x.keep b o n e
theorem StoreKeep.kq (x : StoreKeep h h') : Kq Z D h h' := fun _ _ e _ _ c => x.obj e c
theorem Kq.but {a : Addr} (x : Kq Z D h₁ h) (y : Heap.ExtBut a h h') (ha : h₁.get? a = none) : Kq Z D h₁ h' := fun b o e n1 n2 c => y b o (fun q => by rw [q, ha] at e; cases e) (x b o e n1 n2 c)
theorem Kq.wx (x : Kq Z D h h') (t : TabOK Z h) (hD : D ∈ O) (hDW : D ∉ W) : Wx W O h h' := fun b o e n c =>
  x b o e (fun q => by obtain ⟨ps, e2, _⟩ := t; obtain ⟨vs, n, c⟩ := c; rw [q, e2] at e; cases e; cases c) (fun q => by subst q; exact n.elim (fun n => n hD) hDW) (.inl c)

theorem It.keep {prog : Program} {w : World} {A : Around} {I : Addr} {fp : List Addr} {P : Nat → Value → Prop} {St : Nat → Heap → Prop} {ds : List V} {i : Nat} (it : It prog w A W O h₁ I fp P St ds) (t : TabOK Z h₁) (hD : D ∈ O) (hDW : D ∉ W) (hDd : ∃ o vs n, h.get? D = some o ∧ o.data = .seq vs n)
    (kq : Kq Z D h₁ h) (st : St i h) (k : Kq Z D h h') : St i h' := by
  refine it.walks.frame i h h' st fun b hb o e => ?_
  obtain ⟨oI, fs, eI, _, dI, _⟩ := it.obj i h st
  have hP : ∀ o, h₁.get? Z.P = some o → ∃ fs, o.data = .fields fs := fun o e => by obtain ⟨ps, e2, _⟩ := t; rw [e2] at e; obtain rfl := Option.some.inj e; exact ⟨_, rfl⟩
  rcases it.foot b hb with rfl | ⟨o', e', c, n⟩
  · rw [eI] at e
    obtain rfl := Option.some.inj e
    refine k b _ eI (fun q => ?_) (fun q => ?_) (.inr ⟨fs, dI⟩)
    · have hn := it.new; rw [q] at hn; obtain ⟨ps, e2, _⟩ := t; rw [e2] at hn; cases hn
    · obtain ⟨o, vs, n, e2, d2⟩ := hDd; rw [q, e2] at eI; cases eI; rw [d2] at dI; cases dI
  · have nP : b ≠ Z.P := fun q => by rw [q] at e'; obtain ⟨fs', d'⟩ := hP _ e'; obtain ⟨vs, m, c⟩ := c; rw [d'] at c; cases c
    have nD : b ≠ D := fun q => by subst q; exact n.elim (fun n => n hD) hDW
    have e2 := kq b o' e' nP nD (.inl c)
    rw [e2] at e
    obtain rfl := Option.some.inj e
    exact k b _ e2 nP nD (.inl c)

theorem CompSt.dSeq (c : CompSt Z hs W O D env sc own ρ ds h) : ∃ o vs n, h.get? D = some o ∧ o.data = .seq vs n := by
  obtain ⟨ys, ⟨n, e⟩, _⟩ := c.acc; exact ⟨_, _, n, e, rfl⟩

theorem CompSt.append {prog : Program} {w : World} {A : Around} {E : Value → Shared → Prop} {s : Shared} {d : V} {v : Value} {Q : Value → Shared → Prop} (c : CompSt Z hs W O D env sc own ρ ds s.heap) (r : Rep O s.heap v d) (hsz : ds.length ≤ 1000000)
    (hQ : ∀ h', CompSt Z hs W O D env sc own ρ (ds ++ [d]) h' → Kq Z D s.heap h' → Q .none { s with heap := h' }) : wpAny (model prog w) A (call (.builtin "list.append") [.ref D, v]) Q E s := by
  obtain ⟨ys, pl, rD⟩ := c.acc
  have hDW := dNotW c
  have hlen : ys.toArray.size ≤ sizeLine := by rw [List.size_toArray, rD.length, sizeLine_eq]; omega
  refine wpAny_list_append_plain (hsz := hlen) pl fun h' pl' sb => ?_
  have wx : Wx W O s.heap h' := .but sb.extBut fun _ _ => .inr ⟨c.dO, hDW⟩
  have kq : Kq Z D s.heap h' := fun b o e _ n _ => sb.extBut b o n e
  obtain ⟨nD, eD⟩ := id pl
  have hnc : ∀ o, s.heap.get? D = some o → NoCode o := fun o e => by rw [eD] at e; cases e; intro vs q t d; cases d
  have cellUp : ∀ {c : Addr} {v : Option Value}, s.heap.IsCell c v → h'.IsCell c v := fun {c v} n => n.sameBut sb fun q => by
    obtain ⟨o, e, hd⟩ := n; rw [q, eD] at e; cases e; cases hd
  have nsUp : ∀ {m : Str → Option Value}, s.heap.Ns env.locals m → h'.Ns env.locals m := fun n => n.sameBut sb (Ne.symm c.dC)
  have some' : ∀ b, (s.heap.get? b).isSome = true → (h'.get? b).isSome = true := fun b e => by
    by_cases q : b = D
    · rw [q]; obtain ⟨n, e⟩ := pl'; rw [e]; rfl
    · rw [sb.2 b q]; exact e
  refine hQ h' ⟨c.ext.but sb.extBut c.newD hnc, c.newC, c.newD, c.dC, c.dO, c.win, let ⟨m, n⟩ := c.ns; ⟨m, nsUp n⟩, ⟨ys ++ [v], by simpa using pl', (wx.reps rD).append (.cons (wx.rep r) .nil)⟩, c.ownf, c.kinds, c.loc, ?_, c.inj, c.fre, ?_⟩ kq
  · intro z hz
    obtain ⟨h1, c', h2, h3, v, h4⟩ := c.cel z hz
    exact ⟨h1, c', h2, h3, v, cellUp h4⟩
  · refine ⟨c.env.kind, c.env.glob, c.env.blt, fun b hb => some' b (c.env.win b hb), fun b hb => some' b (c.env.oin b hb), c.env.nodbg, c.env.nocd, c.env.gk, c.env.ck, fun z k d' h1 h2 h3 => ?_⟩
    obtain ⟨v, hv, hr⟩ := c.env.var z k d' h1 h2 h3
    refine ⟨v, ?_, ?_⟩
    · rcases hv with ⟨q, m, n, e⟩ | ⟨q, c', e1, e2⟩
      · exact .inl ⟨q, m, nsUp n, e⟩
      · exact .inr ⟨q, c', e1, cellUp e2⟩
    · generalize own.contains z = b at hr ⊢
      cases b with
      | false => exact wx.rep (O := O) hr
      | true =>
        obtain ⟨l, vs, ds', e1, e2, hl, ⟨n, e3⟩, r⟩ := hr
        exact ⟨l, vs, ds', e1, e2, hl, ⟨n, wx l _ e3 (.inr hl) ⟨_, n, rfl⟩⟩, wx.reps r⟩

theorem CompSt.less' : ∀ {xs : List Str} {es : List V} {ρ ρ' : Rho}, bindSeq xs es ρ = some ρ' → CompSt Z hs W O D env sc own ρ' ds h → CompSt Z hs W O D env sc own ρ ds h
  | [], [], ρ, ρ', e, c => by obtain rfl := Option.some.inj e; exact c
  | x :: xs, d :: es, ρ, ρ', e, c => by
    unfold bindSeq at e
    split at e
    · rename_i hn; exact (CompSt.less' e c).less hn
    · cases e
  | [], _ :: _, _, _, e, _ => by cases e
  | _ :: _, [], _, _, e, _ => by cases e

set_option tactic.hygienic true in
theorem namesIn_some : ∀ {es : List Expr} {xs : List Str}, namesIn? es = some xs → ∃ ps : List Pos, es = (xs.zip ps).map (fun p => Expr.Name p.1 p.2) ∧ ps.length = xs.length
  | [], xs, h => by obtain rfl := Option.some.inj h; exact ⟨[], rfl, rfl⟩
  | e :: r, xs, h => by
    unfold namesIn? at h
    split at h
    · rename_i h0 ; cases h0
    · rename_i x p r' h0
      cases h0
      obtain ⟨ys, hy, rfl⟩ := Option.map_eq_some_iff.mp h
      obtain ⟨ps, e, hl⟩ := namesIn_some hy
      exact ⟨p :: ps, by rw [e]; rfl, by rw [List.length_cons, hl, List.length_cons]⟩
    · cases h
theorem eachNames (env : Env) : ∀ (xs : List Str) (ps : List Pos), ps.length = xs.length → assignEach ((xs.zip ps).map fun p => Expr.Name p.1 p.2) env = (xs.zip ps).map fun p => (false, assign (.Name p.1 p.2) env)
  | [], _, _ => rfl
  | x :: xs, p :: ps, h => by
    have := eachNames env xs ps (by simpa using h)
    show (false, assign (.Name x p) env) :: assignEach ((xs.zip ps).map fun p => Expr.Name p.1 p.2) env = _
    rw [this]; rfl
  | _ :: _, [], h => by cases h

theorem bindSeq_ok {A : Around} {M : Model} {E : Value → Shared → Prop} : ∀ {xs : List Str} {ps : List Pos} {es : List V} {ρ ρ' : Rho} {s : Shared} {vs : List Value} {Q : Unit → Shared → Prop}, ps.length = xs.length → bindSeq xs es ρ = some ρ' →
    (∀ x ∈ xs, sc.lookup x = some .local ∨ sc.lookup x = some .cell) → CompSt Z hs W O D env sc own ρ ds s.heap → Reps O s.heap vs es →
    (∀ h' tk, CompSt Z hs W O D env sc own ρ' ds h' → Kq Z D s.heap h' → Q () { s with heap := h', toks := tk }) → wpAny M A (assignInOrder ((xs.zip ps).map fun p => assign (.Name p.1 p.2) env) vs) Q E s
  | [], ps, [], ρ, ρ', s, vs, Q, _, e, _, c, r, hQ => by
    obtain rfl := Option.some.inj e
    exact wpAny_pure (hQ s.heap s.toks c .refl)
  | x :: xs, p :: ps, d :: es, ρ, ρ', s, vs, Q, hl, e, hx, c, r, hQ => by
    cases r with
    | cons r rs =>
      unfold bindSeq at e
      split at e
      · rename_i hn
        show wpAny M A (do holding _ (assign (.Name x p) env _); assignInOrder _ _) Q E s
        refine wpAny_bind (wpAny_holding (wpAny_assign_Name (c.store (hx x List.mem_cons_self) hn r fun h' tk c' sk => ?_)))
        exact bindSeq_ok (by simpa using hl) e (fun y hy => hx y (List.mem_cons_of_mem _ hy)) c' (sk.wx (W := W) (O := O) |>.reps rs) fun h2 tk2 c2 k2 => hQ h2 tk2 c2 (sk.kq.trans k2)
      · cases e
  | _ :: _, [], _, _, _, _, _, _, h, _, _, _, _, _ => by cases h
  | [], _, _ :: _, _, _, _, _, _, _, e, _, _, _, _ => by cases e
  | _ :: _, _ :: _, [], _, _, _, _, _, _, e, _, _, _, _ => by cases e

set_option tactic.hygienic true in
theorem bindT_ok {prog : Program} {w : World} {A : Around} {E : Value → Shared → Prop} {s : Shared} {t : Expr} {d : V} {ρ' : Rho} {v : Value} {Q : Unit → Shared → Prop} (hh : A.handled = none) (e : bindT t d ρ = some ρ')
    (hx : ∀ x ∈ targetNames t, sc.lookup x = some .local ∨ sc.lookup x = some .cell) (g : Gd Z hs) (c : CompSt Z hs W O D env sc own ρ ds s.heap) (r : Rep O s.heap v d)
    (hQ : ∀ h' tk, CompSt Z hs W O D env sc own ρ' ds h' → CompSt Z hs W O D env sc own ρ ds h' → Kq Z D s.heap h' → Q () { s with heap := h', toks := tk }) : wpAny (model prog w) A (assign t env v) Q E s := by
  unfold bindT at e
  split at e
  · rename_i x p
    have e' := e
    unfold bindSeq at e
    split at e
    · rename_i hn
      refine wpAny_assign_Name (c.store (hx x (List.mem_singleton.mpr rfl)) hn r fun h' tk c' sk => ?_)
      obtain rfl := Option.some.inj e
      exact hQ h' tk c' (c'.less hn) sk.kq
    · cases e
  · rename_i es k p
    split at e
    · rename_i xs items hxs
      obtain ⟨ps, rfl, hl⟩ := namesIn_some hxs
      show wpAny _ _ (do standAt p; unpack v (assignEach _ env)) Q E s
      refine wpAny_bind (wpAny_standAt ?_)
      rw [eachNames env xs ps hl]
      unfold unpack
      have h1 : ((xs.zip ps).map fun p => (false, assign (.Name p.1 p.2) env)).length = items.length := by
        rw [List.length_map, List.length_zip, hl, Nat.min_self]
        have : ∀ (xs : List Str) (es : List V) (ρ ρ' : Rho), bindSeq xs es ρ = some ρ' → xs.length = es.length := by
          intro xs
          induction xs with
          | nil => intro es ρ ρ' h; cases es with
            | nil => rfl
            | cons _ _ => cases h
          | cons x xs ih => intro es ρ ρ' h; cases es with
            | nil => cases h
            | cons d es =>
              unfold bindSeq at h
              split at h
              · rw [List.length_cons, List.length_cons, ih _ _ _ h]
              · cases h
        exact this _ _ _ _ e
      have h2 : ((xs.zip ps).map fun p => (false, assign (.Name p.1 p.2) env)).findIdx? (·.1) = none := by
        rw [List.findIdx?_eq_none_iff]
        intro x hx
        obtain ⟨q, _, rfl⟩ := List.mem_map.mp hx
        rfl
      have h3 : ((xs.zip ps).map fun p => (false, assign (.Name p.1 p.2) env)).map (·.2) = (xs.zip ps).map fun p => assign (.Name p.1 p.2) env := by rw [List.map_map]; rfl
      rw [h1, h2, h3]
      have gh : Gd Z s.heap := c.ext.gd g
      refine wpAny_bind (wpAny_holding (unpackItems_list (W := W) (O := O) hh gh r.top fun h' tk vs x rs => ?_))
      refine bindSeq_ok hl e (fun y hy => hx y (by show y ∈ (namesIn? _).getD []; rw [hxs]; exact hy)) (c.grown x) rs fun h2 tk2 c2 k2 => ?_
      exact hQ h2 tk2 c2 (c2.less' e) (x.kq.trans k2)
    · cases e
  · cases e
end
end Mine

-- MI
set_option maxRecDepth 10000
namespace Mine
set_option tactic.hygienic false

theorem drop_hd {α : Type} : ∀ {l : List α} {i : Nat} {d : α} {r : List α}, l.drop i = d :: r → l[i]? = some d
  | [], i, _, _, h => by simp at h
  | _ :: _, 0, _, _, h => by cases h; rfl
  | _ :: l, i + 1, _, _, h => drop_hd (l := l) (i := i) h
theorem drop_tl {α : Type} : ∀ {l : List α} {i : Nat} {d : α} {r : List α}, l.drop i = d :: r → l.drop (i + 1) = r
  | [], i, _, _, h => by simp at h
  | _ :: _, 0, _, _, h => by cases h; rfl
  | _ :: l, i + 1, _, _, h => drop_tl (l := l) (i := i) h

noncomputable abbrev compIfs (ifs : List Expr) (env : Env) : Sem Bool := forIn ifs true fun c r => if r = true then do let ok ← isTrue c env (eval c env); pure (ForInStep.yield ok) else pure (ForInStep.yield r)

noncomputable def compInner (elt : Expr) (gens : List Comprehension) (scope : Scope) (pos : Pos) (depth : Nat) (acc : Value) (env : Env) (ng : Option Comprehension) (k : Sem Fin) : Sem Fin :=
  match ng with
  | none => do
    let _ ← call (.builtin "list.append") [acc, ← eval elt env]
    k
  | some g' => do
    let x ← eval g'.iter env
    standAt g'.iter.pos
    let x ← foldedSetIterable g'.iter env x
    let _ ← runOwn (.compStart (.ListComp elt gens scope pos) (depth + 1) (← holding [x] (pyIter x)) acc env) env
    k

theorem compTurn_eq (elt : Expr) (gens : List Comprehension) (scope : Scope) (pos : Pos) (depth : Nat) (it acc : Value) (env : Env) (g : Comprehension) (hg : gens[depth]? = some g) (h0 : g.is_async = 0) (hn : ∀ g', gens[depth + 1]? = some g' → g'.is_async = 0) :
    compTurn (.ListComp elt gens scope pos) depth it acc env = (do
      standAt g.iter.pos
      match ← pyNext it with
      | none => pure (.done .next)
      | some v =>
        letOwnedTupleGo g.target it v
        assign g.target env v
        let ok ← compIfs g.ifs env
        if ok then compInner elt gens scope pos depth acc env gens[depth + 1]? (again (.compLoop (.ListComp elt gens scope pos) depth it acc env))
        else again (.compLoop (.ListComp elt gens scope pos) depth it acc env)) := by
  unfold compTurn
  cases hx : gens[depth + 1]? with
  | none =>
    simp only [hg, h0, hx, bne_self_eq_false, Bool.false_eq_true, if_false, compInner, bind_assoc, pure_bind]
    try rfl
  | some g' =>
    have h1 := hn g' hx
    simp only [hg, h0, hx, h1, bne_self_eq_false, Bool.false_eq_true, if_false, compInner, bind_assoc, pure_bind]
    try rfl

theorem bindT_less {Z : Par} {hs h : Heap} {W O : List Addr} {D : Addr} {env : Env} {sc : Nm} {own : List Str} {ρ ρ' : Rho} {ds : List V} {t : Expr} {d : V} (e : bindT t d ρ = some ρ') (c : CompSt Z hs W O D env sc own ρ' ds h) : CompSt Z hs W O D env sc own ρ ds h := by
  unfold bindT at e
  split at e
  · exact c.less' e
  · split at e
    · exact c.less' e
    · cases e
  · cases e

section
variable {Z : Par} {prog : Program} {w : World} {A : Around} {E : Value → Shared → Prop} {W O : List Addr} {s : Shared} {k : Nat} {T : Evl}

theorem compStart_ok {elt : Expr} {gens : List Comprehension} {scope : Scope} {pos : Pos} {depth : Nat} {it acc : Value} {env : Env} {g : Comprehension} {R : Result → Shared → Prop} (hg : gens[depth]? = some g) (h0 : g.is_async = 0)
    (h : codeAny (model prog w) A (.compLoop (.ListComp elt gens scope pos) depth it acc env) R s)
    (h2 : wpAny (model prog w) A (pyIter it) (fun it' s' => codeAny (model prog w) A (.compLoop (.ListComp elt gens scope pos) depth it' acc env) R s') (notedBy (model prog w) A env fun x s' => R (.error x) s') s) :
    codeAny (model prog w) A (.compStart (.ListComp elt gens scope pos) depth it acc env) R s := by
  refine codeAny_of_tree ?_
  show wpAny _ _ ((compStart (.ListComp elt gens scope pos) depth it acc env).onRaise (fun x => do noteFrame x env; standAt theWindowsPlace)) _ _ s
  refine wpAny_notedAt ?_
  unfold compStart
  simp only [clausesOf, hg, h0, Option.elim_some, bne_self_eq_false, Bool.false_eq_true, if_false]
  refine wpAny_bind (wpAny_askSetting ?_)
  split
  · exact wpAny_bind (wpAny_pure (wpAny_pure (And.intro rfl h)))
  · exact wpAny_bind (wpAny_rule (wpAny_bind (wpAny_standAt (wpAny_bind (wpAny_mono h2 (fun it' s' h' => wpAny_pure (And.intro rfl h')) fun _ _ x => x)))))

theorem ifs_false {env : Env} {ifs : List Expr} {Q : Bool → Shared → Prop} (h : Q false s) : wpAny (model prog w) A (forIn ifs false fun c r => if r = true then do let ok ← isTrue c env (eval c env); pure (ForInStep.yield ok) else pure (ForInStep.yield r)) Q E s := by
  induction ifs with
  | nil => exact wpAny_pure h
  | cons c r ih =>
    rw [List.forIn_cons]
    exact wpAny_bind (wpAny_pure ih)

set_option tactic.hygienic true in
theorem ifs_ok (hTs : TsS Z prog w k T) {sc : Nm} {own : List Str} {ρ : Rho} {env : Env} : ∀ {ifs : List Expr} {b : Bool}, ifsE T sc own ρ ifs = some b → ∀ {s : Shared} {Q : Bool → Shared → Prop}, GoodA k A → Gd Z s.heap → EnvOK Z W O env sc own ρ s.heap →
    (∀ h' tk, Ext Z s.heap h' → Q b { s with heap := h', toks := tk }) → wpAny (model prog w) A (compIfs ifs env) Q E s
  | [], b, h, s, Q, hA, g, ok, hQ => by
    obtain rfl := Option.some.inj h
    exact wpAny_pure (hQ s.heap s.toks (.refl g))
  | e :: r, b, h, s, Q, hA, g, ok, hQ => by
    unfold ifsE at h
    split at h
    · rename_i d hd
      unfold compIfs
      rw [List.forIn_cons, if_pos rfl]
      refine wpAny_bind (wpAny_bind ?_)
      split at h
      · rename_i ht
        refine hTs _ _ _ _ _ _ _ hd ht A env W O s _ E hA g ok fun h' tk x => wpAny_pure ?_
        exact ifs_ok hTs h hA (x.gd g) (ok.ext x) fun h2 tk2 y => hQ _ _ (x.trans y)
      · rename_i ht
        obtain rfl := Option.some.inj h
        refine hTs _ _ _ _ _ _ _ hd ht A env W O s _ E hA g ok fun h' tk x => wpAny_pure ?_
        exact ifs_false (hQ _ _ x)
      · cases h
    · cases h

theorem letGo_ok {t : Expr} {I : Addr} {fp : List Addr} {P : Nat → Value → Prop} {St : Nat → Heap → Prop} {ds : List V} {h₁ : Heap} {i : Nat} {v : Value} {Q : Unit → Shared → Prop} (it : It prog w A W O h₁ I fp P St ds) (st : St i s.heap) (hQ : Q () s) :
    wpAny (model prog w) A (letOwnedTupleGo t (.ref I) v) Q E s := by
  refine ex2 (it.obj i _ st) fun o fs q_110 => ?_
  have ho := q_110.1
  have hc := q_110.2.1
  have hd := q_110.2.2.1
  have key : ∀ a, wpAny (model prog w) A (do
      let o ← load I
      match o.cls, o.data with
      | .type n, .fields vs =>
        if ["enumerate", "zip", "dict_itemiterator", "dict_reverseitemiterator", "odict_iterator", "itertools.zip_longest", "itertools.pairwise"].contains n && vs[0]? == some (rawInt a) then
          rule "for.unpacks-the-owned-tuple"
          updateField I 0 .none
      | _, _ => pure ()) Q E s := fun a => by
    refine wpAny_bind (wpAny_load ho ?_)
    rw [hd]
    rcases hc with hc | hc <;> rw [hc]
    all_goals
      refine wpAny_of_eq (if_neg ?_) hQ
      intro h
      simp only [Bool.and_eq_true] at h
      exact absurd h.1 (by decide)
  unfold letOwnedTupleGo
  cases t <;> first | exact wpAny_pure hQ | skip
  all_goals
    cases v <;> first | exact wpAny_pure hQ | exact key _


noncomputable def InnerOK (Z : Par) (prog : Program) (w : World) (A : Around) (W O : List Addr) (T : Evl) (hs : Heap) (D : Addr) (elt : Expr) (gens : List Comprehension) (scope : Scope) (pos : Pos) (env : Env) (own : List Str) (gs : List Comprehension) (depth : Nat) : Prop :=
  ∀ (ρ : Rho) (acc outs : List V) (s : Shared) (kk : Sem Fin) (Q : Fin → Shared → Prop) (E : Value → Shared → Prop), genE T scope.names own elt gs ρ = some outs → CompSt Z hs W O D env scope.names own ρ acc s.heap → acc.length + outs.length ≤ 1000000 →
    (∀ h' tk, CompSt Z hs W O D env scope.names own ρ (acc ++ outs) h' → Kq Z D s.heap h' → wpAny (model prog w) A kk Q E { s with heap := h', toks := tk }) →
    wpAny (model prog w) A (compInner elt gens scope pos depth (.ref D) env gens[depth + 1]? kk) Q E s
noncomputable def LoopOK (Z : Par) (prog : Program) (w : World) (A : Around) (W O : List Addr) (T : Evl) (hs : Heap) (D : Addr) (elt : Expr) (gens : List Comprehension) (scope : Scope) (pos : Pos) (env : Env) (own : List Str) (g : Comprehension) (gs : List Comprehension) (depth : Nat) : Prop :=
  ∀ (rest : List V) (ρ : Rho) (I : Addr) (fp : List Addr) (P : Nat → Value → Prop) (St : Nat → Heap → Prop) (ds : List V) (h₁ : Heap) (i : Nat) (acc outs : List V) (s : Shared) (R : Result → Shared → Prop),
      It prog w A W O h₁ I fp P St ds → TabOK Z h₁ → I ∉ O → (∀ a, (hs.get? a).isSome = true → (h₁.get? a).isSome = true) → St i s.heap → i ≤ ds.length → ds.drop i = rest → overE (turnE T scope.names own elt g gs ρ) rest = some outs →
      CompSt Z hs W O D env scope.names own ρ acc s.heap → Kq Z D h₁ s.heap → acc.length + outs.length ≤ 1000000 →
      (∀ h' tk, CompSt Z hs W O D env scope.names own ρ (acc ++ outs) h' → Kq Z D h₁ h' → R (.ok .next) { s with heap := h', toks := tk }) →
      codeAny (model prog w) A (.compLoop (.ListComp elt gens scope pos) depth (.ref I) (.ref D) env) R s

theorem plainGen_async {g : Comprehension} (h : plainGen g = true) : g.is_async = 0 := by
  unfold plainGen at h; simp only [Bool.and_eq_true] at h; exact eq_of_beq h.1
theorem plainGen_set {g : Comprehension} (h : plainGen g = true) (env : Env) (x : Value) : foldedSetIterable g.iter env x = pure x := by
  unfold plainGen at h
  simp only [Bool.and_eq_true] at h
  have h := h.2
  cases q : g.iter <;> first | rfl | (rw [q] at h; exact Bool.noConfusion h)

section
variable {hs : Heap} {D : Addr} {elt : Expr} {gens : List Comprehension} {scope : Scope} {pos : Pos} {env : Env} {own : List Str}
set_option tactic.hygienic true in
theorem inner_nil (hT : EvS Z prog w k T) {depth : Nat} (hA : GoodA k A) (gd : Gd Z hs) (hn : gens[depth + 1]? = none) : InnerOK Z prog w A W O T hs D elt gens scope pos env own [] depth := by
  intro ρ acc outs s kk Q E he c hsz hk
  rw [hn]
  unfold genE at he
  split at he
  · rename_i d hd
    obtain rfl := Option.some.inj he
    refine wpAny_bind (hT _ _ _ _ _ _ hd A env W O s _ E hA (c.ext.gd gd) c.env fun h' tk v q => ?_)
    have c' := c.grown q.ext
    refine wpAny_bind (c'.append (s := { s with heap := h', toks := tk }) (q.rep rfl) (by simp at hsz; omega) fun h2 c2 kq => ?_)
    exact hk _ _ c2 (q.ext.kq.trans kq)
  · cases he
set_option tactic.hygienic true in
theorem inner_cons (hT : EvS Z prog w k T) (hst : ∀ e p pk sc own ρ, T pk sc own ρ (.Starred e p) = none) (hrange : Gl Z "range" (.type "range")) {depth : Nat} (hA : GoodA k A) (gd : Gd Z hs) {g : Comprehension} {gs : List Comprehension}
    (hn : gens[depth + 1]? = some g) (hpl : plainGen g = true) (loop : LoopOK Z prog w A W O T hs D elt gens scope pos env own g gs (depth + 1)) : InnerOK Z prog w A W O T hs D elt gens scope pos env own (g :: gs) depth := by
  intro ρ acc outs s kk Q E he c hsz hk
  rw [hn]
  unfold genE at he
  split at he
  · rename_i items hitems
    have gh := c.ext.gd gd
    refine wpAny_bind (wpAny_mono (itr_ok (Q := fun it s₁ => wpAny (model prog w) A (do
        let _ ← runOwn (.compStart (.ListComp elt gens scope pos) (depth + 1) it (.ref D) env) env
        kk) Q E s₁) hT hst hrange hitems hA gh c.env fun h₁ h₂ tk it x1 x2 io => ?_) (fun xv s₁ h₁ => ?_) fun _ _ e => e)
    · obtain ⟨I, fp, P, St, rfl, it, st⟩ := io
      simp only [if_true] at it
      have c1 := c.grown (x1.trans x2)
      have hIO : I ∉ O := fun hm => by have := (c.grown x1).env.oin I hm; rw [it.new] at this; exact Bool.noConfusion this
      have lp : codeAny (model prog w) A (.compLoop (.ListComp elt gens scope pos) (depth + 1) (.ref I) (.ref D) env) (fun r s' => match r with
          | .ok f => (fun _ s' => wpAny (model prog w) A kk Q E s') f s'
          | .error e => cameBackBy (model prog w) A env E e s') { s with heap := h₂, toks := tk } := by
        refine loop items ρ I fp P St items h₁ 0 acc outs { s with heap := h₂, toks := tk } _ it x1.tab' hIO (fun a e => (c.ext.trans x1).kSome e) st (Nat.zero_le _) rfl he c1 x2.kq hsz fun h' tk' c' kq' => ?_
        exact hk h' tk' c' (x1.kq.trans kq')
      refine wpAny_bind (wpAny_runOwn (h := none) (compStart_ok hn (plainGen_async hpl) lp ?_) (by intro x; cases x))
      exact it.walks.self 0 _ _ _ st lp
    · exact wpAny_bind (wpAny_standAt (wpAny_bind (wpAny_of_eq (plainGen_set hpl env xv) (wpAny_bind (wpAny_holding h₁)))))
  · cases he

set_option tactic.hygienic true in
theorem loop_of_inner (hT : EvS Z prog w k T) (hTs : TsS Z prog w k T) {depth : Nat} (hA : GoodA k A) (gd : Gd Z hs) {g : Comprehension} {gs : List Comprehension} (hg : gens[depth]? = some g)
    (hpl : ∀ g ∈ gens, plainGen g = true) (htg : targetsOk scope g = true) (inner : InnerOK Z prog w A W O T hs D elt gens scope pos env own gs depth) : LoopOK Z prog w A W O T hs D elt gens scope pos env own g gs depth := by
  have h0 : g.is_async = 0 := plainGen_async (hpl g (List.mem_of_getElem? hg))
  have hn : ∀ g', gens[depth + 1]? = some g' → g'.is_async = 0 := fun g' hg' => plainGen_async (hpl g' (List.mem_of_getElem? hg'))
  intro rest
  induction rest with
  | nil | cons d rest ih => ?_
  all_goals
    intro ρ I fp P St ds h₁ i acc outs s R it tb hIO hh st hi hr he c kq hsz hR
    refine codeAny_of_tree ?_
    show wpAny _ A ((compTurn (.ListComp elt gens scope pos) depth (.ref I) (.ref D) env).onRaise (fun x => do noteFrame x env; theTreesLotGoes x)) _ _ s
    refine wpAny_noted ?_
    rw [compTurn_eq elt gens scope pos depth _ _ env g hg h0 hn]
    refine ex2 (it.obj _ _ st) fun oI fs q_205 => ?_
    have eI := q_205.1
    have dI := q_205.2.2.1
    have nI := q_205.2.2.2
    have haD : I ≠ D := fun q => by obtain ⟨o, vs, n, e, d⟩ := c.dSeq; rw [← q, eI] at e; cases e; rw [dI] at d; cases d
    have haC : I ≠ env.locals := fun q => by obtain ⟨m, n⟩ := c.ns; obtain ⟨es, k, d⟩ := ns_dict n oI (by rw [← q]; exact eI); rw [dI] at d; cases d
    have hnew : hs.get? I = none := by
      cases q : hs.get? I with
      | none => rfl
      | some o => have := hh I (by rw [q]; rfl); rw [it.new] at this; exact Bool.noConfusion this
    have cb : ∀ h', (∀ b o, b ∉ [I] → s.heap.get? b = some o → h'.get? b = some o) → CompSt Z hs W O D env scope.names own ρ acc h' ∧ Kq Z D h₁ h' := by
      intro h' hk
      have eb : Heap.ExtBut I s.heap h' := fun b o n e => hk b o (by simpa using n) e
      refine ⟨c.but eb hnew haC haD (fun z c' hz hc' q => ?_) (fun o e => ?_) fun b hb e => ?_, kq.but eb it.new⟩
      · obtain ⟨_, c2, e2, _, v, o, e3, d⟩ := c.cel z hz
        rw [hc'] at e2; cases e2; subst q; rw [eI] at e3; cases e3; rw [dI] at d; cases d
      · rw [eI] at e; obtain rfl := Option.some.inj e
        exact ⟨fun vs n d => by (rw [dI] at d; cases d), fun vs q t d d2 => by rw [dI] at d; cases d; exact nI q t d2⟩
      · have : b ≠ I := fun q => by
          subst q
          rcases hb with hb | hb
          · have := c.win b hb; rw [hnew] at this; exact Bool.noConfusion this
          · exact hIO hb
        refine Exists.elim (Option.isSome_iff_exists.mp e) fun o e => ?_
        rw [eb b o this e]; rfl
  · have hi' : i = ds.length := by have := congrArg List.length hr; simp at this; omega
    subst hi'
    obtain rfl := Option.some.inj he
    refine wpAny_bind (wpAny_standAt (wpAny_bind (it.walks.done s _ _ st fun h' tk hk => wpAny_pure ?_)))
    have q_231 := cb h' hk
    have c' := q_231.1
    have kq' := q_231.2
    exact hR h' tk (by rw [List.append_nil]; exact c') kq'
  · have hi' : i < ds.length := by have := congrArg List.length hr; simp at this; omega
    have hdi : ds[i]? = some d := drop_hd hr
    have hdr : ds.drop (i + 1) = rest := drop_tl hr
    unfold overE at he
    split at he
    · rename_i a ha
      split at he
      · rename_i b hb
        obtain rfl := Option.some.inj he
        refine wpAny_bind (wpAny_standAt (wpAny_bind (it.walks.item i s _ _ hi' st fun v h' tk hp st' hk => ?_)))
        have q_243 := cb h' hk
        have c' := q_243.1
        have kq' := q_243.2
        have hDW := dNotW c
        have rv : Rep O h' v d := by
          refine Exists.elim (it.el i v hi' hp) fun d' q_246 => ?_
          have e' := q_246.1
          have r := q_246.2
          rw [hdi] at e'; obtain rfl := Option.some.inj e'
          exact (kq'.wx tb c.dO hDW).rep r
        refine wpAny_bind (letGo_ok it (s := { s with heap := h', toks := tk }) st' ?_)
        unfold turnE at ha
        split at ha
        · rename_i ρ' hρ
          refine wpAny_bind (bindT_ok (s := { s with heap := h', toks := tk }) hA.handled hρ (fun x hx => ?_) gd c' rv fun h2 tk2 c2 c2' kq2 => ?_)
          · have := List.all_eq_true.mp htg x hx
            simp only [Bool.or_eq_true] at this
            exact this.imp eq_of_beq eq_of_beq
          · have again_ : ∀ (acc' : List V) (h3 : Heap) (tk3 : Tok), CompSt Z hs W O D env scope.names own ρ acc' h3 → Kq Z D h2 h3 → acc'.length + b.length ≤ 1000000 → acc' ++ b = acc ++ (a ++ b) →
                wpAny (model prog w) A (again (.compLoop (.ListComp elt gens scope pos) depth (.ref I) (.ref D) env)) (fun fin s' => match fin with
                  | .done f => R (.ok f) s'
                  | .again c' => c'.quiet = true ∧ codeAny (model prog w) A c' R s') (notedBy (model prog w) A env fun e s' => R (.error e) s') { s with heap := h3, toks := tk3 } := by
              intro acc' h3 tk3 c3 k3 hsz' hacc
              refine wpAny_pure ⟨rfl, ?_⟩
              have kqa := kq2.trans k3
              refine ih ρ I fp P St ds h₁ (i + 1) acc' b { s with heap := h3, toks := tk3 } R it tb hIO hh ?_ hi' hdr hb c3 (kq'.trans kqa) hsz' fun h4 tk4 c4 k4 => hR h4 tk4 (by rw [← hacc]; exact c4) k4
              exact it.keep tb c.dO hDW c'.dSeq kq' st' kqa
            split at ha
            · rename_i hif
              refine wpAny_bind (ifs_ok hTs hif hA (c2.ext.gd gd) c2.env fun h3 tk3 x3 => ?_)
              simp only [if_true]
              have c3 := c2.grown x3
              simp only [List.length_append] at hsz
              refine inner ρ' acc a { s with heap := h3, toks := tk3 } _ _ _ ha c3 (by omega) fun h4 tk4 c4 k4 => ?_
              exact again_ _ h4 tk4 (bindT_less hρ c4) (x3.kq.trans k4) (by rw [List.length_append]; omega) (List.append_assoc ..)
            · rename_i hif
              obtain rfl := Option.some.inj ha
              refine wpAny_bind (ifs_ok hTs hif hA (c2.ext.gd gd) c2.env fun h3 tk3 x3 => ?_)
              simp only [Bool.false_eq_true, if_false]
              exact again_ _ h3 tk3 (c2'.grown x3) x3.kq (by simpa using hsz) rfl
            · cases ha
        · cases ha
      · cases he
    · cases he

theorem loop_ok (hT : EvS Z prog w k T) (hTs : TsS Z prog w k T) (hst : ∀ e p pk sc own ρ, T pk sc own ρ (.Starred e p) = none) (hrange : Gl Z "range" (.type "range")) (hA : GoodA k A) (gd : Gd Z hs)
    (hpl : ∀ g ∈ gens, plainGen g = true) (htg : ∀ g ∈ gens, targetsOk scope g = true) :
    ∀ (gs : List Comprehension) (g : Comprehension) (depth : Nat), gens.drop depth = g :: gs → LoopOK Z prog w A W O T hs D elt gens scope pos env own g gs depth
  | [], g, depth, hd => by
    have hg : gens[depth]? = some g := drop_hd hd
    have hn : gens[depth + 1]? = none := by have := drop_tl hd; exact List.getElem?_eq_none (List.drop_eq_nil_iff.mp this)
    exact loop_of_inner hT hTs hA gd hg hpl (htg g (List.mem_of_getElem? hg)) (inner_nil hT hA gd hn)
  | g' :: gs, g, depth, hd => by
    have hg : gens[depth]? = some g := drop_hd hd
    have hd' : gens.drop (depth + 1) = g' :: gs := drop_tl hd
    have hn : gens[depth + 1]? = some g' := drop_hd hd'
    exact loop_of_inner hT hTs hA gd hg hpl (htg g (List.mem_of_getElem? hg)) (inner_cons hT hst hrange hA gd hn (hpl g' (List.mem_of_getElem? hn)) (loop_ok hT hTs hst hrange hA gd hpl htg gs g' (depth + 1) hd'))
end
end
end Mine

-- MJ
set_option maxRecDepth 10000
namespace Mine
set_option tactic.hygienic false

theorem cellsFrom_has : ∀ (names : Nm) (n : Nat) (acc : List (Str × Addr)) (x : Str), (x, NameKind.cell) ∈ names → ∃ c, (x, c) ∈ cellsFrom n names acc
  | [], _, _, _, h => nomatch h
  | (y, k) :: r, n, acc, x, h => by
    unfold cellsFrom
    split
    · rename_i hk
      rcases List.mem_cons.mp h with e | h
      · cases e
        rw [cellsFrom_app]
        exact ⟨n, List.mem_append_right _ List.mem_cons_self⟩
      · exact cellsFrom_has r _ _ x h
    · rename_i hk
      rcases List.mem_cons.mp h with e | h
      · cases e; exact absurd rfl hk
      · exact cellsFrom_has r _ _ x h
theorem lookup_some_of_mem {α : Type} : ∀ {l : List (Str × α)} {x : Str} {c : α}, (x, c) ∈ l → ∃ c', l.lookup x = some c'
  | (y, v) :: r, x, c, h => by
    rw [List.lookup_cons]
    cases q : x == y with
    | true => exact ⟨v, rfl⟩
    | false =>
      rcases List.mem_cons.mp h with e | h
      · cases e; rw [beq_self_eq_true] at q; cases q
      · exact lookup_some_of_mem h
theorem lookup_filter {α : Type} (p : Str → Bool) (x : Str) : ∀ (l : List (Str × α)), (l.filter fun q => p q.1).lookup x = if p x then l.lookup x else none
  | [] => by cases p x <;> rfl
  | (y, v) :: r => by
    have ih := lookup_filter p x r
    rw [List.filter_cons]
    cases hp : p y with
    | true =>
      simp only [if_true, List.lookup_cons]
      cases q : x == y with
      | true => rw [eq_of_beq q, hp]; rfl
      | false => exact ih
    | false =>
      simp only [Bool.false_eq_true, if_false, List.lookup_cons]
      cases q : x == y with
      | true => rw [ih, eq_of_beq q, hp]; rfl
      | false => exact ih

theorem scopeOk_all {sc : Nm} {scope : Scope} (h : scopeOk sc scope = true) : scope.kind = .function ∧ scope.names.lookup ("__debug__" : Str) = none ∧ scope.names.lookup ("__classdict__" : Str) = none ∧
    (∀ p ∈ scope.names, scope.names.lookup p.1 = some p.2) ∧
    ∀ p ∈ scope.names, p.2 = .local ∨ p.2 = .cell ∨ p.2 = .globalImplicit ∨ (p.2 = .free ∧ (sc.lookup p.1 = some .cell ∨ sc.lookup p.1 = some .free)) := by
  unfold scopeOk at h
  simp only [Bool.and_eq_true, Option.isNone_iff_eq_none, List.all_eq_true] at h
  have h1 := h.1.1.1.1
  have h2 := h.1.1.1.2
  have h3 := h.1.1.2
  have h4 := h.1.2
  have h5 := h.2
  refine ⟨eq_of_beq h1, h2, h3, fun p hp => eq_of_beq (h4 p hp), fun p hp => ?_⟩
  have := h5 p hp
  simp only [Bool.or_eq_true, Bool.and_eq_true] at this
  rcases this with ((h | h) | h) | ⟨h, h'⟩
  · exact .inl (eq_of_beq h)
  · exact .inr (.inl (eq_of_beq h))
  · exact .inr (.inr (.inl (eq_of_beq h)))
  · exact .inr (.inr (.inr ⟨eq_of_beq h, h'.imp eq_of_beq eq_of_beq⟩))

theorem It.more {prog : Program} {w : World} {A : Around} {W O : List Addr} {h₁ : Heap} {I D : Addr} {fp : List Addr} {P : Nat → Value → Prop} {St : Nat → Heap → Prop} {ds : List V} (it : It prog w A W O h₁ I fp P St ds) (hD : h₁.get? D = none) : It prog w A W (D :: O) h₁ I fp P St ds :=
  ⟨it.walks, fun b hb => (it.foot b hb).imp id fun ⟨o, e, c, n⟩ => ⟨o, e, c, n.imp (fun n hm => (List.mem_cons.mp hm).elim (fun q => by rw [q, hD] at e; cases e) n) id⟩, it.obj, it.new, fun i v hi hp => let ⟨d, e, r⟩ := it.el i v hi hp; ⟨d, e, r.more hD⟩⟩

section
variable {Z : Par} {prog : Program} {w : World} {A : Around} {E : Value → Shared → Prop} {W O : List Addr} {s : Shared} {k : Nat} {T : Evl}

set_option tactic.hygienic true in
theorem comp_ok (hT : EvS Z prog w k T) (hTs : TsS Z prog w k T) (hst : ∀ e p pk sc own ρ, T pk sc own ρ (.Starred e p) = none) (hrange : Gl Z "range" (.type "range"))
    {sc : Nm} {own : List Str} {ρ : Rho} {env : Env} {elt : Expr} {g : Comprehension} {gs : List Comprehension} {scope : Scope} {pos pos' : Pos} {ds : List V} {use : Option (Value → Sem Unit)} {Q : Value → Shared → Prop}
    (he : compE T sc own ρ elt (g :: gs) scope = some ds) (hlen : ds.length ≤ 1000000) (hA : GoodA k A) (gd : Gd Z s.heap) (ok : EnvOK Z W O env sc own ρ s.heap)
    (hQ : ∀ h₁ h' tk D C m, Ext Z s.heap h₁ → Ext Z h₁ h' → RepFresh O h₁ h' (.ref D) (.lst ds) → h'.Ns C m → h₁.get? C = none → D ≠ C → compPost (model prog w) A E use Q (.ref D) C (.ok .next) { s with heap := h', toks := tk }) :
    wpAny (model prog w) A (comprehension (.ListComp elt (g :: gs) scope pos) scope env pos' (newList []) false (eval g.iter env) use) Q E s := by
  unfold compE at he
  simp only at he
  split at he
  · rename_i hc
    simp only [Bool.and_eq_true] at hc
    have hsc := hc.1.1.1
    have hfr := hc.1.1.2
    have hpl := hc.1.2
    have htg := hc.2
    have q_81 := scopeOk_all hsc
    have hkind := q_81.1
    have hdbg := q_81.2.1
    have hcd := q_81.2.2.1
    have hlk := q_81.2.2.2.1
    have hkd := q_81.2.2.2.2
    have hpl' := List.all_eq_true.mp hpl
    have htg' := List.all_eq_true.mp htg
    split at he
    · rename_i items hit
      -- cells of the closure
      have hfree : ∀ x, (x, NameKind.free) ∈ scope.names → ∃ d v c, ρ.lookup x = some d ∧ env.cells.lookup x = some c ∧ s.heap.IsCell c (some v) ∧ RepBy (own.contains x) W O s.heap v d := by
        intro x hx
        have h1 := List.all_eq_true.mp hfr _ hx
        obtain ⟨d, hd⟩ : ∃ d, ρ.lookup x = some d := Option.isSome_iff_exists.mp (by simpa using h1)
        have h2 : sc.lookup x = some .cell ∨ sc.lookup x = some .free := by rcases hkd _ hx with h | h | h | h <;> first | exact h.2 | cases h
        obtain ⟨k, hk, hkg⟩ : ∃ k, sc.lookup x = some k ∧ k ≠ .globalImplicit := by rcases h2 with h | h <;> exact ⟨_, h, nofun⟩
        refine Exists.elim (ok.var x k d hk hkg hd) fun v q_93 => ?_
        have hv := q_93.1
        have hr := q_93.2
        rcases hv with ⟨q, _⟩ | ⟨_, c, e, n⟩
        · rcases ok.ck x h2 with h | h <;> rw [h] at q <;> cases q
        · exact ⟨d, v, c, hd, e, n, hr⟩
      obtain ⟨cl, hcl, hcl1, hcl2⟩ := closure_of (scope := scope) (env := env) (fun x => (env.cells.lookup x).getD 0) (fun x hx => by obtain ⟨d, v, c, _, e, _⟩ := hfree x hx; rw [e]; rfl)
      refine wpAny_comprehension_free (use := use) rfl (plainGen_set (hpl' g List.mem_cons_self) env) hcl hkind (fun x hx hl => by rw [← hl]; exact hlk x hx) ?_
      refine itr_ok hT hst hrange hit hA gd ok fun h₁ h₂ tk it x1 x2 io => ?_
      refine ex4 io fun I fp P St q_100 => ?_
      obtain rfl := q_100.1
      have it := q_100.2.1
      have st := q_100.2.2
      simp only [if_true] at it
      refine wpAny_newObj_type (newEnvComp ?_)
      dsimp only
      -- the heap within
      generalize hH2 : h₂.push { cls := .type "list", dict := none, data := .seq ([] : List Value).toArray } = H2
      generalize hH3 : H2.push { cls := .type "dict", data := .dict #[] } = H3
      generalize hH4 : pushCells H3 scope.names = H4
      have g1 := x1.gd gd
      have g2 := x2.gd g1
      have p2 : ∀ b o, h₂.get? b = some o → H2.get? b = some o := fun b o e => by rw [← hH2]; exact Heap.get?_push_of_some _ e
      have p3 : ∀ b o, H2.get? b = some o → H3.get? b = some o := fun b o e => by rw [← hH3]; exact Heap.get?_push_of_some _ e
      have p4 : ∀ b o, H3.get? b = some o → H4.get? b = some o := fun b o e => by rw [← hH4]; exact pushCells_keeps _ _ b o e
      have x3 : Ext Z h₂ H4 := .ofKeep g2 fun b o e => p4 _ _ (p3 _ _ (p2 _ _ e))
      have x14 := x2.trans x3
      have s2 : H2.objs.size = h₂.objs.size + 1 := by rw [← hH2, Heap.size_push]
      have s3 : H3.objs.size = h₂.objs.size + 2 := by rw [← hH3, Heap.size_push, s2]
      have new1 : ∀ a, h₂.objs.size ≤ a → h₁.get? a = none := fun a ha => x2.kNone (by
        cases e : h₂.get? a with
        | none => rfl
        | some o' => exact absurd (Heap.lt_size e) (Nat.not_lt.mpr ha))
      have hD1 := new1 _ (Nat.le_refl _)
      have hC1 := new1 H2.objs.size (by omega)
      have hDC : h₂.objs.size ≠ H2.objs.size := by omega
      have pD : H4.PlainList h₂.objs.size ([] : List Value).toArray := ⟨_, p4 _ _ (p3 _ _ (by rw [← hH2]; exact Heap.get?_push_size _ rfl))⟩
      have nC : H4.Ns H2.objs.size (fun _ => none) := by
        have := Heap.Ns.new H2 (.type "dict")
        rw [hH3] at this
        exact this.keeps p4
      have cok : CellsOk H4 H3.objs.size (cellsFrom H3.objs.size scope.names []) := by
        have := cellsFrom_ok scope.names H3 H3.objs.size [] ⟨fun _ _ h => (nomatch h), List.Pairwise.nil⟩ (Nat.le_refl _)
        rw [hH4] at this; exact this
      have hcells : cellsFrom (H2.objs.size + 1) scope.names cl = cellsFrom H3.objs.size scope.names [] ++ cl := by
        rw [cellsFrom_app, show H2.objs.size + 1 = H3.objs.size by omega]
      rw [hcells]
      -- where a cell of the block lies
      have hown : ∀ x, scope.names.lookup x = .some .cell → ∃ c, (cellsFrom H3.objs.size scope.names [] ++ cl).lookup x = .some c ∧ (x, c) ∈ cellsFrom H3.objs.size scope.names [] := by
        intro x hx
        refine Exists.elim (cellsFrom_has scope.names H3.objs.size [] x (mem_of_lookup hx)) fun c hc => ?_
        refine Exists.elim (lookup_some_of_mem hc) fun c' hc' => ?_
        refine ⟨c', ?_, mem_of_lookup hc'⟩
        rw [lookup_app, hc']; rfl
      have hcap : ∀ x, scope.names.lookup x = .some .free → (cellsFrom H3.objs.size scope.names [] ++ cl).lookup x = env.cells.lookup x := by
        intro x hx
        have hm := mem_of_lookup hx
        rw [lookup_app, lookup_none_of x _ fun c hc => by
          have := cellsFrom_mem _ _ _ _ hc
          have := hlk _ this
          rw [hx] at this; cases this]
        refine ex3 (hfree x hm) fun d v c q_149 => ?_
        have e := q_149.2.1
        have := hcl2 x hm
        rw [e] at this
        rw [this, e]; rfl
      have kindC : ∀ x, Env.kindOf (cEnv scope H2.objs.size (cellsFrom H3.objs.size scope.names [] ++ cl) env) x = (scope.names.lookup x).map fun k => if (k == NameKind.free && env.scope.kind == .function && env.kindOf x == .some .cell) then NameKind.cell else k := fun x => lookup_relabel env x scope.names
      have kindPlain : ∀ x k, scope.names.lookup x = .some k → k ≠ .free → Env.kindOf (cEnv scope H2.objs.size (cellsFrom H3.objs.size scope.names [] ++ cl) env) x = .some k := by
        intro x k hx hk
        rw [kindC, hx]
        have : (k == NameKind.free) = false := by simpa using hk
        simp only [Option.map_some, this, Bool.false_and, Bool.false_eq_true, if_false]
      have kindFree : ∀ x, scope.names.lookup x = .some .free → Env.kindOf (cEnv scope H2.objs.size (cellsFrom H3.objs.size scope.names [] ++ cl) env) x = .some .cell ∨ Env.kindOf (cEnv scope H2.objs.size (cellsFrom H3.objs.size scope.names [] ++ cl) env) x = .some .free := by
        intro x hx
        rw [kindC, hx, Option.map_some]
        split
        · exact .inl rfl
        · exact .inr rfl
      have ok4 := ok.ext (x1.trans x14)
      have ownC : ∀ x, scope.names.lookup x = .some .free → (own.filter fun x => scope.names.lookup x == .some .free).contains x = own.contains x := by
        intro x hx
        rw [Bool.eq_iff_iff, List.contains_iff_mem, List.contains_iff_mem, List.mem_filter]
        exact ⟨fun h => h.1, fun h => ⟨h, by rw [hx]; rfl⟩⟩
      have cst : CompSt Z h₁ W (h₂.objs.size :: O) h₂.objs.size (cEnv scope H2.objs.size (cellsFrom H3.objs.size scope.names [] ++ cl) env) scope.names (own.filter fun x => scope.names.lookup x == .some .free) (ρ.filter fun p => scope.names.lookup p.1 == .some .free) [] H4 := by
        refine ⟨x14, hC1, hD1, hDC, List.mem_cons_self, fun a ha => x1.kSome (ok.win a ha), ⟨_, nC⟩, ⟨[], pD, .nil⟩, ?_, ?_, ?_, ?_, ?_, ?_, ?_⟩
        · intro x hx
          rw [List.contains_iff_mem, List.mem_filter] at hx
          exact eq_of_beq hx.2
        · intro x k hx
          rcases hkd _ (mem_of_lookup hx) with h | h | h | h
          · exact .inl h
          · exact .inr (.inl h)
          · exact .inr (.inr (.inl h))
          · exact .inr (.inr (.inr h.1))
        · intro x hx; exact kindPlain x _ hx nofun
        · intro x hx
          refine Exists.elim (hown x hx) fun c q_183 => ?_
          have e := q_183.1
          have hm := q_183.2
          have q_184 := cok.empty _ _ hm
          have n := q_184.1
          have hle := q_184.2
          exact ⟨kindPlain x _ hx nofun, c, e, new1 c (by omega), _, n⟩
        · intro x y c hx hy ex ey
          refine Exists.elim (hown x hx) fun c1 q_187 => ?_
          have e1 := q_187.1
          have m1 := q_187.2
          refine Exists.elim (hown y hy) fun c2 q_188 => ?_
          have e2 := q_188.1
          have m2 := q_188.2
          rw [ex] at e1; obtain rfl := Option.some.inj e1
          rw [ey] at e2; obtain rfl := Option.some.inj e2
          exact name_of_addr cok.apart m1 m2
        · intro x hx
          refine ⟨fun q => ?_, fun c e => ?_⟩
          · rcases kindFree x hx with h | h <;> rw [h] at q <;> cases q
          · rw [hcap x hx] at e
            refine ex3 (hfree x (mem_of_lookup hx)) fun d v c' q_196 => ?_
            have e' := q_196.2.1
            have n := q_196.2.2.1
            rw [e] at e'; obtain rfl := Option.some.inj e'
            exact x1.kSome (cell_some n)
        · refine ⟨hkind, ok.glob, ok.blt, ok4.win, ?_, hdbg, hcd, fun x hx => kindPlain x _ hx nofun, ?_, ?_⟩
          · intro a ha
            rcases List.mem_cons.mp ha with e | ha
            · rw [e]; obtain ⟨n, e⟩ := pD; rw [e]; rfl
            · exact ok4.oin a ha
          · intro x hx
            rcases hx with hx | hx
            · exact .inl (kindPlain x _ hx nofun)
            · exact kindFree x hx
          · intro x k d hx hk hd
            rw [lookup_filter (fun x => scope.names.lookup x == .some .free)] at hd
            split at hd
            · rename_i hf
              have hf := eq_of_beq hf
              refine ex3 (hfree x (mem_of_lookup hf)) fun d' v c q_213 => ?_
              have ed := q_213.1
              have ec := q_213.2.1
              have n := q_213.2.2.1
              have r := q_213.2.2.2
              rw [hd] at ed; obtain rfl := Option.some.inj ed
              refine ⟨v, .inr ⟨kindFree x hf, c, (hcap x hf).trans ec, (x1.trans x14).cell n⟩, ?_⟩
              rw [ownC x hf]
              have r4 := (x1.trans x14).repBy r
              have hnew : ∀ a o, H4.get? a = .some o → a ∉ O → a = h₂.objs.size → s.heap.get? a = none := fun a o _ _ q => x1.kNone (by rw [q]; exact hD1)
              generalize own.contains x = b at r r4 ⊢
              have hDno : ∀ v d, Rep O s.heap v d → Rep (h₂.objs.size :: O) H4 v d := fun v d r => (x1.trans x14).rep (r.more (x1.kNone hD1))
              cases b with
              | false => exact hDno _ _ r
              | true =>
                refine ex3 r fun a vs ds q_224 => ?_
                have e1 := q_224.1
                have e2 := q_224.2.1
                have ha := q_224.2.2.1
                have hl := q_224.2.2.2.1
                have r := q_224.2.2.2.2
                exact ⟨a, vs, ds, e1, e2, ha, (x1.trans x14).plain hl, (x1.trans x14).reps (r.more (x1.kNone hD1))⟩
            · cases hd
      have hIO : I ∉ h₂.objs.size :: O := by
        intro hm
        rcases List.mem_cons.mp hm with q | hm
        · obtain ⟨o, fs, e, _⟩ := it.obj _ _ st
          exact absurd (q ▸ Heap.lt_size e) (Nat.lt_irrefl _)
        · have := x1.kSome (ok.oin I hm); rw [it.new] at this; exact Bool.noConfusion this
      have st4 : St 0 H4 := it.walks.frame _ _ _ st fun b _ o e => p4 _ _ (p3 _ _ (p2 _ _ e))
      have lp : codeAny (model prog w) A (.compLoop (.ListComp elt (g :: gs) scope pos) 0 (.ref I) (.ref h₂.objs.size) (cEnv scope H2.objs.size (cellsFrom H3.objs.size scope.names [] ++ cl) env))
          (compPost (model prog w) A E use Q (.ref h₂.objs.size) H2.objs.size) { s with heap := H4, toks := tk } := by
        refine loop_ok hT hTs hst hrange hA g1 hpl' htg' gs g 0 rfl items _ I fp P St items h₁ 0 [] ds { s with heap := H4, toks := tk } _ (it.more hD1) x1.tab' hIO (fun _ e => e) st4 (Nat.zero_le _) rfl he cst x14.kq (by simpa using hlen) fun h' tk' c' _ => ?_
        refine Exists.elim c'.ns fun m' n' => ?_
        refine Exists.elim c'.acc fun ys q_238 => ?_
        have pl := q_238.1
        have r := q_238.2
        exact hQ h₁ h' tk' _ _ m' x1 c'.ext ⟨_, ys, ds, rfl, rfl, hD1, pl, r.lessO fun b hb => by
          rcases List.mem_cons.mp hb with q | hb
          · rw [q]; exact List.mem_cons_self
          · exact List.mem_cons_of_mem _ hb⟩ n' hC1 hDC
      exact compStart_ok rfl (plainGen_async (hpl' g List.mem_cons_self)) lp (it.walks.self 0 _ _ _ st4 lp)
    · cases he
  · cases he
end
end Mine

-- MK
set_option maxRecDepth 10000
namespace Mine
set_option tactic.hygienic false

noncomputable def BOK (Z : Par) (prog : Program) (w : World) (k : Nat) (f : Value) (g : List V → Option V) : Prop :=
  ∀ ds d, g ds = some d → ∀ (A : Around) (W O : List Addr) (s : Shared) (Q : Value → Shared → Prop) (E : Value → Shared → Prop) (vs : List Value), GoodA k A → Gd Z s.heap → OIn O s.heap → RepTops W O s.heap vs ds →
    (∀ h' tk v, New Z O s.heap h' v d → Q v { s with heap := h', toks := tk }) → wpAny (model prog w) A (call f vs) Q E s

noncomputable def bLen : List V → Option V
  | [.lst ds] => if ds.length ≤ 1000000 then some (.int ds.length) else none
  | [.str l] => if l.length ≤ 1000000 then some (.int l.length) else none
  | _ => none
noncomputable def bSum : List V → Option V
  | [.lst ds] => (match intsO ds with | some ns => some (.int ns.sum) | none => none)
  | _ => none
noncomputable def bMax : List V → Option V
  | [.int a, .int b] => some (.int (if b > a then b else a))
  | _ => none
noncomputable def bMin : List V → Option V
  | [.int a, .int b] => some (.int (if b < a then b else a))
  | _ => none
noncomputable def bList : List V → Option V
  | [.lst ds] => if ds.length ≤ 1000000 then some (.lst ds) else none
  | _ => none

set_option tactic.hygienic true in
theorem intsO_some : ∀ {ds : List V} {ns : List Int}, intsO ds = some ns → ds = ns.map V.int
  | [], ns, h => by obtain rfl := Option.some.inj h; rfl
  | d :: ds, ns, h => by
    unfold intsO mapO at h
    split at h
    · rename_i b hb
      split at h
      · rename_i bs hbs
        obtain rfl := Option.some.inj h
        have := intsO_some (ds := ds) hbs
        cases d <;> first | (cases hb; rw [this]; rfl) | cases hb
      · cases h
    · cases h

section
variable {Z : Par} {prog : Program} {w : World} {k : Nat}
set_option tactic.hygienic true in
theorem bLen_ok : BOK Z prog w k (.builtin "len") bLen := by
  intro ds d e A W O s Q E vs hA g hO r hQ
  unfold bLen at e
  split at e
  · rename_i ds
    split at e
    · obtain rfl := Option.some.inj e
      cases vs, r using RepTops.one with | _ v r1 => ?_
      obtain ⟨a, xs, rfl, hl, r⟩ := r1.lst
      have hs : xs.toArray.size = ds.length := by rw [List.size_toArray, r.length]
      refine call_len_list hl (by rw [hs]; omega) ?_
      rw [hs]
      exact hQ _ _ _ (.atom g (.int _ _) fun _ => nofun)
    · cases e
  · rename_i l
    split at e
    · obtain rfl := Option.some.inj e
      cases vs, r using RepTops.one with | _ v r1 => ?_
      obtain ⟨_, t, rfl⟩ := r1.str
      have hs : (toStr l).length = l.length := by simp [Str.length]
      refine P.len_str (by rw [hs]; omega) ?_
      rw [hs]
      exact hQ _ _ _ (.atom g (.int _ _) fun _ => nofun)
    · cases e
  · cases e
theorem intsAre_items {vs : List Value} {ns : List Int} (h : IntsAre vs ns) : ∃ xs : Array (Int × Tok), vs.toArray = intItems xs ∧ xs.toList.map (·.1) = ns := by
  induction h with
  | nil => exact ⟨#[], by simp [intItems], rfl⟩
  | cons i t _ ih =>
    obtain ⟨xs, h1, h2⟩ := ih
    refine ⟨((i, t) :: xs.toList).toArray, ?_, by simpa using h2⟩
    have : intItems xs = _ := h1.symm
    unfold intItems at this ⊢
    apply Array.ext'
    have e := congrArg Array.toList this
    simp at e ⊢
    exact e.symm
set_option tactic.hygienic true in
theorem bSum_ok : BOK Z prog w k (.builtin "sum") bSum := by
  intro ds d e A W O s Q E vs hA g hO r hQ
  unfold bSum at e
  split at e
  · rename_i ds
    split at e
    · rename_i ns hns
      obtain rfl := Option.some.inj e
      cases vs, r using RepTops.one with | _ v r1 => ?_
      obtain ⟨a, xs, rfl, hl, r⟩ := r1.lst
      rw [intsO_some hns] at r
      obtain ⟨ys, h1, h2⟩ := intsAre_items r.intsAre
      rw [h1] at hl
      refine sum_intListG hA.handled hl fun h' tk t' hk => ?_
      rw [preSum_eq, List.take_of_length_le (by simp), h2]
      exact hQ h' tk _ ⟨.ofKeep g hk, .int _ _, fun _ => nofun⟩
    · cases e
  · cases e
theorem bMax_ok : BOK Z prog w k (.builtin "max") bMax := by
  intro ds d e A W O s Q E vs hA g hO r hQ
  unfold bMax at e
  split at e
  · obtain rfl := Option.some.inj e
    cases vs, r using RepTops.two with | _ v u r1 r2 => ?_
    obtain ⟨t, rfl⟩ := r1.int
    obtain ⟨u, rfl⟩ := r2.int
    refine max_two_ints hA.handled fun h' tk hk => hQ h' tk _ ⟨.ofKeep g hk, ?_, fun _ => nofun⟩
    split <;> exact .int _ _
  · cases e
theorem bMin_ok : BOK Z prog w k (.builtin "min") bMin := by
  intro ds d e A W O s Q E vs hA g hO r hQ
  unfold bMin at e
  split at e
  · obtain rfl := Option.some.inj e
    cases vs, r using RepTops.two with | _ v u r1 r2 => ?_
    obtain ⟨t, rfl⟩ := r1.int
    obtain ⟨u, rfl⟩ := r2.int
    refine min_two_ints hA.handled fun h' tk hk => hQ h' tk _ ⟨.ofKeep g hk, ?_, fun _ => nofun⟩
    split <;> exact .int _ _
  · cases e
set_option tactic.hygienic true in
theorem bList_ok : BOK Z prog w k (.type "list") bList := by
  intro ds d e A W O s Q E vs hA g hO r hQ
  unfold bList at e
  split at e
  · rename_i ds
    split at e
    · obtain rfl := Option.some.inj e
      cases vs, r using RepTops.one with | _ v r1 => ?_
      obtain ⟨a, xs, rfl, ⟨o, ho, hc, n, hd⟩, r⟩ := r1.lst
      refine call_list_seq a (.inl rfl) ho hc hd (fun h' c' hk hn => ?_) (by rw [List.size_toArray, r.length, sizeLine_eq]; omega)
      have x : Ext Z s.heap h' := .ofKeep g hk
      exact hQ h' s.toks _ (.ofFresh hO x ⟨_, xs, ds, rfl, rfl, get_size _, ⟨c', hn⟩, x.reps (r.more (get_size _))⟩)
    · cases e
  · cases e
theorem lenSet_call {A : Around} {W O : List Addr} {s : Shared} {Q : Value → Shared → Prop} {E : Value → Shared → Prop} {v : Value} {ns : List Int} (hA : GoodA k A) (g : Gd Z s.heap) (r : RepTop W O s.heap v (.lst (ns.map V.int))) (hl : ns.length ≤ 1000)
    (hQ : ∀ h' tk t, Ext Z s.heap h' → Q (.int (firstMet (fun i => ns.getD i 0) ns.length).length t) { s with heap := h', toks := tk }) :
    wpAny (model prog w) A (call (.type "set") [v]) (fun v' s' => wpAny (model prog w) A (call (.builtin "len") [v']) Q E s') E s := by
  obtain ⟨a, xs, rfl, hl', r⟩ := r.lst
  have hi := r.intsAre
  have hlen : xs.toArray.size = ns.length := by rw [List.size_toArray, r.length, List.length_map]
  refine call_set_list hA.handled hl' (by simpa using hi) (by rw [hlen]; unfold scanBound; omega) fun h' tk hs hk => ?_
  rw [hlen] at hs
  obtain ⟨o, es, ep, t, ho, hex, hd, _, _, hsc, hf, hn⟩ := hs
  have x : Ext Z s.heap h' := .ofKeep g fun b o e => hk b o (Heap.lt_size e) e
  refine call_len_set ho hex hd hf (by unfold scanBound at hsc; omega) ?_
  rw [hn]
  exact hQ h' _ _ x
theorem ordered_true {ns ns' : List Int} (hp : ns'.Perm ns) (ho : Ordered true ns') : ns' = ns.mergeSort fun a b => decide (b ≤ a) := by
  have h1 : ns'.Pairwise (· ≥ ·) := ho
  have h2 : (ns.mergeSort fun a b => decide (b ≤ a)).Pairwise (fun a b => decide (b ≤ a) = true) := List.pairwise_mergeSort (fun a b c h1 h2 => by simp at *; omega) (fun a b => by simp; omega) ns
  have h3 : ns'.Perm (ns.mergeSort fun a b => decide (b ≤ a)) := hp.trans (List.mergeSort_perm ns _).symm
  exact h3.eq_of_pairwise (fun a b _ _ x y => by simp at x y; omega) h1 (h2.imp fun h => by simpa using h)
theorem sortRev_call {A : Around} {W O : List Addr} {s : Shared} {Q : Value → Shared → Prop} {E : Value → Shared → Prop} {v : Value} {ns : List Int} (g : Gd Z s.heap) (hO : OIn O s.heap) (r : RepTop W O s.heap v (.lst (ns.map V.int))) (hl : ns.length < 64)
    (hQ : ∀ h' v', New Z O s.heap h' v' (.lst ((ns.mergeSort fun a b => decide (b ≤ a)).map V.int)) → Q v' { s with heap := h' }) :
    wpAny (model prog w) A (call (.builtin "sorted") [v] [(Str.ofString "reverse", .bool true)]) Q E s := by
  obtain ⟨a, xs, rfl, hl', r⟩ := r.lst
  have hi := r.intsAre
  refine sorted_ints_rev hl' hi (by rw [r.length, List.length_map]; exact hl) fun out ns' h1 h2 h3 => ?_
  have x : Ext Z s.heap (sortedAll s.heap xs out) := .ofKeep g fun b o e => sortedAll_old e
  rw [← ordered_true h2 h3] at hQ
  obtain ⟨e, he⟩ := sortedAll_at s.heap xs out
  refine hQ _ _ (.ofFresh hO x ⟨s.heap.objs.size + 1, out.toList, _, rfl, rfl, ?_, ⟨e, he⟩, Reps.ofInts h1⟩)
  cases q : s.heap.get? (s.heap.objs.size + 1) with
  | none => rfl
  | some o => exact absurd (Heap.lt_size q) (Nat.not_lt.mpr (Nat.le_succ _))
end
end Mine

-- ML
set_option maxRecDepth 10000
namespace Mine
set_option tactic.hygienic false

noncomputable def FOK (Z : Par) (prog : Program) (w : World) (k : Nat) (a : Addr) (ds : List V) (d : V) : Prop :=
  ∀ (A : Around) (O : List Addr) (s : Shared) (Q : Value → Shared → Prop) (E : Value → Shared → Prop) (vs : List Value), GoodA k A → Gd Z s.heap → OIn O s.heap → Reps O s.heap vs ds →
    (∀ h' tk v, Ext Z s.heap h' → Rep O h' v d → Q v { s with heap := h', toks := tk }) → wpAny (model prog w) A (call (.ref a) vs) Q E s
noncomputable def NoStar (T : Evl) : Prop := ∀ e p pk sc own ρ, T pk sc own ρ (.Starred e p) = none
noncomputable def NmOK (c : Cx) (T : Evl) : Prop := ∀ pk sc own ρ x p d, T pk sc own ρ (.Name x p) = some d → (sc.lookup x = some .globalImplicit ∧ c.G x = some d) ∨ ∃ k, sc.lookup x = some k ∧ k ≠ .globalImplicit ∧ ρ.lookup x = some d

noncomputable def EvE (Z : Par) (prog : Program) (w : World) (k : Nat) (e : Expr) (H : Bool → Nm → List Str → Rho → Option V) : Prop :=
  ∀ pk sc own ρ d, H pk sc own ρ = some d → ∀ (A : Around) (env : Env) (W O : List Addr) (s : Shared) (Q : Value → Shared → Prop) (E : Value → Shared → Prop), GoodA k A → Gd Z s.heap → EnvOK Z W O env sc own ρ s.heap →
    (∀ h' tk v, Got Z W O s.heap h' pk e v d → Q v { s with heap := h', toks := tk }) → wpAny (model prog w) A (eval e env) Q E s

structure CxOK (Z : Par) (prog : Program) (w : World) (k : Nat) (c : Cx) : Prop where
  range : Gl Z "range" (.type "range")
  len : Gl Z "len" (.builtin "len")
  set : Gl Z "set" (.type "set")
  sorted : Gl Z "sorted" (.builtin "sorted")
  G : ∀ x d, c.G x = some d → ∃ v, Gl Z x v ∧ ∀ O h, Rep O h v d
  B : ∀ f g, c.B f = some g → ∃ v, Gl Z f v ∧ ((∃ n, v = .type n) ∨ ∃ n, v = .builtin n) ∧ BOK Z prog w k v g
  F : ∀ f ds d, c.F f ds = some d → ∃ a o fd, Gl Z f (.ref a) ∧ Z.H0.get? a = some o ∧ o.data = .func fd ∧ FOK Z prog w k a ds d
  tab : ∀ x f, c.tab x = some f → ∃ a D, Gl Z x (.ref a) ∧ KTD.TextTab Z.H0 a D ∧ (∀ l i, f l = some i → KTD.datumAt (toStr l) D = some (.flat (.int i))) ∧ ∀ l, f l = none → KTD.datumAt (toStr l) D = none
  X : ∀ e H, c.X e = some H → (∃ f args kws pos, e = .Call f args kws pos) ∧ ∀ T, EvS Z prog w k T → TsS Z prog w k T → NoStar T → NmOK c T → EvE Z prog w k e (H T)

section
variable {Z : Par} {prog : Program} {w : World} {A : Around} {E : Value → Shared → Prop} {W O : List Addr} {s : Shared} {k : Nat} {T : Evl} {c : Cx} {env : Env} {sc : Nm} {own : List Str} {ρ : Rho}

theorem binop_got {op : Operator} {a b d : V} {va vb : Value} {e : Expr} {pk : Bool} {Q : Value → Shared → Prop} (he : binop op a b = some d) (g : Gd Z s.heap) (hO : OIn O s.heap) (ra : RepTop W O s.heap va a) (rb : RepTop W O s.heap vb b)
    (h : ∀ h' tk v, Got Z W O s.heap h' pk e v d → Q v { s with heap := h', toks := tk }) : wpAny (model prog w) A (binaryOp op va vb) Q E s :=
  binop_ok he g hO ra rb fun h' tk v n => h h' tk v (.ofNew n)

set_option tactic.hygienic true in
theorem args_ok (hc : CxOK Z prog w k c) (hT : EvS Z prog w k T) (hst : NoStar T) (hnm : NmOK c T) {pos : Pos} : ∀ {args : List Expr} {ds : List V}, mapO (argE T sc own ρ) args = some ds → ∀ {s : Shared} {Q : List Value → Shared → Prop},
    GoodA k A → Gd Z s.heap → EnvOK Z W O env sc own ρ s.heap →
    (∀ h' tk vs, Ext Z s.heap h' → Reps [] h' vs ds → (leakE own args = false → Reps O h' vs ds) → Q vs { s with heap := h', toks := tk }) → wpAny (model prog w) A (spliced (backTo pos (starEach args env))) Q E s
  | [], ds, h, s, Q, hA, g, ok, hQ => by
    obtain rfl := Option.some.inj h
    exact wpAny_pure (hQ s.heap s.toks [] (.refl g) .nil fun _ => .nil)
  | e :: r, ds, h, s, Q, hA, g, ok, hQ => by
    unfold mapO at h
    split at h
    · rename_i d hd
      split at h
      · rename_i ds' hds
        obtain rfl := Option.some.inj h
        have hstar : starEach (e :: r) env = (false, eval e env) :: starEach r env := by
          unfold argE at hd
          split at hd
          · rfl
          · exact star1 hst hd r env
        refine wpAny_items_cons ?_ hstar
        have go : (∀ h' tk v, Ext Z s.heap h' → Rep [] h' v d → (leak1 own e = false → Rep O h' v d) → wpAny (model prog w) A (spliced (backTo pos (starEach r env))) (fun vs s₂ => Q (v :: vs) s₂) E { s with heap := h', toks := tk }) := by
          intro h' tk v x r1 r2
          refine args_ok hc hT hst hnm hds (s := { s with heap := h', toks := tk }) hA (x.gd g) (ok.ext x) fun h2 tk2 vs y r3 r4 => ?_
          refine hQ _ _ _ (x.trans y) (.cons (y.rep r1) r3) fun hl => ?_
          have hl' : leak1 own e = false ∧ leakE own r = false := by
            unfold leakE at hl ⊢
            rw [List.any_cons, Bool.or_eq_false_iff] at hl
            exact hl
          exact .cons (y.rep (r2 hl'.1)) (r4 hl'.2)
        unfold argE at hd
        split at hd
        · rename_i x p
          split at hd
          · rename_i ho
            rcases hnm _ _ _ _ _ _ _ hd with ⟨h1, h2⟩ | ⟨k', h1, h2, h3⟩
            · obtain ⟨v, hg, hr⟩ := hc.G x d h2
              exact name_glob g ok h1 hg (go s.heap s.toks v (.refl g) (hr _ _) fun _ => hr _ _)
            · obtain ⟨v, hv, hr⟩ := ok.var x k' d h1 h2 h3
              refine name_var ok h1 hv (go s.heap s.toks v (.refl g) hr.all fun q => ?_)
              have q2 : own.contains x = false := q
              rw [ho] at q2; exact Bool.noConfusion q2
          · rename_i ho
            refine hT _ _ _ _ _ _ hd A env W O s _ E hA g ok fun h' tk v q => go h' tk v q.ext ((q.rep rfl).lessO (by simp)) fun _ => q.rep rfl
        · refine hT _ _ _ _ _ _ hd A env W O s _ E hA g ok fun h' tk v q => go h' tk v q.ext ((q.rep rfl).lessO (by simp)) fun _ => q.rep rfl
      · cases h
    · cases h

set_option tactic.hygienic true in
theorem back_args (hst : NoStar T) {pos : Pos} : ∀ {args : List Expr} {ds : List V}, mapO (argE T sc own ρ) args = some ds → (backTo pos (starEach args env)).any (·.1) = false
  | [], _, _ => rfl
  | e :: r, ds, h => by
    unfold mapO at h
    split at h
    · rename_i d hd
      split at h
      · rename_i ds' hds
        have hstar : starEach (e :: r) env = (false, eval e env) :: starEach r env := by
          unfold argE at hd
          split at hd
          · rfl
          · exact star1 hst hd r env
        rw [hstar]
        show (false || _) = false
        exact back_args hst hds
      · cases h
    · cases h

theorem atom_rep {O : List Addr} {h : Heap} {v : Value} {d : V} (r : Rep [] h v d) (ha : atomV d = true) : Rep O h v d := by
  cases r with
  | none => exact .none
  | bool b => exact .bool b
  | int i t => exact .int i t
  | str l t a => exact .str l t a
  | tup => exact Bool.noConfusion ha
  | lst => exact Bool.noConfusion ha

set_option tactic.hygienic true in
theorem plainCall_ok (hc : CxOK Z prog w k c) (hT : EvS Z prog w k T) (hst : NoStar T) (hnm : NmOK c T) {f : Str} {p pos : Pos} {args : List Expr} {d : V} {pk : Bool} {Q : Value → Shared → Prop} (hf : sc.lookup f = some .globalImplicit)
    (h : plainCallE c T sc own ρ f args = some d) (hA : GoodA k A) (g : Gd Z s.heap) (ok : EnvOK Z W O env sc own ρ s.heap)
    (hQ : ∀ h' tk v, Got Z W O s.heap h' pk (.Call (.Name f p) args [] pos) v d → Q v { s with heap := h', toks := tk }) : wpAny (model prog w) A (eval (.Call (.Name f p) args [] pos) env) Q E s := by
  show wpAny _ _ (do callWith pos (← eval (.Name f p) env) [] (backTo pos (starEach args env)) (backToKw pos (keywordEach [] env))) _ _ _
  unfold plainCallE at h
  split at h
  · rename_i b hb
    split at h
    · rename_i ds hds
      refine Exists.elim (hc.B f b hb) fun v q_121 => ?_
      have hg := q_121.1
      have hv := q_121.2.1
      have hB := q_121.2.2
      refine wpAny_bind (name_glob g ok hf hg ?_)
      have body : wpAny (model prog w) A (evalArgs v true (backTo pos (starEach args env)) []) (fun a s₁ => wpAny (model prog w) A (call v ([] ++ a.pos) a.kw) Q E s₁) E s := by
        refine evalArgs_of (back_plain hst hds) ?_
        refine spl_ok hT hst hds hA g ok fun h' tk vs x y _ => ?_
        exact hB ds d h A W O _ Q E vs hA (x.gd g) (ok.ext x).oin y fun h2 tk2 v n => hQ h2 tk2 v (.later x (.ofNew n))
      rcases hv with ⟨n, rfl⟩ | ⟨n, rfl⟩
      · exact PySem.callWith_type (back_plain hst hds) body
      · exact callWith_builtin (back_plain hst hds) body
    · cases h
  · split at h
    · rename_i ds hds
      split at h
      · rename_i d' hd
        split at h
        · cases h
        · rename_i hleak
          cases h
          refine ex3 (hc.F f ds d hd) fun a o fd q_139 => ?_
          have hg := q_139.1
          have ho := q_139.2.1
          have hfd := q_139.2.2.1
          have hF := q_139.2.2.2
          refine wpAny_bind (name_glob g ok hf hg ?_)
          refine callWith_function (o := o) (fd := fd) (evalArgs_of (back_args hst hds) ?_)
          refine args_ok hc hT hst hnm hds hA g ok fun h' tk vs x r1 r2 => ⟨⟨(x.gd g).base a o ho, hfd⟩, ?_⟩
          have ok' := ok.ext x
          cases hl : leakE own args with
          | false => exact hF A O _ Q E vs hA (x.gd g) ok'.oin (r2 hl) fun h2 tk2 v y r => hQ h2 tk2 v ⟨x.trans y, r.top, fun _ => r, fun q => by exact Bool.noConfusion q⟩
          | true =>
            have hat : atomV d = true := by rw [hl] at hleak; simpa using hleak
            refine hF A [] _ Q E vs hA (x.gd g) (fun _ h => nomatch h) r1 fun h2 tk2 v y r => ?_
            have r' : Rep O h2 v d := atom_rep r hat
            exact hQ h2 tk2 v ⟨x.trans y, r'.top, fun _ => r', fun q => by exact Bool.noConfusion q⟩
      · cases h
    · cases h
end
end Mine

-- MM
set_option maxRecDepth 10000
namespace Mine
set_option tactic.hygienic false

section
variable {Z : Par} {prog : Program} {w : World} {A : Around} {E : Value → Shared → Prop} {W O : List Addr} {s : Shared} {k : Nat} {T : Evl} {c : Cx} {env : Env} {sc : Nm} {own : List Str} {ρ : Rho}

set_option tactic.hygienic true in
theorem const_ok {q : Const} {kd : Nat} {pos : Pos} {d : V} {Q : Value → Shared → Prop} (h : constV q = some d) (g : Gd Z s.heap) (hQ : ∀ tk v, Rep O s.heap v d → (∀ ds, d ≠ .lst ds) → Q v { s with toks := tk }) : wpAny (model prog w) A (eval (.Constant q kd pos) env) Q E s := by
  unfold constV at h
  split at h
  · obtain rfl := Option.some.inj h; exact Constant_none (hQ s.toks _ .none fun _ => nofun)
  · obtain rfl := Option.some.inj h; exact Constant_bool (hQ s.toks _ (.bool _) fun _ => nofun)
  · obtain rfl := Option.some.inj h; exact wpAny_Constant_int (hQ _ _ (.int _ _) fun _ => nofun)
  · rename_i x
    split at h
    · rename_i hx
      obtain rfl := Option.some.inj h
      refine wpAny_Constant_str (hQ _ _ ?_ fun _ => nofun)
      have : x = toStr x.cps.toList := by simp [toStr]
      rw [List.all_eq_true] at hx
      conv => arg 3; rw [this]
      exact .str _ _ fun c hc => by simpa using hx c hc
    · cases h
  · cases h

theorem isTrue_Compare {l r : Expr} {op : CmpOp} {pos : Pos} {Q : Bool → Shared → Prop} (h : wpAny (model prog w) A (eval (.Compare l [op] [r] pos) env) (fun v s₁ => wpAny (model prog w) A (truthy v) Q E s₁) E s) :
    wpAny (model prog w) A (isTrue (.Compare l [op] [r] pos) env (eval (.Compare l [op] [r] pos) env)) Q E s := by
  have : isTrue (.Compare l [op] [r] pos) env (eval (.Compare l [op] [r] pos) env) = (do let c ← eval (.Compare l [op] [r] pos) env; holding [c] (truthy c)) := by
    rw [isTrue_Compare1, eval_Compare1]
    simp only [bind_assoc]
  rw [this]
  exact wpAny_bind (wpAny_mono h (fun v s' h' => wpAny_holding h') fun _ _ e => e)

set_option tactic.hygienic true in
theorem part_ok (hT : EvS Z prog w k T) {e : Option Expr} {p : Option Int} {Q : Value → Shared → Prop} (h : partO (e.map (T true sc own ρ)) = some p) (hA : GoodA k A) (g : Gd Z s.heap) (ok : EnvOK Z W O env sc own ρ s.heap)
    (hQ : ∀ h' tk v, Ext Z s.heap h' → PartIs v p → Q v { s with heap := h', toks := tk }) : wpAny (model prog w) A (evalPart e env) Q E s := by
  cases e with
  | none => obtain rfl := Option.some.inj h; exact wpAny_pure (hQ s.heap s.toks _ (.refl g) rfl)
  | some e =>
    simp only [Option.map_some] at h
    unfold partO at h
    split at h
    · rename_i heq; cases heq
    · rename_i i heq
      split at h
      · obtain rfl := Option.some.inj h
        have heq : T true sc own ρ e = some (.int i) := by simpa using heq
        refine hT _ _ _ _ _ _ heq A env W O s _ E hA g ok fun h' tk v q => ?_
        obtain ⟨t, rfl⟩ := q.top.int
        exact hQ h' tk _ q.ext ⟨t, rfl⟩
      · cases h
    · cases h

theorem slice_ok (hT : EvS Z prog w k T) {v : Expr} {lo hi : Option Expr} {p pos : Pos} {a d : V} {l u : Option Int} {pk : Bool} {Q : Value → Shared → Prop} (hv : T true sc own ρ v = some a) (hl : partO (lo.map (T true sc own ρ)) = some l) (hu : partO (hi.map (T true sc own ρ)) = some u)
    (hd : sliceV l u a = some d) (hA : GoodA k A) (g : Gd Z s.heap) (ok : EnvOK Z W O env sc own ρ s.heap)
    (hQ : ∀ h' tk x, Got Z W O s.heap h' pk (.Subscript v (.Slice lo hi none p) pos) x d → Q x { s with heap := h', toks := tk }) : wpAny (model prog w) A (eval (.Subscript v (.Slice lo hi none p) pos) env) Q E s := by
  refine Subscript_ ?_
  refine hT _ _ _ _ _ _ hv A env W O s _ E hA g ok fun h₁ tk₁ va qa => ?_
  refine wpAny_Slice ?_
  refine part_ok (s := { s with heap := h₁, toks := tk₁ }) hT hl hA (qa.ext.gd g) (ok.ext qa.ext) fun h₂ tk₂ vl x2 pl => ?_
  have x12 := qa.ext.trans x2
  refine part_ok (s := { s with heap := h₂, toks := tk₂ }) hT hu hA (x12.gd g) (ok.ext x12) fun h₃ tk₃ vu x3 pu => ?_
  have x13 := x12.trans x3
  rw [evalPart_none]
  refine wpAny_pure ?_
  have g3 := x13.gd g
  have x4 : Ext Z h₃ _ := Ext.push g3 { cls := .type "slice", data := .fields #[vl, vu, .none] }
  have x14 := x13.trans x4
  refine sliceTail_ok (s := { s with heap := _, toks := tk₃ }) hd (x14.gd g) (ok.ext x14).oin ((x2.trans (x3.trans x4)).repTop qa.top) pl pu (Heap.get?_push_size _ rfl) fun h₅ tk₅ x n => ?_
  exact hQ h₅ tk₅ x (.later x14 (.ofNew n))

theorem item_ok' (hT : EvS Z prog w k T) {v i : Expr} {pos : Pos} {a b d : V} {pk : Bool} {Q : Value → Shared → Prop} (hs : ∀ lo hi p, i ≠ .Slice lo hi none p) (hv : T true sc own ρ v = some a) (hi : T true sc own ρ i = some b)
    (hd : itemV a b = some d) (hA : GoodA k A) (g : Gd Z s.heap) (ok : EnvOK Z W O env sc own ρ s.heap) (hf : isFresh (.Subscript v i pos) = false)
    (hQ : ∀ h' tk x, Got Z W O s.heap h' pk (.Subscript v i pos) x d → Q x { s with heap := h', toks := tk }) : wpAny (model prog w) A (eval (.Subscript v i pos) env) Q E s := by
  refine Subscript_ ?_
  refine hT _ _ _ _ _ _ hv A env W O s _ E hA g ok fun h₁ tk₁ va qa => ?_
  refine hT _ _ _ _ _ _ hi A env W O { s with heap := h₁, toks := tk₁ } _ E hA (qa.ext.gd g) (ok.ext qa.ext) fun h₂ tk₂ vi qi => ?_
  refine itemTail_ok (s := { s with heap := h₂, toks := tk₂ }) hd (qi.ext.repTop qa.top) qi.top hs fun tk x r => ?_
  exact hQ h₂ tk x ⟨qa.ext.trans qi.ext, r.top, fun _ => r, fun q => by rw [hf] at q; exact Bool.noConfusion q⟩

set_option tactic.hygienic true in
theorem bools_ok (hT : EvS Z prog w k T) {op : BoolOp} {pos : Pos} {pk : Bool} : ∀ {es : List Expr} {d : V}, boolG op (es.map (T false sc own ρ)) = some d → ∀ {s : Shared} {Q : Value → Shared → Prop}, GoodA k A → Gd Z s.heap → EnvOK Z W O env sc own ρ s.heap →
    (∀ h' tk x, Ext Z s.heap h' → Rep O h' x d → Q x { s with heap := h', toks := tk }) → wpAny (model prog w) A (eval (.BoolOp op es pos) env) Q E s
  | [], d, h, s, Q, hA, g, ok, hQ => by cases h
  | [e], d, h, s, Q, hA, g, ok, hQ => by
    refine BoolOp_one ?_
    exact hT _ _ _ _ _ _ h A env W O s _ E hA g ok fun h' tk v q => hQ h' tk v q.ext (q.rep rfl)
  | e :: e2 :: r, d, h, s, Q, hA, g, ok, hQ => by
    simp only [List.map_cons, boolG] at h
    split at h
    · rename_i v hv
      split at h
      · rename_i t ht
        have go : ∀ (f : Bool → Prop), True := fun _ => trivial
        cases op with
        | And =>
          refine BoolOp_and ?_
          refine hT _ _ _ _ _ _ hv A env W O s _ E hA g ok fun h' tk x q => ?_
          refine truth_ok ht q.top ?_
          cases t with
          | false => obtain rfl := Option.some.inj h; exact hQ h' tk x q.ext (q.rep rfl)
          | true =>
            refine bools_ok (es := e2 :: r) (s := { s with heap := h', toks := tk }) (pk := pk) hT h hA (q.ext.gd g) (ok.ext q.ext) fun h2 tk2 x2 y r2 => hQ h2 tk2 x2 (q.ext.trans y) r2
        | Or =>
          refine BoolOp_or ?_
          refine hT _ _ _ _ _ _ hv A env W O s _ E hA g ok fun h' tk x q => ?_
          refine truth_ok ht q.top ?_
          cases t with
          | true => obtain rfl := Option.some.inj h; exact hQ h' tk x q.ext (q.rep rfl)
          | false =>
            refine bools_ok (es := e2 :: r) (s := { s with heap := h', toks := tk }) (pk := pk) hT h hA (q.ext.gd g) (ok.ext q.ext) fun h2 tk2 x2 y r2 => hQ h2 tk2 x2 (q.ext.trans y) r2
      · cases h
    · cases h
set_option tactic.hygienic true in
theorem boolsT_ok (hT : EvS Z prog w k T) (hTs : TsS Z prog w k T) {op : BoolOp} {pos : Pos} {whole : Sem Value} : ∀ {es : List Expr} {d : V} {b : Bool}, boolG op (es.map (T false sc own ρ)) = some d → truth d = some b → ∀ {s : Shared} {Q : Bool → Shared → Prop}, GoodA k A → Gd Z s.heap → EnvOK Z W O env sc own ρ s.heap →
    (∀ h' tk, Ext Z s.heap h' → Q b { s with heap := h', toks := tk }) → wpAny (model prog w) A (isTrue (.BoolOp op es pos) env whole) Q E s
  | [], d, b, h, hb, s, Q, hA, g, ok, hQ => by cases h
  | [e], d, b, h, hb, s, Q, hA, g, ok, hQ => by
    cases op with
    | And =>
      refine isTrue_and ?_
      refine hTs _ _ _ _ _ _ _ h hb A env W O s _ E hA g ok fun h' tk x => ?_
      cases b with
      | true => exact isTrue_and_nil (hQ h' tk x)
      | false => exact hQ h' tk x
    | Or =>
      refine isTrue_or ?_
      refine hTs _ _ _ _ _ _ _ h hb A env W O s _ E hA g ok fun h' tk x => ?_
      cases b with
      | true => exact hQ h' tk x
      | false => exact isTrue_or_nil (hQ h' tk x)
  | e :: e2 :: r, d, b, h, hb, s, Q, hA, g, ok, hQ => by
    simp only [List.map_cons, boolG] at h
    split at h
    · rename_i v hv
      split at h
      · rename_i t ht
        cases op with
        | And =>
          refine isTrue_and ?_
          refine hTs _ _ _ _ _ _ _ hv ht A env W O s _ E hA g ok fun h' tk x => ?_
          cases t with
          | false => obtain rfl := Option.some.inj h; rw [ht] at hb; obtain rfl := Option.some.inj hb; exact hQ h' tk x
          | true => exact boolsT_ok (es := e2 :: r) (s := { s with heap := h', toks := tk }) hT hTs h hb hA (x.gd g) (ok.ext x) fun h2 tk2 y => hQ h2 tk2 (x.trans y)
        | Or =>
          refine isTrue_or ?_
          refine hTs _ _ _ _ _ _ _ hv ht A env W O s _ E hA g ok fun h' tk x => ?_
          cases t with
          | true => obtain rfl := Option.some.inj h; rw [ht] at hb; obtain rfl := Option.some.inj hb; exact hQ h' tk x
          | false => exact boolsT_ok (es := e2 :: r) (s := { s with heap := h', toks := tk }) hT hTs h hb hA (x.gd g) (ok.ext x) fun h2 tk2 y => hQ h2 tk2 (x.trans y)
      · cases h
    · cases h
end
end Mine

-- MN
set_option maxRecDepth 10000
namespace Mine
set_option tactic.hygienic false

section
variable {Z : Par} {prog : Program} {w : World} {A : Around} {E : Value → Shared → Prop} {W O : List Addr} {s : Shared} {k : Nat} {T : Evl} {c : Cx} {env : Env} {sc : Nm} {own : List Str} {ρ : Rho}

theorem isTab_some {x : Str} {f : List Nat → Option Int} (h : isTab c sc x = some f) : sc.lookup x = some .globalImplicit ∧ c.tab x = some f := by
  unfold isTab at h
  split at h
  · rename_i q; exact ⟨eq_of_beq q, h⟩
  · cases h

theorem dat_find {D : List (Str × KTD.Dat)} {h₀ : Heap} {x : Str} {i : Int} {v : Value} {d : KTD.Dat} (h : KTD.datumAt x D = some (.flat (.int i))) (hd : KTD.datumAt x D = some d) (hv : d.At h₀ v) : ∃ t, v = .int i t := by
  rw [h] at hd; obtain rfl := Option.some.inj hd
  have hv : Reads h₀ v (.int i) [] := hv h₀
  cases hv; exact ⟨_, rfl⟩

theorem notin_ok (hc : CxOK Z prog w k c) {t : Str} {f : List Nat → Option Int} {l : Expr} {p pos : Pos} {x : List Nat} {pk : Bool} {Q : Value → Shared → Prop} (hT : EvS Z prog w k T) (ht : isTab c sc t = some f) (hl : T true sc own ρ l = some (.str x)) (hA : GoodA k A) (g : Gd Z s.heap) (ok : EnvOK Z W O env sc own ρ s.heap)
    (hQ : ∀ h' tk v, Got Z W O s.heap h' pk (.Compare l [.NotIn] [.Name t p] pos) v (.bool (f x).isNone) → Q v { s with heap := h', toks := tk }) : wpAny (model prog w) A (eval (.Compare l [.NotIn] [.Name t p] pos) env) Q E s := by
  obtain ⟨h1, h2⟩ := isTab_some ht
  obtain ⟨a, D, hg, hT', hs, hn⟩ := hc.tab t f h2
  refine wpAny_Compare1 ?_ rfl
  refine hT _ _ _ _ _ _ hl A env W O s _ E hA g ok fun h' tk v q => ?_
  obtain ⟨_, u, rfl⟩ := q.top.str
  have g' := q.ext.gd g
  refine name_glob g' (ok.ext q.ext) h1 hg ?_
  refine KTD.notin_text (h₀ := Z.H0) (D := D) ⟨hT', g'.base⟩ ?_
  have : (!KTD.inKeys (toStr x) D) = (f x).isNone := by
    rw [← KTD.isSome_datumAt]
    cases hf : f x with
    | none => rw [hn x hf]; rfl
    | some i => rw [hs x i hf]; rfl
  rw [this]
  exact hQ h' _ _ ⟨q.ext, Rep.bool (O := O) _, fun _ => .bool _, fun q => by exact Bool.noConfusion q⟩

set_option tactic.hygienic true in
theorem get_ok (hc : CxOK Z prog w k c) {t m : Str} {args : List Expr} {p apos pos : Pos} {d : V} {pk : Bool} {Q : Value → Shared → Prop} (hT : EvS Z prog w k T) (hst : NoStar T) (h : getE c T sc own ρ t m args = some d) (hline : (apos.endLine == pos.line) = true) (hA : GoodA k A) (g : Gd Z s.heap) (ok : EnvOK Z W O env sc own ρ s.heap)
    (hQ : ∀ h' tk v, Got Z W O s.heap h' pk (.Call (.Attribute (.Name t p) m apos) args [] pos) v d → Q v { s with heap := h', toks := tk }) : wpAny (model prog w) A (eval (.Call (.Attribute (.Name t p) m apos) args [] pos) env) Q E s := by
  unfold getE at h
  split at h
  · rename_i x y
    split at h
    · rename_i hm
      split at h
      · rename_i f l i h1 h2 h3
        have h2 := strO_some h2
        have h3 := intO_some h3
        obtain rfl := Option.some.inj h
        have hm := eq_of_beq hm
        subst hm
        obtain ⟨ht, hf⟩ := isTab_some h1
        obtain ⟨a, D, hg, hT', hs, hn⟩ := hc.tab t f hf
        have hst1 := star1 (T := T) hst h2 [y] env
        have hst2 := star1 (T := T) hst h3 [] env
        refine Call_method2 rfl (by rw [hst1, hst2]; rfl) hline ?_
        refine name_glob g ok ht hg ?_
        have T0 : ∀ {h'}, Gd Z h' → KTD.Here Z.H0 h' a D := fun g' => ⟨hT', g'.base⟩
        refine ⟨"dict", "dict.get", PySem.F.plainAttrs_dict, PySem.F.slot_dict_get, PySem.F.type_dict_get, KTD.Here.typeIs (T0 g), KTD.Here.noDict (T0 g), ?_⟩
        refine callWith_builtin rfl (evalArgs_of rfl ?_)
        refine wpAny_bind (m := eval x env) ?_
        refine hT _ _ _ _ _ _ h2 A env W O s _ E hA g ok fun h₁ tk₁ vx qx => ?_
        refine wpAny_bind (wpAny_pure (wpAny_bind (wpAny_holding ?_)))
        refine wpAny_bind (m := eval y env) ?_
        have g1 := qx.ext.gd g
        refine hT _ _ _ _ _ _ h3 A env W O { s with heap := h₁, toks := tk₁ } _ E hA g1 (ok.ext qx.ext) fun h₂ tk₂ vy qy => ?_
        refine wpAny_bind (wpAny_pure (wpAny_bind (wpAny_holding (wpAny_pure (wpAny_pure ?_)))))
        obtain ⟨_, u, rfl⟩ := qx.top.str
        obtain ⟨u2, rfl⟩ := qy.top.int
        have x12 := qx.ext.trans qy.ext
        refine wpAny_pure ?_
        have fin : ∀ tk v, Rep O h₂ v (.int ((f l).getD i)) → Q v { s with heap := h₂, toks := tk } := fun tk v r => hQ h₂ tk v ⟨x12, r.top, fun _ => r, fun q => by exact Bool.noConfusion q⟩
        show wpAny (model prog w) A (call (.builtin "dict.get") [.ref a, .str (toStr l) u, .int i u2]) Q E { s with heap := h₂, toks := tk₂ }
        refine call_meetsIn PySem.F.slot_dict_get (KTD.Here.typeIs (T0 (x12.gd g))) PySem.F.entry_dict_get (PySem.F.args_dict_get_3 _ _ _) (KTD.meets_get2 (h₀ := Z.H0) (D := D)) ⟨T0 (x12.gd g), fun d v ha hv => ?_, fun hnn => ?_⟩
        · cases hf : f l with
          | none => rw [hn l hf] at ha; cases ha
          | some j =>
            obtain ⟨t, rfl⟩ := dat_find (hs l j hf) ha hv
            rw [hf] at fin
            exact fin _ _ (.int _ _)
        · cases hf : f l with
          | none => rw [hf] at fin; exact fin _ _ (.int _ _)
          | some j => rw [hs l j hf] at hnn; cases hnn
      · cases h
    · cases h
  · cases h

set_option tactic.hygienic true in
theorem lstE_some {pk : Bool} {e : Expr} {ds : List V} (h : lstE T pk sc own ρ e = some ds) : T pk sc own ρ e = some (.lst ds) := by
  unfold lstE at h
  split at h
  · rename_i ds' hd; obtain rfl := Option.some.inj h; exact hd
  · cases h
theorem isGl_some {x : Str} (h : isGl sc x = true) : sc.lookup x = some .globalImplicit := by unfold isGl at h; exact eq_of_beq h

theorem lenSet?_some {f : Str} {args : List Expr} {x : Expr} (h : lenSet? sc f args = some x) : ∃ p pos, f = ("len" : Str) ∧ args = [.Call (.Name ("set" : Str) p) [x] [] pos] ∧ sc.lookup ("len" : Str) = some .globalImplicit ∧ sc.lookup ("set" : Str) = some .globalImplicit := by
  obtain ⟨a, _, h⟩ := Option.bind_eq_some_iff.mp h
  obtain ⟨v, _, h⟩ := Option.bind_eq_some_iff.mp h
  obtain ⟨y, _, h⟩ := Option.bind_eq_some_iff.mp h
  obtain ⟨hc, h⟩ := Option.ite_none_right_eq_some.mp h
  have c1 := Bool.and_eq_true_iff.mp hc
  have c2 := Bool.and_eq_true_iff.mp c1.1
  have c3 := Bool.and_eq_true_iff.mp c2.1
  have h1 := eq_of_beq c3.1
  have h2 := eq_of_beq c3.2
  exact ⟨v.1.1.2, v.1.2.2, h1, a.2.trans (congrArg (fun e => [e]) (v.2.trans ((congrArg (fun s => Expr.Call (.Name s v.1.1.2) v.1.2.1 [] v.1.2.2) h2).trans (congrArg (fun l => Expr.Call (.Name ("set" : Str) v.1.1.2) l [] v.1.2.2) (y.2.trans (congrArg (fun z => [z]) (Option.some.inj h))))))), h1 ▸ isGl_some c2.2, h2 ▸ isGl_some c1.2⟩
theorem sortRev?_some {f : Str} {args : List Expr} {kws : List Keyword} {x : Expr} (h : sortRev? sc f args kws = some x) : ∃ kd p q, f = ("sorted" : Str) ∧ args = [x] ∧ kws = [⟨some ("reverse" : Str), .Constant (.bool true) kd p, q⟩] ∧ sc.lookup ("sorted" : Str) = some .globalImplicit := by
  obtain ⟨a, _, h⟩ := Option.bind_eq_some_iff.mp h
  obtain ⟨v, _, h⟩ := Option.bind_eq_some_iff.mp h
  obtain ⟨hc, h⟩ := Option.ite_none_right_eq_some.mp h
  have c1 := Bool.and_eq_true_iff.mp hc
  have c2 := Bool.and_eq_true_iff.mp c1.1
  have h1 := eq_of_beq c2.1
  exact ⟨v.1.2.2.1, v.1.2.2.2, v.1.2.1, h1, a.2.trans (congrArg (fun z => [z]) (Option.some.inj h)), v.2.trans (congrArg (fun s => [(⟨some s, .Constant (.bool true) v.1.2.2.1 v.1.2.2.2, v.1.2.1⟩ : Keyword)]) (eq_of_beq c1.2)), h1 ▸ isGl_some c2.2⟩

theorem lenSet_ok (hc : CxOK Z prog w k c) (hT : EvS Z prog w k T) (hst : NoStar T) {x : Expr} {p p' pos pos' : Pos} {ns : List Int} {pk : Bool} {Q : Value → Shared → Prop} (h1 : sc.lookup ("len" : Str) = some .globalImplicit) (h2 : sc.lookup ("set" : Str) = some .globalImplicit)
    (hx : T true sc own ρ x = some (.lst (ns.map V.int))) (hl : ns.length ≤ 1000) (hA : GoodA k A) (g : Gd Z s.heap) (ok : EnvOK Z W O env sc own ρ s.heap)
    (hQ : ∀ h' tk v, Got Z W O s.heap h' pk (.Call (.Name ("len" : Str) p) [.Call (.Name ("set" : Str) p') [x] [] pos'] [] pos) v (.int (firstMet (fun i => ns.getD i 0) ns.length).length) → Q v { s with heap := h', toks := tk }) :
    wpAny (model prog w) A (eval (.Call (.Name ("len" : Str) p) [.Call (.Name ("set" : Str) p') [x] [] pos'] [] pos) env) Q E s := by
  show wpAny _ _ (do callWith pos (← eval (.Name ("len" : Str) p) env) [] (backTo pos (starEach [.Call (.Name ("set" : Str) p') [x] [] pos'] env)) (backToKw pos (keywordEach [] env))) _ _ _
  refine wpAny_bind (name_glob g ok h1 hc.len ?_)
  refine callWith_builtin rfl (evalArgs_of rfl ?_)
  refine wpAny_items_cons ?_
  show wpAny _ _ (do callWith pos' (← eval (.Name ("set" : Str) p') env) [] (backTo pos' (starEach [x] env)) (backToKw pos' (keywordEach [] env))) _ _ _
  refine wpAny_bind (name_glob g ok h2 hc.set ?_)
  have hm : mapO (T true sc own ρ) [x] = some [.lst (ns.map V.int)] := by simp only [mapO, hx]
  refine PySem.callWith_type (back_plain hst hm) (evalArgs_of (back_plain hst hm) ?_)
  refine spl_ok hT hst hm hA g ok fun h' tk vs y r _ => ?_
  cases vs, r using RepTops.one with | _ v r1 => ?_
  refine wpAny_mono (lenSet_call (s := { s with heap := h', toks := tk }) (Q := Q) hA (y.gd g) r1 hl fun h2 tk2 t z => ?_) (fun v s' h => ?_) fun _ _ e => e
  · exact hQ h2 tk2 _ ⟨y.trans z, Rep.int (O := O) _ _, fun _ => .int _ _, fun q => by exact Bool.noConfusion q⟩
  · exact wpAny_items_nil h

theorem sortRev_ok (hc : CxOK Z prog w k c) (hT : EvS Z prog w k T) (hst : NoStar T) {x : Expr} {p pos p1 p2 : Pos} {kd : Nat} {ns : List Int} {pk : Bool} {Q : Value → Shared → Prop} (h1 : sc.lookup ("sorted" : Str) = some .globalImplicit)
    (hx : T true sc own ρ x = some (.lst (ns.map V.int))) (hl : ns.length < 64) (hA : GoodA k A) (g : Gd Z s.heap) (ok : EnvOK Z W O env sc own ρ s.heap)
    (hQ : ∀ h' tk v, Got Z W O s.heap h' pk (.Call (.Name ("sorted" : Str) p) [x] [⟨some ("reverse" : Str), .Constant (.bool true) kd p1, p2⟩] pos) v (.lst ((ns.mergeSort fun a b => decide (b ≤ a)).map V.int)) → Q v { s with heap := h', toks := tk }) :
    wpAny (model prog w) A (eval (.Call (.Name ("sorted" : Str) p) [x] [⟨some ("reverse" : Str), .Constant (.bool true) kd p1, p2⟩] pos) env) Q E s := by
  show wpAny _ _ (do callWith pos (← eval (.Name ("sorted" : Str) p) env) [] (backTo pos (starEach [x] env)) (backToKw pos (keywordEach [⟨some ("reverse" : Str), .Constant (.bool true) kd p1, p2⟩] env))) _ _ _
  refine wpAny_bind (name_glob g ok h1 hc.sorted ?_)
  have hm : mapO (T true sc own ρ) [x] = some [.lst (ns.map V.int)] := by simp only [mapO, hx]
  have hb : backTo pos (starEach [x] env) = (false, eval x env) :: backTo pos (starEach [] env) := by rw [star1 hst hx [] env]; rfl
  refine callWith_kw ?_ hb (back_plain hst hm) rfl rfl
  refine spl_ok hT hst hm hA g ok fun h' tk vs y r _ => ?_
  cases vs, r using RepTops.one with | _ v r1 => ?_
  refine evalAll_cons (wpAny_bind (wpAny_mono (Constant_bool (Q := fun v s' => v = .bool true ∧ s' = { s with heap := h', toks := tk }) ⟨rfl, rfl⟩) (fun v s' h => ?_) fun _ _ e => e))
  obtain ⟨rfl, rfl⟩ := h
  refine wpAny_bind (wpAny_standAt (wpAny_pure (evalAll_nil ?_)))
  have g' := y.gd g
  refine sortRev_call (s := { s with heap := h', toks := tk }) g' (ok.ext y).oin r1 hl fun h2 v n => ?_
  exact hQ h2 tk v (.later y (.ofNew n))
end
end Mine

-- MO
set_option maxRecDepth 10000
namespace Mine
set_option tactic.hygienic false

section
variable {Z : Par} {prog : Program} {w : World} {A : Around} {E : Value → Shared → Prop} {W O : List Addr} {s : Shared} {k : Nat} {T : Evl} {c : Cx} {env : Env} {sc : Nm} {own : List Str} {ρ : Rho}

theorem Xnone (hc : CxOK Z prog w k c) {e : Expr} (h : ∀ f args kws pos, e ≠ .Call f args kws pos) : c.X e = none := by
  cases q : c.X e with
  | none => rfl
  | some H => obtain ⟨⟨f, args, kws, pos, e'⟩, _⟩ := hc.X e H q; exact absurd e' (h f args kws pos)

theorem ev_at (hc : CxOK Z prog w k c) {n : Nat} {e : Expr} (h : ∀ f args kws pos, e ≠ .Call f args kws pos) {pk : Bool} : ev c (n + 1) pk sc own ρ e = evB c (ev c n) pk sc own ρ e := by
  show (match c.X e with
   | some H => H (ev c n) pk sc own ρ
   | none => evB c (ev c n) pk sc own ρ e) = _
  rw [Xnone hc h]
theorem ev_star (hc : CxOK Z prog w k c) : ∀ n, NoStar (ev c n)
  | 0 => fun _ _ _ _ _ _ => rfl
  | n + 1 => fun e p pk sc own ρ => (ev_at hc (by intros; nofun)).trans rfl
set_option tactic.hygienic true in
theorem ev_nm (hc : CxOK Z prog w k c) : ∀ n, NmOK c (ev c n)
  | 0 => fun _ _ _ _ _ _ _ h => by cases h
  | n + 1 => fun pk sc own ρ x p d h => by
    rw [ev_at hc (by intros; nofun)] at h
    replace h : evName c pk sc own ρ x = some d := h
    unfold evName at h
    split at h
    · rename_i q; exact .inl ⟨q, h⟩
    · rename_i k' q1 q2
      split at h
      · exact .inr ⟨_, q2, q1, h⟩
      · cases h
    · cases h

theorem compE_plain {elt : Expr} {g : Comprehension} {gs : List Comprehension} {scope : Scope} {ds : List V} (he : compE T sc own ρ elt (g :: gs) scope = some ds) : plainGen g = true := by
  unfold compE at he
  simp only at he
  split at he
  · rename_i hc
    simp only [Bool.and_eq_true] at hc
    exact List.all_eq_true.mp hc.1.2 g List.mem_cons_self
  · cases he
theorem comp_out {h₁ h' h'' : Heap} {D C : Addr} {ds : List V} {m : Str → Option Value} (x2 : Ext Z h₁ h') (rf : RepFresh O h₁ h' (.ref D) (.lst ds)) (hns : h'.Ns C m) (hC : h₁.get? C = none) (hDC : D ≠ C) (sb : Heap.SameBut C h' h'') :
    Ext Z h₁ h'' ∧ RepFresh O h₁ h'' (.ref D) (.lst ds) := by
  refine ⟨x2.but sb.extBut hC fun o e vs q t d => ?_, ?_⟩
  · obtain ⟨es, n, d2⟩ := ns_dict hns o e; rw [d] at d2; cases d2
  · obtain ⟨a, vs, ds', e1, e2, hn, ⟨n, hl⟩, r⟩ := rf
    cases e1; cases e2
    refine ⟨D, vs, ds, rfl, rfl, hn, ⟨n, sb.extBut _ _ hDC hl⟩, r.keep (fun _ _ _ n => n) fun b o e _ hs => sb.extBut b o (fun q => ?_) e⟩
    subst q
    refine ex2 (ns_dict hns o e) fun es n d2 => ?_
    refine ex2 hs fun vs n d => ?_
    rw [d] at d2; cases d2

theorem EvE.none {e : Expr} : EvE Z prog w k e fun _ _ _ _ => none := fun _ _ _ _ _ h => by cases h
theorem repE {e : Expr} {d : V} {Q : Value → Shared → Prop} {pk : Bool} (hQ : ∀ h' tk v, Got Z W O s.heap h' pk e v d → Q v { s with heap := h', toks := tk }) {h' : Heap} {tk : Nat} {v : Value} (hf : isFresh e = false) (x : Ext Z s.heap h') (r : Rep O h' v d) : Q v { s with heap := h', toks := tk } :=
  hQ _ _ _ ⟨x, r.top, fun _ => r, fun q => by rw [hf] at q; exact Bool.noConfusion q⟩
section
variable (hc : CxOK Z prog w k c) {n : Nat} (hT : EvS Z prog w k (ev c n)) (hTs : TsS Z prog w k (ev c n))
include hc
theorem noSet {es : List Expr} {kk : Nat} {p : Pos} {d : V} {pk : Bool} : ∀ {n}, ev c n pk sc own ρ (.Set es kk p) = some d → False
  | 0, h => by cases h
  | n + 1, h => by
    rw [ev_at hc (by intros; nofun)] at h
    cases h
theorem noSlice {a b e : Option Expr} {p : Pos} {d : V} {pk : Bool} : ∀ {n}, ev c n pk sc own ρ (.Slice a b e p) = some d → False
  | 0, h => by cases h
  | n + 1, h => by
    rw [ev_at hc (by intros; nofun)] at h
    cases h
set_option tactic.hygienic true in
theorem c_name {x : Str} {p : Pos} : EvE Z prog w k (.Name x p) fun pk sc own ρ => evName c pk sc own ρ x := by
  intro pk sc own ρ d h A env W O s Q E hA g ok hQ
  replace h : evName c pk sc own ρ x = some d := h
  unfold evName at h
  split at h
  · rename_i hx
    refine Exists.elim (hc.G x d h) fun v q_80 => ?_
    have hg := q_80.1
    have hr := q_80.2
    exact name_glob g ok hx hg (repE hQ rfl (.refl g) (hr _ _))
  · rename_i k' hk hx
    split at h
    · rename_i hp
      refine Exists.elim (ok.var x k' d hx hk h) fun v q_85 => ?_
      have hv := q_85.1
      have hr := q_85.2
      refine name_var ok hx hv (hQ s.heap s.toks v ⟨.refl g, hr.top, fun hpk => ?_, fun q => by exact Bool.noConfusion q⟩)
      subst hpk
      have : own.contains x = false := by simpa using hp
      rw [this] at hr
      exact hr
    · cases h
  · cases h
omit hc in
set_option tactic.hygienic true in
theorem c_bin (hT : EvS Z prog w k T) {l r : Expr} {op : Operator} {p : Pos} : EvE Z prog w k (.BinOp l op r p) fun pk sc own ρ => evBin T sc own ρ l op r := by
  intro pk sc own ρ d h A env W O s Q E hA g ok hQ
  replace h : evBin T sc own ρ l op r = some d := h
  unfold evBin at h
  split at h
  · rename_i a b ha hb
    refine wpAny_BinOp ?_
    refine hT _ _ _ _ _ _ ha A env W O s _ E hA g ok fun h₁ tk₁ va qa => ?_
    refine hT _ _ _ _ _ _ hb A env W O { s with heap := h₁, toks := tk₁ } _ E hA (qa.ext.gd g) (ok.ext qa.ext) fun h₂ tk₂ vb qb => ?_
    have x := qa.ext.trans qb.ext
    exact binop_ok h (x.gd g) (ok.ext x).oin (qb.ext.repTop qa.top) qb.top fun h₃ tk₃ v n => hQ h₃ tk₃ v (.later x (.ofNew n))
  · cases h
omit hc in
set_option tactic.hygienic true in
theorem c_not (hT : EvS Z prog w k T) {y : Expr} {p : Pos} : EvE Z prog w k (.UnaryOp .Not y p) fun pk sc own ρ => evNot T sc own ρ y := by
  intro pk sc own ρ d h A env W O s Q E hA g ok hQ
  replace h : evNot T sc own ρ y = some d := h
  unfold evNot at h
  split at h
  · rename_i a ha
    split at h
    · rename_i b hb
      obtain rfl := Option.some.inj h
      refine UnaryOp_ (hT _ _ _ _ _ _ ha A env W O s _ E hA g ok fun h₁ tk₁ va qa => not_of (truth_ok hb qa.top (repE hQ rfl qa.ext (.bool _))))
    · cases h
  · cases h
omit hc in
set_option tactic.hygienic true in
theorem c_neg (hT : EvS Z prog w k T) {y : Expr} {p : Pos} : EvE Z prog w k (.UnaryOp .USub y p) fun pk sc own ρ => evNeg T sc own ρ y := by
  intro pk sc own ρ d h A env W O s Q E hA g ok hQ
  replace h : evNeg T sc own ρ y = some d := h
  unfold evNeg at h
  split at h
  · rename_i i hi
    obtain rfl := Option.some.inj h
    refine UnaryOp_ (hT _ _ _ _ _ _ hi A env W O s _ E hA g ok fun h₁ tk₁ va qa => ?_)
    refine Exists.elim qa.top.int fun t q_128 => ?_
    obtain rfl := q_128
    exact P.neg_int (repE hQ rfl qa.ext (.int _ _))
  · cases h
set_option tactic.hygienic true in
theorem c_notin (hT : EvS Z prog w k T) {l : Expr} {t : Str} {p1 p : Pos} : EvE Z prog w k (.Compare l [.NotIn] [.Name t p1] p) fun pk sc own ρ => evNotIn c T sc own ρ l t := by
  intro pk sc own ρ d h A env W O s Q E hA g ok hQ
  replace h : evNotIn c T sc own ρ l t = some d := h
  unfold evNotIn at h
  split at h
  · rename_i f x h1 h2
    obtain rfl := Option.some.inj h
    exact notin_ok hc hT h1 h2 hA g ok hQ
  · cases h
include hT
set_option tactic.hygienic true in
theorem c_cmp {l r : Expr} {op : CmpOp} {p : Pos} : EvE Z prog w k (.Compare l [op] [r] p) fun pk sc own ρ => evCmpG (ev c n) sc own ρ l op r := by
  intro pk sc own ρ d h A env W O s Q E hA g ok hQ
  replace h : evCmpG (ev c n) sc own ρ l op r = some d := h
  unfold evCmpG at h
  split at h
  · rename_i a b ha hb
    split at h
    · rename_i t ht
      obtain rfl := Option.some.inj h
      have hmark : behindInMarks op r = false := by
        cases r <;> first | rfl | exact (noSet hc hb).elim
      refine wpAny_Compare1 ?_ hmark
      refine hT _ _ _ _ _ _ ha A env W O s _ E hA g ok fun h₁ tk₁ va qa => ?_
      refine hT _ _ _ _ _ _ hb A env W O { s with heap := h₁, toks := tk₁ } _ E hA (qa.ext.gd g) (ok.ext qa.ext) fun h₂ tk₂ vb qb => ?_
      exact cmpop_ok hA ht (qb.ext.repTop qa.top) qb.top (repE hQ rfl (qa.ext.trans qb.ext) (.bool _))
    · cases h
  · cases h
omit hc hT in
set_option tactic.hygienic true in
theorem c_if (hT : EvS Z prog w k T) (hTs : TsS Z prog w k T) {t a b : Expr} {p : Pos} : EvE Z prog w k (.IfExp t a b p) fun pk sc own ρ => evIf T sc own ρ t a b := by
  intro pk sc own ρ d h A env W O s Q E hA g ok hQ
  replace h : evIf T sc own ρ t a b = some d := h
  unfold evIf at h
  split at h
  · rename_i d' hd
    refine IfExp_ ?_
    split at h
    · rename_i ht
      refine hTs _ _ _ _ _ _ _ hd ht A env W O s _ E hA g ok fun h₁ tk₁ x => ?_
      exact hT _ _ _ _ _ _ h A env W O { s with heap := h₁, toks := tk₁ } _ E hA (x.gd g) (ok.ext x) fun h₂ tk₂ v q => repE hQ rfl (x.trans q.ext) (q.rep rfl)
    · rename_i ht
      refine hTs _ _ _ _ _ _ _ hd ht A env W O s _ E hA g ok fun h₁ tk₁ x => ?_
      exact hT _ _ _ _ _ _ h A env W O { s with heap := h₁, toks := tk₁ } _ E hA (x.gd g) (ok.ext x) fun h₂ tk₂ v q => repE hQ rfl (x.trans q.ext) (q.rep rfl)
    · cases h
  · cases h
omit hc hT in
set_option tactic.hygienic true in
theorem c_list (hT : EvS Z prog w k T) (hst : NoStar T) {es : List Expr} {p : Pos} : EvE Z prog w k (.List es p) fun pk sc own ρ => evList T sc own ρ es := by
  intro pk sc own ρ d h A env W O s Q E hA g ok hQ
  replace h : evList T sc own ρ es = some d := h
  unfold evList at h
  split at h
  · rename_i ds hds
    unfold mkL at h
    split at h
    · rename_i hl
      obtain rfl := Option.some.inj h
      refine wpAny_List ?_
      refine spl_ok hT hst hds hA g ok fun h' tk vs x _ r => ?_
      have r := r rfl
      refine ⟨by rw [r.length, sizeLine_eq]; omega, ?_⟩
      have g' := x.gd g
      exact hQ _ tk _ (.later x (.ofNew (.push g' (ok.ext x).oin r)))
    · cases h
  · cases h
omit hc hT in
set_option tactic.hygienic true in
theorem c_tup (hT : EvS Z prog w k T) (hst : NoStar T) {es : List Expr} {kk : Nat} {p : Pos} : EvE Z prog w k (.Tuple es kk p) fun pk sc own ρ => evTup T sc own ρ es := by
  intro pk sc own ρ d h A env W O s Q E hA g ok hQ
  replace h : evTup T sc own ρ es = some d := h
  unfold evTup at h
  split at h
  · rename_i ds hds
    split at h
    · rename_i hl
      obtain rfl := Option.some.inj h
      refine wpAny_Tuple ?_
      refine spl_ok hT hst hds hA g ok fun h' tk vs x _ r => ?_
      have r := r rfl
      refine ⟨by rw [r.length, sizeLine_eq]; omega, ?_⟩
      have g' := x.gd g
      have y : Ext Z h' _ := Ext.push g' { cls := .type "tuple", data := .seq vs.toArray }
      refine repE (tk := tk) hQ rfl (x.trans y) (.tup (fun hm => ?_) ⟨_, Heap.get?_push_size _ rfl, rfl, _, rfl⟩ (y.reps r))
      have := (ok.ext x).oin _ hm
      rw [get_size] at this; exact Bool.noConfusion this
    · cases h
  · cases h
omit hc hT in
set_option tactic.hygienic true in
theorem c_slice (hT : EvS Z prog w k T) {v : Expr} {lo hi : Option Expr} {p1 p : Pos} : EvE Z prog w k (.Subscript v (.Slice lo hi none p1) p) fun pk sc own ρ => evSlice T sc own ρ v lo hi := by
  intro pk sc own ρ d h A env W O s Q E hA g ok hQ
  replace h : evSlice T sc own ρ v lo hi = some d := h
  unfold evSlice at h
  split at h
  · rename_i a l u h1 h2 h3
    exact slice_ok hT h1 h2 h3 h hA g ok hQ
  · cases h
set_option tactic.hygienic true in
theorem c_item {v i : Expr} {p : Pos} (hs : ∀ lo hi p, i ≠ .Slice lo hi none p) : EvE Z prog w k (.Subscript v i p) fun pk sc own ρ => evItem (ev c n) sc own ρ v i := by
  intro pk sc own ρ d h A env W O s Q E hA g ok hQ
  replace h : evItem (ev c n) sc own ρ v i = some d := h
  unfold evItem at h
  split at h
  · rename_i a b ha hb
    refine item_ok' hT hs ha hb h hA g ok ?_ hQ
    cases i <;> first | rfl | exact (noSlice hc hb).elim
  · cases h
omit hT
set_option tactic.hygienic true in
theorem c_comp (hT : EvS Z prog w k T) (hTs : TsS Z prog w k T) (hst : NoStar T) {elt : Expr} {gens : List Comprehension} {scope : Scope} {p : Pos} : EvE Z prog w k (.ListComp elt gens scope p) fun pk sc own ρ => evComp T sc own ρ elt gens scope := by
  intro pk sc own ρ d h A env W O s Q E hA g ok hQ
  replace h : evComp T sc own ρ elt gens scope = some d := h
  unfold evComp at h
  split at h
  · rename_i ds hds
    unfold mkL at h
    split at h
    · rename_i hl
      obtain rfl := Option.some.inj h
      cases gens with
      | nil => cases hds
      | cons g0 gs =>
        have ha := plainGen_async (compE_plain hds)
        obtain ⟨t0, i0, f0, a0⟩ := g0
        have ha : a0 = 0 := ha
        subst ha
        rw [eval_ListComp]
        refine comp_ok hT hTs hst hc.range hds (by omega) hA g ok fun h₁ h' tk D C m x1 x2 rf hns hC hDC => ?_
        refine ⟨m, hns, fun h'' sb => ?_⟩
        have q_254 := comp_out x2 rf hns hC hDC sb
        have x3 := q_254.1
        have rf3 := q_254.2
        exact hQ _ _ _ (.later x1 (.ofNew (.ofFresh (ok.ext x1).oin x3 rf3)))
    · cases h
  · cases h
theorem c_get (hT : EvS Z prog w k T) (hst : NoStar T) {t m : Str} {p1 apos pos : Pos} {args : List Expr} : EvE Z prog w k (.Call (.Attribute (.Name t p1) m apos) args [] pos) fun pk sc own ρ => if apos.endLine == pos.line then getE c T sc own ρ t m args else none := by
  intro pk sc own ρ d h A env W O s Q E hA g ok hQ
  replace h : (if apos.endLine == pos.line then getE c T sc own ρ t m args else none) = some d := h
  split at h
  · rename_i hl
    exact get_ok hc hT hst h hl hA g ok hQ
  · cases h
set_option tactic.hygienic true in
theorem c_call (hT : EvS Z prog w k T) (hst : NoStar T) (hnm : NmOK c T) {f : Str} {p pos : Pos} {args : List Expr} {kws : List Keyword} : EvE Z prog w k (.Call (.Name f p) args kws pos) fun pk sc own ρ => callE c T sc own ρ f args kws := by
  intro pk sc own ρ d h A env W O s Q E hA g ok hQ
  replace h : callE c T sc own ρ f args kws = some d := h
  unfold callE at h
  split at h
  · split at h
    · rename_i x hl
      refine ex2 (lenSet?_some hl) fun p1 p2 q_272 => ?_
      obtain rfl := q_272.1
      obtain rfl := q_272.2.1
      have h1 := q_272.2.2.1
      have h2 := q_272.2.2.2
      split at h
      · rename_i ds hds
        split at h
        · rename_i ns hns
          split at h
          · rename_i hle
            obtain rfl := Option.some.inj h
            have hds := lstE_some hds
            rw [intsO_some hns] at hds
            exact lenSet_ok hc hT hst h1 h2 hds hle hA g ok hQ
          · cases h
        · cases h
      · cases h
    · split at h
      · rename_i hg
        exact plainCall_ok hc hT hst hnm (isGl_some hg) h hA g ok hQ
      · cases h
  · split at h
    · rename_i x hs
      refine ex3 (sortRev?_some hs) fun kd p1 p2 q_292 => ?_
      obtain rfl := q_292.1
      obtain rfl := q_292.2.1
      have hk := q_292.2.2.1
      have h1 := q_292.2.2.2
      split at h
      · rename_i ds hds
        split at h
        · rename_i ns hns
          split at h
          · rename_i hle
            obtain rfl := Option.some.inj h
            have hds := lstE_some hds
            rw [intsO_some hns] at hds
            rw [hk] at hQ ⊢
            exact sortRev_ok hc hT hst h1 hds hle hA g ok hQ
          · cases h
        · cases h
      · cases h
    · cases h
theorem evB_ok (hT : EvS Z prog w k (ev c n)) (hTs : TsS Z prog w k (ev c n)) (e : Expr) : EvE Z prog w k e fun pk sc own ρ => evB c (ev c n) pk sc own ρ e := by
  have hst := ev_star hc n
  cases e with
  | Constant x kd p => exact fun pk sc own ρ d h A env W O s Q E hA g ok hQ => const_ok h g fun tk v r hn => hQ s.heap tk v ⟨.refl g, r.top, fun _ => r, fun q => by exact Bool.noConfusion q⟩
  | Name x p => exact c_name hc
  | BinOp l op r p => exact c_bin hT
  | UnaryOp op x p =>
    cases op with
    | Not => exact c_not hT
    | USub => exact c_neg hT
    | _ => exact EvE.none
  | Compare l ops rs p =>
    cases ops with
    | nil => exact EvE.none
    | cons op ops =>
      cases ops with
      | cons _ _ => exact EvE.none
      | nil =>
        cases rs with
        | nil => exact EvE.none
        | cons r rs =>
          cases rs with
          | cons _ _ => exact EvE.none
          | nil =>
            cases op with
            | NotIn =>
              cases r with
              | Name t p1 => exact c_notin hc hT
              | _ => exact EvE.none
            | _ => exact c_cmp hc hT
  | BoolOp op es p => exact fun pk sc own ρ d h A env W O s Q E hA g ok hQ => bools_ok (pk := pk) hT h hA g ok fun h' tk v x r => repE hQ rfl x r
  | IfExp t a b p => exact c_if hT hTs
  | List es p => exact c_list hT hst
  | Tuple es kk p => exact c_tup hT hst
  | Subscript v i p =>
    cases i with
    | Slice lo hi st p1 =>
      cases st with
      | none => exact c_slice hT
      | some _ => exact EvE.none
    | _ => exact c_item hc hT fun _ _ _ => nofun
  | ListComp elt gens scope p => exact c_comp hc hT hTs hst
  | Call f args kws pos =>
    cases f with
    | Attribute v m apos =>
      cases v with
      | Name t p1 =>
        cases kws with
        | nil => exact c_get hc hT hst
        | cons _ _ => exact EvE.none
      | _ => exact EvE.none
    | Name f p => exact c_call hc hT hst (ev_nm hc n)
    | _ => exact EvE.none
  | _ => exact EvE.none
set_option tactic.hygienic true in
theorem ev_step (hT : EvS Z prog w k (ev c n)) (hTs : TsS Z prog w k (ev c n)) : EvS Z prog w k (ev c (n + 1)) := by
  intro pk sc own ρ e d h A env W O s Q E hA g ok hQ
  replace h : (match c.X e with
   | some H => H (ev c n) pk sc own ρ
   | none => evB c (ev c n) pk sc own ρ e) = some d := h
  split at h
  · rename_i H hH
    exact (hc.X e H hH).2 _ hT hTs (ev_star hc n) (ev_nm hc n) pk sc own ρ d h A env W O s Q E hA g ok hQ
  · exact evB_ok hc hT hTs e pk sc own ρ d h A env W O s Q E hA g ok hQ
noncomputable def TsE (Z : Par) (prog : Program) (w : World) (k : Nat) (e : Expr) (f : Bool → Nm → List Str → Rho → Option V) : Prop :=
  ∀ pk sc own ρ d b, f pk sc own ρ = some d → truth d = some b → ∀ (A : Around) (env : Env) (W O : List Addr) (s : Shared) (Q : Bool → Shared → Prop) (E : Value → Shared → Prop), GoodA k A → Gd Z s.heap → EnvOK Z W O env sc own ρ s.heap →
    (∀ h' tk, Ext Z s.heap h' → Q b { s with heap := h', toks := tk }) → wpAny (model prog w) A (isTrue e env (eval e env)) Q E s
omit hc in
set_option tactic.hygienic true in
theorem t_not (hTs : TsS Z prog w k T) {y : Expr} {p : Pos} : TsE Z prog w k (.UnaryOp .Not y p) fun pk sc own ρ => evNot T sc own ρ y := by
  intro pk sc own ρ d b h hb A env W O s Q E hA g ok hQ
  replace h : evNot T sc own ρ y = some d := h
  unfold evNot at h
  split at h
  · rename_i a ha
    split at h
    · rename_i b' hb'
      obtain rfl := Option.some.inj h
      obtain rfl := Option.some.inj hb
      exact isTrue_not (hTs _ _ _ _ _ _ _ ha hb' A env W O s _ E hA g ok fun h' tk x => hQ h' tk x)
    · cases h
  · cases h
omit hc in
set_option tactic.hygienic true in
theorem t_if (hTs : TsS Z prog w k T) {t x y : Expr} {p : Pos} : TsE Z prog w k (.IfExp t x y p) fun pk sc own ρ => evIf T sc own ρ t x y := by
  intro pk sc own ρ d b h hb A env W O s Q E hA g ok hQ
  replace h : evIf T sc own ρ t x y = some d := h
  unfold evIf at h
  split at h
  · rename_i d' hd
    refine isTrue_IfExp ?_
    split at h
    · rename_i ht
      refine hTs _ _ _ _ _ _ _ hd ht A env W O s _ E hA g ok fun h₁ tk₁ x1 => ?_
      exact hTs _ _ _ _ _ _ _ h hb A env W O { s with heap := h₁, toks := tk₁ } _ E hA (x1.gd g) (ok.ext x1) fun h₂ tk₂ x2 => hQ h₂ tk₂ (x1.trans x2)
    · rename_i ht
      refine hTs _ _ _ _ _ _ _ hd ht A env W O s _ E hA g ok fun h₁ tk₁ x1 => ?_
      exact hTs _ _ _ _ _ _ _ h hb A env W O { s with heap := h₁, toks := tk₁ } _ E hA (x1.gd g) (ok.ext x1) fun h₂ tk₂ x2 => hQ h₂ tk₂ (x1.trans x2)
    · cases h
  · cases h
set_option tactic.hygienic true in
theorem ev_stepT (hT : EvS Z prog w k (ev c n)) (hTs : TsS Z prog w k (ev c n)) (hE : EvS Z prog w k (ev c (n + 1))) : TsS Z prog w k (ev c (n + 1)) := by
  intro pk sc own ρ e d b h hb A env W O s Q E hA g ok hQ
  have plain : isTrue e env (eval e env) = (do let v ← eval e env; standAt e.pos; holding [v] (truthy v)) → wpAny (model prog w) A (isTrue e env (eval e env)) Q E s := fun he =>
    isTrue_plain (hE _ _ _ _ _ _ h A env W O s _ E hA g ok fun h' tk v q => truth_ok hb q.top (hQ h' tk q.ext)) he
  cases e <;> first | exact plain rfl | skip
  · rename_i op es pos
    rw [ev_at hc (by intros; nofun)] at h
    exact boolsT_ok hT hTs h hb hA g ok hQ
  · rename_i op x pos
    cases op <;> first | exact plain rfl | skip
    rw [ev_at hc (by intros; nofun)] at h
    exact t_not hTs pk sc own ρ d b h hb A env W O s Q E hA g ok hQ
  · rename_i t x y pos
    rw [ev_at hc (by intros; nofun)] at h
    exact t_if hTs pk sc own ρ d b h hb A env W O s Q E hA g ok hQ
  · rename_i l ops cs pos
    have h0 := h
    rw [ev_at hc (by intros; nofun)] at h
    replace h : evCmp c (ev c n) sc own ρ l ops cs = some d := h
    cases ops with
    | nil => cases h
    | cons op ops =>
      cases ops with
      | cons op2 ops => cases h
      | nil =>
        cases cs with
        | nil => cases h
        | cons r rs =>
          cases rs with
          | cons r2 rs => cases h
          | nil => exact isTrue_Compare (hE _ _ _ _ _ _ h0 A env W O s _ E hA g ok fun h' tk v q => truth_ok hb q.top (hQ h' tk q.ext))
end

theorem ev_ok (hc : CxOK Z prog w k c) : ∀ n, EvS Z prog w k (ev c n) ∧ TsS Z prog w k (ev c n)
  | 0 => ⟨fun _ _ _ _ _ _ h => (by cases h), fun _ _ _ _ _ _ _ h => (by cases h)⟩
  | n + 1 =>
    have ih := ev_ok hc n
    have h1 := ev_step hc ih.1 ih.2
    ⟨h1, ev_stepT hc ih.1 ih.2 h1⟩
end
end Mine

-- MP
set_option maxRecDepth 10000
namespace Mine
set_option tactic.hygienic false

noncomputable def put (x : Str) (d : V) (ρ : Rho) : Rho := (x, d) :: ρ.filter fun p => p.1 != x
theorem lookup_put (x : Str) (d : V) (ρ : Rho) (z : Str) : (put x d ρ).lookup z = if z = x then some d else ρ.lookup z := by
  unfold put
  rw [List.lookup_cons]
  by_cases q : z = x
  · subst q; simp
  · have : (z == x) = false := by simpa using q
    rw [this, if_neg q]
    rw [lookup_filter (fun y => y != x)]
    have : (z != x) = true := by simpa using q
    rw [this]; rfl

structure FunEnv (Z : Par) (g : Heap) (env : Env) (sc : Nm) : Prop where
  kind : env.scope.kind = .function
  glob : env.globals = mainGlobals
  blt : env.builtins = builtinsNs
  nodbg : sc.lookup ("__debug__" : Str) = none
  nocd : sc.lookup ("__classdict__" : Str) = none
  gk : ∀ x, sc.lookup x = some .globalImplicit → env.kindOf x = some .globalImplicit
  newL : g.get? env.locals = none
  kinds : ∀ x k, sc.lookup x = some k → k = .local ∨ k = .cell ∨ k = .globalImplicit
  loc : ∀ x, sc.lookup x = some .local → env.kindOf x = some .local
  cel : ∀ x, sc.lookup x = some .cell → env.kindOf x = some .cell ∧ ∃ c, env.cells.lookup x = some c ∧ g.get? c = none
  inj : ∀ x y c, sc.lookup x = some .cell → sc.lookup y = some .cell → env.cells.lookup x = some c → env.cells.lookup y = some c → x = y

noncomputable abbrev Om := List (Str × Addr)
structure StOK (Z : Par) (g : Heap) (env : Env) (sc : Nm) (O₀ O : List Addr) (om : Om) (ρ : Rho) (h : Heap) : Prop where
  fe : FunEnv Z g env sc
  ext : Ext Z g h
  ns : ∃ m, h.Ns env.locals m
  cells : ∀ x c, sc.lookup x = some .cell → env.cells.lookup x = some c → ∃ v, h.IsCell c v
  o0 : ∀ a ∈ O₀, a ∈ O
  o0g : OIn O₀ g
  oin : OIn O h
  onew : ∀ a ∈ O, g.get? a = none ∨ a ∈ O₀
  omO : ∀ p ∈ om, p.2 ∈ O ∧ g.get? p.2 = none
  nd1 : (om.map (·.1)).Nodup
  nd2 : (om.map (·.2)).Nodup
  var : ∀ x k d, sc.lookup x = some k → k ≠ .globalImplicit → x ∉ om.map (·.1) → ρ.lookup x = some d → ∃ v, VarIn env h x v ∧ Rep O h v d
  own : ∀ p ∈ om, (∃ k, sc.lookup p.1 = some k ∧ k ≠ .globalImplicit) ∧ ∃ ds vs, ρ.lookup p.1 = some (.lst ds) ∧ VarIn env h p.1 (.ref p.2) ∧ h.PlainList p.2 vs.toArray ∧ Reps O h vs ds

noncomputable def Mut (env : Env) (sc : Nm) (om : Om) (a : Addr) : Prop := a = env.locals ∨ (∃ x, sc.lookup x = some .cell ∧ env.cells.lookup x = some a) ∨ a ∈ om.map (·.2)
structure Stp (Z : Par) (env : Env) (sc : Nm) (om om' : Om) (h h' : Heap) : Prop where
  keep : ∀ b o, h.get? b = some o → b ≠ Z.P → ¬ Mut env sc om b → h'.get? b = some o
  new : ∀ a ∈ om'.map (·.2), a ∈ om.map (·.2) ∨ h.get? a = none
  more : ∀ b, (h.get? b).isSome = true → (h'.get? b).isSome = true

section
variable {Z : Par} {g h h' h₁ h₂ h₃ : Heap} {env : Env} {sc : Nm} {O₀ O : List Addr} {om om₁ om₂ om₃ : Om} {ρ : Rho}

theorem Stp.refl : Stp Z env sc om om h h := ⟨fun _ _ e _ _ => e, fun _ ha => .inl ha, fun _ e => e⟩
theorem Stp.trans (x : Stp Z env sc om₁ om₂ h₁ h₂) (y : Stp Z env sc om₂ om₃ h₂ h₃) : Stp Z env sc om₁ om₃ h₁ h₃ where
  keep := fun b o e hP hm => y.keep b o (x.keep b o e hP hm) hP fun q => by
    rcases q with q | q | q
    · exact hm (.inl q)
    · exact hm (.inr (.inl q))
    · rcases x.new b q with q | q
      · exact hm (.inr (.inr q))
      · rw [q] at e; cases e
  new := fun a ha => by
    rcases y.new a ha with q | q
    · exact x.new a q
    · right
      cases e : h₁.get? a with
      | none => rfl
      | some o => have := x.more a (by rw [e]; rfl); rw [q] at this; exact Bool.noConfusion this
  more := fun b e => y.more b (x.more b e)
theorem Ext.stp (x : Ext Z h h') : Stp Z env sc om om h h' := ⟨fun b o e hP _ => x.keep b o hP e, fun _ ha => .inl ha, fun _ e => x.kSome e⟩
theorem Stp.lessR (x : Stp Z env sc om om₁ h h') (hs : ∀ a ∈ om₂.map (·.2), a ∈ om₁.map (·.2)) : Stp Z env sc om om₂ h h' := ⟨x.keep, fun a ha => x.new a (hs a ha), x.more⟩

theorem StOK.toEnv (x : StOK Z g env sc O₀ O om ρ h) : EnvOK Z (om.map (·.2)) O env sc (om.map (·.1)) ρ h where
  kind := x.fe.kind
  glob := x.fe.glob
  blt := x.fe.blt
  win := fun a ha => by
    obtain ⟨p, hp, rfl⟩ := List.mem_map.mp ha
    obtain ⟨_, ds, vs, _, _, ⟨n, e⟩, _⟩ := x.own p hp
    rw [e]; rfl
  oin := x.oin
  nodbg := x.fe.nodbg
  nocd := x.fe.nocd
  gk := x.fe.gk
  ck := fun z hz => by
    rcases hz with hz | hz
    · exact .inl (x.fe.cel z hz).1
    · rcases x.fe.kinds z _ hz with h | h | h <;> cases h
  var := fun z k d h1 h2 h3 => by
    cases q : (om.map (·.1)).contains z with
    | false => exact x.var z k d h1 h2 (by simpa using q) h3
    | true =>
      obtain ⟨p, hp, rfl⟩ := List.mem_map.mp (List.contains_iff_mem.mp q)
      obtain ⟨_, ds, vs, e, hv, hl, r⟩ := x.own p hp
      rw [h3] at e; obtain rfl := Option.some.inj e
      exact ⟨_, hv, ⟨p.2, vs, ds, rfl, rfl, List.mem_map.mpr ⟨p, hp, rfl⟩, hl, r⟩⟩

theorem StOK.grown (x : StOK Z g env sc O₀ O om ρ h) (y : Ext Z h h') : StOK Z g env sc O₀ O om ρ h' :=
  ⟨x.fe, x.ext.trans y, let ⟨m, n⟩ := x.ns; ⟨m, y.ns n⟩, fun z c h1 h2 => let ⟨v, n⟩ := x.cells z c h1 h2; ⟨v, y.cell n⟩, x.o0, x.o0g, fun a ha => y.kSome (x.oin a ha), x.onew, x.omO, x.nd1, x.nd2,
    fun z k d h1 h2 h3 h4 => let ⟨v, a, r⟩ := x.var z k d h1 h2 h3 h4; ⟨v, y.varIn a, y.rep r⟩,
    fun p hp => let ⟨a, ds, vs, e, hv, hl, r⟩ := x.own p hp; ⟨a, ds, vs, e, y.varIn hv, y.plain hl, y.reps r⟩⟩

theorem StOK.moreO {a : Addr} (x : StOK Z g env sc O₀ O om ρ h) (y : Ext Z h h') (ha : h.get? a = none) (ha' : (h'.get? a).isSome = true) : StOK Z g env sc O₀ (a :: O) om ρ h' :=
  ⟨x.fe, x.ext.trans y, let ⟨m, n⟩ := x.ns; ⟨m, y.ns n⟩, fun z c h1 h2 => let ⟨v, n⟩ := x.cells z c h1 h2; ⟨v, y.cell n⟩, fun b hb => List.mem_cons_of_mem _ (x.o0 b hb), x.o0g,
    fun b hb => (List.mem_cons.mp hb).elim (fun q => by rw [q]; exact ha') fun hb => y.kSome (x.oin b hb),
    fun b hb => (List.mem_cons.mp hb).elim (fun q => .inl (by rw [q]; exact x.ext.kNone ha)) fun hb => x.onew b hb,
    fun p hp => ⟨List.mem_cons_of_mem _ (x.omO p hp).1, (x.omO p hp).2⟩, x.nd1, x.nd2,
    fun z k d h1 h2 h3 h4 => let ⟨v, a, r⟩ := x.var z k d h1 h2 h3 h4; ⟨v, y.varIn a, y.rep (r.more ha)⟩,
    fun p hp => let ⟨a, ds, vs, e, hv, hl, r⟩ := x.own p hp; ⟨a, ds, vs, e, y.varIn hv, y.plain hl, y.reps (r.more ha)⟩⟩

theorem nodup_one {α β : Type} : ∀ {l : List (α × β)}, (l.map (·.1)).Nodup → ∀ {p q : α × β}, p ∈ l → q ∈ l → p.1 = q.1 → p = q
  | x :: l, hn, p, q, hp, hq, e => by
    rw [List.map_cons, List.nodup_cons] at hn
    rcases List.mem_cons.mp hp with h1 | h1 <;> rcases List.mem_cons.mp hq with h2 | h2
    · rw [h1, h2]
    · subst h1; exact absurd (List.mem_map.mpr ⟨q, h2, e.symm⟩) hn.1
    · subst h2; exact absurd (List.mem_map.mpr ⟨p, h1, e⟩) hn.1
    · exact nodup_one hn.2 h1 h2 e
theorem nodup_two {α β : Type} : ∀ {l : List (α × β)}, (l.map (·.2)).Nodup → ∀ {p q : α × β}, p ∈ l → q ∈ l → p.2 = q.2 → p = q
  | x :: l, hn, p, q, hp, hq, e => by
    rw [List.map_cons, List.nodup_cons] at hn
    rcases List.mem_cons.mp hp with h1 | h1 <;> rcases List.mem_cons.mp hq with h2 | h2
    · rw [h1, h2]
    · subst h1; exact absurd (List.mem_map.mpr ⟨q, h2, e.symm⟩) hn.1
    · subst h2; exact absurd (List.mem_map.mpr ⟨p, h1, e⟩) hn.1
    · exact nodup_two hn.2 h1 h2 e
theorem nodup_filter {α β γ : Type} (f : α × β → γ) (p : α × β → Bool) {l : List (α × β)} (h : (l.map f).Nodup) : ((l.filter p).map f).Nodup := h.sublist (List.filter_sublist.map f)

theorem StOK.disown (x : StOK Z g env sc O₀ O om ρ h) (p : Str → Bool) : ∃ O', StOK Z g env sc O₀ O' (om.filter fun q => p q.1) ρ h ∧ (∀ a ∈ O', a ∈ O) ∧ ∀ a ∈ O, a ∉ om.map (·.2) → a ∈ O' := by
  refine ⟨O.filter fun a => !((om.filter fun q => !p q.1).map (·.2)).contains a, ⟨x.fe, x.ext, x.ns, x.cells, fun a ha => ?_, x.o0g, fun a ha => x.oin a (List.mem_filter.mp ha).1, fun a ha => x.onew a (List.mem_filter.mp ha).1, fun q hq => ?_,
    nodup_filter _ _ x.nd1, nodup_filter _ _ x.nd2, fun z k d h1 h2 h3 h4 => ?_, fun q hq => ?_⟩, fun a ha => (List.mem_filter.mp ha).1, fun a ha hn => List.mem_filter.mpr ⟨ha, ?_⟩⟩
  · refine List.mem_filter.mpr ⟨x.o0 a ha, ?_⟩
    rw [Bool.not_eq_true', Bool.eq_false_iff]
    intro hc
    obtain ⟨q', hq', e⟩ := List.mem_map.mp (List.contains_iff_mem.mp hc)
    have h1 := (x.omO q' (List.mem_filter.mp hq').1).2
    have h2 := x.o0g a ha
    rw [← e, h1] at h2; exact Bool.noConfusion h2
  · obtain ⟨hq, hp⟩ := List.mem_filter.mp hq
    refine ⟨List.mem_filter.mpr ⟨(x.omO q hq).1, ?_⟩, (x.omO q hq).2⟩
    rw [Bool.not_eq_true', Bool.eq_false_iff]
    intro hc
    obtain ⟨q', hq', e⟩ := List.mem_map.mp (List.contains_iff_mem.mp hc)
    obtain ⟨hq', hp'⟩ := List.mem_filter.mp hq'
    have := nodup_two x.nd2 hq' hq e
    subst this
    rw [hp] at hp'; exact Bool.noConfusion hp'
  · by_cases hz : z ∈ om.map (·.1)
    · obtain ⟨q, hq, rfl⟩ := List.mem_map.mp hz
      have hpq : p q.1 = false := by
        cases e : p q.1 with
        | false => rfl
        | true => exact absurd (List.mem_map.mpr ⟨q, List.mem_filter.mpr ⟨hq, e⟩, rfl⟩) h3
      obtain ⟨_, ds, vs, e, hv, hl, r⟩ := x.own q hq
      rw [h4] at e; obtain rfl := Option.some.inj e
      refine ⟨_, hv, .lst (fun hm => ?_) hl (r.lessO fun a ha => (List.mem_filter.mp ha).1)⟩
      have := (List.mem_filter.mp hm).2
      rw [Bool.not_eq_true', Bool.eq_false_iff] at this
      exact this (List.contains_iff_mem.mpr (List.mem_map.mpr ⟨q, List.mem_filter.mpr ⟨hq, by simp [hpq]⟩, rfl⟩))
    · obtain ⟨v, hv, r⟩ := x.var z k d h1 h2 hz h4
      exact ⟨v, hv, r.lessO fun a ha => (List.mem_filter.mp ha).1⟩
  · obtain ⟨hq, hp⟩ := List.mem_filter.mp hq
    obtain ⟨a, ds, vs, e, hv, hl, r⟩ := x.own q hq
    exact ⟨a, ds, vs, e, hv, hl, r.lessO fun a ha => (List.mem_filter.mp ha).1⟩
  · rw [Bool.not_eq_true', Bool.eq_false_iff]
    intro hc
    obtain ⟨q', hq', e⟩ := List.mem_map.mp (List.contains_iff_mem.mp hc)
    exact hn (List.mem_map.mpr ⟨q', (List.mem_filter.mp hq').1, e⟩)

structure Wrote (Z : Par) (g : Heap) (env : Env) (sc : Nm) (x : Str) (v : Value) (h h' : Heap) : Prop where
  sk : StoreKeep h h'
  ext : ∀ {h₀}, Ext Z h₀ h → h₀.get? env.locals = none → (∀ c, sc.lookup x = some .cell → env.cells.lookup x = some c → h₀.get? c = none) → Ext Z h₀ h'
  ns : ∃ m, h'.Ns env.locals m
  cells : ∀ y c, sc.lookup y = some .cell → env.cells.lookup y = some c → ∃ v, h'.IsCell c v
  at_ : VarIn env h' x v
  other : ∀ y w k, y ≠ x → sc.lookup y = some k → k ≠ .globalImplicit → VarIn env h y w → VarIn env h' y w
  stp : ∀ b o, h.get? b = some o → ¬ Mut env sc [] b → h'.get? b = some o

theorem store_at {M : Model} {A : Around} {E : Value → Shared → Prop} {s : Shared} {x : Str} {v : Value} {Q : Unit → Shared → Prop} (fe : FunEnv Z g env sc) (hns : ∃ m, s.heap.Ns env.locals m)
    (hcells : ∀ x c, sc.lookup x = some .cell → env.cells.lookup x = some c → ∃ v, s.heap.IsCell c v) (hx : sc.lookup x = some .local ∨ sc.lookup x = some .cell)
    (hQ : ∀ h' tk, Wrote Z g env sc x v s.heap h' → Q () { s with heap := h', toks := tk }) : wpAny M A (storeName env x v) Q E s := by
  obtain ⟨m, hns⟩ := hns
  have hk : (env.scope.kind == .class || (env.scope.kind == .module && env.locals != env.globals)) = false := by rw [fe.kind]; rfl
  have place : ∀ {y w k}, sc.lookup y = some k → k ≠ .globalImplicit → VarIn env s.heap y w → (sc.lookup y = some .local ∧ ∃ m, s.heap.Ns env.locals m ∧ m y = some w) ∨ (sc.lookup y = some .cell ∧ ∃ c, env.cells.lookup y = some c ∧ s.heap.IsCell c (some w)) := by
    intro y w k h1 h2 hv
    rcases fe.kinds y k h1 with rfl | rfl | rfl
    · rcases hv with ⟨_, m, n, e⟩ | ⟨q, _⟩
      · exact .inl ⟨h1, m, n, e⟩
      · rw [fe.loc y h1] at q; rcases q with q | q <;> cases q
    · rcases hv with ⟨q, _⟩ | ⟨_, c, e, n⟩
      · rw [(fe.cel y h1).1] at q; cases q
      · exact .inr ⟨h1, c, e, n⟩
    · exact absurd rfl h2
  rcases hx with hx | hx
  · refine wpAny_storeName_local (fe.loc x hx) hns (fun h' hn' sb => ?_) hk
    have cellUp : ∀ {c : Addr} {v : Option Value}, s.heap.IsCell c v → h'.IsCell c v := fun {c v} n => n.sameBut sb fun q => by
      subst q
      obtain ⟨o, e, hd⟩ := n
      obtain ⟨es, k, q⟩ := ns_dict hns o e
      rw [hd] at q; cases q
    refine hQ h' _ ⟨⟨_, sb, fun o e => .inl (ns_dict hns o e), ns_some hn'⟩, fun y h1 _ => y.but sb.extBut h1 fun o e vs q t d => ?_, ⟨_, hn'⟩, fun y c h1 h2 => let ⟨v, n⟩ := hcells y c h1 h2; ⟨v, cellUp n⟩, .inl ⟨fe.loc x hx, _, hn', by simp⟩, ?_, fun b o e hm => sb.extBut b o (fun q => hm (.inl q)) e⟩
    · obtain ⟨es, n, d2⟩ := ns_dict hns o e; rw [d] at d2; cases d2
    · intro y w k hne h1 h2 hw
      rcases place h1 h2 hw with ⟨q, m', n', e⟩ | ⟨q, c', e1, e2⟩
      · refine .inl ⟨fe.loc y q, _, hn', ?_⟩
        simp only [if_neg hne]
        rw [ns_one hns n']; exact e
      · exact .inr ⟨.inl (fe.cel y q).1, c', e1, cellUp e2⟩
  · obtain ⟨hkc, c', hc, hc'⟩ := fe.cel x hx
    obtain ⟨v0, hv0⟩ := hcells x c' hx hc
    refine wpAny_storeName_cell fe.kind hkc hc hv0 fun h' hv' sb => ?_
    have nsUp : ∀ {m : Str → Option Value}, s.heap.Ns env.locals m → h'.Ns env.locals m := fun n => n.sameBut sb fun q => by
      obtain ⟨o, es, ep, e, hd, _⟩ := n
      rw [q] at e
      obtain ⟨v, q⟩ := cell_cell hv0 o e
      rw [hd] at q; cases q
    refine hQ h' _ ⟨⟨_, sb, fun o e => .inr (cell_cell hv0 o e), cell_some hv'⟩, fun y _ h2 => y.but sb.extBut (h2 c' hx hc) fun o e vs q t d => ?_, ⟨_, nsUp hns⟩, ?_, .inr ⟨.inl hkc, c', hc, hv'⟩, ?_, fun b o e hm => sb.extBut b o (fun q => hm (.inr (.inl ⟨x, hx, q ▸ hc⟩))) e⟩
    · obtain ⟨v, d2⟩ := cell_cell hv0 o e; rw [d] at d2; cases d2
    · intro y c h1 h2
      by_cases q : c = c'
      · subst q; exact ⟨_, hv'⟩
      · obtain ⟨v, n⟩ := hcells y c h1 h2; exact ⟨v, n.sameBut sb q⟩
    · intro y w k hne h1 h2 hw
      rcases place h1 h2 hw with ⟨q, m', n', e⟩ | ⟨q, c2, e1, e2⟩
      · exact .inl ⟨fe.loc y q, m', nsUp n', e⟩
      · exact .inr ⟨.inl (fe.cel y q).1, c2, e1, e2.sameBut sb fun z => hne (fe.inj y x c' q hx (z ▸ e1) hc)⟩

theorem StOK.wrote {x : Str} {v : Value} (y : StOK Z g env sc O₀ O om ρ h) (hx : x ∉ om.map (·.1)) (w : Wrote Z g env sc x v h h') {d : V} (r : Rep O h v d) : StOK Z g env sc O₀ O om (put x d ρ) h' where
  fe := y.fe
  ext := w.ext y.ext y.fe.newL fun c h1 h2 => by obtain ⟨_, c', e, n⟩ := y.fe.cel x h1; rw [h2] at e; obtain rfl := Option.some.inj e; exact n
  ns := w.ns
  cells := w.cells
  o0 := y.o0
  o0g := y.o0g
  oin := fun a ha => w.sk.some (y.oin a ha)
  onew := y.onew
  omO := y.omO
  nd1 := y.nd1
  nd2 := y.nd2
  var := fun z k d' h1 h2 h3 h4 => by
    have wx : Wx [] O h h' := w.sk.wx
    rw [lookup_put] at h4
    split at h4
    · rename_i q; subst q; obtain rfl := Option.some.inj h4; exact ⟨v, w.at_, wx.rep r⟩
    · rename_i q
      obtain ⟨u, hu, r⟩ := y.var z k d' h1 h2 h3 h4
      exact ⟨u, w.other z u k q h1 h2 hu, wx.rep r⟩
  own := fun p hp => by
    have wx : Wx [] O h h' := w.sk.wx
    obtain ⟨⟨k, hk, hk2⟩, ds, vs, e, hv, ⟨n, hl⟩, r⟩ := y.own p hp
    have hne : p.1 ≠ x := fun q => hx (List.mem_map.mpr ⟨p, hp, q⟩)
    refine ⟨⟨k, hk, hk2⟩, ds, vs, by rw [lookup_put, if_neg hne]; exact e, w.other _ _ k hne hk hk2 hv, ⟨n, w.sk.obj hl (.inl ⟨_, _, rfl⟩)⟩, wx.reps r⟩
theorem StOK.wroteOwn {x : Str} {a : Addr} (y : StOK Z g env sc O₀ O om ρ h) (hx : x ∉ om.map (·.1)) (ha : a ∈ O) (ha' : a ∉ om.map (·.2)) (hg : g.get? a = none) (hk : ∃ k, sc.lookup x = some k ∧ k ≠ .globalImplicit) (w : Wrote Z g env sc x (.ref a) h h') {ds : List V} {vs : List Value} (hl : h.PlainList a vs.toArray)
    (r : Reps O h vs ds) : StOK Z g env sc O₀ O ((x, a) :: om) (put x (.lst ds) ρ) h' where
  fe := y.fe
  ext := w.ext y.ext y.fe.newL fun c h1 h2 => by obtain ⟨_, c', e, n⟩ := y.fe.cel x h1; rw [h2] at e; obtain rfl := Option.some.inj e; exact n
  ns := w.ns
  cells := w.cells
  o0 := y.o0
  o0g := y.o0g
  oin := fun a ha => w.sk.some (y.oin a ha)
  onew := y.onew
  omO := fun p hp => by
    rcases List.mem_cons.mp hp with q | hp
    · subst q; exact ⟨ha, hg⟩
    · exact y.omO p hp
  nd1 := by rw [List.map_cons, List.nodup_cons]; exact ⟨hx, y.nd1⟩
  nd2 := by rw [List.map_cons, List.nodup_cons]; exact ⟨ha', y.nd2⟩
  var := fun z k d' h1 h2 h3 h4 => by
    have wx : Wx [] O h h' := w.sk.wx
    rw [List.map_cons, List.mem_cons, not_or] at h3
    rw [lookup_put, if_neg h3.1] at h4
    obtain ⟨u, hu, r⟩ := y.var z k d' h1 h2 h3.2 h4
    exact ⟨u, w.other z u k h3.1 h1 h2 hu, wx.rep r⟩
  own := fun p hp => by
    have wx : Wx [] O h h' := w.sk.wx
    rcases List.mem_cons.mp hp with q | hp
    · subst q
      obtain ⟨n, hl⟩ := hl
      exact ⟨hk, ds, vs, by rw [lookup_put, if_pos rfl], w.at_, ⟨n, w.sk.obj hl (.inl ⟨_, _, rfl⟩)⟩, wx.reps r⟩
    · obtain ⟨⟨k, hk, hk2⟩, ds, vs, e, hv, ⟨n, hl⟩, r⟩ := y.own p hp
      have hne : p.1 ≠ x := fun q => hx (List.mem_map.mpr ⟨p, hp, q⟩)
      refine ⟨⟨k, hk, hk2⟩, ds, vs, by rw [lookup_put, if_neg hne]; exact e, w.other _ _ k hne hk hk2 hv, ⟨n, w.sk.obj hl (.inl ⟨_, _, rfl⟩)⟩, wx.reps r⟩
theorem Wrote.stp' {x : Str} {v : Value} (w : Wrote Z g env sc x v h h') : Stp Z env sc om om h h' :=
  ⟨fun b o e _ hm => w.stp b o e fun q => hm (q.elim .inl fun q => q.elim (fun q => .inr (.inl q)) fun q => absurd q (by simp)), fun a ha => .inl ha, fun b e => w.sk.some e⟩

theorem StOK.turned {x : Str} {a : Addr} (y : StOK Z g env sc O₀ O om ρ h) (hm : (x, a) ∈ om) (sb : Heap.SameBut a h h') {ds : List V} {vs : List Value} (hl : h'.PlainList a vs.toArray) (r : Reps O h vs ds) : StOK Z g env sc O₀ O om (put x (.lst ds) ρ) h' ∧ Stp Z env sc om om h h' := by
  obtain ⟨haO, hga⟩ := y.omO _ hm
  obtain ⟨⟨k0, hk0, hkg0⟩, _, vs0, _, hv0, ⟨n0, hl0⟩, _⟩ := y.own _ hm
  have wx : Wx [] O h h' := .but sb.extBut fun _ _ => .inr ⟨haO, fun h => nomatch h⟩
  have aC : ∀ c v, h.IsCell c v → c ≠ a := fun c v n q => by obtain ⟨o, e, d⟩ := n; rw [q, hl0] at e; cases e; cases d
  have aL : env.locals ≠ a := fun q => by obtain ⟨m, n⟩ := y.ns; obtain ⟨es, k, d⟩ := ns_dict n _ (by rw [q]; exact hl0); cases d
  have varUp : ∀ {z w}, VarIn env h z w → VarIn env h' z w := fun {z w} hv => by
    rcases hv with ⟨q, m, n, e⟩ | ⟨q, c, e1, e2⟩
    · exact .inl ⟨q, m, n.sameBut sb aL, e⟩
    · exact .inr ⟨q, c, e1, e2.sameBut sb (aC _ _ e2)⟩
  have some' : ∀ b, (h.get? b).isSome = true → (h'.get? b).isSome = true := fun b e => by
    by_cases q : b = a
    · rw [q]; obtain ⟨n, e⟩ := hl; rw [e]; rfl
    · rw [sb.2 b q]; exact e
  refine ⟨⟨y.fe, y.ext.but sb.extBut hga fun o e vs q t d => by (rw [hl0] at e; cases e; cases d), let ⟨m, n⟩ := y.ns; ⟨m, n.sameBut sb aL⟩, fun z c h1 h2 => let ⟨v, n⟩ := y.cells z c h1 h2; ⟨v, n.sameBut sb (aC _ _ n)⟩, y.o0, y.o0g, fun b hb => some' b (y.oin b hb), y.onew, y.omO, y.nd1, y.nd2, ?_, ?_⟩,
    fun b o e _ hmu => sb.extBut b o (fun q => hmu (.inr (.inr (by rw [q]; exact List.mem_map.mpr ⟨_, hm, rfl⟩)))) e, fun b hb => .inl hb, some'⟩
  · intro z k d h1 h2 h3 h4
    have hne : z ≠ x := fun q => h3 (by rw [q]; exact List.mem_map.mpr ⟨_, hm, rfl⟩)
    rw [lookup_put, if_neg hne] at h4
    obtain ⟨u, hu, r⟩ := y.var z k d h1 h2 h3 h4
    exact ⟨u, varUp hu, wx.rep r⟩
  · intro p hp
    obtain ⟨hk, ds', vs', e, hv, ⟨n, hl'⟩, r'⟩ := y.own p hp
    by_cases q : p.1 = x
    · have := nodup_one y.nd1 hp hm q
      subst this
      exact ⟨hk, ds, vs, by rw [lookup_put, if_pos rfl], varUp hv, hl, wx.reps r⟩
    · have q2 : p.2 ≠ a := fun q2 => q (by have := nodup_two y.nd2 hp hm q2; rw [this])
      exact ⟨hk, ds', vs', by rw [lookup_put, if_neg q]; exact e, varUp hv, ⟨n, sb.extBut _ _ q2 hl'⟩, wx.reps r'⟩
end
end Mine

-- MQ
set_option maxRecDepth 10000
namespace Mine
set_option tactic.hygienic false

structure SS where
  own : List Str
  ρ : Rho
noncomputable abbrev Res := Option (SS × Option V)
noncomputable abbrev Blk := List Stmt → SS → Res

noncomputable def okVar (sc : Nm) (x : Str) : Bool := sc.lookup x == some .local || sc.lookup x == some .cell
noncomputable def nameOf : Expr → List Str
  | .Name x _ => [x]
  | _ => []
set_option backward.match.sparseCases false in
noncomputable def leaks1 : Expr → List Str
  | .Name x _ => [x]
  | .List es _ => es.flatMap nameOf
  | .Tuple es _ _ => es.flatMap nameOf
  | _ => []
noncomputable def drops (e : Expr) (own : List Str) : List Str := own.filter fun x => !(leaks1 e).contains x
noncomputable def less (x : Str) (own : List Str) : List Str := own.filter (· != x)
noncomputable def isLst : V → Bool
  | .lst _ => true
  | _ => false
noncomputable def stash (mu : List Str) (x : Str) (fr : Bool) (d : V) (st : SS) : SS :=
  if fr && mu.contains x && isLst d then ⟨x :: less x st.own, put x d st.ρ⟩ else ⟨less x st.own, put x d st.ρ⟩
noncomputable def storeAll (sc : Nm) : List Str → List V → SS → Option SS
  | [], [], st => some st
  | x :: xs, d :: ds, st => if okVar sc x then storeAll sc xs ds ⟨less x st.own, put x d st.ρ⟩ else none
  | _, _, _ => none
noncomputable def swapB (sc : Nm) (x y : Str) (px py : Pos) (e1 e2 : Expr) : Bool := sc.lookup x == some .local && sc.lookup y == some .local && py.line == px.line && ![e1, e2].all (foldedForSure 8)
noncomputable def setI (x : Str) (i d : V) (st : SS) : Option SS := if st.own.contains x then (match st.ρ.lookup x, i with
  | some (.lst ds), .int k => if 0 ≤ k ∧ k < ds.length ∧ ds.length ≤ 100000 then some ⟨st.own, put x (.lst (ds.set k.toNat d)) st.ρ⟩ else none
  | _, _ => none) else none
noncomputable def iop : Operator → V → V → Option V
  | .Add, .int a, .int b => some (.int (a + b))
  | .Sub, .int a, .int b => some (.int (a - b))
  | .Add, .str a, .str b => mkS (a ++ b)
  | _, _, _ => none
noncomputable def notSet : Expr → Bool
  | .Set .. => false
  | _ => true
noncomputable def forL (sc : Nm) (x : Str) (K : SS → Res) : List V → SS → Res
  | [], st => some (st, none)
  | d :: r, st => match K ⟨less x st.own, put x d st.ρ⟩ with
    | some (st', none) => forL sc x K r st'
    | o => o
noncomputable def testE (T : Evl) (sc : Nm) (e : Expr) (st : SS) : Option Bool := match T true sc st.own st.ρ e with
  | some d => truth d
  | none => none
noncomputable def whl (T : Evl) (sc : Nm) (test : Expr) (K : SS → Res) : Nat → SS → Res
  | 0, _ => none
  | n + 1, st => match testE T sc test st with
    | some true => (match K st with
      | some (st', none) => whl T sc test K n st'
      | o => o)
    | some false => some (st, none)
    | none => none
noncomputable def appendE (T : Evl) (sc : Nm) (x : Str) (e : Expr) (st : SS) : Option SS := if (drops e st.own).contains x then (match T false sc (drops e st.own) st.ρ e, st.ρ.lookup x with
  | some d, some (.lst ds) => if ds.length ≤ 100000 then some ⟨drops e st.own, put x (.lst (ds ++ [d])) st.ρ⟩ else none
  | _, _ => none) else none
noncomputable def insertE (T : Evl) (sc : Nm) (x : Str) (i e : Expr) (st : SS) : Option SS := if st.own.contains x then (match T true sc st.own st.ρ i, T false sc st.own st.ρ e, st.ρ.lookup x with
  | some (.int k), some d, some (.lst ds) => if 0 ≤ k ∧ k ≤ ds.length ∧ ds.length ≤ 100000 then some ⟨st.own, put x (.lst (ds.take k.toNat ++ d :: ds.drop k.toNat)) st.ρ⟩ else none
  | _, _, _ => none) else none

noncomputable def stName (T : Evl) (mu : List Str) (sc : Nm) (x : Str) (e : Expr) (st : SS) : Res := if okVar sc x then (match T false sc (drops e st.own) st.ρ e with
      | some d => some (stash mu x (isFresh e) d ⟨drops e st.own, st.ρ⟩, none)
      | none => none) else none
noncomputable def stTwo (T : Evl) (mu : List Str) (sc : Nm) (x y : Str) (px py : Pos) (e1 e2 : Expr) (st : SS) : Res := if okVar sc x && okVar sc y && x != y && ![e1, e2].all (constantsAlone 8) then (match T false sc st.own st.ρ e1, T false sc st.own st.ρ e2 with
      | some d1, some d2 => if swapB sc x y px py e1 e2 then some (stash mu x (isFresh e1) d1 (stash mu y (isFresh e2) d2 st), none) else some (stash mu y (isFresh e2) d2 (stash mu x (isFresh e1) d1 st), none)
      | _, _ => none) else none
noncomputable def stMany (T : Evl) (sc : Nm) (es : List Expr) (e : Expr) (st : SS) : Res := match namesIn? es, T false sc (drops e st.own) st.ρ e with
      | some xs, some (.lst ds) => (match storeAll sc xs ds ⟨drops e st.own, st.ρ⟩ with
        | some st' => some (st', none)
        | none => none)
      | _, _ => none
noncomputable def stItem (T : Evl) (sc : Nm) (x : Str) (i e : Expr) (st : SS) : Res := match T false sc st.own st.ρ e, T true sc st.own st.ρ i with
      | some d, some k => (setI x k d st).map (·, none)
      | _, _ => none
noncomputable def stItem2 (T : Evl) (sc : Nm) (x y : Str) (i j e : Expr) (st : SS) : Res := match T false sc st.own st.ρ e, T true sc st.own st.ρ i with
      | some d, some k => (match setI x k d st with
        | some st' => (match T true sc st'.own st'.ρ j with
          | some k' => (setI y k' d st').map (·, none)
          | none => none)
        | none => none)
      | _, _ => none
noncomputable def stAugN (T : Evl) (sc : Nm) (x : Str) (op : Operator) (e : Expr) (st : SS) : Res := if okVar sc x && !st.own.contains x then (match st.ρ.lookup x, T true sc st.own st.ρ e with
      | some a, some b => (iop op a b).map fun d => (⟨st.own, put x d st.ρ⟩, none)
      | _, _ => none) else none
noncomputable def stAugI (T : Evl) (sc : Nm) (x : Str) (i : Expr) (op : Operator) (e : Expr) (st : SS) : Res := match T true sc st.own st.ρ i, st.ρ.lookup x, T true sc st.own st.ρ e with
      | some k, some l, some b => (match itemV l k with
        | some a => (match iop op a b with
          | some d => (setI x k d st).map (·, none)
          | none => none)
        | none => none)
      | _, _, _ => none
noncomputable def stFor (T : Evl) (K : Blk) (sc : Nm) (x : Str) (iter : Expr) (body : List Stmt) (st : SS) : Res := if okVar sc x && notSet iter then (match itrE T false sc st.own st.ρ iter with
      | some items => forL sc x (K body) items st
      | none => none) else none
noncomputable def stIf (T : Evl) (K : Blk) (sc : Nm) (test : Expr) (a b : List Stmt) (st : SS) : Res := match testE T sc test st with
      | some true => K a st
      | some false => K b st
      | none => none
noncomputable def stRet (T : Evl) (sc : Nm) (e : Expr) (st : SS) : Res := match T false sc (drops e st.own) st.ρ e with
      | some d => some (⟨drops e st.own, st.ρ⟩, some d)
      | none => none
noncomputable def stApp (T : Evl) (sc : Nm) (x m : Str) (e : Expr) (apos pos : Pos) (st : SS) : Res := if m == ("append" : Str) && apos.endLine == pos.line then (appendE T sc x e st).map (·, none) else none
noncomputable def stIns (T : Evl) (sc : Nm) (x m : Str) (i e : Expr) (apos pos : Pos) (st : SS) : Res := if m == ("insert" : Str) && apos.endLine == pos.line then (insertE T sc x i e st).map (·, none) else none
set_option backward.match.sparseCases false in
noncomputable def stTup (T : Evl) (mu : List Str) (sc : Nm) (es : List Expr) (e : Expr) (st : SS) : Res := match e with
  | .Tuple vs _ _ => (match vs with
    | [e1, e2] => (match es with
      | [t1, t2] => (match t1 with
        | .Name x px => (match t2 with
          | .Name y py => stTwo T mu sc x y px py e1 e2 st
          | _ => none)
        | _ => none)
      | _ => none)
    | _ => none)
  | e => stMany T sc es e st
set_option backward.match.sparseCases false in
noncomputable def step1 (T : Evl) (mu : List Str) (sc : Nm) (t e : Expr) (st : SS) : Res := match t with
  | .Name x _ => stName T mu sc x e st
  | .Tuple es _ _ => stTup T mu sc es e st
  | .Subscript v i _ => (match v with
    | .Name x _ => stItem T sc x i e st
    | _ => none)
  | _ => none
set_option backward.match.sparseCases false in
noncomputable def step2 (T : Evl) (sc : Nm) (t u e : Expr) (st : SS) : Res := match t with
  | .Subscript v i _ => (match v with
    | .Name x _ => (match u with
      | .Subscript w j _ => (match w with
        | .Name y _ => stItem2 T sc x y i j e st
        | _ => none)
      | _ => none)
    | _ => none)
  | _ => none
set_option backward.match.sparseCases false in
noncomputable def stepAug (T : Evl) (sc : Nm) (t : Expr) (op : Operator) (e : Expr) (st : SS) : Res := match t with
  | .Name x _ => stAugN T sc x op e st
  | .Subscript v i _ => (match v with
    | .Name x _ => stAugI T sc x i op e st
    | _ => none)
  | _ => none
set_option backward.match.sparseCases false in
noncomputable def stepCall (T : Evl) (sc : Nm) (f : Expr) (args : List Expr) (pos : Pos) (st : SS) : Res := match f with
  | .Attribute v m apos => (match v with
    | .Name x _ => (match args with
      | [e] => stApp T sc x m e apos pos st
      | [i, e] => stIns T sc x m i e apos pos st
      | _ => none)
    | _ => none)
  | _ => none
set_option backward.match.sparseCases false in
noncomputable def step (T : Evl) (K : Blk) (wf : Nat) (mu : List Str) (sc : Nm) (s : Stmt) (st : SS) : Res := match s with
  | .Assign ts e _ => (match ts with
    | [] => none
    | t :: ts => (match ts with
      | [] => step1 T mu sc t e st
      | u :: ts => (match ts with
        | [] => step2 T sc t u e st
        | _ :: _ => none)))
  | .AugAssign t op e _ => stepAug T sc t op e st
  | .For t iter body o _ => (match t with
    | .Name x _ => (match o with
      | [] => stFor T K sc x iter body st
      | _ :: _ => none)
    | _ => none)
  | .While test body o _ => (match o with
    | [] => whl T sc test (K body) wf st
    | _ :: _ => none)
  | .If test a b _ => stIf T K sc test a b st
  | .Return v _ => (match v with
    | some e => stRet T sc e st
    | none => none)
  | .Expr e _ => (match e with
    | .Call f args kws pos => (match kws with
      | [] => stepCall T sc f args pos st
      | _ :: _ => none)
    | _ => none)
  | _ => none
noncomputable def seqB (f : Stmt → SS → Res) : List Stmt → SS → Res
  | [], st => some (st, none)
  | s :: r, st => match f s st with
    | some (st', none) => seqB f r st'
    | o => o
noncomputable abbrev Xs := Stmt → Option (Blk → SS → Res)
noncomputable def stepX (XS : Xs) (T : Evl) (K : Blk) (wf : Nat) (mu : List Str) (sc : Nm) (x : Stmt) (st : SS) : Res := match XS x with
  | some H => H K st
  | none => step T K wf mu sc x st
noncomputable def blk (XS : Xs) (T : Evl) (wf : Nat) (mu : List Str) (sc : Nm) : Nat → Blk
  | 0, _, _ => none
  | n + 1, b, st => seqB (stepX XS T (blk XS T wf mu sc n) wf mu sc) b st

noncomputable def SO (O O' : List Addr) (h : Heap) : Prop := ∀ a ∈ O', a ∈ O ∨ h.get? a = none
theorem SO.same {O : List Addr} {h : Heap} : SO O O h := fun _ ha => .inl ha
theorem SO.trans {Z : Par} {env : Env} {sc : Nm} {om om' : Om} {O₁ O₂ O₃ : List Addr} {h h' : Heap} (x : SO O₁ O₂ h) (y : SO O₂ O₃ h') (sp : Stp Z env sc om om' h h') : SO O₁ O₃ h := fun a ha => (y a ha).elim (x a) fun q => .inr (by
  cases e : h.get? a with
  | none => rfl
  | some o => have := sp.more a (by rw [e]; rfl); rw [q] at this; exact Bool.noConfusion this)
noncomputable def Post (Z : Par) (g : Heap) (env : Env) (sc : Nm) (O₀ : List Addr) (O : List Addr) (om : Om) (s : Shared) (Q : Flow → Shared → Prop) (st' : SS) (r : Option V) : Prop :=
  ∀ h' tk O' om', st'.own = om'.map (·.1) → StOK Z g env sc O₀ O' om' st'.ρ h' → Stp Z env sc om om' s.heap h' → SO O O' s.heap →
    (match r with | none => Q .next { s with heap := h', toks := tk } | some d => ∀ v, Rep O' h' v d → Q (.ret v) { s with heap := h', toks := tk })
noncomputable def StmS (Z : Par) (prog : Program) (w : World) (k : Nat) (g : Heap) (env : Env) (sc : Nm) (O₀ : List Addr) (F : Stmt → SS → Res) (x : Stmt) : Prop :=
  ∀ st st' r, F x st = some (st', r) → ∀ (A : Around) (O : List Addr) (om : Om) (s : Shared) (Q : Flow → Shared → Prop) (E : Value → Shared → Prop), GoodA k A → st.own = om.map (·.1) → StOK Z g env sc O₀ O om st.ρ s.heap →
    Post Z g env sc O₀ O om s Q st' r → wpAny (model prog w) A (exec x env) Q E s
noncomputable def BlkS (Z : Par) (prog : Program) (w : World) (k : Nat) (g : Heap) (env : Env) (sc : Nm) (O₀ : List Addr) (B : Blk) : Prop :=
  ∀ b st st' r, B b st = some (st', r) → ∀ (A : Around) (O : List Addr) (om : Om) (s : Shared) (Q : Flow → Shared → Prop) (E : Value → Shared → Prop), GoodA k A → st.own = om.map (·.1) → StOK Z g env sc O₀ O om st.ρ s.heap →
    Post Z g env sc O₀ O om s Q st' r → wpAny (model prog w) A (execs b env) Q E s

noncomputable def StmR (Z : Par) (prog : Program) (w : World) (k : Nat) (g : Heap) (env : Env) (sc : Nm) (O₀ : List Addr) (x : Stmt) (om : Om) (ρ : Rho) (st' : SS) (r : Option V) : Prop :=
  ∀ (A : Around) (O : List Addr) (s : Shared) (Q : Flow → Shared → Prop) (E : Value → Shared → Prop), GoodA k A → StOK Z g env sc O₀ O om ρ s.heap → Post Z g env sc O₀ O om s Q st' r → wpAny (model prog w) A (exec x env) Q E s
theorem StmS.mk' {Z : Par} {prog : Program} {w : World} {k : Nat} {g : Heap} {env : Env} {sc : Nm} {O₀ : List Addr} {F : Stmt → SS → Res} {x : Stmt}
    (H : ∀ om ρ st' r, F x ⟨om.map (·.1), ρ⟩ = some (st', r) → StmR Z prog w k g env sc O₀ x om ρ st' r) : StmS Z prog w k g env sc O₀ F x := fun st st' r h A O om s Q E hA ho ok hQ => by
  obtain ⟨own, ρ⟩ := st
  dsimp only at ho
  subst ho
  exact H om ρ st' r h A O s Q E hA ok hQ
noncomputable def XSOK (Z : Par) (prog : Program) (w : World) (k : Nat) (g : Heap) (env : Env) (sc : Nm) (O₀ : List Addr) (XS : Xs) : Prop :=
  ∀ x H, XS x = some H → ∀ K, BlkS Z prog w k g env sc O₀ K → StmS Z prog w k g env sc O₀ (fun _ st => H K st) x

section
variable {Z : Par} {prog : Program} {w : World} {k : Nat} {g : Heap} {env : Env} {sc : Nm} {O₀ : List Addr} {T : Evl} {K : Blk} {wf : Nat} {mu : List Str}

set_option tactic.hygienic true in
theorem seq_ok {f : Stmt → SS → Res} (hf : ∀ x, StmS Z prog w k g env sc O₀ f x) : BlkS Z prog w k g env sc O₀ (seqB f) := by
  intro b
  induction b with
  | nil =>
    intro st st' r h A O om s Q E hA ho ok hQ
    obtain ⟨rfl, rfl⟩ := Prod.mk.inj (Option.some.inj h)
    exact wpAny_execs_nil (hQ s.heap s.toks O om ho ok .refl .same)
  | cons x b ih =>
    intro st st' r h A O om s Q E hA ho ok hQ
    unfold seqB at h
    refine wpAny_execs_cons ?_
    split at h
    · rename_i st1 h1
      refine hf x st st1 none h1 A O om s _ E hA ho ok fun h' tk O' om' ho' ok' sp so => ?_
      exact ih st1 st' r h A O' om' { s with heap := h', toks := tk } Q E hA ho' ok' fun h2 tk2 O2 om2 ho2 ok2 sp2 so2 => hQ h2 tk2 O2 om2 ho2 ok2 (sp.trans sp2) (so.trans so2 sp)
    · rename_i o hno
      refine hf x st st' r h A O om s _ E hA ho ok fun h' tk O' om' ho' ok' sp so => ?_
      cases r with
      | none => exact absurd h (hno st')
      | some d => exact fun v rv => hQ h' tk O' om' ho' ok' sp so v rv

theorem drop_om (p : Str → Bool) (om : Om) : (om.filter fun q => p q.1).map (·.1) = (om.map (·.1)).filter p := by
  rw [List.filter_map]; rfl
theorem StOK.put_congr {h : Heap} {O : List Addr} {om : Om} {ρ ρ' : Rho} (x : StOK Z g env sc O₀ O om ρ h) (e : ∀ z, ρ'.lookup z = ρ.lookup z) : StOK Z g env sc O₀ O om ρ' h :=
  ⟨x.fe, x.ext, x.ns, x.cells, x.o0, x.o0g, x.oin, x.onew, x.omO, x.nd1, x.nd2, fun z k d h1 h2 h3 h4 => x.var z k d h1 h2 h3 (by rw [← e z]; exact h4),
    fun p hp => let ⟨a, ds, vs, e', r⟩ := x.own p hp; ⟨a, ds, vs, by rw [e]; exact e', r⟩⟩
theorem okVar_some {x : Str} (h : okVar sc x = true) : sc.lookup x = some .local ∨ sc.lookup x = some .cell := by
  unfold okVar at h
  simp only [Bool.or_eq_true] at h
  exact h.imp eq_of_beq eq_of_beq
theorem okVar_k {x : Str} (h : okVar sc x = true) : ∃ k, sc.lookup x = some k ∧ k ≠ .globalImplicit := by
  rcases okVar_some h with h | h <;> exact ⟨_, h, nofun⟩

noncomputable def StoreIn (Z : Par) (O : List Addr) (om : Om) (h : Heap) (own? : Bool) (v : Value) (d : V) : Prop :=
  if own? then ∃ a vs ds, v = .ref a ∧ d = .lst ds ∧ a ∈ O ∧ a ∉ om.map (·.2) ∧ h.PlainList a vs.toArray ∧ Reps O h vs ds else Rep O h v d

theorem stash_ok {M : Model} {A : Around} {E : Value → Shared → Prop} {s : Shared} {x : Str} {v : Value} {d : V} {fr : Bool} {O : List Addr} {om : Om} {ρ : Rho} {own : List Str} {Q : Unit → Shared → Prop} (hx : okVar sc x = true) (ho : own = om.map (·.1)) (ok : StOK Z g env sc O₀ O om ρ s.heap)
    (hv : if (fr && mu.contains x && isLst d) = true then ∃ a vs ds, v = .ref a ∧ d = .lst ds ∧ a ∈ O ∧ g.get? a = none ∧ a ∉ om.map (·.2) ∧ s.heap.get? a ≠ none ∧ s.heap.PlainList a vs.toArray ∧ Reps O s.heap vs ds else Rep O s.heap v d)
    (hQ : ∀ h' tk O' om', (stash mu x fr d ⟨own, ρ⟩).own = om'.map (·.1) → StOK Z g env sc O₀ O' om' (stash mu x fr d ⟨own, ρ⟩).ρ h' → (∀ b o, s.heap.get? b = some o → b ≠ Z.P → ¬ Mut env sc om b → h'.get? b = some o) → (∀ b, (s.heap.get? b).isSome = true → (h'.get? b).isSome = true) →
      (∀ a ∈ O', a ∈ O) → (∀ a ∈ O, a ∉ om.map (·.2) → a ∈ O') → StoreKeep s.heap h' → (∀ a ∈ om'.map (·.2), a ∈ om.map (·.2) ∨ ((fr && mu.contains x && isLst d) = true ∧ v = .ref a)) → Q () { s with heap := h', toks := tk }) :
    wpAny M A (storeName env x v) Q E s := by
  subst ho
  refine Exists.elim (ok.disown (fun y => y != x)) fun O' q_267 => ?_
  have ok' := q_267.1
  have hO' := q_267.2.1
  have hO2 := q_267.2.2
  have hx' : x ∉ (om.filter fun q => q.1 != x).map (·.1) := by
    intro hm
    obtain ⟨p, hp, e⟩ := List.mem_map.mp hm
    have := (List.mem_filter.mp hp).2
    rw [e] at this; simp at this
  have hsub : ∀ a ∈ (om.filter fun q => q.1 != x).map (·.2), a ∈ om.map (·.2) := fun a ha => by
    refine Exists.elim (List.mem_map.mp ha) fun p q_274 => ?_
    have hp := q_274.1
    have e := q_274.2
    exact List.mem_map.mpr ⟨p, (List.mem_filter.mp hp).1, e⟩
  refine store_at ok.fe ok.ns ok.cells (okVar_some hx) fun h' tk w => ?_
  have hless : less x (om.map (·.1)) = (om.filter fun q => q.1 != x).map (·.1) := (drop_om (fun y => y != x) om).symm
  unfold stash at hQ
  cases hb : fr && mu.contains x && isLst d with
  | false =>
    rw [hb] at hv hQ
    simp only [Bool.false_eq_true, if_false] at hv hQ
    exact hQ h' tk O' _ hless (ok'.wrote hx' w (hv.lessO hO')) (fun b o e hP hm => w.stp'.keep b o e hP hm) (fun _ => w.sk.some) hO' hO2 w.sk fun a ha => .inl (hsub a ha)
  | true =>
    rw [hb] at hv hQ
    simp only [if_true] at hv hQ
    refine ex3 hv fun a vs ds q_287 => ?_
    obtain rfl := q_287.1
    obtain rfl := q_287.2.1
    have haO := q_287.2.2.1
    have hg := q_287.2.2.2.1
    have ham := q_287.2.2.2.2.1
    have hl := q_287.2.2.2.2.2.2.1
    have r := q_287.2.2.2.2.2.2.2
    refine hQ h' tk O' ((x, a) :: om.filter fun q => q.1 != x) (by rw [hless]; rfl) (ok'.wroteOwn hx' (hO2 a haO ham) (fun hm => ham (hsub a hm)) hg (okVar_k hx) w hl (r.lessO hO')) (fun b o e hP hm => w.stp'.keep b o e hP hm) (fun _ => w.sk.some) hO' hO2 w.sk fun b hb => ?_
    rcases List.mem_cons.mp hb with q | hb
    · exact .inr ⟨trivial, by rw [q]⟩
    · exact .inl (hsub b hb)

theorem got_store {s : Shared} {h' : Heap} {x : Str} {v : Value} {d : V} {e : Expr} {O : List Addr} {om : Om} {ρ : Rho} (ok : StOK Z g env sc O₀ O om ρ s.heap) (q : Got Z (om.map (·.2)) O s.heap h' false e v d) :
    ∃ O', StOK Z g env sc O₀ O' om ρ h' ∧ (∀ a ∈ O', a ∈ O ∨ (v = .ref a ∧ s.heap.get? a = none)) ∧ (∀ a ∈ O, a ∈ O') ∧
      if (isFresh e && mu.contains x && isLst d) = true then ∃ a vs ds, v = .ref a ∧ d = .lst ds ∧ a ∈ O' ∧ g.get? a = none ∧ a ∉ om.map (·.2) ∧ h'.get? a ≠ none ∧ h'.PlainList a vs.toArray ∧ Reps O' h' vs ds ∧ s.heap.get? a = none else Rep O' h' v d := by
  cases hb : isFresh e && mu.contains x && isLst d with
  | false => exact ⟨O, ok.grown q.ext, fun a ha => .inl ha, fun a ha => ha, by simpa using q.rep rfl⟩
  | true =>
    simp only [Bool.and_eq_true] at hb
    cases d with
    | lst ds =>
      refine ex3 (q.fresh hb.1.1 ds rfl) fun a vs ds' q_303 => ?_
      obtain rfl := q_303.1
      have e2 := q_303.2.1
      have hn := q_303.2.2.1
      have hl := q_303.2.2.2.1
      have r := q_303.2.2.2.2
      cases e2
      have hs : h'.get? a ≠ none := by obtain ⟨n, e⟩ := hl; rw [e]; nofun
      refine ⟨a :: O, ok.moreO q.ext hn (by obtain ⟨n, e⟩ := hl; rw [e]; rfl), fun b hb => (List.mem_cons.mp hb).elim (fun q => .inr (by rw [q]; exact ⟨rfl, hn⟩)) .inl, fun b hb => List.mem_cons_of_mem _ hb, ?_⟩
      simp only [if_true]
      refine ⟨a, vs, ds, rfl, rfl, List.mem_cons_self, ok.ext.kNone hn, fun hm => ?_, hs, hl, r, hn⟩
      have := ok.toEnv.win a hm
      rw [hn] at this; exact Bool.noConfusion this
    | _ => simp [isLst] at hb
end
end Mine

-- MR
set_option maxRecDepth 10000
namespace Mine
set_option tactic.hygienic false

structure TOK (Z : Par) (prog : Program) (w : World) (k : Nat) (T : Evl) : Prop where
  ev : EvS Z prog w k T
  ts : TsS Z prog w k T
  st : NoStar T
  range : Gl Z "range" (.type "range")
  comp : ∀ pk sc own ρ elt gens scope pos d, T pk sc own ρ (.ListComp elt gens scope pos) = some d → ∃ T' ds, EvS Z prog w k T' ∧ TsS Z prog w k T' ∧ NoStar T' ∧ compE T' sc own ρ elt gens scope = some ds ∧ ds.length ≤ 100000 ∧ d = .lst ds
  noset : ∀ pk sc own ρ elt gens scope pos, T pk sc own ρ (.SetComp elt gens scope pos) = none
  noslice : ∀ pk sc own ρ a b c d, T pk sc own ρ (.Slice a b c d) = none
  nodict : ∀ pk sc own ρ a b gens scope pos, T pk sc own ρ (.DictComp a b gens scope pos) = none

set_option tactic.hygienic true in
theorem ev_TOK {Z : Par} {prog : Program} {w : World} {k : Nat} {c : Cx} (hc : CxOK Z prog w k c) (n : Nat) : TOK Z prog w k (ev c n) where
  ev := (ev_ok hc n).1
  ts := (ev_ok hc n).2
  st := ev_star hc n
  range := hc.range
  comp := fun pk sc own ρ elt gens scope pos d h => by
    cases n with
    | zero => cases h
    | succ n =>
      rw [ev_at hc (by intros; nofun)] at h
      replace h : evComp (Mine.ev c n) sc own ρ elt gens scope = some d := h
      unfold evComp at h
      split at h
      · rename_i ds hds
        unfold mkL at h
        split at h
        · obtain rfl := Option.some.inj h; exact ⟨Mine.ev c n, ds, (ev_ok hc n).1, (ev_ok hc n).2, ev_star hc n, hds, by assumption, rfl⟩
        · cases h
      · cases h
  noset := fun pk sc own ρ elt gens scope pos => by
    cases n with
    | zero => rfl
    | succ n => exact (ev_at hc (by intros; nofun)).trans rfl
  noslice := fun pk sc own ρ a b c' d => by
    cases n with
    | zero => rfl
    | succ n => exact (ev_at hc (by intros; nofun)).trans rfl
  nodict := fun pk sc own ρ a b gens scope pos => by
    cases n with
    | zero => rfl
    | succ n => exact (ev_at hc (by intros; nofun)).trans rfl

section
variable {Z : Par} {prog : Program} {w : World} {k : Nat} {g : Heap} {env : Env} {sc : Nm} {O₀ : List Addr} {T : Evl} {K : Blk} {wf : Nat} {mu : List Str}

theorem drops_om (e : Expr) (om : Om) : drops e (om.map (·.1)) = (om.filter fun q => !(leaks1 e).contains q.1).map (·.1) := (drop_om (fun x => !(leaks1 e).contains x) om).symm
theorem StOK.drops {O : List Addr} {om : Om} {ρ : Rho} {h : Heap} (ok : StOK Z g env sc O₀ O om ρ h) (e : Expr) : ∃ O' om', drops e (om.map (·.1)) = om'.map (·.1) ∧ StOK Z g env sc O₀ O' om' ρ h ∧ (∀ a ∈ O', a ∈ O) ∧ ∀ q ∈ om', q ∈ om := by
  obtain ⟨O', ok', h1, h2⟩ := ok.disown (fun x => !(leaks1 e).contains x)
  exact ⟨O', _, drops_om e om, ok', h1, fun q hq => (List.mem_filter.mp hq).1⟩
theorem Stp.om {om om₁ om' : Om} {h h' : Heap} (x : Stp Z env sc om₁ om' h h') (hs : ∀ q ∈ om₁, q ∈ om) : Stp Z env sc om om' h h' :=
  ⟨fun b o e hP hm => x.keep b o e hP fun q => hm (by
    rcases q with q | q | q
    · exact .inl q
    · exact .inr (.inl q)
    · obtain ⟨p, hp, e⟩ := List.mem_map.mp q
      exact .inr (.inr (List.mem_map.mpr ⟨p, hs p hp, e⟩))), fun a ha => (x.new a ha).imp (fun q => by
    obtain ⟨p, hp, e⟩ := List.mem_map.mp q
    exact List.mem_map.mpr ⟨p, hs p hp, e⟩) id, x.more⟩

set_option backward.match.sparseCases false in
noncomputable def compB : Expr → Bool
  | .ListComp .. => true
  | .SetComp .. => true
  | .DictComp .. => true
  | _ => false
theorem compB_not {e : Expr} (h : ∀ elt gens scope pos, e ≠ .ListComp elt gens scope pos) (h2 : ∀ elt gens scope pos, e ≠ .SetComp elt gens scope pos) (h3 : ∀ a b gens scope pos, e ≠ .DictComp a b gens scope pos) : compB e = false := by
  cases e with
  | ListComp a b c d => exact absurd rfl (h a b c d)
  | SetComp a b c d => exact absurd rfl (h2 a b c d)
  | DictComp a b c d e => exact absurd rfl (h3 a b c d e)
  | _ => rfl
theorem swap_plain {x : Str} {px : Pos} {e : Expr} {l : Nat} (h : ∀ elt gens scope pos, e ≠ .ListComp elt gens scope pos) (h2 : ∀ elt gens scope pos, e ≠ .SetComp elt gens scope pos) (h3 : ∀ a b gens scope pos, e ≠ .DictComp a b gens scope pos) : swapsWith e (some (.Name x px)) l env = pure false := by
  have q := ea (F := fun e => swapsWith e (some (.Name x px)) l env) (G := fun e => bif compB e then swapsWith e (some (.Name x px)) l env else pure false) (by kernel_rfl) e
  rw [compB_not h h2 h3] at q
  exact q
theorem swap_comp {x : Str} {px : Pos} {l : Nat} {elt : Expr} {gens : List Comprehension} {scope : Scope} {pos : Pos} : ∃ b, swapsWith (.ListComp elt gens scope pos) (some (.Name x px)) l env = pure b := ⟨_, rfl⟩
theorem exec_Assign_one (x : Str) (px : Pos) (e : Expr) (pos : Pos) (h : swapsWith e (some (.Name x px)) pos.line env = pure false) {M : Model} {A : Around} {E : Value → Shared → Prop} {s : Shared} {Q : Flow → Shared → Prop}
    (hh : wpAny M A (eval e env) (fun v s₁ => wpAny M A (storeName env x v) (fun _ => Q .next) E s₁) E s) : wpAny M A (exec (.Assign [.Name x px] e pos) env) Q E s := wpAny_Assign_Name hh h

theorem StOK.letGo {O : List Addr} {om : Om} {ρ : Rho} {h h' : Heap} {C : Addr} {m : Str → Option Value} (y : StOK Z g env sc O₀ O om ρ h) (hn : h.Ns C m) (hCL : C ≠ env.locals) (hg : g.get? C = none) (sb : Heap.SameBut C h h') (hCO : C ∉ O) : StOK Z g env sc O₀ O om ρ h' := by
  have nd := ns_dict hn
  have wx : Wx [] O h h' := .but sb.extBut fun o e => .inl fun vs n d => by obtain ⟨es, k, q⟩ := nd o e; rw [d] at q; cases q
  have cellUp : ∀ {c : Addr} {v : Option Value}, h.IsCell c v → h'.IsCell c v := fun {c v} n => n.sameBut sb fun q => by
    subst q
    obtain ⟨o, e, hd⟩ := n
    obtain ⟨es, k, q⟩ := nd o e
    rw [hd] at q; cases q
  have varUp : ∀ {z w}, VarIn env h z w → VarIn env h' z w := fun {z w} hv => by
    rcases hv with ⟨q, m, n, e⟩ | ⟨q, c, e1, e2⟩
    · exact .inl ⟨q, m, n.sameBut sb (Ne.symm hCL), e⟩
    · exact .inr ⟨q, c, e1, cellUp e2⟩
  have some' : ∀ b ∈ O, (h.get? b).isSome = true → (h'.get? b).isSome = true := fun b hb e => by
    rw [sb.2 b (fun q => hCO (q ▸ hb))]; exact e
  refine ⟨y.fe, y.ext.but sb.extBut hg fun o e vs q t d => ?_, let ⟨m, n⟩ := y.ns; ⟨m, n.sameBut sb (Ne.symm hCL)⟩, fun z c h1 h2 => let ⟨v, n⟩ := y.cells z c h1 h2; ⟨v, cellUp n⟩, y.o0, y.o0g, fun b hb => some' b hb (y.oin b hb), y.onew, y.omO, y.nd1, y.nd2, ?_, ?_⟩
  · obtain ⟨es, k, q⟩ := nd o e; rw [d] at q; cases q
  · intro z k d h1 h2 h3 h4
    obtain ⟨u, hu, r⟩ := y.var z k d h1 h2 h3 h4
    exact ⟨u, varUp hu, wx.rep r⟩
  · intro p hp
    obtain ⟨hk, ds', vs', e, hv, ⟨n, hl'⟩, r'⟩ := y.own p hp
    exact ⟨hk, ds', vs', e, varUp hv, ⟨n, sb.extBut _ _ (fun q => by obtain ⟨es, k, q⟩ := nd _ (by rw [← q]; exact hl'); cases q) hl'⟩, wx.reps r'⟩

theorem storeGot_ok {M : Model} {A : Around} {E : Value → Shared → Prop} {s : Shared} {h' : Heap} {tk : Tok} {x : Str} {v : Value} {d : V} {e : Expr} {O : List Addr} {om : Om} {ρ : Rho} {Q : Unit → Shared → Prop} (hx : okVar sc x = true) (ok : StOK Z g env sc O₀ O om ρ s.heap) (q : Got Z (om.map (·.2)) O s.heap h' false e v d)
    (hQ : ∀ h2 tk2 O' om', (stash mu x (isFresh e) d ⟨om.map (·.1), ρ⟩).own = om'.map (·.1) → StOK Z g env sc O₀ O' om' (stash mu x (isFresh e) d ⟨om.map (·.1), ρ⟩).ρ h2 → Stp Z env sc om om' s.heap h2 →
      (∀ b o, h'.get? b = some o → b ≠ Z.P → ¬ Mut env sc om b → h2.get? b = some o) → (∀ a ∈ O', a ∈ O ∨ (v = .ref a ∧ s.heap.get? a = none)) → Q () { s with heap := h2, toks := tk2 }) : wpAny M A (storeName env x v) Q E { s with heap := h', toks := tk } := by
  obtain ⟨O1, ok1, hO3, hO1, hv⟩ := got_store (mu := mu) (x := x) ok q
  refine stash_ok (mu := mu) (fr := isFresh e) (d := d) (s := { s with heap := h', toks := tk }) hx rfl ok1 ?_ fun h2 tk2 O' om' e1 ok2 hk hs hO4 _ _ hn => ?_
  · split at hv
    · rename_i hb
      rw [if_pos hb]
      obtain ⟨a, vs, ds, h1, h2, h3, h4, h5, h6, h7, h8, _⟩ := hv
      exact ⟨a, vs, ds, h1, h2, h3, h4, h5, h6, h7, h8⟩
    · rename_i hb
      rw [if_neg hb]; exact hv
  · refine hQ h2 tk2 O' om' e1 ok2 ⟨fun b o e hP hm => hk b o (q.ext.keep b o hP e) hP hm, fun a ha => ?_, fun b e => hs b (q.ext.kSome e)⟩ hk fun a ha => hO3 a (hO4 a ha)
    rcases hn a ha with h | ⟨hb, rfl⟩
    · exact .inl h
    · rw [if_pos hb] at hv
      obtain ⟨a', vs, ds, h1, _, _, _, _, _, _, _, h9⟩ := hv
      cases h1
      exact .inr h9

theorem notMut {O : List Addr} {om : Om} {ρ : Rho} {h : Heap} {b : Addr} (ok : StOK Z g env sc O₀ O om ρ h) (hb : h.get? b = none) : ¬ Mut env sc om b := fun q => by
  rcases q with q | ⟨z, hz, hc⟩ | q
  · obtain ⟨m, n⟩ := ok.ns; have := ns_some n; rw [← q, hb] at this; exact Bool.noConfusion this
  · obtain ⟨v, n⟩ := ok.cells z b hz hc; have := cell_some n; rw [hb] at this; exact Bool.noConfusion this
  · have := ok.toEnv.win b q; rw [hb] at this; exact Bool.noConfusion this

set_option tactic.hygienic true in
theorem assignName_ok (hT : TOK Z prog w k T) (gd : Gd Z g) {x : Str} {px pos : Pos} {e : Expr} : StmS Z prog w k g env sc O₀ (step T K wf mu sc) (.Assign [.Name x px] e pos) := by
  refine .mk' fun om ρ st' r h => ?_
  replace h : stName T mu sc x e ⟨om.map (·.1), ρ⟩ = some (st', r) := h
  unfold stName at h
  split at h
  · rename_i hx
    split at h
    · rename_i d hd
      obtain ⟨rfl, rfl⟩ := Prod.mk.inj (Option.some.inj h)
      dsimp only at hd
      dsimp only
      intro A O s Q E hA ok hQ
      obtain ⟨O1, om1, e1, ok1, hO1, hom1⟩ := ok.drops e
      rw [e1] at hd hQ
      have gh := ok1.ext.gd gd
      have plain : swapsWith e (some (.Name x px)) pos.line env = pure false → wpAny (model prog w) A (exec (.Assign [.Name x px] e pos) env) Q E s := fun hsw => by
        refine exec_Assign_one x px e pos hsw ?_
        refine hT.ev _ _ _ _ _ _ hd A env _ O1 s _ E hA gh ok1.toEnv fun h' tk v q => ?_
        exact storeGot_ok hx ok1 q fun h2 tk2 O' om' e2 ok2 sp _ hO5 => hQ h2 tk2 O' om' e2 ok2 (sp.om hom1) fun a ha => (hO5 a ha).imp (hO1 a) (·.2)
      by_cases hcomp : ∃ elt gens scope p, e = .ListComp elt gens scope p
      · obtain ⟨elt, gens, scope, p, rfl⟩ := hcomp
        obtain ⟨b, hb⟩ := swap_comp (env := env) (x := x) (px := px) (l := pos.line) (elt := elt) (gens := gens) (scope := scope) (pos := p)
        cases b with
        | false => exact plain hb
        | true =>
          obtain ⟨T', ds, hE, hTs, hst, hce, hlen, rfl⟩ := hT.comp _ _ _ _ _ _ _ _ _ hd
          cases gens with
          | nil => cases hce
          | cons g0 gs =>
            have ha := plainGen_async (compE_plain hce)
            obtain ⟨t0, i0, f0, a0⟩ := g0
            have ha : a0 = 0 := ha
            subst ha
            rw [exec_Assign_Name_used _ _ _ _ hb]
            refine wpAny_bind (wpAny_standAt (wpAny_bind ?_))
            show wpAny _ A (do let _ ← comprehension (.ListComp elt (⟨t0, i0, f0, 0⟩ :: gs) scope p) scope env _ (newList []) false (eval i0 env) (some (assign (.Name x px) env))) _ _ s
            refine wpAny_bind (wpAny_mono (comp_ok (use := some (assign (.Name x px) env)) (Q := fun _ s' => Q .next s') hE hTs hst hT.range hce (by omega) hA gh ok1.toEnv fun h₁ h' tk D C m x1 x2 rf hns hC hDC => ?_) (fun _ s' hq => wpAny_pure (wpAny_pure hq)) fun _ _ e => e)
            have q : Got Z (om1.map (·.2)) O1 s.heap h' false (.ListComp elt (⟨t0, i0, f0, 0⟩ :: gs) scope p) (.ref D) (.lst ds) := .later x1 (.ofNew (.ofFresh (ok1.toEnv.ext x1).oin x2 rf))
            have hC0 := x1.kNone hC
            have hnm := notMut ok1 hC0
            show wpAny _ A (assign (.Name x px) env (.ref D)) _ _ _
            refine wpAny_assign_Name (storeGot_ok (mu := mu) hx ok1 q fun h2 tk2 O' om' e2 ok2 sp hk hO5 => ?_)
            have hP : C ≠ Z.P := fun q => by obtain ⟨ps, e, _⟩ := ok1.ext.tab'; rw [← q, hC0] at e; cases e
            have hns2 : h2.Ns C m := by
              obtain ⟨o, es, ep, e, r⟩ := hns
              exact ⟨o, es, ep, hk C o e hP hnm, r⟩
            have hCL : C ≠ env.locals := fun q => hnm (.inl q)
            have hg := ok1.ext.kNone hC0
            refine ⟨m, hns2, fun h3 sb => ?_⟩
            have hCO : C ∉ O' := fun hm => by
              rcases hO5 C hm with h | h
              · have := ok1.oin C h; rw [hC0] at this; exact Bool.noConfusion this
              · cases h.1; exact hDC rfl
            refine hQ h3 tk2 O' om' e2 (ok2.letGo hns2 hCL hg sb hCO) (Stp.om ⟨fun b o e hP hm => sb.extBut b o (fun q => by rw [q, hC0] at e; cases e) (sp.keep b o e hP hm), sp.new, fun b e => ?_⟩ hom1) fun a ha => (hO5 a ha).imp (hO1 a) (·.2)
            rw [sb.2 b (fun q => by rw [q, hC0] at e; exact Bool.noConfusion e)]
            exact sp.more b e
      · refine plain (swap_plain (fun a b c d q => hcomp ⟨a, b, c, d, q⟩) (fun a b c p q => ?_) fun a b c d p q => ?_)
        · rw [q, hT.noset] at hd; cases hd
        · rw [q, hT.nodict] at hd; cases hd
    · cases h
  · cases h
end
end Mine

-- MS
set_option maxRecDepth 10000
namespace Mine
set_option tactic.hygienic false

section
variable {Z : Par} {prog : Program} {w : World} {k : Nat} {g : Heap} {env : Env} {sc : Nm} {O₀ : List Addr} {T : Evl} {K : Blk} {wf : Nat} {mu : List Str}

noncomputable def Pend (g : Heap) (b : Bool) (O : List Addr) (om : Om) (h : Heap) (v : Value) (d : V) : Prop :=
  if b = true then ∃ a vs ds, v = .ref a ∧ d = .lst ds ∧ a ∈ O ∧ g.get? a = none ∧ a ∉ om.map (·.2) ∧ h.get? a ≠ none ∧ h.PlainList a vs.toArray ∧ Reps O h vs ds else Rep O h v d
theorem Pend.ext {b : Bool} {O O' : List Addr} {om : Om} {h h' : Heap} {v : Value} {d : V} (x : Pend g b O om h v d) (y : Ext Z h h') (hO : ∀ a ∈ O, a ∈ O') (hO' : ∀ a ∈ O', a ∈ O ∨ h.get? a = none) : Pend g b O' om h' v d := by
  have hk : ∀ a o, h.get? a = some o → a ∉ O → a ∉ O' := fun a o e n hm => (hO' a hm).elim n fun q => by rw [q] at e; cases e
  unfold Pend at x ⊢
  split at x
  · rename_i hb
    rw [if_pos hb]
    refine ex3 x fun a vs ds q_19 => ?_
    have h1 := q_19.1
    have h2 := q_19.2.1
    have h3 := q_19.2.2.1
    have h4 := q_19.2.2.2.1
    have h5 := q_19.2.2.2.2.1
    have h6 := q_19.2.2.2.2.2.1
    have h7 := q_19.2.2.2.2.2.2.1
    have h8 := q_19.2.2.2.2.2.2.2
    refine Exists.elim (y.plain h7) fun n e => ?_
    exact ⟨a, vs, ds, h1, h2, hO a h3, h4, h5, by rw [e]; nofun, ⟨n, e⟩, h8.keep hk fun _ _ e _ c => y.seq e c⟩
  · rename_i hb
    rw [if_neg hb]
    exact x.keep hk fun _ _ e _ c => y.seq e c
theorem Pend.store {b : Bool} {O O' : List Addr} {om om' : Om} {h h' : Heap} {v v1 : Value} {d : V} (x : Pend g b O om h v d) (sk : StoreKeep h h') (hO' : ∀ a ∈ O', a ∈ O) (hO : ∀ a ∈ O, a ∉ om.map (·.2) → a ∈ O') (hom : ∀ a ∈ om'.map (·.2), a ∈ om.map (·.2) ∨ v1 = .ref a) (hne : b = true → v ≠ v1) : Pend g b O' om' h' v d := by
  unfold Pend at x ⊢
  split at x
  · rename_i hb
    rw [if_pos hb]
    obtain ⟨a, vs, ds, h1, h2, h3, h4, h5, h6, ⟨n, e⟩, h8⟩ := x
    have e' := sk.obj e (.inl ⟨_, _, rfl⟩)
    refine ⟨a, vs, ds, h1, h2, hO a h3 h5, h4, fun hm => ?_, by rw [e']; nofun, ⟨n, e'⟩, (sk.wx (W := []) (O := O) |>.reps h8).lessO hO'⟩
    rcases hom a hm with q | q
    · exact h5 q
    · exact hne hb (by rw [h1, q])
  · rename_i hb
    rw [if_neg hb]
    exact (sk.wx (W := []) (O := O) |>.rep x).lessO hO'

theorem got_pend {s : Shared} {h' : Heap} {x : Str} {v : Value} {d : V} {e : Expr} {O : List Addr} {om : Om} {ρ : Rho} (ok : StOK Z g env sc O₀ O om ρ s.heap) (q : Got Z (om.map (·.2)) O s.heap h' false e v d) :
    ∃ O', StOK Z g env sc O₀ O' om ρ h' ∧ (∀ a ∈ O', a ∈ O ∨ (v = .ref a ∧ s.heap.get? a = none)) ∧ (∀ a ∈ O, a ∈ O') ∧ Pend g (isFresh e && mu.contains x && isLst d) O' om h' v d ∧ ((isFresh e && mu.contains x && isLst d) = true → ∃ a, v = .ref a ∧ s.heap.get? a = none ∧ h'.get? a ≠ none) := by
  refine Exists.elim (got_store (mu := mu) (x := x) ok q) fun O' q_42 => ?_
  have h1 := q_42.1
  have h2 := q_42.2.1
  have h3 := q_42.2.2.1
  have h4 := q_42.2.2.2
  refine ⟨O', h1, h2, h3, ?_, fun hb => ?_⟩
  · unfold Pend
    split at h4
    · rename_i hb
      refine ex3 h4 fun a vs ds q_47 => ?_
      have e1 := q_47.1
      have e2 := q_47.2.1
      have e3 := q_47.2.2.1
      have e4 := q_47.2.2.2.1
      have e5 := q_47.2.2.2.2.1
      have e6 := q_47.2.2.2.2.2.1
      have e7 := q_47.2.2.2.2.2.2.1
      have e8 := q_47.2.2.2.2.2.2.2.1
      rw [if_pos hb]; exact ⟨a, vs, ds, e1, e2, e3, e4, e5, e6, e7, e8⟩
    · rename_i hb
      rw [if_neg hb]; exact h4
  · rw [if_pos hb] at h4
    refine ex3 h4 fun a vs ds q_52 => ?_
    have e1 := q_52.1
    have e6 := q_52.2.2.2.2.2.1
    have e9 := q_52.2.2.2.2.2.2.2.2
    exact ⟨a, e1, e9, e6⟩

theorem store2_ok {M : Model} {A : Around} {E : Value → Shared → Prop} {s : Shared} {x y : Str} {v u : Value} {d c : V} {f1 f2 : Bool} {O : List Addr} {om : Om} {ρ : Rho} {Q : Unit → Shared → Prop} (hx : okVar sc x = true) (hy : okVar sc y = true) (ok : StOK Z g env sc O₀ O om ρ s.heap)
    (pv : Pend g (f1 && mu.contains x && isLst d) O om s.heap v d) (pu : Pend g (f2 && mu.contains y && isLst c) O om s.heap u c) (hne : (f2 && mu.contains y && isLst c) = true → (f1 && mu.contains x && isLst d) = true → u ≠ v)
    (hQ : ∀ h' tk O' om', (stash mu y f2 c (stash mu x f1 d ⟨om.map (·.1), ρ⟩)).own = om'.map (·.1) → StOK Z g env sc O₀ O' om' (stash mu y f2 c (stash mu x f1 d ⟨om.map (·.1), ρ⟩)).ρ h' → (∀ b o, s.heap.get? b = some o → b ≠ Z.P → ¬ Mut env sc om b → b ∉ (if (f1 && mu.contains x && isLst d) = true then [v] else []).map (fun | .ref a => a | _ => 0) → h'.get? b = some o) →
      (∀ b, (s.heap.get? b).isSome = true → (h'.get? b).isSome = true) → (∀ a ∈ om'.map (·.2), a ∈ om.map (·.2) ∨ ((f1 && mu.contains x && isLst d) = true ∧ v = .ref a) ∨ ((f2 && mu.contains y && isLst c) = true ∧ u = .ref a)) → (∀ a ∈ O', a ∈ O) → Q () { s with heap := h', toks := tk }) :
    wpAny M A (storeName env x v) (fun _ s₁ => wpAny M A (storeName env y u) Q E s₁) E s := by
  refine stash_ok (mu := mu) (fr := f1) (d := d) hx rfl ok pv fun h1 tk1 O1 om1 e1 ok1 k1 m1 hO1 hO2 sk1 hom1 => ?_
  have pu' : Pend g (f2 && mu.contains y && isLst c) O1 om1 h1 u c := by
    cases hb : (f1 && mu.contains x && isLst d) with
    | true => exact pu.store sk1 hO1 hO2 (fun a ha => (hom1 a ha).imp id (·.2)) fun q => hne q hb
    | false =>
      refine pu.store (v1 := .none) sk1 hO1 hO2 (fun a ha => .inl ?_) fun q => ?_
      · rcases hom1 a ha with h | ⟨h, _⟩
        · exact h
        · rw [hb] at h; exact Bool.noConfusion h
      · unfold Pend at pu; rw [if_pos q] at pu; obtain ⟨a, _, _, rfl, _⟩ := pu; nofun
  have e1' : stash mu x f1 d ⟨om.map (·.1), ρ⟩ = ⟨om1.map (·.1), (stash mu x f1 d ⟨om.map (·.1), ρ⟩).ρ⟩ := by rw [← e1]
  rw [e1'] at hQ
  refine stash_ok (mu := mu) (fr := f2) (d := c) (s := { s with heap := h1, toks := tk1 }) hy rfl ok1 pu' fun h2 tk2 O2 om2 e2 ok2 k2 m2 hO3 hO4 sk2 hom2 => ?_
  refine hQ h2 tk2 O2 om2 e2 ok2 (fun b o e hP hm hv => ?_) (fun b e => m2 b (m1 b e)) (fun a ha => ?_) fun a ha => hO1 a (hO3 a ha)
  · refine k2 b o (k1 b o e hP hm) hP fun q => ?_
    rcases q with q | q | q
    · exact hm (.inl q)
    · exact hm (.inr (.inl q))
    · rcases hom1 b q with q | ⟨hb, rfl⟩
      · exact hm (.inr (.inr q))
      · rw [if_pos hb] at hv; exact hv (by simp)
  · rcases hom2 a ha with h | ⟨h, q⟩
    · rcases hom1 a h with h | h
      · exact .inl h
      · exact .inr (.inl h)
    · exact .inr (.inr ⟨h, q⟩)
end
end Mine

-- MT
set_option maxRecDepth 10000
namespace Mine
set_option tactic.hygienic false

section
variable {Z : Par} {prog : Program} {w : World} {k : Nat} {g : Heap} {env : Env} {sc : Nm} {O₀ : List Addr} {T : Evl} {K : Blk} {wf : Nat} {mu : List Str}

noncomputable def swR (nf st bx b0 b_y bl fs ca : Bool) (x y : Str) : Sem (Option (List Str)) := do
  if !(2 == 2 || 2 == 3) || 2 != 2 || nf then return none
  if st then return none
  let names : List Str := [(x, bx && b0), (y, b_y && bl)].filterMap fun p => if p.2 then some p.1 else none
  if names.length != 2 || names.eraseDups.length != names.length then return none
  if fs then return none
  if ca then unsupported "assign.tuple-of-constant-expressions:order-of-the-stores"
  return some names
theorem swR_eq {bx b_y bl fs : Bool} {x y : Str} (hne : x ≠ y) : swR false false bx true b_y bl fs false x y = pure (if (bx && b_y && bl && !fs) then some [x, y] else none) := by
  have hdup : ([x, y] : List Str).eraseDups = [x, y] := by
    rw [List.eraseDups_cons]
    have : (y == x) = false := by simpa using Ne.symm hne
    simp [this]
    rw [List.eraseDups_cons]; rfl
  cases bx <;> cases b_y <;> cases bl <;> first
    | rfl
    | (show (if (decide ((2 : Nat) ≠ 2) || ([x, y].eraseDups.length != 2)) = true then _ else _) = _
       rw [hdup]
       cases fs <;> rfl)
theorem swapped_is (fe : FunEnv Z g env sc) {x y : Str} {px py tp p2 : Pos} {k1 k2 : Nat} {e1 e2 : Expr} (hne : x ≠ y) (hx : okVar sc x = true) (hy : okVar sc y = true) (hs1 : ∀ e p, e1 ≠ .Starred e p) (hs2 : ∀ e p, e2 ≠ .Starred e p) (hc : ([e1, e2].all (constantsAlone 8)) = false) :
    swappedStores [.Tuple [.Name x px, .Name y py] k1 tp] (.Tuple [e1, e2] k2 p2) env = pure (if swapB sc x y px py e1 e2 then some [x, y] else none) := by
  have hk : env.blockKind = .function := by
    unfold Env.blockKind; rw [fe.kind]; rfl
  have hkx : (env.kindOf x == some .local) = (sc.lookup x == some .local) := by
    rcases okVar_some hx with h | h
    · rw [fe.loc x h, h]
    · rw [(fe.cel x h).1, h]
  have hky : (env.kindOf y == some .local) = (sc.lookup y == some .local) := by
    rcases okVar_some hy with h | h
    · rw [fe.loc y h, h]
    · rw [(fe.cel y h).1, h]
  have hst : ([e1, e2].any fun | .Starred .. => true | _ => false) = false := by
    rw [List.any_eq_false]
    intro e he
    have : ∀ e' p, e ≠ .Starred e' p := by
      rcases List.mem_cons.mp he with rfl | he
      · exact hs1
      · rw [List.mem_singleton.mp he]; exact hs2
    intro hs
    obtain ⟨a, p, q⟩ := starB_is ((ea (F := fun e => match e with | .Starred .. => true | _ => false) (G := starB) (by kernel_rfl) e).symm.trans hs)
    exact this a p q
  have key : swappedStores [.Tuple [.Name x px, .Name y py] k1 tp] (.Tuple [e1, e2] k2 p2) env = swR (env.blockKind != .function) ([e1, e2].any fun | .Starred .. => true | _ => false) (env.kindOf x == some .local) (px.line == px.line) (env.kindOf y == some .local) (py.line == px.line) ([e1, e2].all (foldedForSure 8)) ([e1, e2].all (constantsAlone 8)) x y := by kernel_rfl
  rw [key, hk, hst, hkx, hky, hc, beq_self_eq_true]
  exact swR_eq hne

theorem tup2_ok (hT : TOK Z prog w k T) (gd : Gd Z g) {A : Around} {E : Value → Shared → Prop} {s : Shared} {O : List Addr} {om : Om} {ρ : Rho} {x y : Str} {e1 e2 : Expr} {k2 : Nat} {p2 : Pos} {d1 d2 : V} {R : List Value → Shared → Prop} (hA : GoodA k A) (ok : StOK Z g env sc O₀ O om ρ s.heap)
    (h1 : T false sc (om.map (·.1)) ρ e1 = some d1) (h2 : T false sc (om.map (·.1)) ρ e2 = some d2)
    (hR : ∀ h3 tk v1 v2 O2, StOK Z g env sc O₀ O2 om ρ h3 → Pend g (isFresh e1 && mu.contains x && isLst d1) O2 om h3 v1 d1 → Pend g (isFresh e2 && mu.contains y && isLst d2) O2 om h3 v2 d2 → Ext Z s.heap h3 →
      ((isFresh e1 && mu.contains x && isLst d1) = true → ∃ a, v1 = .ref a ∧ s.heap.get? a = none) → ((isFresh e2 && mu.contains y && isLst d2) = true → ∃ a, v2 = .ref a ∧ s.heap.get? a = none) →
      ((isFresh e2 && mu.contains y && isLst d2) = true → (isFresh e1 && mu.contains x && isLst d1) = true → v2 ≠ v1) → SO O O2 s.heap → R [v1, v2] { s with heap := h3, toks := tk }) :
    wpAny (model prog w) A (eval (.Tuple [e1, e2] k2 p2) env) (fun v s₁ => wpAny (model prog w) A (unpackItems v 2 none) R E s₁) E s := by
  refine wpAny_Tuple ?_
  refine wpAny_items_cons ?_ (star1 hT.st h1 [e2] env)
  refine hT.ev _ _ _ _ _ _ h1 A env _ O s _ E hA (ok.ext.gd gd) ok.toEnv fun ha tka v1 q1 => ?_
  obtain ⟨O1, ok1, hO1, hO1', p1, f1⟩ := got_pend (mu := mu) (x := x) ok q1
  refine wpAny_items_cons ?_ (star1 hT.st h2 [] env)
  refine hT.ev _ _ _ _ _ _ h2 A env _ O1 { s with heap := ha, toks := tka } _ E hA (ok1.ext.gd gd) ok1.toEnv fun hb tkb v2 q2 => ?_
  obtain ⟨O2, ok2, hO2, hO2', pp2, f2⟩ := got_pend (mu := mu) (x := y) (s := { s with heap := ha, toks := tka }) ok1 q2
  have pp1 : Pend g (isFresh e1 && mu.contains x && isLst d1) O2 om hb v1 d1 := p1.ext q2.ext hO2' fun a ha => (hO2 a ha).imp id (·.2)
  refine wpAny_items_nil ?_
  refine ⟨by show 2 ≤ sizeLine; decide, ?_⟩
  have x3 : Ext Z hb _ := Ext.push (ok2.ext.gd gd) { cls := .type "tuple", data := .seq [v1, v2].toArray }
  refine unpackItems_tuple (items := [v1, v2].toArray) hA.handled ⟨_, Heap.get?_push_size _ rfl, rfl, _, rfl⟩ fun h4 hk => ?_
  have x4 : Ext Z _ h4 := .ofKeep (x3.gd (ok2.ext.gd gd)) fun b o e => hk b o (Nat.ne_of_lt (Heap.lt_size e)) e
  have x34 := x3.trans x4
  refine hR h4 tkb v1 v2 O2 (ok2.grown x34) (pp1.ext x34 (fun _ h => h) fun _ h => .inl h) (pp2.ext x34 (fun _ h => h) fun _ h => .inl h) (q1.ext.trans (q2.ext.trans x34)) (fun hb => ?_) (fun hb => ?_) (fun hb2 hb1 => ?_) fun a ha => (hO2 a ha).elim (fun h => (hO1 a h).imp id (·.2)) fun h => .inr (q1.ext.kNone h.2)
  · obtain ⟨a, e, n, _⟩ := f1 hb; exact ⟨a, e, n⟩
  · obtain ⟨a, e, n, _⟩ := f2 hb; exact ⟨a, e, q1.ext.kNone n⟩
  · obtain ⟨a, rfl, n, n2⟩ := f1 hb1
    obtain ⟨a2, rfl, m, m2⟩ := f2 hb2
    intro e
    cases e
    exact n2 m

theorem stash_eta (fr : Bool) (x : Str) (d : V) (st : SS) : stash mu x fr d st = stash mu x fr d ⟨st.own, st.ρ⟩ := rfl

theorem assignTwo_ok (hT : TOK Z prog w k T) (gd : Gd Z g) {x y : Str} {px py tp p2 pos : Pos} {k1 k2 : Nat} {e1 e2 : Expr} : StmS Z prog w k g env sc O₀ (step T K wf mu sc) (.Assign [.Tuple [.Name x px, .Name y py] k1 tp] (.Tuple [e1, e2] k2 p2) pos) := by
  refine .mk' fun om ρ st' r h => ?_
  replace h : stTwo T mu sc x y px py e1 e2 ⟨om.map (·.1), ρ⟩ = some (st', r) := h
  unfold stTwo at h
  split at h
  · rename_i hc
    simp only [Bool.and_eq_true] at hc
    obtain ⟨⟨⟨hx, hy⟩, hne⟩, hca⟩ := hc
    have hne : x ≠ y := by simpa using hne
    have hca : ([e1, e2].all (constantsAlone 8)) = false := by
      cases q : [e1, e2].all (constantsAlone 8) with
      | false => rfl
      | true => rw [q] at hca; exact Bool.noConfusion hca
    split at h
    · rename_i d1 d2 h1 h2
      dsimp only at h1 h2
      intro A O s Q E hA ok hQ
      have hs1 : ∀ e p, e1 ≠ .Starred e p := fun e p q => by rw [q, hT.st] at h1; cases h1
      have hs2 : ∀ e p, e2 ≠ .Starred e p := fun e p q => by rw [q, hT.st] at h2; cases h2
      have hsw := swapped_is ok.fe (px := px) (py := py) (tp := tp) (p2 := p2) (k1 := k1) (k2 := k2) hne hx hy hs1 hs2 hca
      have stp : ∀ {h3 h' : Heap} {om' : Om} {b1 b2 : Bool} {v1 v2 : Value}, Ext Z s.heap h3 → (b1 = true → ∃ a, v1 = .ref a ∧ s.heap.get? a = none) → (b2 = true → ∃ a, v2 = .ref a ∧ s.heap.get? a = none) →
          (∀ b o, h3.get? b = some o → b ≠ Z.P → ¬ Mut env sc om b → b ∉ (if b1 = true then [v1] else []).map (fun | .ref a => a | _ => 0) → h'.get? b = some o) → (∀ b, (h3.get? b).isSome = true → (h'.get? b).isSome = true) →
          (∀ a ∈ om'.map (·.2), a ∈ om.map (·.2) ∨ (b1 = true ∧ v1 = .ref a) ∨ (b2 = true ∧ v2 = .ref a)) → Stp Z env sc om om' s.heap h' := by
        intro h3 h' om' b1 b2 v1 v2 x3 n1 n2 hk hm hom
        refine ⟨fun b o e hP hmu => hk b o (x3.keep b o hP e) hP hmu fun hin => ?_, fun a ha => ?_, fun b e => hm b (x3.kSome e)⟩
        · split at hin
          · rename_i hb
            obtain ⟨a, rfl, n⟩ := n1 hb
            simp at hin
            rw [hin, n] at e; cases e
          · simp at hin
        · rcases hom a ha with h | ⟨h, rfl⟩ | ⟨h, rfl⟩
          · exact .inl h
          · obtain ⟨a', e, n⟩ := n1 h; cases e; exact .inr n
          · obtain ⟨a', e, n⟩ := n2 h; cases e; exact .inr n
      split at h
      · rename_i hb
        rw [if_pos hb] at hsw
        obtain ⟨rfl, rfl⟩ := Prod.mk.inj (Option.some.inj h)
        refine Assign_Tuple_swapped (names := [x, y]) ?_ rfl hsw
        refine tup2_ok (mu := mu) (x := x) (y := y) hT gd hA ok h1 h2 fun h3 tk v1 v2 O2 ok2 p1 p2 x3 n1 n2 hnn so => ?_
        show wpAny _ A (do holding [v1] (bindName env y v2); (do holding [] (bindName env x v1); pure ())) _ E _
        refine wpAny_bind (wpAny_holding (wpAny_bindName (wpAny_mono (store2_ok (mu := mu) (s := { s with heap := h3, toks := tk }) (Q := fun _ s' => Q .next s') (E := E) hy hx ok2 p2 p1 (fun a b => Ne.symm (hnn b a)) fun h' tk' O' om' e' ok' k' m' hom' hO' => ?_) (fun _ s₁ h => ?_) fun _ _ e => e)))
        · exact hQ h' tk' O' om' e' ok' (stp x3 n2 n1 k' m' hom') fun a ha => so a (hO' a ha)
        · exact wpAny_bind (wpAny_holding (wpAny_bindName (wpAny_mono h (fun _ _ q => wpAny_pure q) fun _ _ e => e)))
      · rename_i hb
        rw [if_neg hb] at hsw
        obtain ⟨rfl, rfl⟩ := Prod.mk.inj (Option.some.inj h)
        refine Assign_Tuple ?_ rfl hsw
        have e : ∀ v, assign (.Tuple [.Name x px, .Name y py] k1 tp) env v = (do standAt tp; unpack v [(false, assign (.Name x px) env), (false, assign (.Name y py) env)]) := fun v => rfl
        refine wpAny_mono (tup2_ok (R := fun items s' => wpAny (model prog w) A (assignInOrder [assign (.Name x px) env, assign (.Name y py) env] items) (fun _ => Q .next) E s') (mu := mu) (x := x) (y := y) hT gd hA ok h1 h2 fun h3 tk v1 v2 O2 ok2 p1 p2 x3 n1 n2 hnn so => ?_) (fun v s₁ h => ?_) fun _ _ e => e
        · show wpAny _ A (do holding [v2] (assign (.Name x px) env v1); (do holding [] (assign (.Name y py) env v2); pure ())) _ E _
          refine wpAny_bind (wpAny_holding (wpAny_assign_Name (wpAny_mono (store2_ok (mu := mu) (s := { s with heap := h3, toks := tk }) (Q := fun _ s' => Q .next s') (E := E) hx hy ok2 p1 p2 hnn fun h' tk' O' om' e' ok' k' m' hom' hO' => ?_) (fun _ s₁ h => ?_) fun _ _ e => e)))
          · exact hQ h' tk' O' om' e' ok' (stp x3 n1 n2 k' m' hom') fun a ha => so a (hO' a ha)
          · exact wpAny_bind (wpAny_holding (wpAny_assign_Name (wpAny_mono h (fun _ _ q => wpAny_pure q) fun _ _ e => e)))
        · rw [e]
          refine wpAny_bind (wpAny_standAt ?_)
          unfold unpack
          exact wpAny_bind (wpAny_holding h)
    · cases h
  · cases h
end
end Mine

-- MU
set_option maxRecDepth 10000
namespace Mine
set_option tactic.hygienic false

section
variable {prog : Program} {w : World} {A : Around} {E : Value → Shared → Prop} {s : Shared}
theorem plain_mapSeq (f : Array Value → Array Value) (its : Array Value) (n : Nat) : ∃ n', Obj.mapSeq f { cls := .type "list", data := .seq its n } = { cls := .type "list", data := .seq (f its) n' } := by
  unfold Obj.mapSeq
  exact ⟨_, rfl⟩
theorem setItem_plain {l : Addr} {vs : List Value} {k : Int} {t : Tok} {v : Value} {Q : Unit → Shared → Prop} (hl : s.heap.PlainList l vs.toArray) (h0 : 0 ≤ k) (hfit : k < 2 ^ 63) (hn : k < vs.length)
    (hQ : ∀ h', h'.PlainList l (vs.set k.toNat v).toArray → Heap.SameBut l s.heap h' → Q () { s with heap := h' }) : wpAny (model prog w) A (setItem (.ref l) (.int k t) v) Q E s := by
  obtain ⟨n, ho⟩ := id hl
  have hl' := hl.isList
  have hd : ({ cls := .type "list", data := .seq vs.toArray n } : Obj).data = .seq vs.toArray n := rfl
  unfold setItem
  try with_reducible refine wpAny_holding ?_
  first | refine wpAny_bind (wpAny_pure ?_) | skip
  refine wpAny_bind (wpAny_sequenceKey hl'.typeIs (by decide) ?_)
  refine wpAny_bind (wpAny_callSpecial?_slot (name := Str.ofString "__setitem__") hl'.typeIs slot_list_setitem
    (wpAny_call_entry slot_list_setitem hl'.typeIs entry_list_setitem ?_ (args_list_setitem _ _ _)))
  show wpAny _ _ (Builtin.List.listSubscript? (.int k t) >>= _) _ _ s
  refine wpAny_bind (wpAny_listSubscript_int (fitsIndex_of h0 hfit) ?_)
  clear hfit
  obtain ⟨j, rfl⟩ := Int.eq_ofNat_of_zero_le h0
  have hj : j < vs.toArray.size := by simp; omega
  have hx' : vs.toArray[j]? = some vs.toArray[j] := Array.getElem?_eq_getElem hj
  show wpAny _ _ ((seqItemAt l j >>= fun r => pure (r.map (j, ·))) >>= _) _ _ s
  refine wpAny_bind (wpAny_bind (wpAny_seqItemAt ho hd (wpAny_pure ?_)))
  rw [hx']
  show wpAny _ _ (setSeqItemAt l j v >>= _) _ _ s
  have hfin : (s.heap.update l (Obj.mapSeq (·.setIfInBounds j v))).PlainList l (vs.set j v).toArray := by
    obtain ⟨n', e⟩ := plain_mapSeq (·.setIfInBounds j v) vs.toArray n
    rw [List.setIfInBounds_toArray] at e
    exact ⟨n', by rw [Heap.get?_update_self _ ho (by rw [e]; rfl), e]⟩
  refine wpAny_bind (wpAny_setSeqItemAt ho hd ?_)
  first
    | exact wpAny_bind (wpAny_pure (wpAny_pure ⟨.none, rfl, wpAny_pure (hQ _ hfin (Heap.SameBut.update ..))⟩))
    | exact wpAny_pure ⟨.none, rfl, wpAny_pure (hQ _ hfin (Heap.SameBut.update ..))⟩

theorem insert_plain {l : Addr} {vs : List Value} {k : Int} {t : Tok} {v : Value} {Q : Value → Shared → Prop} (hl : s.heap.PlainList l vs.toArray) (h0 : 0 ≤ k) (hn : k ≤ vs.length) (hsz : vs.length ≤ 1000000)
    (hQ : ∀ h', h'.PlainList l (vs.take k.toNat ++ v :: vs.drop k.toNat).toArray → Heap.SameBut l s.heap h' → Q .none { s with heap := h' }) : wpAny (model prog w) A (call (.builtin "list.insert") [.ref l, .int k t, v]) Q E s := by
  obtain ⟨n, ho⟩ := id hl
  have hs : vs.toArray.size ≤ sizeLine := by rw [List.size_toArray, sizeLine_eq]; omega
  have hf : Builtin.List.listFitsIndex k = true := fitsIndex_of h0 (by omega)
  refine call_meets PySem.F.slot_list_insert ⟨_, ho, rfl⟩ PySem.F.entry_list_insert (PySem.F.args_list_insert_3 _ _ _) (PySem.AutoSeq1.list_insert_list_int_val_1 l _ n k t v (by simp [hf]) hs) ⟨ho, ?_⟩
  have h1 : ¬ (k < 0) := by omega
  have h2 : min k.toNat vs.toArray.size = k.toNat := by rw [List.size_toArray]; exact Nat.min_eq_left (Int.toNat_le.mpr (by assumption))
  have h3 : (vs.toArray.extract 0 k.toNat).push v ++ vs.toArray.extract k.toNat = (vs.take k.toNat ++ v :: vs.drop k.toNat).toArray := by
    apply Array.ext'
    simp
    rw [List.take_of_length_le (by simp)]
  obtain ⟨n', e⟩ := plain_mapSeq (fun xs => have j := if k < 0 then (k + ((xs.size : Nat) : Int)).toNat else min k.toNat xs.size; (xs.extract 0 j).push v ++ xs.extract j) vs.toArray n
  simp only [if_neg h1, h2, h3] at e
  refine hQ _ ⟨n', ?_⟩ (Heap.SameBut.update ..)
  have e' : Obj.mapSeq (fun xs => have j := if k < 0 then (k + ((xs.size : Nat) : Int)).toNat else min k.toNat xs.size; (xs.extract 0 j).push v ++ xs.extract j) { cls := .type "list", data := .seq vs.toArray n } = { cls := .type "list", data := .seq (vs.take k.toNat ++ v :: vs.drop k.toNat).toArray n' } := by
    simp only [if_neg h1]; exact e
  rw [Heap.get?_update_self _ ho (by rw [e']; rfl), e']
end

section
variable {Z : Par} {prog : Program} {w : World} {k : Nat} {g : Heap} {env : Env} {sc : Nm} {O₀ : List Addr} {T : Evl} {K : Blk} {wf : Nat} {mu : List Str}

theorem own_mem {om : Om} {x : Str} (h : (om.map (·.1)).contains x = true) : ∃ a, (x, a) ∈ om := by
  obtain ⟨p, hp, rfl⟩ := List.mem_map.mp (List.contains_iff_mem.mp h)
  exact ⟨p.2, hp⟩

theorem assign_Sub (o i : Expr) (p : Pos) (v : Value) : assign (.Subscript o i p) env v = (do
    let ov ← holding [v] (eval o env)
    let iv ← holding [v, ov] (eval i env)
    standAt p
    holding [v, ov, iv] (setItem ov iv v)
    release (match i with | .Slice _ _ none _ => [iv, v, ov] | _ => [v, ov, iv]) []) := rfl

set_option tactic.hygienic true in
theorem setI_ok (hT : TOK Z prog w k T) (gd : Gd Z g) {A : Around} {E : Value → Shared → Prop} {s : Shared} {O : List Addr} {om : Om} {ρ : Rho} {x : Str} {i : Expr} {px p : Pos} {d kv : V} {v : Value} {st' : SS} {Q : Unit → Shared → Prop} (hA : GoodA k A) (ok : StOK Z g env sc O₀ O om ρ s.heap)
    (rv : Rep O s.heap v d) (hi : T true sc (om.map (·.1)) ρ i = some kv) (h : setI x kv d ⟨om.map (·.1), ρ⟩ = some st')
    (hQ : ∀ h' tk, st'.own = om.map (·.1) → StOK Z g env sc O₀ O om st'.ρ h' → Stp Z env sc om om s.heap h' → Rep O h' v d → Q () { s with heap := h', toks := tk }) : wpAny (model prog w) A (assign (.Subscript (.Name x px) i p) env v) Q E s := by
  unfold setI at h
  dsimp only at h
  split at h
  · rename_i hown
    split at h
    · rename_i ds k' hl
      split at h
      · rename_i hb
        obtain rfl := Option.some.inj h
        obtain ⟨a, ha⟩ := own_mem hown
        obtain ⟨⟨kk, hk1, hk2⟩, ds', vs, e, hv, pl, r⟩ := ok.own _ ha
        rw [hl] at e; cases e
        rw [assign_Sub]
        refine wpAny_bind (wpAny_holding (name_var ok.toEnv hk1 hv ?_))
        refine wpAny_bind (wpAny_holding ?_)
        refine hT.ev _ _ _ _ _ _ hi A env _ O s _ E hA (ok.ext.gd gd) ok.toEnv fun h' tk iv q => ?_
        obtain ⟨t, rfl⟩ := q.top.int
        have ok' := ok.grown q.ext
        refine wpAny_bind (wpAny_standAt (wpAny_bind (wpAny_holding ?_)))
        refine setItem_plain (s := { s with heap := h', toks := tk }) (q.ext.plain pl) hb.1 (by omega) (by rw [r.length]; exact hb.2.1) fun h2 pl2 sb => ?_
        obtain ⟨ok2, sp2⟩ := ok'.turned ha sb pl2 ((q.ext.reps r).set k'.toNat (q.ext.rep rv))
        refine wpAny_release (hQ h2 tk rfl ok2 (q.ext.stp.trans sp2) ?_)
        obtain ⟨haO, _⟩ := ok.omO _ ha
        exact (Wx.but (W := []) sb.extBut fun _ _ => .inr ⟨haO, fun h => nomatch h⟩).rep (q.ext.rep rv)
      · cases h
    · cases h
  · cases h

set_option tactic.hygienic true in
theorem assignItem_ok (hT : TOK Z prog w k T) (gd : Gd Z g) {x : Str} {i e : Expr} {px p pos : Pos} : StmS Z prog w k g env sc O₀ (step T K wf mu sc) (.Assign [.Subscript (.Name x px) i p] e pos) := by
  refine .mk' fun om ρ st' r h => ?_
  replace h : stItem T sc x i e ⟨om.map (·.1), ρ⟩ = some (st', r) := h
  unfold stItem at h
  split at h
  · rename_i d kv hd hi
    obtain ⟨st1, hs, h⟩ := Option.map_eq_some_iff.mp h
    cases h
    dsimp only at hd hi
    intro A O s Q E hA ok hQ
    have hsw : swapsWithSole [.Subscript (.Name x px) i p] e pos.line env = pure false := by
      show swapsWith e (some (.Subscript (.Name x px) i p)) pos.line env = pure false
      exact ea (F := fun e => swapsWith e (some (.Subscript (.Name x px) i p)) pos.line env) (G := fun _ => pure false) (by kernel_rfl) e
    refine wpAny_Assign_stores ?_ hsw (ea (F := fun e => swappedStores [.Subscript (.Name x px) i p] e env) (G := fun _ => pure none) (by kernel_rfl) e)
    refine hT.ev _ _ _ _ _ _ hd A env _ O s _ E hA (ok.ext.gd gd) ok.toEnv fun h' tk v q => ?_
    have ok' := ok.grown q.ext
    refine setI_ok (s := { s with heap := h', toks := tk }) hT gd hA ok' (q.rep rfl) hi hs fun h2 tk2 e2 ok2 sp2 _ => ?_
    exact hQ h2 tk2 O om e2 ok2 (q.ext.stp.trans sp2) .same
  · cases h

set_option tactic.hygienic true in
theorem assignItem2_ok (hT : TOK Z prog w k T) (gd : Gd Z g) {x y : Str} {i j e : Expr} {px p py p2 pos : Pos} : StmS Z prog w k g env sc O₀ (step T K wf mu sc) (.Assign [.Subscript (.Name x px) i p, .Subscript (.Name y py) j p2] e pos) := by
  refine .mk' fun om ρ st' r h => ?_
  replace h : stItem2 T sc x y i j e ⟨om.map (·.1), ρ⟩ = some (st', r) := h
  unfold stItem2 at h
  split at h
  · rename_i d kv hd hi
    split at h
    · rename_i st1 hs
      split at h
      · rename_i k2 hk2
        obtain ⟨st2, hs2, h⟩ := Option.map_eq_some_iff.mp h
        cases h
        dsimp only at hd hi
        intro A O s Q E hA ok hQ
        refine wpAny_Assign_two ?_ rfl (ea (F := fun e => swappedStores [.Subscript (.Name x px) i p, .Subscript (.Name y py) j p2] e env) (G := fun _ => pure none) (by kernel_rfl) e)
        refine hT.ev _ _ _ _ _ _ hd A env _ O s _ E hA (ok.ext.gd gd) ok.toEnv fun h' tk v q => ?_
        have ok' := ok.grown q.ext
        refine setI_ok (s := { s with heap := h', toks := tk }) hT gd hA ok' (q.rep rfl) hi hs fun h2 tk2 e2 ok2 sp2 rv => ?_
        obtain ⟨own1, ρ1⟩ := st1
        dsimp only at e2 ok2 hk2 hs2
        subst e2
        refine setI_ok (s := { s with heap := h2, toks := tk2 }) hT gd hA ok2 rv hk2 hs2 fun h3 tk3 e3 ok3 sp3 _ => ?_
        exact hQ h3 tk3 O om e3 ok3 (q.ext.stp.trans (sp2.trans sp3)) .same
      · cases h
    · cases h
  · cases h
end
end Mine

-- MVs
set_option maxRecDepth 10000
namespace Mine
set_option tactic.hygienic false

section
variable {Z : Par} {prog : Program} {w : World} {k : Nat} {g : Heap} {env : Env} {sc : Nm} {O₀ : List Addr} {T : Evl} {K : Blk} {wf : Nat} {mu : List Str}

theorem iop_ok {A : Around} {E : Value → Shared → Prop} {s : Shared} {W O : List Addr} {op : Operator} {a b d : V} {va vb : Value} {Q : Value → Shared → Prop} (e : iop op a b = some d) (gd : Gd Z s.heap) (ra : RepTop W O s.heap va a) (rb : RepTop W O s.heap vb b)
    (h : ∀ tk v, Rep O s.heap v d → Q v { s with toks := tk }) : wpAny (model prog w) A (inplaceOp op va vb) Q E s := by
  unfold iop at e
  split at e
  · cases e; exact iadd_ok ra rb h
  · cases e; exact isub_ok ra rb h
  · obtain ⟨ha, t, rfl⟩ := ra.str
    obtain ⟨hb, u, rfl⟩ := rb.str
    exact P.iadd_str (bin_str_add (O := O) ha hb e gd fun tk v n => h tk v n.2.1)
  · cases e

theorem load_var {M : Model} {A : Around} {E : Value → Shared → Prop} {s : Shared} {W O : List Addr} {own : List Str} {ρ : Rho} {x : Str} {kk : NameKind} {v : Value} {Q : Value → Shared → Prop} (e : EnvOK Z W O env sc own ρ s.heap) (hx : sc.lookup x = some kk) (hv : VarIn env s.heap x v) (h : Q v s) : wpAny M A (loadName env x) Q E s := by
  obtain ⟨hd, hc⟩ := e.ne hx
  rcases hv with ⟨k, m, n, em⟩ | ⟨k, c, ec, n⟩
  · exact wpAny_loadName_local e.kind k n em h
  · rcases k with k | k
    · exact wpAny_loadName_cell e.kind k ec n h
    · exact wpAny_loadName_free e.kind k ec n h hc

theorem not_mem_own {om : Om} {x : Str} (h : ¬ (om.map (·.1)).contains x = true) : x ∉ om.map (·.1) := fun hm => h (List.contains_iff_mem.mpr hm)

set_option tactic.hygienic true in
theorem augName_ok (hT : TOK Z prog w k T) (gd : Gd Z g) {x : Str} {px pos : Pos} {op : Operator} {e : Expr} : StmS Z prog w k g env sc O₀ (step T K wf mu sc) (.AugAssign (.Name x px) op e pos) := by
  intro st st' r h A O om s Q E hA ho ok hQ
  replace h : stAugN T sc x op e st = some (st', r) := h
  unfold stAugN at h
  split at h
  · rename_i hc
    simp only [Bool.and_eq_true] at hc
    obtain ⟨hx, hno⟩ := hc
    split at h
    · rename_i a b ha hb
      obtain ⟨d, hd, h⟩ := Option.map_eq_some_iff.mp h
      cases h
      obtain ⟨own, ρ⟩ := st
      dsimp only at ho hno ha hb ok
      subst ho
      have hno : x ∉ om.map (·.1) := by simpa using hno
      obtain ⟨kk, hk1, hk2⟩ := okVar_k hx
      obtain ⟨v, hv, rv⟩ := ok.var x kk a hk1 hk2 hno ha
      refine wpAny_AugAssign_Name (load_var ok.toEnv hk1 hv ?_)
      refine hT.ev _ _ _ _ _ _ hb A env _ O s _ E hA (ok.ext.gd gd) ok.toEnv fun h' tk u q => ?_
      have ok' := ok.grown q.ext
      refine iop_ok (s := { s with heap := h', toks := tk }) hd (ok'.ext.gd gd) (q.ext.repTop (Rep.top (W := om.map (·.2)) rv)) q.top fun tk2 v2 r2 => ?_
      refine store_at (s := { s with heap := h', toks := tk2 }) ok'.fe ok'.ns ok'.cells (okVar_some hx) fun h3 tk3 w => ?_
      exact hQ h3 tk3 O om rfl (ok'.wrote hno w r2) (q.ext.stp.trans w.stp') .same
    · cases h
  · cases h

set_option tactic.hygienic true in
theorem augItem_ok (hT : TOK Z prog w k T) (gd : Gd Z g) {x : Str} {i e : Expr} {px p pos : Pos} {op : Operator} : StmS Z prog w k g env sc O₀ (step T K wf mu sc) (.AugAssign (.Subscript (.Name x px) i p) op e pos) := by
  intro st st' r h A O om s Q E hA ho ok hQ
  replace h : stAugI T sc x i op e st = some (st', r) := h
  unfold stAugI at h
  split at h
  · rename_i kv l b hi hl hb
    split at h
    · rename_i a ha
      split at h
      · rename_i d hd
        obtain ⟨st1, hs, h⟩ := Option.map_eq_some_iff.mp h
        cases h
        obtain ⟨own, ρ⟩ := st
        dsimp only at ho hi hl hb ok
        subst ho
        unfold setI at hs
        dsimp only at hs
        split at hs
        · rename_i hown
          split at hs
          · rename_i ds k' hl'
            split at hs
            · rename_i hbd
              cases hs
              rw [hl'] at hl
              cases hl
              obtain ⟨ad, had⟩ := own_mem hown
              obtain ⟨⟨kk, hk1, hk2⟩, ds', vs, e', hv, pl, r⟩ := ok.own _ had
              rw [hl'] at e'; cases e'
              have haug : ∀ ov iv new, augStore i ov iv new = (do holding [new, ov, iv] (setItem ov iv new); release [new, ov, iv] []; pure .next) := by
                intro ov iv new
                unfold augStore
                cases i <;> first | rfl | skip
                rename_i lo hi2 st p3
                cases st with
                | some _ => rfl
                | none =>
                  rw [hT.noslice] at hi; cases hi
              refine wpAny_AugAssign_SubscriptAny (name_var ok.toEnv hk1 hv ?_) haug
              refine hT.ev _ _ _ _ _ _ hi A env _ O s _ E hA (ok.ext.gd gd) ok.toEnv fun h1 tk1 iv q1 => ?_
              obtain ⟨t, rfl⟩ := q1.top.int
              have ok1 := ok.grown q1.ext
              have top1 : RepTop (om.map (·.2)) O h1 (.ref ad) (.lst ds) := ⟨ad, vs, rfl, .inr (List.mem_map.mpr ⟨_, had, rfl⟩), (q1.ext.plain pl).isList, q1.ext.reps r⟩
              refine item_ok (s := { s with heap := h1, toks := tk1 }) ha top1 q1.top fun tk2 old ro => ?_
              refine hT.ev _ _ _ _ _ _ hb A env _ O { s with heap := h1, toks := tk2 } _ E hA (ok1.ext.gd gd) ok1.toEnv fun h2 tk3 u q2 => ?_
              have ok2 := ok1.grown q2.ext
              refine iop_ok (s := { s with heap := h2, toks := tk3 }) hd (ok2.ext.gd gd) (q2.ext.repTop (Rep.top (W := om.map (·.2)) ro)) q2.top fun tk4 new rn => ?_
              have x12 := q1.ext.trans q2.ext
              refine setItem_plain (s := { s with heap := h2, toks := tk4 }) (x12.plain pl) hbd.1 (by omega) (by rw [r.length]; exact hbd.2.1) fun h3 pl3 sb => ?_
              obtain ⟨ok3, sp3⟩ := ok2.turned had sb pl3 ((x12.reps r).set k'.toNat rn)
              exact hQ h3 tk4 O om rfl ok3 (x12.stp.trans sp3) .same
            · cases hs
          · cases hs
        · cases hs
      · cases h
    · cases h
  · cases h

set_option tactic.hygienic true in
theorem test_ok (hT : TOK Z prog w k T) (gd : Gd Z g) {A : Around} {E : Value → Shared → Prop} {s : Shared} {O : List Addr} {om : Om} {ρ : Rho} {e : Expr} {b : Bool} {Q : Bool → Shared → Prop} (hA : GoodA k A) (ok : StOK Z g env sc O₀ O om ρ s.heap) (h : testE T sc e ⟨om.map (·.1), ρ⟩ = some b)
    (hQ : ∀ h' tk, StOK Z g env sc O₀ O om ρ h' → Stp Z env sc om om s.heap h' → Q b { s with heap := h', toks := tk }) : wpAny (model prog w) A (isTrue e env (eval e env)) Q E s := by
  unfold testE at h
  dsimp only at h
  split at h
  · rename_i d hd
    exact hT.ts _ _ _ _ _ _ _ hd h A env _ O s _ E hA (ok.ext.gd gd) ok.toEnv fun h' tk x => hQ h' tk (ok.grown x) x.stp
  · cases h

theorem if_ok (hT : TOK Z prog w k T) (gd : Gd Z g) (hK : BlkS Z prog w k g env sc O₀ K) {test : Expr} {a b : List Stmt} {pos : Pos} : StmS Z prog w k g env sc O₀ (step T K wf mu sc) (.If test a b pos) := by
  intro st st' r h A O om s Q E hA ho ok hQ
  replace h : stIf T K sc test a b st = some (st', r) := h
  unfold stIf at h
  obtain ⟨own, ρ⟩ := st
  dsimp only at ho ok
  subst ho
  refine wpAny_If ?_
  split at h
  · rename_i ht
    refine test_ok hT gd hA ok ht fun h' tk ok' sp => ?_
    simp only [if_true]
    exact hK a _ st' r h A O om { s with heap := h', toks := tk } Q E hA rfl ok' fun h2 tk2 O2 om2 e2 ok2 sp2 so2 => hQ h2 tk2 O2 om2 e2 ok2 (sp.trans sp2) (SO.trans (.same) so2 sp)
  · rename_i ht
    refine test_ok hT gd hA ok ht fun h' tk ok' sp => ?_
    simp only [Bool.false_eq_true, if_false]
    exact hK b _ st' r h A O om { s with heap := h', toks := tk } Q E hA rfl ok' fun h2 tk2 O2 om2 e2 ok2 sp2 so2 => hQ h2 tk2 O2 om2 e2 ok2 (sp.trans sp2) (SO.trans (.same) so2 sp)
  · cases h

set_option tactic.hygienic true in
theorem return_ok (hT : TOK Z prog w k T) (gd : Gd Z g) {e : Expr} {pos : Pos} : StmS Z prog w k g env sc O₀ (step T K wf mu sc) (.Return (some e) pos) := by
  intro st st' r h A O om s Q E hA ho ok hQ
  replace h : stRet T sc e st = some (st', r) := h
  unfold stRet at h
  split at h
  · rename_i d hd
    cases h
    obtain ⟨own, ρ⟩ := st
    dsimp only at ho hd ok hQ
    subst ho
    obtain ⟨O1, om1, e1, ok1, hO1, hom1⟩ := ok.drops e
    rw [e1] at hd
    refine wpAny_Return_some ?_
    refine hT.ev _ _ _ _ _ _ hd A env _ O1 s _ E hA (ok1.ext.gd gd) ok1.toEnv fun h' tk v q => ?_
    exact hQ h' tk O1 om1 e1 (ok1.grown q.ext) (Stp.om q.ext.stp hom1) (fun a ha => .inl (hO1 a ha)) v (q.rep rfl)
  · cases h
end
end Mine

-- MWs
set_option maxRecDepth 10000
namespace Mine
set_option tactic.hygienic false

section
variable {Z : Par} {prog : Program} {w : World} {k : Nat} {g : Heap} {env : Env} {sc : Nm} {O₀ : List Addr} {T : Evl} {K : Blk} {wf : Nat} {mu : List Str}

theorem exprCall {M : Model} {A : Around} {E : Value → Shared → Prop} {s : Shared} (fe : FunEnv Z g env sc) {f : Expr} {args : List Expr} {kws : List Keyword} {p pos : Pos} {Q : Flow → Shared → Prop}
    (h : wpAny M A (eval (.Call f args kws p) env) (fun v s' => v = .none ∧ Q .next s') E s) : wpAny M A (exec (.Expr (.Call f args kws p) pos) env) Q E s := by
  refine wpAny_Expr (wpAny_mono h (fun v s' h => ?_) fun _ _ e => e) (by unfold interactive; rw [fe.kind]; rfl) rfl
  obtain ⟨rfl, h⟩ := h
  exact h

set_option tactic.hygienic true in
theorem append_ok (hT : TOK Z prog w k T) (gd : Gd Z g) {x m : Str} {e : Expr} {px apos p pos : Pos} : StmS Z prog w k g env sc O₀ (step T K wf mu sc) (.Expr (.Call (.Attribute (.Name x px) m apos) [e] [] p) pos) := by
  intro st st' r h A O om s Q E hA ho ok hQ
  replace h : stApp T sc x m e apos p st = some (st', r) := h
  unfold stApp at h
  split at h
  · rename_i hc
    simp only [Bool.and_eq_true] at hc
    obtain ⟨hm, hline⟩ := hc
    have hm := eq_of_beq hm
    subst hm
    obtain ⟨st1, hs, h⟩ := Option.map_eq_some_iff.mp h
    cases h
    obtain ⟨own, ρ⟩ := st
    dsimp only at ho ok
    subst ho
    obtain ⟨O1, om1, e1, ok1, hO1, hom1⟩ := ok.drops e
    unfold appendE at hs
    simp only [e1] at hs
    split at hs
    · rename_i hown
      split at hs
      · rename_i d ds hd hl
        split at hs
        · rename_i hle
          cases hs
          obtain ⟨ad, had⟩ := own_mem hown
          obtain ⟨⟨kk, hk1, hk2⟩, ds', vs, e', hv, pl, r⟩ := ok1.own _ had
          rw [hl] at e'; cases e'
          refine exprCall ok.fe ?_
          refine Call_method1 rfl (star1 hT.st hd [] env) hline ?_
          refine name_var ok1.toEnv hk1 hv ?_
          obtain ⟨nn, hobj⟩ := id pl
          refine ⟨"list", "list.append", PySem.F.plainAttrs_list, PySem.F.slot_list_append, PySem.F.type_list_append, pl.isList.typeIs, fun a q => by cases q; exact ⟨_, hobj, rfl⟩, ?_⟩
          refine callWith_builtin rfl (evalArgs_of rfl ?_)
          refine wpAny_bind (m := eval e env) ?_
          refine hT.ev _ _ _ _ _ _ hd A env _ O1 s _ E hA (ok1.ext.gd gd) ok1.toEnv fun h1 tk1 v q => ?_
          refine wpAny_bind (wpAny_pure (wpAny_bind (wpAny_holding (wpAny_pure (wpAny_pure ?_)))))
          show wpAny (model prog w) A (call (.builtin "list.append") [.ref ad, v]) _ E { s with heap := h1, toks := tk1 }
          have ok2 := ok1.grown q.ext
          refine wpAny_list_append_plain (q.ext.plain pl) (fun h2 pl2 sb => ⟨rfl, ?_⟩) (by rw [List.size_toArray, r.length, sizeLine_eq]; omega)
          have pl2 : h2.PlainList ad (vs ++ [v]).toArray := by simpa using pl2
          obtain ⟨ok3, sp3⟩ := ok2.turned had sb pl2 ((q.ext.reps r).append (.cons (q.rep rfl) .nil))
          exact hQ h2 tk1 O1 om1 rfl ok3 (Stp.om (q.ext.stp.trans sp3) hom1) fun a ha => .inl (hO1 a ha)
        · cases hs
      · cases hs
    · cases hs
  · cases h

set_option tactic.hygienic true in
theorem insert_ok (hT : TOK Z prog w k T) (gd : Gd Z g) {x m : Str} {i e : Expr} {px apos p pos : Pos} : StmS Z prog w k g env sc O₀ (step T K wf mu sc) (.Expr (.Call (.Attribute (.Name x px) m apos) [i, e] [] p) pos) := by
  intro st st' r h A O om s Q E hA ho ok hQ
  replace h : stIns T sc x m i e apos p st = some (st', r) := h
  unfold stIns at h
  split at h
  · rename_i hc
    simp only [Bool.and_eq_true] at hc
    obtain ⟨hm, hline⟩ := hc
    have hm := eq_of_beq hm
    subst hm
    obtain ⟨st1, hs, h⟩ := Option.map_eq_some_iff.mp h
    cases h
    obtain ⟨own, ρ⟩ := st
    dsimp only at ho ok
    subst ho
    unfold insertE at hs
    dsimp only at hs
    split at hs
    · rename_i hown
      split at hs
      · rename_i kv d ds hi hd hl
        split at hs
        · rename_i hle
          cases hs
          obtain ⟨ad, had⟩ := own_mem hown
          obtain ⟨⟨kk, hk1, hk2⟩, ds', vs, e', hv, pl, r⟩ := ok.own _ had
          rw [hl] at e'; cases e'
          refine exprCall ok.fe ?_
          refine Call_method2 rfl (by rw [star1 hT.st hi [e] env, star1 hT.st hd [] env]; rfl) hline ?_
          refine name_var ok.toEnv hk1 hv ?_
          obtain ⟨nn, hobj⟩ := id pl
          refine ⟨"list", "list.insert", PySem.F.plainAttrs_list, PySem.F.slot_list_insert, PySem.F.type_list_insert, pl.isList.typeIs, fun a q => by cases q; exact ⟨_, hobj, rfl⟩, ?_⟩
          refine callWith_builtin rfl (evalArgs_of rfl ?_)
          refine wpAny_bind (m := eval i env) ?_
          refine hT.ev _ _ _ _ _ _ hi A env _ O s _ E hA (ok.ext.gd gd) ok.toEnv fun h1 tk1 iv q1 => ?_
          refine wpAny_bind (wpAny_pure (wpAny_bind (wpAny_holding ?_)))
          refine wpAny_bind (m := eval e env) ?_
          have ok1 := ok.grown q1.ext
          refine hT.ev _ _ _ _ _ _ hd A env _ O { s with heap := h1, toks := tk1 } _ E hA (ok1.ext.gd gd) ok1.toEnv fun h2 tk2 v q2 => ?_
          refine wpAny_bind (wpAny_pure (wpAny_bind (wpAny_holding (wpAny_pure (wpAny_pure ?_)))))
          refine wpAny_pure ?_
          obtain ⟨t, rfl⟩ := q1.top.int
          show wpAny (model prog w) A (call (.builtin "list.insert") [.ref ad, .int kv t, v]) _ E { s with heap := h2, toks := tk2 }
          have ok2 := ok1.grown q2.ext
          have x12 := q1.ext.trans q2.ext
          refine insert_plain (s := { s with heap := h2, toks := tk2 }) (x12.plain pl) hle.1 (by rw [r.length]; exact hle.2.1) (by rw [r.length]; omega) fun h3 pl3 sb => ⟨rfl, ?_⟩
          obtain ⟨ok3, sp3⟩ := ok2.turned had sb pl3 ((x12.reps r).insert kv.toNat (q2.rep rfl))
          exact hQ h3 tk2 O om rfl ok3 (x12.stp.trans sp3) .same
        · cases hs
      · cases hs
    · cases hs
  · cases h

set_option tactic.hygienic true in
theorem while_ok (hT : TOK Z prog w k T) (gd : Gd Z g) (hK : BlkS Z prog w k g env sc O₀ K) {test : Expr} {body : List Stmt} {pos : Pos} : StmS Z prog w k g env sc O₀ (step T K wf mu sc) (.While test body [] pos) := by
  intro st st' r h A O om s Q E hA ho ok hQ
  replace h : whl T sc test (K body) wf st = some (st', r) := h
  refine wpAny_While ?_
  have key : ∀ (n : Nat) (st : SS) (O' : List Addr) (om' : Om) (s' : Shared), whl T sc test (K body) n st = some (st', r) → st.own = om'.map (·.1) → StOK Z g env sc O₀ O' om' st.ρ s'.heap → (∃ h' tk, s' = { s with heap := h', toks := tk }) → Stp Z env sc om om' s.heap s'.heap → SO O O' s.heap →
      codeAny (model prog w) A (.whileLoop test body [] env) (fun r s' => match r with | .ok f => Q f s' | .error e => cameBackBy (model prog w) A env E e s') s' := by
    intro n
    induction n with
    | zero => intro st O' om' s' h; cases h
    | succ n ih =>
      intro st O' om' s' h ho ok hs sp so
      obtain ⟨h', tk, rfl⟩ := hs
      obtain ⟨own, ρ⟩ := st
      dsimp only at ho ok
      subst ho
      unfold whl at h
      refine codeAny_of_tree ?_
      show wpAny _ A ((whileTurn test body [] env).onRaise (fun x => do noteFrame x env; theTreesLotGoes x)) _ _ _
      refine wpAny_noted ?_
      simp only [whileTurn]
      split at h
      · rename_i ht
        refine wpAny_bind (test_ok (s := { s with heap := h', toks := tk }) hT gd hA ok ht fun h1 tk1 ok1 sp1 => ?_)
        simp only [if_true]
        split at h
        · rename_i st1 h1'
          refine wpAny_bind (hK body _ st1 none h1' A O' om' { s with heap := h1, toks := tk1 } _ _ hA rfl ok1 fun h2 tk2 O2 om2 e2 ok2 sp2 so2 => ?_)
          have sp12 := sp1.trans sp2
          exact wpAny_pure ⟨rfl, ih st1 O2 om2 { s with heap := h2, toks := tk2 } h e2 ok2 ⟨_, _, rfl⟩ (sp.trans sp12) (so.trans (SO.trans .same so2 sp1) sp)⟩
        · rename_i o hno
          refine wpAny_bind (hK body _ st' r h A O' om' { s with heap := h1, toks := tk1 } _ _ hA rfl ok1 fun h2 tk2 O2 om2 e2 ok2 sp2 so2 => ?_)
          cases r with
          | none => exact absurd h (hno st')
          | some d => exact fun v rv => wpAny_pure (hQ h2 tk2 O2 om2 e2 ok2 (sp.trans (sp1.trans sp2)) (so.trans (SO.trans .same so2 sp1) sp) v rv)
      · rename_i ht
        cases h
        refine wpAny_bind (test_ok (s := { s with heap := h', toks := tk }) hT gd hA ok ht fun h1 tk1 ok1 sp1 => ?_)
        simp only [Bool.false_eq_true, if_false]
        exact wpAny_bind (wpAny_execs_nil (wpAny_pure (hQ h1 tk1 O' om' rfl ok1 (sp.trans sp1) so)))
      · cases h
  exact key wf st O om s h ho ok ⟨_, _, rfl⟩ .refl .same
end
end Mine

-- MX
set_option maxRecDepth 10000
namespace Mine
set_option tactic.hygienic false

section
variable {Z : Par} {prog : Program} {w : World} {k : Nat} {g : Heap} {env : Env} {sc : Nm} {O₀ : List Addr} {T : Evl} {K : Blk} {wf : Nat} {mu : List Str}

theorem notMutOf {O : List Addr} {om : Om} {ρ : Rho} {h : Heap} {b : Addr} {o : Obj} (ok : StOK Z g env sc O₀ O om ρ h) (e : h.get? b = some o) (hd : (∃ vs n, o.data = .seq vs n) ∨ ∃ fs, o.data = .fields fs) (hb : b ∉ om.map (·.2)) : ¬ Mut env sc om b := fun q => by
  rcases q with q | ⟨z, hz, hc⟩ | q
  · obtain ⟨m, n⟩ := ok.ns
    obtain ⟨es, n, d⟩ := ns_dict n o (by rw [← q]; exact e)
    rcases hd with ⟨_, _, d2⟩ | ⟨_, d2⟩ <;> rw [d] at d2 <;> cases d2
  · obtain ⟨v, n⟩ := ok.cells z b hz hc
    obtain ⟨v, d⟩ := cell_cell n o e
    rcases hd with ⟨_, _, d2⟩ | ⟨_, d2⟩ <;> rw [d] at d2 <;> cases d2
  · exact hb q

theorem StOK.turns {O : List Addr} {om : Om} {ρ : Rho} {h h' : Heap} {wr : List Addr} (ok : StOK Z g env sc O₀ O om ρ h) (hk : ∀ b o, b ∉ wr → h.get? b = some o → h'.get? b = some o)
    (hw : ∀ b ∈ wr, g.get? b = none ∧ b ∉ O ∧ ∃ o fs, h.get? b = some o ∧ o.data = .fields fs ∧ ∀ q t, fs[1]? ≠ some (.str q t)) : StOK Z g env sc O₀ O om ρ h' := by
  have same : ∀ b o, h.get? b = some o → (∀ fs, o.data ≠ .fields fs) → h'.get? b = some o := fun b o e d => hk b o (fun hm => by
    obtain ⟨_, _, o', fs, e', d', _⟩ := hw b hm; rw [e] at e'; obtain rfl := Option.some.inj e'; exact d fs d') e
  have wx : Wx [] O h h' := fun a o e _ ⟨vs, n, d⟩ => same a o e fun fs q => by rw [d] at q; cases q
  have nsUp : ∀ {a m}, h.Ns a m → h'.Ns a m := fun {a m} ⟨o, es, ep, e, d, r⟩ => ⟨o, es, ep, same a o e (fun fs q => by rw [d] at q; cases q), d, r⟩
  have cellUp : ∀ {c : Addr} {v : Option Value}, h.IsCell c v → h'.IsCell c v := fun ⟨o, e, d⟩ => ⟨o, same _ o e (fun fs q => by rw [d] at q; cases q), d⟩
  have varUp : ∀ {z w}, VarIn env h z w → VarIn env h' z w := fun {z w} hv => by
    rcases hv with ⟨q, m, n, e⟩ | ⟨q, c, e1, e2⟩
    · exact .inl ⟨q, m, nsUp n, e⟩
    · exact .inr ⟨q, c, e1, cellUp e2⟩
  have hP : Z.P ∉ wr := fun hm => by
    obtain ⟨ps, e, _⟩ := ok.ext.tab; have := (hw _ hm).1; rw [e] at this; cases this
  refine ⟨ok.fe, ⟨fun b o hb e => ?_, ok.ext.tab, ?_⟩, let ⟨m, n⟩ := ok.ns; ⟨m, nsUp n⟩, fun z c h1 h2 => let ⟨v, n⟩ := ok.cells z c h1 h2; ⟨v, cellUp n⟩, ok.o0, ok.o0g, fun b hb => ?_, ok.onew, ok.omO, ok.nd1, ok.nd2, ?_, ?_⟩
  · exact hk b o (fun hm => by have := (hw _ hm).1; rw [e] at this; cases this) (ok.ext.keep b o hb e)
  · obtain ⟨ps, e, t, c⟩ := ok.ext.tab'
    refine ⟨ps, hk _ _ hP e, t, fun cv q => ?_⟩
    obtain ⟨c', o, vs, t', e1, e2, e3, e4⟩ := c cv q
    refine ⟨c', o, vs, t', e1, hk _ _ (fun hm => ?_) e2, e3, e4⟩
    obtain ⟨_, _, o', fs, e', d', nn⟩ := hw c' hm
    rw [e2] at e'; cases e'; rw [e3] at d'; cases d'; exact nn _ _ e4
  · obtain ⟨o, e⟩ := Option.isSome_iff_exists.mp (ok.oin b hb)
    rw [hk b o (fun hm => (hw b hm).2.1 hb) e]; rfl
  · intro z k d h1 h2 h3 h4
    obtain ⟨u, hu, r⟩ := ok.var z k d h1 h2 h3 h4
    exact ⟨u, varUp hu, wx.rep r⟩
  · intro p hp
    obtain ⟨hk', ds', vs', e, hv, ⟨n, hl'⟩, r'⟩ := ok.own p hp
    exact ⟨hk', ds', vs', e, varUp hv, ⟨n, same _ _ hl' nofun⟩, wx.reps r'⟩

theorem Post.of {O : List Addr} {om : Om} {s : Shared} {Q : Flow → Shared → Prop} {st' a : SS} {r b : Option V} (hQ : Post Z g env sc O₀ O om s Q st' r) (h : some (a, b) = some (st', r)) : Post Z g env sc O₀ O om s Q a b := by
  cases h; exact hQ
theorem ss_eta {st : SS} {l : List Str} (e : st.own = l) : st = ⟨l, st.ρ⟩ := by cases st; cases e; rfl
theorem notSet_folded {iter : Expr} (h : notSet iter = true) (env : Env) (v : Value) : foldedSetIterable iter env v = pure v := by
  have q := ea (F := fun e => foldedSetIterable e env v) (G := fun e => bif notSet e then pure v else foldedSetIterable e env v) (by kernel_rfl) iter
  rw [h] at q
  exact q
set_option tactic.hygienic true in
theorem for_ok (hT : TOK Z prog w k T) (gd : Gd Z g) (hK : BlkS Z prog w k g env sc O₀ K) {x : Str} {px pos : Pos} {iter : Expr} {body : List Stmt} : StmS Z prog w k g env sc O₀ (step T K wf mu sc) (.For (.Name x px) iter body [] pos) := by
  refine .mk' fun om ρ st' r h => ?_
  replace h : stFor T K sc x iter body ⟨om.map (·.1), ρ⟩ = some (st', r) := h
  unfold stFor at h
  split at h
  · rename_i hc
    simp only [Bool.and_eq_true] at hc
    obtain ⟨hx, hns⟩ := hc
    split at h
    · rename_i items hit
      dsimp only at hit
      intro A O s Q E hA ok hQ
      refine wpAny_For ?_ (notSet_folded hns env)
      refine itr_ok (k := k) hT.ev hT.st hT.range hit hA (ok.ext.gd gd) ok.toEnv fun h₁ h₂ tk it x1 x2 io => ?_
      obtain ⟨I, fp, P, St, rfl, it, st0⟩ := io
      simp only [Bool.false_eq_true, if_false] at it
      have ok1 := ok.grown x1
      have ok2 := ok1.grown x2
      have hPn : ∀ b o, h₁.get? b = some o → (∃ vs n, o.data = .seq vs n) → b ≠ Z.P := fun b o e c q => by
        obtain ⟨ps, e2, _⟩ := x1.tab'; rw [q, e2] at e; cases e; obtain ⟨_, _, c⟩ := c; cases c
      have key : ∀ (rest : List V) (i : Nat) (ρ : Rho) (O' : List Addr) (om' : Om) (h' : Heap) (tk : Tok), forL sc x (K body) rest ⟨om'.map (·.1), ρ⟩ = some (st', r) → items.drop i = rest → i ≤ items.length → St i h' → StOK Z g env sc O₀ O' om' ρ h' →
          Stp Z env sc om om' h₁ h' → SO O O' h₁ → (∀ b ∈ fp, b ∉ om'.map (·.2)) → I ∉ O' →
          codeAny (model prog w) A (.forLoop (.Name x px) (.ref I) body [] env) (fun r s' => match r with | .ok f => Q f s' | .error e => cameBackBy (model prog w) A env E e s') { s with heap := h', toks := tk } := by
        intro rest
        induction rest with
        | nil | cons d rest ih => ?_
        all_goals
          intro i ρ O' om' h' tk h hdr hi stI ok' sp so hfp hIO
          refine codeAny_of_tree ?_
          show wpAny _ A ((forTurn (.Name x px) (.ref I) body [] env).onRaise (fun x => do noteFrame x env; theTreesLotGoes x)) _ _ _
          refine wpAny_noted ?_
          delta forTurn; dsimp only
          obtain ⟨oI, fs, eI, _, dI, nI⟩ := it.obj _ _ stI
          have hIfp : I ∈ fp := it.walks.sub I (List.mem_singleton.mpr rfl)
          have hImu : ¬ Mut env sc om' I := notMutOf ok' eI (.inr ⟨fs, dI⟩) (hfp I hIfp)
          have hIP : I ≠ Z.P := fun q => by obtain ⟨ps, e2, _⟩ := x1.tab'; have := it.new; rw [q, e2] at this; cases this
          -- the iterator alone turns
          have turn : ∀ h2, (∀ b o, b ∉ [I] → h'.get? b = some o → h2.get? b = some o) → StOK Z g env sc O₀ O' om' ρ h2 ∧ Stp Z env sc om om' h₁ h2 := by
            intro h2 hk
            have some' : ∀ b, b ≠ I → (h'.get? b).isSome = true → (h2.get? b).isSome = true := fun b q e => by
              obtain ⟨o, e⟩ := Option.isSome_iff_exists.mp e; rw [hk b o (by simpa using q) e]; rfl
            have hI : ∀ b, (h₁.get? b).isSome = true → b ≠ I := fun b e q => by rw [q, it.new] at e; exact Bool.noConfusion e
            exact ⟨ok'.turns hk fun b hb => by rw [List.mem_singleton.mp hb]; exact ⟨ok1.ext.kNone it.new, hIO, oI, fs, eI, dI, nI⟩, fun b o e hP hm => hk b o (by simpa using hI b (by rw [e]; rfl)) (sp.keep b o e hP hm), sp.new, fun b e => some' b (hI b e) (sp.more b e)⟩
        · have hi' : i = items.length := Nat.le_antisymm hi (List.drop_eq_nil_iff.mp hdr)
          subst hi'
          have hQ := hQ.of h
          refine wpAny_bind (wpAny_standAt (wpAny_bind (wpAny_onRaise (it.walks.done { s with heap := h', toks := tk } _ _ stI fun h2 tk2 hk => wpAny_pure ⟨rfl, codeAny_block ?_⟩))))
          obtain ⟨ok2', sp2⟩ := turn h2 hk
          exact wpAny_execs_nil (hQ h2 tk2 O' om' rfl ok2' (x1.stp.trans sp2) (SO.trans .same so (x1.stp (om := om) (env := env) (sc := sc))))
        · have hi' : i < items.length := Nat.lt_of_not_le fun q => by rw [List.drop_eq_nil_of_le q] at hdr; cases hdr
          have hdi : items[i]? = some d := drop_hd hdr
          have hdt := drop_tl hdr
          refine wpAny_bind (wpAny_standAt (wpAny_bind (wpAny_onRaise (it.walks.item i { s with heap := h', toks := tk } _ _ hi' stI fun v h2 tk2 hp st2 hk => ?_))))
          obtain ⟨ok2', sp2⟩ := turn h2 hk
          -- what is walked over stays
          have stay : ∀ {om2 om3 : Om} {ρ2 : Rho} {O2 : List Addr} {h3 h4 : Heap} {j : Nat}, StOK Z g env sc O₀ O2 om2 ρ2 h3 → Stp Z env sc om om2 h₁ h3 → (∀ b ∈ fp, b ∉ om2.map (·.2)) → St j h3 → Stp Z env sc om2 om3 h3 h4 → St j h4 ∧ ∀ b ∈ fp, b ∉ om3.map (·.2) := by
            intro om2 om3 ρ2 O2 h3 h4 j ok3 sp3 hfp3 st3 sp4
            obtain ⟨oJ, gs, eJ, _, dJ, _⟩ := it.obj _ _ st3
            have there : ∀ b ∈ fp, ∃ o, h3.get? b = some o ∧ ((∃ vs n, o.data = .seq vs n) ∨ ∃ fs, o.data = .fields fs) ∧ b ≠ Z.P := by
              intro b hb
              rcases it.foot b hb with q | ⟨o, e, c, n⟩
              · rw [q]; exact ⟨oJ, eJ, .inr ⟨gs, dJ⟩, hIP⟩
              · have hP := hPn b o e c
                refine ⟨o, sp3.keep b o e hP (notMutOf ok1 e (.inl c) fun hm => ?_), .inl c, hP⟩
                obtain ⟨p, hp, q⟩ := List.mem_map.mp hm
                have := (ok1.omO p hp).1
                rw [q] at this
                exact n.elim (fun n => n this) fun n => by cases n
            refine ⟨it.walks.frame _ _ _ st3 fun b hb o e => ?_, fun b hb hm => ?_⟩
            · obtain ⟨o', e', c, hP⟩ := there b hb
              rw [e] at e'; obtain rfl := Option.some.inj e'
              exact sp4.keep b o e hP (notMutOf ok3 e c (hfp3 b hb))
            · obtain ⟨o', e', _, _⟩ := there b hb
              rcases sp4.new b hm with q | q
              · exact hfp3 b hb q
              · rw [e'] at q; cases q
          have rv : Rep O' h2 v d := by
            obtain ⟨d', e', rr⟩ := it.el i v hi' hp
            rw [hdi] at e'; obtain rfl := Option.some.inj e'
            refine rr.keep (fun a o e n hm => (so a hm).elim n fun q => by rw [e] at q; cases q) fun a o e n c => ?_
            refine sp2.keep a o e (hPn a o e c) (notMutOf ok1 e (.inl c) fun hm => ?_)
            obtain ⟨p, hp', q⟩ := List.mem_map.mp hm
            exact n (q ▸ (ok1.omO p hp').1)
          have hlg : wpAny (model prog w) A (letOwnedTupleGo (.Name x px) (.ref I) v) (fun _ s' => s' = { s with heap := h2, toks := tk2 }) (notedBy (model prog w) A env fun e s' => (fun r s' => match r with | Except.ok f => Q f s' | .error e => cameBackBy (model prog w) A env E e s') (.error e) s') { s with heap := h2, toks := tk2 } := wpAny_pure rfl
          refine wpAny_bind (wpAny_mono hlg (fun _ s2 hs2 => ?_) fun _ _ e => e)
          subst hs2
          have hst : stash [] x false d ⟨om'.map (·.1), ρ⟩ = ⟨less x (om'.map (·.1)), put x d ρ⟩ := by unfold stash; simp
          refine wpAny_bind (wpAny_assign_Name (stash_ok (mu := []) (fr := false) (d := d) (s := { s with heap := h2, toks := tk2 }) hx rfl ok2' (by simpa using rv) fun h3 tk3 O3 om3 e3 ok3 hk3 hm3 hO3 _ sk3 hom3 => ?_))
          rw [hst] at e3 ok3
          simp only at e3 ok3
          have sp3 : Stp Z env sc om' om3 h2 h3 := ⟨hk3, fun a ha => by
            rcases hom3 a ha with h | ⟨h, _⟩
            · exact .inl h
            · simp at h, hm3⟩
          obtain ⟨st3, hfp3⟩ := stay ok2' sp2 hfp st2 sp3
          have sp23 := sp2.trans sp3
          have so3 : SO O O3 h₁ := fun a ha => so a (hO3 a ha)
          have hI3 : I ∉ O3 := fun hm => hIO (hO3 I hm)
          unfold forL at h
          simp only at h
          rw [e3] at h
          split at h
          · rename_i st4 h4'
            refine wpAny_bind (hK body _ st4 none h4' A O3 om3 { s with heap := h3, toks := tk3 } _ _ hA rfl ok3 fun h4 tk4 O4 om4 e4 ok4 sp4 so4 => ?_)
            obtain ⟨st4', hfp4⟩ := stay ok3 sp23 hfp3 st3 sp4
            refine wpAny_pure ⟨rfl, ih (i + 1) st4.ρ O4 om4 h4 tk4 ((congrArg (forL sc x (K body) rest) (ss_eta e4)).symm.trans h) hdt hi' st4' ok4 (sp23.trans sp4) (so3.trans so4 sp23) hfp4 fun hm => ?_⟩
            rcases so4 I hm with q | q
            · exact hI3 q
            · obtain ⟨oJ, _, eJ, _⟩ := it.obj _ _ st3
              rw [eJ] at q; cases q
          · rename_i o hno
            refine wpAny_bind (hK body _ st' r h A O3 om3 { s with heap := h3, toks := tk3 } _ _ hA rfl ok3 fun h4 tk4 O4 om4 e4 ok4 sp4 so4 => ?_)
            cases r with
            | none => exact absurd h (hno st')
            | some d => exact fun v rv => wpAny_pure (hQ h4 tk4 O4 om4 e4 ok4 (x1.stp.trans (sp23.trans sp4)) (SO.trans .same (so3.trans so4 sp23) (x1.stp (om := om) (env := env) (sc := sc))) v rv)
      have hIO0 : I ∉ O := fun hm => by have := ok1.oin I hm; rw [it.new] at this; exact Bool.noConfusion this
      refine key items 0 ρ O om h₂ tk h rfl (Nat.zero_le _) st0 ok2 (Ext.stp x2) (fun a ha => .inl ha) (fun b hb hm => ?_) hIO0
      obtain ⟨p, hp, q⟩ := List.mem_map.mp hm
      have hO := (ok1.omO p hp).1
      rw [q] at hO
      rcases it.foot b hb with q | ⟨o, e, c, n⟩
      · exact hIO0 (q ▸ hO)
      · exact n.elim (fun n => n hO) fun n => by cases n
    · cases h
  · cases h
end
end Mine

-- MY
set_option maxRecDepth 10000
namespace Mine
set_option tactic.hygienic false

section
variable {Z : Par} {prog : Program} {w : World} {k : Nat} {g : Heap} {env : Env} {sc : Nm} {O₀ : List Addr} {T : Evl} {K : Blk} {wf : Nat} {mu : List Str}

theorem storeAll_ok {M : Model} {A : Around} {E : Value → Shared → Prop} : ∀ {xs : List Str} {ps : List Pos} {ds : List V} {st' : SS} {s : Shared} {O : List Addr} {om : Om} {ρ : Rho} {vs : List Value} {Q : Unit → Shared → Prop}, ps.length = xs.length → storeAll sc xs ds ⟨om.map (·.1), ρ⟩ = some st' → StOK Z g env sc O₀ O om ρ s.heap → Reps O s.heap vs ds →
    (∀ h' tk O' om', st'.own = om'.map (·.1) → StOK Z g env sc O₀ O' om' st'.ρ h' → Stp Z env sc om om' s.heap h' → SO O O' s.heap → Q () { s with heap := h', toks := tk }) → wpAny M A (assignInOrder ((xs.zip ps).map fun p => assign (.Name p.1 p.2) env) vs) Q E s
  | [], ps, [], st', s, O, om, ρ, vs, Q, _, h, ok, r, hQ => by
    obtain rfl := Option.some.inj h
    exact wpAny_pure (hQ s.heap s.toks O om rfl ok .refl .same)
  | x :: xs, p :: ps, d :: ds, st', s, O, om, ρ, vs, Q, hl, h, ok, r, hQ => by
    cases r with | cons r rs => ?_
    unfold storeAll at h
    split at h
    · rename_i hx
      have hst : stash [] x false d ⟨om.map (·.1), ρ⟩ = ⟨less x (om.map (·.1)), put x d ρ⟩ := by unfold stash; simp
      show wpAny M A (do holding _ (assign (.Name x p) env _); assignInOrder _ _) Q E s
      refine wpAny_bind (wpAny_holding (wpAny_assign_Name (stash_ok (mu := []) (fr := false) (d := d) hx rfl ok (by simpa using r) fun h3 tk3 O3 om3 e3 ok3 hk3 hm3 hO3 _ sk3 hom3 => ?_)))
      rw [hst] at e3 ok3
      simp only at e3 ok3 h
      rw [e3] at h
      have sp3 : Stp Z env sc om om3 s.heap h3 := ⟨hk3, fun a ha => by
        rcases hom3 a ha with h | ⟨h, _⟩
        · exact .inl h
        · simp at h, hm3⟩
      have so3 : SO O O3 s.heap := fun a ha => .inl (hO3 a ha)
      refine storeAll_ok (s := { s with heap := h3, toks := tk3 }) (by simpa using hl) h ok3 ((sk3.wx (W := []) (O := O) |>.reps rs).lessO hO3) fun h4 tk4 O4 om4 e4 ok4 sp4 so4 => ?_
      exact hQ h4 tk4 O4 om4 e4 ok4 (sp3.trans sp4) (so3.trans so4 sp3)
    · cases h
  | _ :: _, [], _, _, _, _, _, _, _, _, h, _, _, _, _ => by cases h
  | [], _, _ :: _, _, _, _, _, _, _, _, _, h, _, _, _ => by cases h
  | _ :: _, _ :: _, [], _, _, _, _, _, _, _, _, h, _, _, _ => by cases h
theorem storeAll_len : ∀ {xs : List Str} {ds : List V} {st st' : SS}, storeAll sc xs ds st = some st' → xs.length = ds.length
  | [], [], _, _, _ => rfl
  | x :: xs, d :: ds, st, st', h => by
    unfold storeAll at h
    split at h
    · rw [List.length_cons, List.length_cons, storeAll_len h]
    · cases h
  | [], _ :: _, _, _, h => by cases h
  | _ :: _, [], _, _, h => by cases h

theorem assignNames_ok (hT : TOK Z prog w k T) (gd : Gd Z g) {es : List Expr} {xs : List Str} {e : Expr} {kt : Nat} {tp pos : Pos} (hne : ∀ es k p, e ≠ .Tuple es k p) {A : Around} {E : Value → Shared → Prop} {s : Shared} {O : List Addr} {om : Om} {ρ : Rho} {ds : List V} {st' : SS} {Q : Flow → Shared → Prop}
    (hxs : namesIn? es = some xs) (hd : T false sc (drops e (om.map (·.1))) ρ e = some (.lst ds)) (hs : storeAll sc xs ds ⟨drops e (om.map (·.1)), ρ⟩ = some st') (hA : GoodA k A) (ok : StOK Z g env sc O₀ O om ρ s.heap)
    (hQ : Post Z g env sc O₀ O om s Q st' none) : wpAny (model prog w) A (exec (.Assign [.Tuple es kt tp] e pos) env) Q E s := by
  obtain ⟨O1, om1, e1, ok1, hO1, hom1⟩ := ok.drops e
  rw [e1] at hd hs
  obtain ⟨ps, rfl, hl⟩ := namesIn_some hxs
  have hsw : ∀ ts, swapsWithSole [.Tuple ts kt tp] e pos.line env = pure false := fun ts => by
    show swapsWith e (some (.Tuple ts kt tp)) pos.line env = pure false
    exact ea (F := fun e => swapsWith e (some (.Tuple ts kt tp)) pos.line env) (G := fun _ => pure false) (by kernel_rfl) e
  have hss : ∀ ts, swappedStores [.Tuple ts kt tp] e env = pure none := fun ts => by
    unfold swappedStores
    cases e <;> first | rfl | exact absurd rfl (hne _ _ _)
  refine Assign_Tuple ?_ (hsw _) (hss _)
  refine hT.ev _ _ _ _ _ _ hd A env _ O1 s _ E hA (ok1.ext.gd gd) ok1.toEnv fun h1 tk1 v q => ?_
  show wpAny _ _ (do standAt tp; unpack v (assignEach _ env)) _ E _
  refine wpAny_bind (wpAny_standAt ?_)
  rw [eachNames env xs ps hl]
  unfold unpack
  have hlen := storeAll_len hs
  have h1' : ((xs.zip ps).map fun p => (false, assign (.Name p.1 p.2) env)).length = ds.length := by rw [List.length_map, List.length_zip, hl, Nat.min_self, hlen]
  have h2' : ((xs.zip ps).map fun p => (false, assign (.Name p.1 p.2) env)).findIdx? (·.1) = none := by
    rw [List.findIdx?_eq_none_iff]
    intro x hx
    obtain ⟨q, _, rfl⟩ := List.mem_map.mp hx
    rfl
  have h3' : ((xs.zip ps).map fun p => (false, assign (.Name p.1 p.2) env)).map (·.2) = (xs.zip ps).map fun p => assign (.Name p.1 p.2) env := by rw [List.map_map]; rfl
  rw [h1', h2', h3']
  have ok2 := ok1.grown q.ext
  refine wpAny_bind (wpAny_holding (unpackItems_list (W := om1.map (·.2)) (O := O1) hA.handled (ok2.ext.gd gd) q.top fun h2 tk2 vs x rs => ?_))
  have ok3 := ok2.grown x
  refine storeAll_ok (s := { s with heap := h2, toks := tk2 }) hl hs ok3 rs fun h3 tk3 O3 om3 e3 ok4 sp so => ?_
  have x12 := q.ext.trans x
  exact hQ h3 tk3 O3 om3 e3 ok4 (Stp.om (x12.stp.trans sp) hom1) fun a ha => (so a ha).imp (hO1 a) fun h => x12.kNone h

theorem none_ok {F : Stmt → SS → Res} {x : Stmt} (h : ∀ st, F x st = none) : StmS Z prog w k g env sc O₀ F x := fun st st' r e => by rw [h] at e; cases e
set_option tactic.hygienic true in
theorem many_ok (hT : TOK Z prog w k T) (gd : Gd Z g) {es : List Expr} {e : Expr} {kt : Nat} {tp pos : Pos} (hne : ∀ es k p, e ≠ .Tuple es k p) (hs : ∀ st, step T K wf mu sc (.Assign [.Tuple es kt tp] e pos) st = stMany T sc es e st) :
    StmS Z prog w k g env sc O₀ (step T K wf mu sc) (.Assign [.Tuple es kt tp] e pos) := by
  refine .mk' fun om ρ st' r h => ?_
  rw [hs] at h
  unfold stMany at h
  split at h
  · rename_i xs ds hxs hd
    split at h
    · rename_i st1 hs
      obtain ⟨rfl, rfl⟩ := Prod.mk.inj (Option.some.inj h)
      dsimp only at hd hs
      intro A O s Q E hA ok hQ
      exact assignNames_ok hT gd hne hxs hd hs hA ok hQ
    · cases h
  · cases h
theorem none_of {F : Expr → SS → Res} (h : eaL F = eaR fun e => bif plainE e then (fun _ => none) else F e) {e : Expr} (he : plainE e = true) : ∀ st, F e st = none := fun st => congrFun (plain_of h he) st
theorem step1_ok (hT : TOK Z prog w k T) (gd : Gd Z g) (t e : Expr) (pos : Pos) : StmS Z prog w k g env sc O₀ (step T K wf mu sc) (.Assign [t] e pos) := by
  cases ke t with
  | name x p => exact assignName_ok hT gd
  | tup es kt tp =>
    have other : (∀ vs k p, e ≠ .Tuple vs k p) → (∀ st, step T K wf mu sc (.Assign [.Tuple es kt tp] e pos) st = stMany T sc es e st) → StmS Z prog w k g env sc O₀ (step T K wf mu sc) (.Assign [.Tuple es kt tp] e pos) := fun hne hs => many_ok hT gd hne hs
    cases ke e with
    | tup vs k2 p2 =>
      cases vs with
      | nil => exact none_ok fun _ => rfl
      | cons e1 vs =>
        cases vs with
        | nil => exact none_ok fun _ => rfl
        | cons e2 vs =>
          cases vs with
          | cons _ _ => exact none_ok fun _ => rfl
          | nil =>
            cases es with
            | nil => exact none_ok fun _ => rfl
            | cons t1 es =>
              cases es with
              | nil => exact none_ok fun _ => rfl
              | cons t2 es =>
                cases es with
                | cons _ _ => exact none_ok fun _ => rfl
                | nil =>
                  cases ke t1 with
                  | name x px =>
                    cases ke t2 with
                    | name y py => exact assignTwo_ok hT gd
                    | oth _ h => exact none_ok (none_of (F := fun u => step T K wf mu sc (.Assign [.Tuple [.Name x px, u] kt tp] (.Tuple [e1, e2] k2 p2) pos)) (by kernel_rfl) h)
                    | _ => exact none_ok fun _ => rfl
                  | oth _ h => exact none_ok (none_of (F := fun u => step T K wf mu sc (.Assign [.Tuple [u, t2] kt tp] (.Tuple [e1, e2] k2 p2) pos)) (by kernel_rfl) h)
                  | _ => exact none_ok fun _ => rfl
    | name _ _ => exact other (fun _ _ _ => nofun) fun _ => rfl
    | sub _ _ _ => exact other (fun _ _ _ => nofun) fun _ => rfl
    | attr _ _ _ => exact other (fun _ _ _ => nofun) fun _ => rfl
    | call _ _ _ _ => exact other (fun _ _ _ => nofun) fun _ => rfl
    | oth _ h =>
      refine other (fun _ _ _ q => by subst q; exact Bool.noConfusion h) fun st => ?_
      have q := ea (F := fun e => step T K wf mu sc (.Assign [.Tuple es kt tp] e pos)) (G := fun e => bif plainE e then stMany T sc es e else step T K wf mu sc (.Assign [.Tuple es kt tp] e pos)) (by kernel_rfl) e
      rw [h] at q
      exact congrFun q st
  | sub v i p =>
    cases ke v with
    | name x px => exact assignItem_ok hT gd
    | oth _ h => exact none_ok (none_of (F := fun v => step T K wf mu sc (.Assign [.Subscript v i p] e pos)) (by kernel_rfl) h)
    | _ => exact none_ok fun _ => rfl
  | oth _ h => exact none_ok (none_of (F := fun t => step T K wf mu sc (.Assign [t] e pos)) (by kernel_rfl) h)
  | _ => exact none_ok fun _ => rfl
theorem step2_ok (hT : TOK Z prog w k T) (gd : Gd Z g) (t u e : Expr) (pos : Pos) : StmS Z prog w k g env sc O₀ (step T K wf mu sc) (.Assign [t, u] e pos) := by
  cases ke t with
  | sub v i p =>
    cases ke v with
    | name x px =>
      cases ke u with
      | sub w' j p2 =>
        cases ke w' with
        | name y py => exact assignItem2_ok hT gd
        | oth _ h => exact none_ok (none_of (F := fun w' => step T K wf mu sc (.Assign [.Subscript (.Name x px) i p, .Subscript w' j p2] e pos)) (by kernel_rfl) h)
        | _ => exact none_ok fun _ => rfl
      | oth _ h => exact none_ok (none_of (F := fun u => step T K wf mu sc (.Assign [.Subscript (.Name x px) i p, u] e pos)) (by kernel_rfl) h)
      | _ => exact none_ok fun _ => rfl
    | oth _ h => exact none_ok (none_of (F := fun v => step T K wf mu sc (.Assign [.Subscript v i p, u] e pos)) (by kernel_rfl) h)
    | _ => exact none_ok fun _ => rfl
  | oth _ h => exact none_ok (none_of (F := fun t => step T K wf mu sc (.Assign [t, u] e pos)) (by kernel_rfl) h)
  | _ => exact none_ok fun _ => rfl
theorem stepCall_ok (hT : TOK Z prog w k T) (gd : Gd Z g) (f : Expr) (args : List Expr) (p pos : Pos) : StmS Z prog w k g env sc O₀ (step T K wf mu sc) (.Expr (.Call f args [] p) pos) := by
  cases ke f with
  | attr v m apos =>
    cases ke v with
    | name x px =>
      cases args with
      | nil => exact none_ok fun _ => rfl
      | cons i args =>
        cases args with
        | nil => exact append_ok hT gd
        | cons e args =>
          cases args with
          | nil => exact insert_ok hT gd
          | cons _ _ => exact none_ok fun _ => rfl
    | oth _ h => exact none_ok (none_of (F := fun v => step T K wf mu sc (.Expr (.Call (.Attribute v m apos) args [] p) pos)) (by kernel_rfl) h)
    | _ => exact none_ok fun _ => rfl
  | oth _ h => exact none_ok (none_of (F := fun f => step T K wf mu sc (.Expr (.Call f args [] p) pos)) (by kernel_rfl) h)
  | _ => exact none_ok fun _ => rfl
theorem step_ok (hT : TOK Z prog w k T) (gd : Gd Z g) (hK : BlkS Z prog w k g env sc O₀ K) (x : Stmt) : StmS Z prog w k g env sc O₀ (step T K wf mu sc) x := by
  cases x with
  | Assign ts e pos =>
    cases ts with
    | nil => exact none_ok fun _ => rfl
    | cons t ts =>
      cases ts with
      | nil => exact step1_ok hT gd t e pos
      | cons u ts =>
        cases ts with
        | cons _ _ => exact none_ok fun _ => rfl
        | nil => exact step2_ok hT gd t u e pos
  | AugAssign t op e pos =>
    cases ke t with
    | name x p => exact augName_ok hT gd
    | sub v i p =>
      cases ke v with
      | name x px => exact augItem_ok hT gd
      | oth _ h => exact none_ok (none_of (F := fun v => step T K wf mu sc (.AugAssign (.Subscript v i p) op e pos)) (by kernel_rfl) h)
      | _ => exact none_ok fun _ => rfl
    | oth _ h => exact none_ok (none_of (F := fun t => step T K wf mu sc (.AugAssign t op e pos)) (by kernel_rfl) h)
    | _ => exact none_ok fun _ => rfl
  | For t iter body o pos =>
    cases ke t with
    | name x p =>
      cases o with
      | nil => exact for_ok hT gd hK
      | cons _ _ => exact none_ok fun _ => rfl
    | oth _ h => exact none_ok (none_of (F := fun t => step T K wf mu sc (.For t iter body o pos)) (by kernel_rfl) h)
    | _ => exact none_ok fun _ => rfl
  | While test body o pos =>
    cases o with
    | nil => exact while_ok hT gd hK
    | cons _ _ => exact none_ok fun _ => rfl
  | If test a b pos => exact if_ok hT gd hK
  | Return v pos =>
    cases v with
    | some e => exact return_ok hT gd
    | none => exact none_ok fun _ => rfl
  | Expr e pos =>
    cases ke e with
    | call f args kws p =>
      cases kws with
      | cons _ _ => exact none_ok fun _ => rfl
      | nil => exact stepCall_ok hT gd f args p pos
    | oth _ h => exact none_ok (none_of (F := fun e => step T K wf mu sc (.Expr e pos)) (by kernel_rfl) h)
    | _ => exact none_ok fun _ => rfl
  | _ => exact none_ok fun _ => rfl

set_option tactic.hygienic true in
theorem stepX_ok {XS : Xs} (hXS : XSOK Z prog w k g env sc O₀ XS) (hT : TOK Z prog w k T) (gd : Gd Z g) (hK : BlkS Z prog w k g env sc O₀ K) (x : Stmt) : StmS Z prog w k g env sc O₀ (stepX XS T K wf mu sc) x := by
  intro st st' r h
  unfold stepX at h
  split at h
  · rename_i H hH
    exact hXS x H hH K hK st st' r h
  · exact step_ok hT gd hK x st st' r h

theorem blk_ok {XS : Xs} (hXS : XSOK Z prog w k g env sc O₀ XS) (hT : TOK Z prog w k T) (gd : Gd Z g) : ∀ n, BlkS Z prog w k g env sc O₀ (blk XS T wf mu sc n)
  | 0 => fun _ _ _ _ h => by cases h
  | n + 1 => fun b st st' r h => seq_ok (stepX_ok hXS hT gd (blk_ok hXS hT gd n)) b st st' r h
theorem noXS : XSOK Z prog w k g env sc O₀ fun _ => none := fun _ _ h => by cases h
end
end Mine

-- MZ
set_option maxRecDepth 10000
namespace Mine
set_option tactic.hygienic false

theorem bindL_not {kind : Str → Option NameKind} {x : Str} : ∀ {r : List (Str × Value)} {m : Str → Option Value}, (∀ p ∈ r, p.1 ≠ x) → bindL kind r m x = m x
  | [], _, _ => rfl
  | (n, v) :: r, m, h => by
    unfold bindL
    rw [bindL_not fun p hp => h p (List.mem_cons_of_mem _ hp)]
    split
    · exact if_neg (Ne.symm (h (n, v) List.mem_cons_self))
    · rfl
theorem bindC_not {kind : Str → Option NameKind} {x : Str} : ∀ {r : List (Str × Value)} {m : Str → Option Value}, (∀ p ∈ r, p.1 ≠ x) → bindC kind r m x = m x
  | [], _, _ => rfl
  | (n, v) :: r, m, h => by
    unfold bindC
    rw [bindC_not fun p hp => h p (List.mem_cons_of_mem _ hp)]
    split
    · rfl
    · exact if_neg (Ne.symm (h (n, v) List.mem_cons_self))
theorem bindL_in {kind : Str → Option NameKind} {x : Str} {v : Value} (hk : kind x = some .local) : ∀ {r : List (Str × Value)} {m : Str → Option Value}, (r.map (·.1)).Nodup → (x, v) ∈ r → bindL kind r m x = some v
  | (n, u) :: r, m, hn, h => by
    rw [List.map_cons, List.nodup_cons] at hn
    unfold bindL
    rcases List.mem_cons.mp h with e | h
    · cases e
      rw [bindL_not fun p hp q => hn.1 (List.mem_map.mpr ⟨p, hp, q⟩), if_pos hk]
      simp
    · exact bindL_in hk hn.2 h
theorem bindC_in {kind : Str → Option NameKind} {x : Str} {v : Value} (hk : kind x ≠ some .local) : ∀ {r : List (Str × Value)} {m : Str → Option Value}, (r.map (·.1)).Nodup → (x, v) ∈ r → bindC kind r m x = some v
  | (n, u) :: r, m, hn, h => by
    rw [List.map_cons, List.nodup_cons] at hn
    unfold bindC
    rcases List.mem_cons.mp h with e | h
    · cases e
      rw [bindC_not fun p hp q => hn.1 (List.mem_map.mpr ⟨p, hp, q⟩), if_neg hk]
      simp
    · exact bindC_in hk hn.2 h

noncomputable def defScope (scope : Scope) : Bool :=
  scope.kind == .function && !scope.isCoroutine && !scope.isGenerator && (scope.names.lookup ("__debug__" : Str)).isNone && (scope.names.lookup ("__classdict__" : Str)).isNone &&
  scope.names.all fun p => scope.names.lookup p.1 == some p.2 && (p.2 == .local || p.2 == .cell || p.2 == .globalImplicit)

structure DefAt (Z : Par) (a : Addr) (o : Obj) (fd : FuncData) (body : List Stmt) (params : List Str) : Prop where
  at_ : Z.H0.get? a = some o
  data : o.data = .func fd
  code : Z.H0.CodeRec fd.code fd.qualname
  body : fd.body = .stmts body
  clo : fd.closure = []
  glob : fd.globals = mainGlobals
  blt : fd.builtins = builtinsNs
  scope : defScope fd.scope = true
  nd : params.Nodup
  ok : ∀ x ∈ params, okVar fd.scope.names x = true
  bind : ∀ vals : List Value, vals.length = params.length → bindArgs fd ⟨vals, []⟩ = pure (params.zip vals)

theorem reps_zip {O : List Addr} {h : Heap} {x : Str} {d : V} : ∀ {xs : List Str} {vs : List Value} {ds : List V}, Reps O h vs ds → (xs.zip ds).lookup x = some d → ∃ v, (x, v) ∈ xs.zip vs ∧ Rep O h v d
  | [], _, _, _, e => by simp at e
  | y :: xs, _, _, .nil, e => by simp at e
  | y :: xs, v :: vs, d' :: ds, .cons r rs, e => by
    rw [List.zip_cons_cons, List.lookup_cons] at e
    rw [List.zip_cons_cons]
    cases q : x == y with
    | true => rw [q] at e; obtain rfl := Option.some.inj e; exact ⟨v, by rw [eq_of_beq q]; exact List.mem_cons_self, r⟩
    | false =>
      rw [q] at e
      obtain ⟨v, hv, r⟩ := reps_zip rs e
      exact ⟨v, List.mem_cons_of_mem _ hv, r⟩

section
variable {Z : Par} {prog : Program} {w : World} {k : Nat} {T : Evl} {wf : Nat} {mu : List Str}

theorem def_ok {XS : Xs} {a : Addr} {o : Obj} {fd : FuncData} {body : List Stmt} {params : List Str} {ds : List V} {d : V} {n : Nat} {st' : SS} (D : DefAt Z a o fd body params) (hT : TOK Z prog w k T) (hXS : ∀ g env O₀, Gd Z g → env.code = fd.code → env.qual = fd.qualname ++ ".<locals>." → XSOK Z prog w k g env fd.scope.names O₀ XS) (hlen : ds.length = params.length)
    (h : blk XS T wf mu fd.scope.names n body ⟨[], params.zip ds⟩ = some (st', some d)) : FOK Z prog w (k + 1) a ds d := by
  intro A O s Q E vs hA gd hO r hQ
  have hsc := D.scope
  unfold defScope at hsc
  simp only [Bool.and_eq_true, Option.isNone_iff_eq_none, List.all_eq_true, Bool.not_eq_true', Bool.or_eq_true] at hsc
  obtain ⟨⟨⟨⟨⟨hk, hco⟩, hge⟩, hdb⟩, hcd⟩, hall⟩ := hsc
  have hk := eq_of_beq hk
  have hlk : ∀ p ∈ fd.scope.names, fd.scope.names.lookup p.1 = some p.2 := fun p hp => eq_of_beq (hall p hp).1
  have hkd : ∀ p ∈ fd.scope.names, p.2 = .local ∨ p.2 = .cell ∨ p.2 = .globalImplicit := fun p hp => by
    rcases (hall p hp).2 with (h | h) | h
    · exact .inl (eq_of_beq h)
    · exact .inr (.inl (eq_of_beq h))
    · exact .inr (.inr (eq_of_beq h))
  have hvl : vs.length = params.length := by rw [r.length, hlen]
  have hzip : ((params.zip vs).map (·.1)) = params := by rw [List.map_fst_zip (by rw [hvl]; exact Nat.le_refl _)]
  have cellAt : ∀ x, fd.scope.names.lookup x = some .cell → ∃ c, (cellsFrom (s.heap.objs.size + 1) fd.scope.names []).lookup x = some c := fun x hx => by
    obtain ⟨c, hc⟩ := cellsFrom_has fd.scope.names (s.heap.objs.size + 1) [] x (mem_of_lookup hx)
    exact lookup_some_of_mem hc
  refine wpAny_call (codeAny_call_cells (by have := hA.depth; omega) (gd.base a o D.at_) D.data (Z.nolim.keeps gd.base) (D.code.keeps gd.base) D.body (D.bind vs hvl) D.clo (fun x hx => ?_) (fun s₁ x => ?_) hco hge hk)
  · have hm : x.1 ∈ params := by rw [← hzip]; exact List.mem_map.mpr ⟨x, hx, rfl⟩
    rcases okVar_some (D.ok x.1 hm) with h | h
    · exact .inl h
    · obtain ⟨c, hc⟩ := cellAt x.1 h
      exact .inr ⟨h, by rw [hc]; rfl⟩
  · obtain ⟨h₁, tk, rfl⟩ := x.toInCall.same
    have x0 : Ext Z s.heap h₁ := .ofKeep gd x.toInCall.keep
    have newAt : ∀ b, s.heap.objs.size ≤ b → s.heap.get? b = none := fun b hb => by
      cases e : s.heap.get? b with
      | none => rfl
      | some o' => exact absurd (Heap.lt_size e) (Nat.not_lt.mpr hb)
    have fe : FunEnv Z s.heap (callEnvC fd s.heap.objs.size a) fd.scope.names := {
      kind := hk
      glob := D.glob
      blt := D.blt
      nodbg := hdb
      nocd := hcd
      gk := fun x hx => hx
      newL := newAt _ x.toInCall.fresh
      kinds := fun x kk hx => hkd _ (mem_of_lookup hx)
      loc := fun x hx => hx
      cel := fun y hy => by
        obtain ⟨c, hc⟩ := cellAt y hy
        have := x.above y c (mem_of_lookup hc)
        exact ⟨hy, c, hc, newAt c (Nat.le_of_lt (Nat.lt_of_le_of_lt x.toInCall.fresh this))⟩
      inj := fun y z c hy hz ey ez => name_of_addr x.apart (mem_of_lookup ey) (mem_of_lookup ez) }
    have ok : StOK Z s.heap (callEnvC fd s.heap.objs.size a) fd.scope.names O O [] (params.zip ds) h₁ := {
      fe := fe
      ext := x0
      ns := ⟨_, x.toInCall.ns⟩
      cells := fun y c hy hc => ⟨_, x.cell y c hc⟩
      o0 := fun _ h => h
      o0g := hO
      oin := fun b hb => x0.kSome (hO b hb)
      onew := fun b hb => .inr hb
      omO := fun p hp => by cases hp
      nd1 := List.nodup_nil
      nd2 := List.nodup_nil
      var := fun y kk dd hy hkk _ hd => by
        obtain ⟨v, hv, rr⟩ := reps_zip r hd
        have hndz : ((params.zip vs).map (·.1)).Nodup := by rw [hzip]; exact D.nd
        have hm : y ∈ params := by rw [← hzip]; exact List.mem_map.mpr ⟨_, hv, rfl⟩
        refine ⟨v, ?_, x0.rep rr⟩
        rcases okVar_some (D.ok y hm) with h | h
        · exact .inl ⟨h, _, x.toInCall.ns, bindL_in h hndz hv⟩
        · obtain ⟨c, hc⟩ := cellAt y h
          refine .inr ⟨.inl h, c, hc, ?_⟩
          have := x.cell y c hc
          rw [bindC_in (by rw [show (callEnvC fd s.heap.objs.size a).kindOf y = some .cell from h]; decide) hndz hv] at this
          exact this
      own := fun p hp => by cases hp }
    refine blk_ok (hXS _ _ _ gd rfl rfl) hT gd n body ⟨[], params.zip ds⟩ st' (some d) h _ O [] { s with heap := h₁, toks := tk } _ _ (hA.deeper _) rfl ok fun h' tk' O' om' e' ok' sp so v rv => ?_
    exact hQ h' tk' v ok'.ext (rv.lessO ok'.o0)
end
end Mine

-- NB
set_option maxRecDepth 10000
namespace Mine
set_option tactic.hygienic false
open PySem.Sre (M Frame Wait Outcome)

noncomputable def its : Nat → M → M
  | 0, m => m
  | n + 1, m => its n m.step
theorem its_add (a b : Nat) (m : M) : its (a + b) m = its b (its a m) := by
  induction a generalizing m with
  | zero => rw [Nat.zero_add]; rfl
  | succ a ih => rw [Nat.succ_add]; exact ih m.step
theorem step_done {m : M} (h : m.outcome.isSome = true) : m.step = m := by unfold M.step; rw [if_pos h]
theorem its_done {m : M} (h : m.outcome.isSome = true) : ∀ n, its n m = m
  | 0 => rfl
  | n + 1 => by show its n m.step = m; rw [step_done h]; exact its_done h n
theorem runFor_its : ∀ (n : Nat) (m : M), M.runFor n m = its n m
  | 0, _ => rfl
  | n + 1, m => by
    unfold M.runFor
    split
    · rename_i h; exact (its_done h (n + 1)).symm
    · exact runFor_its n m.step

section
variable {M' : Model} {A : Around} {E : Value → Shared → Prop} {s : Shared}
theorem drive_ok {mf : M} {Q : M → Shared → Prop} (hf : mf.outcome.isSome = true) (hQ : Q mf s) : ∀ (turns t : Nat) (m : M), its t m = mf → t ≤ 4 * turns → 0 < turns → wpAny M' A (Builtin.Re.reDrive turns m) Q E s
  | 0, _, _, _, _, h => absurd h (by grind)
  | n + 1, t, m, e, hle, _ => by
    unfold Builtin.Re.reDrive
    have hr : m.runFor Builtin.Re.reTurnSteps = its 4 m := runFor_its 4 m
    simp only [hr]
    by_cases h : (its 4 m).outcome.isSome = true
    · rw [if_pos h]
      have : its 4 m = mf := by
        by_cases q : t ≤ 4
        · have e4 : its 4 m = its (4 - t) (its t m) := by rw [← its_add]; congr 1; grind
          rw [e4, e]; exact its_done hf _
        · have et : its t m = its (t - 4) (its 4 m) := by rw [← its_add]; congr 1; grind
          rw [its_done h] at et
          rw [← et, e]
      rw [this]; exact wpAny_pure hQ
    · rw [if_neg h]
      have ht : ¬ t ≤ 4 := fun q => h (by
        have e4 : its 4 m = its (4 - t) (its t m) := by rw [← its_add]; congr 1; grind
        rw [e4, e, its_done hf]; exact hf)
      refine wpAny_bind (wpAny_rule (drive_ok hf hQ n (t - 4) _ ?_ (by grind) (by grind)))
      rw [← its_add, ← e]; congr 1; grind

theorem rules_ok {f : Nat → Bool} {g : Nat → String} {Q : PUnit → Shared → Prop} (hQ : Q ⟨⟩ s) : ∀ l : List Nat, wpAny M' A (forIn l PUnit.unit fun i r => if f i = true then do rule (g i); pure (ForInStep.yield PUnit.unit) else pure (ForInStep.yield PUnit.unit)) Q E s
  | [] => by rw [List.forIn_nil]; exact wpAny_pure hQ
  | i :: l => by
    rw [List.forIn_cons]
    refine wpAny_bind ?_
    split
    · exact wpAny_bind (wpAny_rule (wpAny_pure (rules_ok hQ l)))
    · exact wpAny_pure (rules_ok hQ l)

theorem runToEnd_ok {m mf : M} {t : Nat} {b : Bool} {Q : Option M → Shared → Prop} (e : its t m = mf) (ht : t ≤ 2 ^ 40) (hf : mf.outcome = some (if b then .matched else .failed)) (hQ : Q (if b then some mf else none) s) : wpAny M' A (Builtin.Re.reRunToEnd m) Q E s := by
  unfold Builtin.Re.reRunToEnd
  have hb : (2 : Nat) ^ 40 ≤ 4 * 2 ^ 64 := by decide
  refine wpAny_bind (drive_ok (mf := mf) (by rw [hf]; rfl) ?_ (2 ^ 64) t m e (Nat.le_trans ht hb) (by decide))
  refine wpAny_bind (rules_ok ?_ _)
  rw [hf]
  cases b <;> exact wpAny_pure hQ
end

noncomputable def code1 : Array Nat := #[14, 4, 0, 1, 1, 6, 1, 16, 46, 1]
noncomputable def mk1 (text : Array Nat) (lim s : Nat) (must first : Bool) (seen : Sre.Seen) : M :=
  { code := code1, text, lim, start := s, lastStart := lim, mustAdvance := must, pc := 5, pos := s, handed := s, outermost := first, marks := #[],
    frames := [{ wait := .nextStart, pc := 5, pos := s, outermost := first }], weight := 1, seen }
noncomputable def bol (text : Array Nat) (s : Nat) : Bool := s == 0 || text.getD (s - 1) 0 == 10

theorem mk1_bol {text : Array Nat} {lim s : Nat} {must first : Bool} {seen : Sre.Seen} (h : bol text s = true) :
    ∃ seen', (mk1 text lim s must first seen).step = { mk1 text lim s must first seen' with pc := 7 } := by
  refine ⟨(seen.add 6).add 44, ?_⟩
  show (if bol text s = true then _ else _) = _
  rw [if_pos h]
  rfl
theorem mk1_not {text : Array Nat} {lim s : Nat} {must first : Bool} {seen : Sre.Seen} (h : bol text s = false) :
    ∃ seen', (mk1 text lim s must first seen).step = { mk1 text lim s must first seen' with answer := some false } := by
  refine ⟨(seen.add 6).add 44, ?_⟩
  show (if bol text s = true then _ else _) = _
  rw [if_neg (by rw [h]; decide)]
  rfl
theorem mk1_lit {text : Array Nat} {lim s : Nat} {must first : Bool} {seen : Sre.Seen} (hlt : s < lim) (hc : text.getD s 0 = 46) :
    ∃ seen', ({ mk1 text lim s must first seen with pc := 7 } : M).step = { mk1 text lim s must first seen' with pc := 9, pos := s + 1 } := by
  refine ⟨seen.add 16, ?_⟩
  show (if s ≥ lim then _ else (match Sre.accepts code1 7 (text.getD s 0) (seen.add 16) with | .error why => _ | .ok (false, seen) => _ | .ok (true, seen) => _)) = _
  rw [if_neg (by grind), hc]
  rfl
theorem mk1_nolit {text : Array Nat} {lim s : Nat} {must first : Bool} {seen : Sre.Seen} (hc : ¬ (s < lim ∧ text.getD s 0 = 46)) :
    ∃ seen', ({ mk1 text lim s must first seen with pc := 7 } : M).step = { mk1 text lim s must first seen' with pc := 7, answer := some false } := by
  refine ⟨seen.add 16, ?_⟩
  show (if s ≥ lim then _ else (match (Except.ok (text.getD s 0 == 46, seen.add 16) : Except String (Bool × Sre.Seen)) with | .error why => _ | .ok (false, seen) => _ | .ok (true, seen) => _)) = _
  by_cases h : s ≥ lim
  · rw [if_pos h]; rfl
  · rw [if_neg h]
    have : (text.getD s 0 == 46) = false := by simpa using fun e => hc ⟨by grind, e⟩
    rw [this]; rfl
theorem mk1_end {text : Array Nat} {lim s : Nat} {must first : Bool} {seen : Sre.Seen} :
    ∃ seen', its 3 ({ mk1 text lim s must first seen with pc := 9, pos := s + 1 } : M) = { mk1 text lim s must first seen' with handed := s + 1, frames := [], weight := 0, answer := some true, outcome := some .matched } := by
  refine ⟨seen.add 1, ?_⟩
  have h1 : ({ mk1 text lim s must first seen with pc := 9, pos := s + 1 } : M).step = { mk1 text lim s must first (seen.add 1) with pc := 9, pos := s + 1, handed := s + 1, answer := some true } := by
    show (if (first && ((false && _) || (must && (s + 1 == s)))) = true then _ else _) = _
    rw [if_neg (by simp)]
    rfl
  show its 2 (M.step _) = _
  rw [h1]
  rfl
theorem mk1_next {text : Array Nat} {lim s pc : Nat} {must first : Bool} {seen : Sre.Seen} (h : s < lim) : ({ mk1 text lim s must first seen with pc := pc, answer := some false } : M).step = mk1 text lim (s + 1) false false seen := by
  show (if s < lim then _ else _) = _
  rw [if_pos h]
  rfl
theorem mk1_last {text : Array Nat} {lim s pc : Nat} {must first : Bool} {seen : Sre.Seen} (h : ¬ s < lim) : ∃ mf, its 2 ({ mk1 text lim s must first seen with pc := pc, answer := some false } : M) = mf ∧ mf.outcome = some .failed := by
  have h1 : ({ mk1 text lim s must first seen with pc := pc, answer := some false } : M).step = { mk1 text lim s must first seen with frames := [], weight := 0, answer := some false } := by
    show (if s < lim then _ else _) = _
    rw [if_neg h]
    rfl
  refine ⟨_, rfl, ?_⟩
  show (M.step (M.step _)).outcome = _
  rw [h1]
  rfl

noncomputable def dotAt (text : Array Nat) (s : Nat) : Bool := bol text s && text.getD s 0 == 46
noncomputable def nextDot (text : Array Nat) : Nat → Nat → Option Nat
  | 0, _ => none
  | n + 1, s => if dotAt text s then some s else nextDot text n (s + 1)

theorem search1 {text : Array Nat} {lim : Nat} : ∀ (n s : Nat) (must first : Bool) (seen : Sre.Seen), s + n = lim → ∃ t mf, its t (mk1 text lim s must first seen) = mf ∧ t ≤ 3 * n + 6 ∧
    match nextDot text n s with
    | some p => mf.outcome = some .matched ∧ mf.start = p ∧ mf.handed = p + 1
    | none => mf.outcome = some .failed
  | 0, s, must, first, seen, h => by
    have hs : ¬ s < lim := by grind
    cases hb : bol text s with
    | true =>
      obtain ⟨s1, e1⟩ := mk1_bol (lim := lim) (must := must) (first := first) (seen := seen) hb
      obtain ⟨s2, e2⟩ := mk1_nolit (text := text) (must := must) (first := first) (seen := s1) (s := s) (lim := lim) fun h => hs h.1
      obtain ⟨mf, e3, hf⟩ := mk1_last (text := text) (must := must) (first := first) (seen := s2) (pc := 7) hs
      refine ⟨4, mf, ?_, by grind, hf⟩
      show its 2 (M.step (M.step _)) = _
      rw [e1, e2]; exact e3
    | false =>
      obtain ⟨s1, e1⟩ := mk1_not (lim := lim) (must := must) (first := first) (seen := seen) hb
      obtain ⟨mf, e3, hf⟩ := mk1_last (text := text) (must := must) (first := first) (seen := s1) (pc := 5) hs
      refine ⟨3, mf, ?_, by grind, hf⟩
      show its 2 (M.step _) = _
      rw [e1]; exact e3
  | n + 1, s, must, first, seen, h => by
    have hs : s < lim := by grind
    unfold nextDot
    cases hb : bol text s with
    | true =>
      obtain ⟨s1, e1⟩ := mk1_bol (lim := lim) (must := must) (first := first) (seen := seen) hb
      by_cases hc : text.getD s 0 = 46
      · obtain ⟨s2, e2⟩ := mk1_lit (must := must) (first := first) (seen := s1) hs hc
        obtain ⟨s3, e3⟩ := mk1_end (text := text) (lim := lim) (s := s) (must := must) (first := first) (seen := s2)
        have hd : dotAt text s = true := by unfold dotAt; rw [hb, hc]; rfl
        refine ⟨5, { mk1 text lim s must first s3 with handed := s + 1, frames := [], weight := 0, answer := some true, outcome := some .matched }, ?_, by grind, ?_⟩
        · show its 3 (M.step (M.step _)) = _
          rw [e1, e2]; exact e3
        · rw [if_pos hd]
          exact ⟨rfl, rfl, rfl⟩
      · obtain ⟨s2, e2⟩ := mk1_nolit (text := text) (must := must) (first := first) (seen := s1) (s := s) (lim := lim) fun h => hc h.2
        have hd : dotAt text s = false := by unfold dotAt; rw [hb]; simpa using hc
        obtain ⟨t, mf, e4, ht, hr⟩ := search1 (text := text) (lim := lim) n (s + 1) false false s2 (by grind)
        refine ⟨t + 3, mf, ?_, by grind, ?_⟩
        · show its (t + 3) _ = _
          rw [Nat.add_comm, its_add]
          show its t (M.step (M.step (M.step _))) = _
          rw [e1, e2, mk1_next hs]; exact e4
        · rw [if_neg (by rw [hd]; decide)]; exact hr
    | false =>
      obtain ⟨s1, e1⟩ := mk1_not (lim := lim) (must := must) (first := first) (seen := seen) hb
      have hd : dotAt text s = false := by unfold dotAt; rw [hb]; rfl
      obtain ⟨t, mf, e4, ht, hr⟩ := search1 (text := text) (lim := lim) n (s + 1) false false s1 (by grind)
      refine ⟨t + 2, mf, ?_, by grind, ?_⟩
      · rw [Nat.add_comm, its_add]
        show its t (M.step (M.step _)) = _
        rw [e1]
        have := mk1_next (text := text) (must := must) (first := first) (seen := s1) (pc := 5) hs
        have e5 : ({ mk1 text lim s must first s1 with answer := some false } : M) = { mk1 text lim s must first s1 with pc := 5, answer := some false } := rfl
        rw [e5, this]; exact e4
      · rw [if_neg (by rw [hd]; decide)]; exact hr

theorem find1 {text : Array Nat} {pos : Nat} {must : Bool} (h : pos ≤ text.size) : ∃ t mf, its t (Sre.forSearch code1 text 0 pos text.size must) = mf ∧ t ≤ 3 * text.size + 6 ∧
    match nextDot text (text.size - pos) pos with
    | some p => mf.outcome = some .matched ∧ mf.start = p ∧ mf.handed = p + 1
    | none => mf.outcome = some .failed := by
  have e : Sre.forSearch code1 text 0 pos text.size must = if (decide (pos > text.size) || decide (text.size - pos < 1)) = true then M.say { mk1 text text.size pos must true ((({} : Sre.Seen)).add 14) with outermost := true, frames := [], weight := 0, lastStart := 0 } false else mk1 text text.size pos must true ((({} : Sre.Seen)).add 14) := rfl
  rw [e]
  by_cases h0 : text.size - pos < 1
  · have e0 : text.size - pos = 0 := by grind
    rw [if_pos (by simp [h0]), e0]
    exact ⟨1, _, rfl, by grind, rfl⟩
  · rw [if_neg (by simp; grind)]
    obtain ⟨t, mf, e1, ht, hr⟩ := search1 (text := text) (lim := text.size) (text.size - pos) pos must true ((({} : Sre.Seen)).add 14) (by grind)
    exact ⟨t, mf, e1, by grind, hr⟩
end Mine

-- NC
set_option maxRecDepth 10000
namespace Mine
set_option tactic.hygienic false
open PySem.Sre (M Wait Outcome)

noncomputable def code2 : Array Nat := #[14, 9, 4, 1, 2, 16, 10, 16, 13, 0, 7, 7, 16, 13, 16, 10, 15, 18, 5, 16, 10, 15, 13, 11, 16, 13, 5, 5, 0, 16, 10, 1, 15, 2, 0, 1]
noncomputable def st2 (text : Array Nat) (lim s : Nat) (seen : Sre.Seen) (pc pos handed : Nat) (outer : Bool) (frames : List Sre.Frame) (weight : Nat) (answer : Option Bool) : M :=
  { code := code2, text, lim, start := s, lastStart := lim, pc, pos, handed, outermost := outer, marks := #[], frames, weight, answer, seen }
noncomputable def f0 (s : Nat) (first : Bool) : Sre.Frame := { wait := .nextStart, pc := 10, pos := s, outermost := first }
noncomputable def fb (alt s : Nat) (first : Bool) : Sre.Frame := { wait := .nextBranch, pc := alt, pos := s, outermost := first }
noncomputable def fl (p : Nat) (first : Bool) : Sre.Frame := { wait := .lookNot, pc := 26, pos := p, outermost := first }

section
variable {text : Array Nat} {lim s pos handed w : Nat} {seen : Sre.Seen} {o first : Bool} {fs : List Sre.Frame}

theorem st2_lit (pc c : Nat) (hp : (pc = 12 ∧ c = 13) ∨ (pc = 14 ∧ c = 10) ∨ (pc = 19 ∧ c = 10) ∨ (pc = 24 ∧ c = 13) ∨ (pc = 29 ∧ c = 10)) (hlt : pos < lim) (hc : text.getD pos 0 = c) :
    ∃ seen', (st2 text lim s seen pc pos handed o fs w none).step = st2 text lim s seen' (pc + 2) (pos + 1) handed o fs w none := by
  refine ⟨seen.add 16, ?_⟩
  rcases hp with ⟨rfl, rfl⟩ | ⟨rfl, rfl⟩ | ⟨rfl, rfl⟩ | ⟨rfl, rfl⟩ | ⟨rfl, rfl⟩
  all_goals
    show (if pos ≥ lim then _ else (match (Except.ok (text.getD pos 0 == _, seen.add 16) : Except String (Bool × Sre.Seen)) with | .error why => _ | .ok (false, seen) => _ | .ok (true, seen) => _)) = _
    rw [if_neg (by omega), hc]
    rfl
theorem st2_nolit (pc c : Nat) (hp : (pc = 12 ∧ c = 13) ∨ (pc = 14 ∧ c = 10) ∨ (pc = 19 ∧ c = 10) ∨ (pc = 24 ∧ c = 13) ∨ (pc = 29 ∧ c = 10)) (hc : ¬ (pos < lim ∧ text.getD pos 0 = c)) :
    ∃ seen', (st2 text lim s seen pc pos handed o fs w none).step = st2 text lim s seen' pc pos handed o fs w (some false) := by
  refine ⟨seen.add 16, ?_⟩
  have e : (text.getD pos 0 == c) = false ∨ pos ≥ lim := by
    by_cases h : pos ≥ lim
    · exact .inr h
    · exact .inl (by simpa using fun e => hc ⟨by omega, e⟩)
  by_cases h : pos ≥ lim
  · rcases hp with ⟨rfl, rfl⟩ | ⟨rfl, rfl⟩ | ⟨rfl, rfl⟩ | ⟨rfl, rfl⟩ | ⟨rfl, rfl⟩
    all_goals
      show (if pos ≥ lim then _ else _) = _
      rw [if_pos h]; rfl
  · have e := e.resolve_right h
    rcases hp with ⟨rfl, rfl⟩ | ⟨rfl, rfl⟩ | ⟨rfl, rfl⟩ | ⟨rfl, rfl⟩ | ⟨rfl, rfl⟩
    · show (if pos ≥ lim then _ else (match (Except.ok (text.getD pos 0 == 13, seen.add 16) : Except String (Bool × Sre.Seen)) with | .error why => _ | .ok (false, seen) => _ | .ok (true, seen) => _)) = _
      rw [if_neg h, e]; rfl
    · show (if pos ≥ lim then _ else (match (Except.ok (text.getD pos 0 == 10, seen.add 16) : Except String (Bool × Sre.Seen)) with | .error why => _ | .ok (false, seen) => _ | .ok (true, seen) => _)) = _
      rw [if_neg h, e]; rfl
    · show (if pos ≥ lim then _ else (match (Except.ok (text.getD pos 0 == 10, seen.add 16) : Except String (Bool × Sre.Seen)) with | .error why => _ | .ok (false, seen) => _ | .ok (true, seen) => _)) = _
      rw [if_neg h, e]; rfl
    · show (if pos ≥ lim then _ else (match (Except.ok (text.getD pos 0 == 13, seen.add 16) : Except String (Bool × Sre.Seen)) with | .error why => _ | .ok (false, seen) => _ | .ok (true, seen) => _)) = _
      rw [if_neg h, e]; rfl
    · show (if pos ≥ lim then _ else (match (Except.ok (text.getD pos 0 == 10, seen.add 16) : Except String (Bool × Sre.Seen)) with | .error why => _ | .ok (false, seen) => _ | .ok (true, seen) => _)) = _
      rw [if_neg h, e]; rfl
theorem st2_jump (pc : Nat) (hp : pc = 16 ∨ pc = 21 ∨ pc = 32) : ∃ seen', (st2 text lim s seen pc pos handed o fs w none).step = st2 text lim s seen' 35 pos handed o fs w none := by
  refine ⟨seen.add 15, ?_⟩
  rcases hp with rfl | rfl | rfl <;> rfl
theorem st2_branch : ∃ seen', (st2 text lim s seen 10 s handed first [f0 s first] 1 none).step = st2 text lim s seen' 12 s s first [fb 11 s first, f0 s first] 2 none := ⟨seen.add 7, rfl⟩
theorem st2_alt1 {h p : Nat} : ∃ seen', (st2 text lim s seen h p handed o [fb 11 s first, f0 s first] 2 (some false)).step = st2 text lim s seen' 19 s s first [fb 18 s first, f0 s first] 2 none := ⟨seen, rfl⟩
theorem st2_alt2 {h p : Nat} : ∃ seen', (st2 text lim s seen h p handed o [fb 18 s first, f0 s first] 2 (some false)).step = st2 text lim s seen' 24 s s first [fb 23 s first, f0 s first] 2 none := ⟨seen, rfl⟩
theorem st2_look {p : Nat} : ∃ seen', (st2 text lim s seen 26 p handed first [fb 23 s first, f0 s first] 2 none).step = st2 text lim s seen' 29 p p false [fl p first, fb 23 s first, f0 s first] 3 none := ⟨seen.add 5, rfl⟩
theorem st2_looked {h p q : Nat} : ∃ seen', (st2 text lim s seen h p handed o [fl q first, fb 23 s first, f0 s first] 3 (some false)).step = st2 text lim s seen' 32 q handed first [fb 23 s first, f0 s first] 2 none := ⟨seen, rfl⟩
theorem st2_end {alt : Nat} : ∃ mf, its 4 (st2 text lim s seen 35 pos handed o [fb alt s first, f0 s first] 2 none) = mf ∧ mf.outcome = some .matched ∧ mf.start = s ∧ mf.handed = pos := by
  have h1 : (st2 text lim s seen 35 pos handed o [fb alt s first, f0 s first] 2 none).step = st2 text lim s (seen.add 1) 35 pos pos o [fb alt s first, f0 s first] 2 (some true) := by
    show (if (o && ((false && _) || (false && _))) = true then _ else _) = _
    rw [if_neg (by simp)]
    rfl
  refine ⟨_, rfl, ?_⟩
  show (its 3 (M.step _)).outcome = _ ∧ _
  have e : its 4 (st2 text lim s seen 35 pos handed o [fb alt s first, f0 s first] 2 none) = its 3 (st2 text lim s (seen.add 1) 35 pos pos o [fb alt s first, f0 s first] 2 (some true)) := by
    show its 3 (M.step _) = _
    rw [h1]
  rw [e]
  exact ⟨by rw [h1]; rfl, rfl, rfl⟩

noncomputable def isNl (c : Nat) : Bool := c == 10 || c == 13
noncomputable def nlEnd (text : Array Nat) (lim s : Nat) : Nat := if text.getD s 0 = 13 ∧ s + 1 < lim ∧ text.getD (s + 1) 0 = 10 then s + 2 else s + 1

theorem try2 (hlt : s < lim) (hc : isNl (text.getD s 0) = true) : ∃ t mf, its t (st2 text lim s seen 10 s s first [f0 s first] 1 none) = mf ∧ t ≤ 40 ∧ mf.outcome = some .matched ∧ mf.start = s ∧ mf.handed = nlEnd text lim s := by
  obtain ⟨s1, e1⟩ := st2_branch (text := text) (lim := lim) (s := s) (handed := s) (seen := seen) (first := first)
  by_cases h13 : text.getD s 0 = 13
  · obtain ⟨s2, e2⟩ := st2_lit (text := text) (lim := lim) (s := s) (pos := s) (handed := s) (seen := s1) (o := first) (fs := [fb 11 s first, f0 s first]) (w := 2) 12 13 (.inl ⟨rfl, rfl⟩) hlt h13
    by_cases h10 : s + 1 < lim ∧ text.getD (s + 1) 0 = 10
    · obtain ⟨s3, e3⟩ := st2_lit (text := text) (lim := lim) (s := s) (pos := s + 1) (handed := s) (seen := s2) (o := first) (fs := [fb 11 s first, f0 s first]) (w := 2) 14 10 (.inr (.inl ⟨rfl, rfl⟩)) h10.1 h10.2
      obtain ⟨s4, e4⟩ := st2_jump (text := text) (lim := lim) (s := s) (pos := s + 2) (handed := s) (seen := s3) (o := first) (fs := [fb 11 s first, f0 s first]) (w := 2) 16 (.inl rfl)
      obtain ⟨mf, e5, r1, r2, r3⟩ := st2_end (text := text) (lim := lim) (s := s) (pos := s + 2) (handed := s) (seen := s4) (o := first) (first := first) (alt := 11)
      refine ⟨8, mf, ?_, by omega, r1, r2, ?_⟩
      · show its 4 (M.step (M.step (M.step (M.step _)))) = _
        rw [e1, e2, e3, e4]; exact e5
      · rw [r3]; unfold nlEnd; rw [if_pos ⟨h13, h10⟩]
    · obtain ⟨s3, e3⟩ := st2_nolit (text := text) (lim := lim) (s := s) (pos := s + 1) (handed := s) (seen := s2) (o := first) (fs := [fb 11 s first, f0 s first]) (w := 2) 14 10 (.inr (.inl ⟨rfl, rfl⟩)) h10
      obtain ⟨s4, e4⟩ := st2_alt1 (text := text) (lim := lim) (s := s) (handed := s) (seen := s3) (o := first) (first := first) (h := 14) (p := s + 1)
      obtain ⟨s5, e5⟩ := st2_nolit (text := text) (lim := lim) (s := s) (pos := s) (handed := s) (seen := s4) (o := first) (fs := [fb 18 s first, f0 s first]) (w := 2) 19 10 (.inr (.inr (.inl ⟨rfl, rfl⟩))) (fun h => by rw [h13] at h; exact absurd h.2 (by decide))
      obtain ⟨s6, e6⟩ := st2_alt2 (text := text) (lim := lim) (s := s) (handed := s) (seen := s5) (o := first) (first := first) (h := 19) (p := s)
      obtain ⟨s7, e7⟩ := st2_lit (text := text) (lim := lim) (s := s) (pos := s) (handed := s) (seen := s6) (o := first) (fs := [fb 23 s first, f0 s first]) (w := 2) 24 13 (.inr (.inr (.inr (.inl ⟨rfl, rfl⟩)))) hlt h13
      obtain ⟨s8, e8⟩ := st2_look (text := text) (lim := lim) (s := s) (handed := s) (seen := s7) (first := first) (p := s + 1)
      obtain ⟨s9, e9⟩ := st2_nolit (text := text) (lim := lim) (s := s) (pos := s + 1) (handed := s + 1) (seen := s8) (o := false) (fs := [fl (s + 1) first, fb 23 s first, f0 s first]) (w := 3) 29 10 (.inr (.inr (.inr (.inr ⟨rfl, rfl⟩)))) h10
      obtain ⟨sa, ea⟩ := st2_looked (text := text) (lim := lim) (s := s) (handed := s + 1) (seen := s9) (o := false) (first := first) (h := 29) (p := s + 1) (q := s + 1)
      obtain ⟨sb, eb⟩ := st2_jump (text := text) (lim := lim) (s := s) (pos := s + 1) (handed := s + 1) (seen := sa) (o := first) (fs := [fb 23 s first, f0 s first]) (w := 2) 32 (.inr (.inr rfl))
      obtain ⟨mf, ec, r1, r2, r3⟩ := st2_end (text := text) (lim := lim) (s := s) (pos := s + 1) (handed := s + 1) (seen := sb) (o := first) (first := first) (alt := 23)
      refine ⟨15, mf, ?_, by omega, r1, r2, ?_⟩
      · show its 4 (M.step (M.step (M.step (M.step (M.step (M.step (M.step (M.step (M.step (M.step (M.step _))))))))))) = _
        rw [e1, e2, e3, e4, e5, e6, e7, e8, e9, ea, eb]; exact ec
      · rw [r3]; unfold nlEnd; rw [if_neg fun h => h10 h.2]
  · have h10 : text.getD s 0 = 10 := by
      unfold isNl at hc
      simp only [Bool.or_eq_true, beq_iff_eq] at hc
      exact hc.resolve_right h13
    obtain ⟨s2, e2⟩ := st2_nolit (text := text) (lim := lim) (s := s) (pos := s) (handed := s) (seen := s1) (o := first) (fs := [fb 11 s first, f0 s first]) (w := 2) 12 13 (.inl ⟨rfl, rfl⟩) (fun h => h13 h.2)
    obtain ⟨s3, e3⟩ := st2_alt1 (text := text) (lim := lim) (s := s) (handed := s) (seen := s2) (o := first) (first := first) (h := 12) (p := s)
    obtain ⟨s4, e4⟩ := st2_lit (text := text) (lim := lim) (s := s) (pos := s) (handed := s) (seen := s3) (o := first) (fs := [fb 18 s first, f0 s first]) (w := 2) 19 10 (.inr (.inr (.inl ⟨rfl, rfl⟩))) hlt h10
    obtain ⟨s5, e5⟩ := st2_jump (text := text) (lim := lim) (s := s) (pos := s + 1) (handed := s) (seen := s4) (o := first) (fs := [fb 18 s first, f0 s first]) (w := 2) 21 (.inr (.inl rfl))
    obtain ⟨mf, e6, r1, r2, r3⟩ := st2_end (text := text) (lim := lim) (s := s) (pos := s + 1) (handed := s) (seen := s5) (o := first) (first := first) (alt := 18)
    refine ⟨9, mf, ?_, by omega, r1, r2, ?_⟩
    · show its 4 (M.step (M.step (M.step (M.step (M.step _))))) = _
      rw [e1, e2, e3, e4, e5]; exact e6
    · rw [r3]; unfold nlEnd; rw [if_neg fun h => h13 h.1]
end
end Mine

-- ND
set_option maxRecDepth 10000
namespace Mine
set_option tactic.hygienic false
open PySem.Sre (M Wait Outcome)

theorem inSet2 (c : Nat) (seen : Sre.Seen) : ∃ seen', Sre.inSet code2 c code2.size 5 true seen = .ok (isNl c, seen') := by
  have e : Sre.inSet code2 c code2.size 5 true seen = if (c == 10) = true then .ok (true, seen.add 16) else if (c == 13) = true then .ok (true, (seen.add 16).add 16) else .ok (false, ((seen.add 16).add 16).add 0) := rfl
  rw [e]
  unfold isNl
  cases h1 : c == 10 with
  | true => exact ⟨seen.add 16, by simp⟩
  | false =>
    cases h2 : c == 13 with
    | true => exact ⟨(seen.add 16).add 16, by simp⟩
    | false => exact ⟨((seen.add 16).add 16).add 0, by simp⟩

noncomputable def nextNl (text : Array Nat) : Nat → Nat → Option Nat
  | 0, _ => none
  | n + 1, s => if isNl (text.getD s 0) then some s else nextNl text n (s + 1)
theorem nextNl_is {text : Array Nat} : ∀ {n s p : Nat}, nextNl text n s = some p → s ≤ p ∧ p < s + n ∧ isNl (text.getD p 0) = true
  | 0, _, _, h => by cases h
  | n + 1, s, p, h => by
    unfold nextNl at h
    split at h
    · obtain rfl := Option.some.inj h; exact ⟨Nat.le_refl _, by grind, by assumption⟩
    · obtain ⟨h1, h2, h3⟩ := nextNl_is h
      exact ⟨by grind, by grind, h3⟩

theorem admitted2 {m : M} {text : Array Nat} {lim : Nat} (hc : m.code = code2) (ht : m.text = text) (hl : m.lim = lim) : ∀ (n s fuel : Nat) (seen : Sre.Seen), s + n = lim → n < fuel → ∃ seen', M.admitted m fuel s seen = .ok (nextNl text n s, seen')
  | 0, s, fuel + 1, seen, h, _ => by
    unfold M.admitted
    rw [if_pos (by rw [hl]; grind)]
    exact ⟨_, rfl⟩
  | n + 1, s, fuel + 1, seen, h, hf => by
    unfold M.admitted nextNl
    rw [if_neg (by rw [hl]; grind), hc, ht]
    obtain ⟨s1, e1⟩ := inSet2 (text.getD s 0) seen
    rw [e1]
    cases isNl (text.getD s 0) with
    | true => exact ⟨_, rfl⟩
    | false =>
      obtain ⟨s2, e2⟩ := admitted2 hc ht hl n (s + 1) fuel s1 (by grind) (by grind)
      exact ⟨s2, by simpa using e2⟩
  | _, _, 0, _, _, h => by grind

theorem find2 {text : Array Nat} {pos : Nat} {must : Bool} (h : pos ≤ text.size) : ∃ t mf, its t (Sre.forSearch code2 text 0 pos text.size must) = mf ∧ t ≤ 40 ∧
    match nextNl text (text.size - pos) pos with
    | some p => mf.outcome = some .matched ∧ mf.start = p ∧ mf.handed = nlEnd text text.size p
    | none => mf.outcome = some .failed := by
  let m0 : M := { code := code2, text, lim := text.size, start := pos, pc := 10, pos, handed := pos, marks := #[], mustAdvance := must, seen := (({} : Sre.Seen)).add 14 }
  have e : Sre.forSearch code2 text 0 pos text.size must = if (decide (pos > text.size) || decide (text.size - pos < 1)) = true then M.say m0 false else M.attemptFrom { m0 with lastStart := text.size } pos true := rfl
  rw [e]
  by_cases h0 : text.size - pos < 1
  · have e0 : text.size - pos = 0 := by grind
    rw [if_pos (by simp [h0]), e0]
    exact ⟨1, _, rfl, by grind, rfl⟩
  · rw [if_neg (by simp; grind)]
    obtain ⟨s1, e1⟩ := admitted2 (m := { m0 with lastStart := text.size }) (text := text) (lim := text.size) rfl rfl rfl (text.size - pos) pos (text.size + 1 - pos) ((({} : Sre.Seen)).add 14) (by grind) (by grind)
    have e2 : M.attemptFrom { m0 with lastStart := text.size } pos true = match M.admitted { m0 with lastStart := text.size } (text.size + 1 - pos) pos ((({} : Sre.Seen)).add 14) with
        | .ok (some s, seen) => M.attemptAt { m0 with lastStart := text.size, mustAdvance := false, seen } s true
        | .ok (none, seen) => M.say { m0 with lastStart := text.size, seen } false
        | .error why => M.stick { m0 with lastStart := text.size } why := rfl
    rw [e2, e1]
    cases hn : nextNl text (text.size - pos) pos with
    | none => exact ⟨1, _, rfl, by grind, rfl⟩
    | some p =>
      obtain ⟨h1, h2, h3⟩ := nextNl_is hn
      obtain ⟨t, mf, e3, ht, r⟩ := try2 (text := text) (lim := text.size) (s := p) (seen := s1) (first := true) (by grind) h3
      exact ⟨t, mf, e3, ht, r⟩
end Mine

-- NE
set_option maxRecDepth 10000
namespace Mine
set_option tactic.hygienic false
open PySem.Sre (M Wait Outcome)
theorem slot_sub : Slot "re.Pattern" "sub" "re.Pattern.sub" :=
  .of (owner := "re.Pattern") (n := "sub") (by rw [typeLookup_type, builtinLookup_eq_fast]; kernel_rfl) (by decide +kernel) (by decide +kernel) (by decide +kernel)
    (by first | exact .inl (by decide +kernel) | exact .inr (by decide +kernel)) (by rw [isSubtype_type]; kernel_rfl)
theorem type_sub : typeOf (.builtin "re.Pattern.sub") = pure (.type "method_descriptor") := by show builtinType _ = _; rw [builtinType_eq_fast]; kernel_rfl
theorem entry_sub : entryFor table "re.Pattern.sub" = some Builtin.«re.Pattern.sub» := entryFor_of_tree (by kernel_rfl)
theorem entry_subloop : entryFor table "re.Pattern.sub.loop" = some Builtin.«re.Pattern.sub.loop» := entryFor_of_tree (by kernel_rfl)
theorem plainAttrs_pat : PlainAttrs "re.Pattern" :=
  ⟨⟨"object.__getattribute__", by rw [typeLookup_type, builtinLookup_eq_fast]; kernel_rfl, by decide +kernel⟩, by rw [typeLookup_type, builtinLookup_eq_fast]; kernel_rfl⟩
theorem quiet_subloop : Code.quiet (.builtin "re.Pattern.sub.loop" default) = true := Code.quiet_builtin _ (by decide +kernel)
theorem owner_pat : Manifest.owners.lookup (String.ofList ['n', 'r', 'e', 't', 't', 'a', 'P', '.', 'e', 'r'].reverse) = some Manifest.sig_re_Pattern := by kernel_rfl
theorem args_sub (a b c : Value) : argsOk "re.Pattern.sub" ⟨[a, b, c], []⟩ := by
  unfold argsOk
  rw [signature?_of (id := "re.Pattern.sub") (n := ['b', 'u', 's']) (o := ['n', 'r', 'e', 't', 't', 'a', 'P', '.', 'e', 'r']) (by kernel_rfl) owner_pat]
  kernel_rfl

noncomputable def PatAt (h : Heap) (a cs : Addr) (code : Array Nat) : Prop :=
  ∃ o fs oc its n, h.get? a = some o ∧ o.cls = .type "re.Pattern" ∧ o.dict = none ∧ o.data = .fields fs ∧ fs.getD 5 .none = .ref cs ∧ h.get? cs = some oc ∧ oc.data = .seq its n ∧ (its.map Builtin.Re.reRawOf).map (·.toNat) = code ∧
    Builtin.Re.reRawNat (fs.getD 2 .none) = 0 ∧ Builtin.Re.reRawNat (fs.getD 6 .none) = 0
theorem PatAt.keeps {h h' : Heap} {a cs : Addr} {code : Array Nat} (x : PatAt h a cs code) (k : ∀ b o, h.get? b = some o → h'.get? b = some o) : PatAt h' a cs code :=
  let ⟨o, fs, oc, its, n, h1, h2, h3, h4, h5, h6, r⟩ := x; ⟨o, fs, oc, its, n, k _ _ h1, h2, h3, h4, h5, k _ _ h6, r⟩

section
variable {prog : Program} {w : World} {A : Around} {E : Value → Shared → Prop} {s : Shared}
theorem target_ok {a cs : Addr} {code : Array Nat} {l : List Nat} {t : Tok} {Q : Builtin.Re.ReTarget → Shared → Prop} (p : PatAt s.heap a cs code)
    (hQ : Q { pattern := .ref a, string := .str (toStr l) t, code, text := l.toArray, kind := 0, groups := 0, pos := 0, lim := l.toArray.size } s) : wpAny (model prog w) A (Builtin.Re.reWholeTarget (.ref a) (.str (toStr l) t)) Q E s := by
  obtain ⟨o, fs, oc, its, n, h1, h2, h3, h4, h5, h6, h7, h8, h9, h10⟩ := p
  unfold Builtin.Re.reWholeTarget
  refine wpAny_bind ?_
  show wpAny _ _ (load a >>= _) _ _ _
  refine wpAny_bind (wpAny_load h1 ?_)
  rw [h4]
  refine wpAny_pure ?_
  refine wpAny_bind ?_
  show wpAny _ _ (Builtin.Re.reTextOf (.str (toStr l) t)) _ _ _
  unfold Builtin.Re.reTextOf
  refine wpAny_bind (m := asStr? _) (wpAny_pure ?_)
  refine wpAny_pure ?_
  simp only [h10]
  refine wpAny_bind (m := Builtin.Re.reNoCollectionInside _ _) (wpAny_pure ?_)
  rw [h5]
  unfold Builtin.Re.reRawItems seqItems?
  refine wpAny_bind (wpAny_bind (wpAny_bind (wpAny_load h6 ?_)))
  rw [h7]
  refine wpAny_pure (wpAny_pure ?_)
  refine wpAny_pure ?_
  simp only [Option.getD_some, h8, h9]
  exact hQ
end
end Mine

-- NF
set_option maxRecDepth 10000
namespace Mine
set_option tactic.hygienic false
open PySem.Sre (M Wait Outcome)

noncomputable def piecesOf (next : Nat → Option (Nat × Nat)) (rep l : List Nat) : Nat → Nat → List (List Nat)
  | 0, _ => []
  | f + 1, s => match next s with
    | some (p, e) => (if s < p then [(l.take p).drop s] else []) ++ rep :: piecesOf next rep l f e
    | none => if s < l.length then [l.drop s] else []

structure NextOK (code : Array Nat) (l : List Nat) (next : Nat → Option (Nat × Nat)) : Prop where
  find : ∀ pos must, pos ≤ l.length → ∃ t mf, its t (Sre.forSearch code l.toArray 0 pos l.toArray.size must) = mf ∧ t ≤ 2 ^ 40 ∧
    match next pos with
    | some (p, e) => mf.outcome = some .matched ∧ mf.start = p ∧ mf.handed = e
    | none => mf.outcome = some .failed
  ok : ∀ s p e, next s = some (p, e) → s ≤ p ∧ p < e ∧ e ≤ l.length

section
variable {prog : Program} {w : World} {A : Around} {E : Value → Shared → Prop} {s : Shared}

theorem push_ok {D : Addr} {items : Array Value} {x : Value} {Q : Unit → Shared → Prop} (hl : s.heap.PlainList D items) (hsz : items.size ≤ 1000000)
    (hQ : ∀ h', h'.PlainList D (items.push x) → Heap.SameBut D s.heap h' → Q () { s with heap := h' }) : wpAny (model prog w) A (updateSeq D (·.push x)) Q E s := by
  obtain ⟨n, ho⟩ := hl
  have hs : items.size ≤ sizeLine := by rw [sizeLine_eq]; grind
  refine wpAny_updateSeq (hz := hs) ho rfl (hQ _ ⟨n + 1, ?_⟩ (Heap.SameBut.update ..))
  rw [Heap.get?_update_self _ ho (by rw [Obj.mapSeq_push_plain]; rfl), Obj.mapSeq_push_plain]

theorem find_ok {code : Array Nat} {l : List Nat} {next : Nat → Option (Nat × Nat)} (N : NextOK code l next) {a : Addr} {t : Tok} {pos : Nat} {must : Bool} {Q : Option M → Shared → Prop} (hp : pos ≤ l.length)
    (h1 : ∀ p e mf, next pos = some (p, e) → mf.start = p → mf.handed = e → Q (some mf) s) (h2 : next pos = none → Q none s) :
    wpAny (model prog w) A (Builtin.Re.reNextFound { pattern := .ref a, string := .str (toStr l) t, code, text := l.toArray, kind := 0, groups := 0, pos := 0, lim := l.toArray.size } pos must) Q E s := by
  refine ex2 (N.find pos must hp) fun n mf q_35 => ?_
  have e := q_35.1
  have ht := q_35.2.1
  have r := q_35.2.2
  unfold Builtin.Re.reNextFound
  cases hn : next pos with
  | none =>
    rw [hn] at r
    exact runToEnd_ok (b := false) e ht r (h2 hn)
  | some pe =>
    obtain ⟨p, e'⟩ := pe
    rw [hn] at r
    exact runToEnd_ok (b := true) e ht r.1 (h1 p e' mf hn r.2.1 r.2.2)

theorem slice_ex {l : List Nat} {b e : Nat} : l.toArray.extract b e = ((l.take e).drop b).toArray := by simp [List.extract_toArray, List.drop_take]

theorem join_empty (L : List (List Nat)) : Txt.join (toStr []) (L.map toStr) = toStr L.flatten := by
  have key : ∀ (L : List (List Nat)) (acc : List Nat), (L.map toStr).foldl (fun (acc : Array Nat) p => acc ++ (toStr []).cps ++ p.cps) acc.toArray = (acc ++ L.flatten).toArray := by
    intro L
    induction L with
    | nil => intro acc; simp
    | cons x L ih =>
      intro acc
      rw [List.map_cons, List.foldl_cons]
      have : acc.toArray ++ (toStr []).cps ++ (toStr x).cps = (acc ++ x).toArray := by simp
      rw [this, ih, List.flatten_cons, List.append_assoc]
  unfold Txt.join Builtin.Str.glued
  cases L with
  | nil => rfl
  | cons x L =>
    have : (List.foldl (fun (acc : Array Nat) p => acc ++ (toStr []).cps ++ p.cps) ((toStr x).cps) ((List.map toStr (x :: L)).drop 1)) = ((x :: L).flatten).toArray := key L x
    exact congrArg Str.mk this
theorem joinOk_empty {L : List (List Nat)} (h : L.flatten.length ≤ 1000000) : JoinOk (toStr []) (L.map toStr) = true := by
  have key : ∀ (L : List (List Nat)) (n : Nat), (L.map toStr).foldl (fun n p => n + p.length + (toStr []).length) n = n + L.flatten.length := by
    intro L
    induction L with
    | nil => intro n; simp
    | cons x L ih =>
      intro n
      rw [List.map_cons, List.foldl_cons, ih]
      have : (toStr x).length = x.length := by simp [Str.length]
      have : (toStr []).length = 0 := rfl
      simp only [List.flatten_cons, List.length_append]
      grind
  unfold JoinOk Builtin.Str.tooLong
  have : (L.map toStr).toArray.foldl (fun n p => n + p.length + (toStr []).length) 0 = L.flatten.length := by
    rw [List.foldl_toArray]
    rw [key]; grind
  rw [this, decide_eq_false (by rw [sizeLine_eq]; grind)]
  rfl

theorem subloop_ok {code : Array Nat} {l rep : List Nat} {next : Nat → Option (Nat × Nat)} (N : NextOK code l next) {a cs D : Addr} {t u : Tok} (hcs : cs ≠ D) (hlen : l.length ≤ 100000) {R : Result → Shared → Prop} :
    ∀ (f st : Nat) (n : Nat) (must : Bool) (ps : List (Str × Tok)) (acc : List (List Nat)) (s : Shared), st ≤ l.length → l.length < f + st → (acc ++ piecesOf next rep l f st).flatten.length ≤ 1000000 → ps.map (·.1) = acc.map toStr → ps.length ≤ 2 * st → PatAt s.heap a cs code → s.heap.PlainList D (strValues ps).toArray → a ≠ D →
      (∀ h' tk t', Heap.ExtBut D s.heap h' → R (.ok (.ret (.str (toStr (acc ++ piecesOf next rep l f st).flatten) t'))) { s with heap := h', toks := tk }) →
      codeAny (model prog w) A (.builtin "re.Pattern.sub.loop" ⟨[.ref a, .str (toStr l) t, .str (toStr rep) u, rawInt 0, rawInt 0, rawInt n, rawInt st, rawInt st, .bool must, .ref D, .bool false], []⟩) R s
  | 0, st, n, must, ps, acc, s, h1, h2, _, _, _, _, _, _, _ => by grind
  | f + 1, st, n, must, ps, acc, s, h1, h2, hout, hps, hpl, pat, pl, hne, hR => by
    refine codeAny_builtin entry_subloop ?_
    show wpAny _ _ (do
      let tg ← Builtin.Re.reWholeTarget (.ref a) (.str (toStr l) t)
      if (0 : Int) == 0 then Builtin.Re.reLiteralCannotBeTurned (.str (toStr rep) u)
      match ← (if (0 : Int) != 0 && (n : Int) ≥ 0 then pure none else Builtin.Re.reNextFound tg (st : Int).toNat must) with
      | some m =>
        if (st : Int).toNat < m.start then updateSeq D (·.push (← Builtin.Re.reSlice tg.text tg.kind (st : Int).toNat m.start))
        let item ← if (0 : Int) == 0 then pure (.str (toStr rep) u) else do
            let found ← Builtin.Re.reNewMatch (.ref a) (.str (toStr l) t) tg.groups 0 tg.lim m
            holding [found] (if (0 : Int) == 1 then call (.str (toStr rep) u) [found] else do Builtin.Re.reExpand (.str (toStr rep) u) (← Builtin.Re.reFound found))
        if item != .none then updateSeq D (·.push item)
        again (.builtin "re.Pattern.sub.loop" ⟨[.ref a, .str (toStr l) t, .str (toStr rep) u, rawInt 0, rawInt 0, rawInt ((n : Int) + 1), rawInt m.handed, rawInt m.handed, .bool (m.handed == m.start), .ref D, .bool false], []⟩)
      | none =>
        if (st : Int).toNat < tg.lim then updateSeq D (·.push (← Builtin.Re.reSlice tg.text tg.kind (st : Int).toNat tg.lim))
        let joiner ← Builtin.Re.reSlice tg.text tg.kind 0 0
        let text ← if ((← seqItems? (.ref D)).getD #[]).isEmpty then pure joiner
          else call (.builtin (if tg.kind == 0 then "str.join" else "bytes.join")) [joiner, .ref D]
        if false = true then ret (← holding [text] do newTuple [text, ← mkInt n]) else ret text) _ _ _
    refine wpAny_bind (target_ok pat ?_)
    refine wpAny_bind (wpAny_pure ?_)
    refine wpAny_bind ?_
    show wpAny _ _ (Builtin.Re.reNextFound _ (st : Int).toNat must) _ _ _
    rw [Int.toNat_natCast]
    refine find_ok N h1 (fun p e mf hn hs he => ?_) fun hn => ?_
    · subst hs he
      have q_114 := N.ok _ _ _ hn
      have o1 := q_114.1
      have o2 := q_114.2.1
      have o3 := q_114.2.2
      have hpc : piecesOf next rep l (f + 1) st = (if st < mf.start then [(l.take mf.start).drop st] else []) ++ rep :: piecesOf next rep l f mf.handed := by
        show (match next st with | some (p, e) => _ | none => _) = _
        rw [hn]
      have K : ∀ (ps1 : List (Str × Tok)) (h1 : Heap) (tk1 : Tok), ps1.map (·.1) = (acc ++ (if st < mf.start then [(l.take mf.start).drop st] else [])).map toStr → ps1.length ≤ 2 * st + 1 → h1.PlainList D (strValues ps1).toArray → Heap.ExtBut D s.heap h1 →
          wpAny (model prog w) (A.under (.builtin "re.Pattern.sub.loop" ⟨[.ref a, .str (toStr l) t, .str (toStr rep) u, rawInt 0, rawInt 0, rawInt n, rawInt st, rawInt st, .bool must, .ref D, .bool false], []⟩)) (do
            let _ ← updateSeq D (·.push (.str (toStr rep) u))
            again (.builtin "re.Pattern.sub.loop" ⟨[.ref a, .str (toStr l) t, .str (toStr rep) u, rawInt 0, rawInt 0, rawInt ((n : Int) + 1), rawInt mf.handed, rawInt mf.handed, .bool (mf.handed == mf.start), .ref D, .bool false], []⟩))
          (fun fin s' => match fin with | .done f => R (.ok f) s' | .again c' => c'.quiet = true ∧ codeAny (model prog w) A c' R s') (fun e s' => R (.error e) s') { s with heap := h1, toks := tk1 } := by
        intro ps1 h1 tk1 e1 hl1 pl1 eb1
        refine wpAny_bind (push_ok (s := { s with heap := h1, toks := tk1 }) pl1 (by simp [strValues]; grind) fun h2 pl2 sb2 => wpAny_pure ⟨Code.quiet_builtin _ (by decide +kernel), ?_⟩)
        have eb2 : Heap.ExtBut D s.heap h2 := fun b o hb e => sb2.extBut b o hb (eb1 b o hb e)
        have pl2' : h2.PlainList D (strValues (ps1 ++ [(toStr rep, u)])).toArray := by simpa [strValues] using pl2
        have pat2 : PatAt h2 a cs code := by
          obtain ⟨o, fs, oc, its, nn, g1, g2, g3, g4, g5, g6, g7, r⟩ := pat
          exact ⟨o, fs, oc, its, nn, eb2 a o hne g1, g2, g3, g4, g5, eb2 cs oc hcs g6, g7, r⟩
        refine subloop_ok N hcs hlen f mf.handed (n + 1) (mf.handed == mf.start) (ps1 ++ [(toStr rep, u)]) (acc ++ (if st < mf.start then [(l.take mf.start).drop st] else []) ++ [rep]) { s with heap := h2, toks := tk1 } o3 (by grind) (by rw [hpc] at hout; simpa using hout) (by rw [List.map_append, e1]; simp) (by simp; grind) pat2 pl2' hne fun h3 tk3 t3 eb3 => ?_
        have := hR h3 tk3 t3 (fun b o hb e => eb3 b o hb (eb2 b o hb e))
        rw [hpc] at this
        simpa using this
      by_cases hlt : st < mf.start
      · show wpAny _ _ (ite (st < mf.start) _ _) _ _ _
        rw [if_pos hlt]
        refine wpAny_bind (m := Builtin.Re.reSlice _ _ _ _) ?_
        refine wpAny_mkStr ?_ (by show (l.toArray.extract st mf.start).size ≤ _; rw [sizeLine_eq, Array.size_extract]; exact Nat.le_trans (Nat.sub_le _ _) (Nat.le_trans (Nat.min_le_right _ _) (Nat.le_trans hlen (by decide))))
        refine wpAny_bind (push_ok (s := { s with toks := s.toks + 1 }) pl (by simp [strValues]; grind) fun h2 pl2 sb2 => ?_)
        refine K (ps ++ [(toStr ((l.take mf.start).drop st), s.toks)]) h2 (s.toks + 1) (by rw [if_pos hlt, List.map_append, hps]; simp) (by simp; grind) ?_ sb2.extBut
        have e : (⟨l.toArray.extract st mf.start⟩ : Str) = toStr ((l.take mf.start).drop st) := by show (⟨_⟩ : Str) = ⟨_⟩; rw [slice_ex]
        have pl2 : h2.PlainList D ((strValues ps).toArray.push (.str ⟨l.toArray.extract st mf.start⟩ s.toks)) := pl2
        rw [e] at pl2
        simpa [strValues] using pl2
      · show wpAny _ _ (ite (st < mf.start) _ _) _ _ _
        rw [if_neg hlt]
        exact K ps s.heap s.toks (by rw [if_neg hlt]; simpa using hps) (by grind) pl fun _ _ _ e => e
    · have hpc : piecesOf next rep l (f + 1) st = if st < l.length then [l.drop st] else [] := by
        show (match next st with | some (p, e) => _ | none => _) = _
        rw [hn]
      have K : ∀ (ps1 : List (Str × Tok)) (h1 : Heap) (tk1 : Tok), ps1.map (·.1) = (acc ++ (if st < l.length then [l.drop st] else [])).map toStr → ps1.length ≤ 2 * st + 1 → h1.PlainList D (strValues ps1).toArray → Heap.ExtBut D s.heap h1 →
          wpAny (model prog w) (A.under (.builtin "re.Pattern.sub.loop" ⟨[.ref a, .str (toStr l) t, .str (toStr rep) u, rawInt 0, rawInt 0, rawInt n, rawInt st, rawInt st, .bool must, .ref D, .bool false], []⟩)) (do
            let joiner ← Builtin.Re.reSlice l.toArray 0 0 0
            let text ← if ((← seqItems? (.ref D)).getD #[]).isEmpty then pure joiner else call (.builtin "str.join") [joiner, .ref D]
            if false = true then ret (← holding [text] do newTuple [text, ← mkInt n]) else ret text)
          (fun fin s' => match fin with | .done f => R (.ok f) s' | .again c' => c'.quiet = true ∧ codeAny (model prog w) A c' R s') (fun e s' => R (.error e) s') { s with heap := h1, toks := tk1 } := by
        intro ps1 h1 tk1 e1 hl1 pl1 eb1
        rw [hpc] at hout hR
        have fin : ∀ k t', (fun fin s' => match fin with | PySem.Fin.done f => R (.ok f) s' | .again c' => c'.quiet = true ∧ codeAny (model prog w) A c' R s') (.done (.ret (.str (toStr (acc ++ (if st < l.length then [l.drop st] else [])).flatten) t'))) { s with heap := h1, toks := k } := fun k t' => hR h1 k t' eb1
        refine wpAny_bind (m := Builtin.Re.reSlice _ _ _ _) (wpAny_mkStr ?_ (by show (l.toArray.extract 0 0).size ≤ _; rw [sizeLine_eq]; simp))
        have ej : (⟨l.toArray.extract 0 0⟩ : Str) = toStr [] := by show (⟨_⟩ : Str) = ⟨_⟩; rw [slice_ex]; simp
        rw [ej]
        refine Exists.elim (id pl1) fun nn hobj => ?_
        refine wpAny_bind ?_
        show wpAny _ _ (load D >>= _) _ _ _
        refine wpAny_bind (wpAny_load hobj (wpAny_pure ?_))
        cases ps1 with
        | nil =>
          have e2 : (acc ++ (if st < l.length then [l.drop st] else [])) = [] := by simpa using e1.symm
          rw [e2] at fin
          exact wpAny_pure (fin _ _)
        | cons p1 ps2 =>
          show wpAny _ _ (do let text ← call (.builtin "str.join") [.str (toStr []) tk1, .ref D]; ret text) _ _ _
          refine wpAny_bind (PySem.SC.join (l := p1 :: ps2) pl1.isList e1 ?_ fun t' k => wpAny_pure ?_)
          · exact joinOk_empty hout
          · rw [join_empty]
            exact fin k t'
      by_cases hlt : st < l.length
      · show wpAny _ _ (ite (st < l.toArray.size) _ _) _ _ _
        rw [if_pos (by simpa using hlt)]
        refine wpAny_bind (m := Builtin.Re.reSlice _ _ _ _) ?_
        refine wpAny_mkStr ?_ (by show (l.toArray.extract st l.toArray.size).size ≤ _; rw [sizeLine_eq]; simp; grind)
        refine wpAny_bind (push_ok (s := { s with toks := s.toks + 1 }) pl (by simp [strValues]; grind) fun h2 pl2 sb2 => ?_)
        refine K (ps ++ [(toStr (l.drop st), s.toks)]) h2 (s.toks + 1) (by rw [if_pos hlt, List.map_append, hps]; simp) (by simp; grind) ?_ sb2.extBut
        have e : (⟨l.toArray.extract st l.toArray.size⟩ : Str) = toStr (l.drop st) := by show (⟨_⟩ : Str) = ⟨_⟩; rw [slice_ex]; simp
        have pl2 : h2.PlainList D ((strValues ps).toArray.push (.str ⟨l.toArray.extract st l.toArray.size⟩ s.toks)) := pl2
        rw [e] at pl2
        simpa [strValues] using pl2
      · show wpAny _ _ (ite (st < l.toArray.size) _ _) _ _ _
        rw [if_neg (by simpa using hlt)]
        exact K ps s.heap s.toks (by rw [if_neg hlt]; simpa using hps) (by grind) pl fun _ _ _ e => e

theorem str_nocall : typeLookup (.type "str") (Str.ofString "__call__") = pure none := by rw [typeLookup_type, builtinLookup_eq_fast]; kernel_rfl
theorem sub_ok {code : Array Nat} {l rep : List Nat} {next : Nat → Option (Nat × Nat)} (N : NextOK code l next) {a cs : Addr} {t u : Tok} (hlen : l.length ≤ 100000) (hrep : rep.contains 92 = false) (hout : (piecesOf next rep l (l.length + 1) 0).flatten.length ≤ 1000000)
    (pat : PatAt s.heap a cs code) {Q : Value → Shared → Prop}
    (hQ : ∀ h' tk t', (∀ b o, s.heap.get? b = some o → h'.get? b = some o) → Q (.str (toStr (piecesOf next rep l (l.length + 1) 0).flatten) t') { s with heap := h', toks := tk }) :
    wpAny (model prog w) A (call (.builtin "re.Pattern.sub") [.ref a, .str (toStr rep) u, .str (toStr l) t]) Q E s := by
  have hT : s.TypeIs (.ref a) "re.Pattern" := by
    obtain ⟨o, fs, oc, its, n, h1, h2, _⟩ := pat; exact ⟨o, h1, h2⟩
  refine wpAny_call (codeAny_call_builtin slot_sub.plain entry_sub (slot_sub.check _ _ _ _ _ _ _ _ hT (args_sub _ _ _) ?_))
  have hnamed : Builtin.Re.reNamed "re.Pattern.sub" "sub" ["repl", "string", "count"] 2 [.str (toStr rep) u, .str (toStr l) t] [] = pure [some (.str (toStr rep) u), some (.str (toStr l) t), none] := by
    unfold Builtin.Re.reNamed
    rfl
  show wpAny _ _ (Builtin.Re.reNamed "re.Pattern.sub" "sub" ["repl", "string", "count"] 2 [.str (toStr rep) u, .str (toStr l) t] [] >>= _) _ _ _
  rw [hnamed]
  refine wpAny_bind (wpAny_pure ?_)
  have hcps : (toStr rep).cps.contains 92 = false := by
    show rep.toArray.contains 92 = false
    simpa using hrep
  refine wpAny_bind (wpAny_pure ?_)
  refine wpAny_bind (m := specialOf _ _) (wpAny_specialOf (T := "str") (typeIs_str _ _ _) str_nocall ?_)
  refine wpAny_bind (m := asStr? _) (wpAny_pure ?_)
  refine wpAny_bind (wpAny_pure ?_)
  show wpAny _ _ (ite ((!(toStr rep).cps.contains 92) = true) _ _) _ _ _
  rw [hcps]
  refine wpAny_bind (wpAny_pure ?_)
  refine wpAny_bind (m := holding _ _) (wpAny_holding (target_ok pat ?_))
  refine wpAny_bind (m := newList []) (wpAny_newObj_type ?_)
  refine wpAny_pure ⟨Code.quiet_builtin _ (by decide +kernel), ?_⟩
  have hk : ∀ b o, s.heap.get? b = some o → (s.heap.push { cls := .type "list", dict := none, data := .seq ([] : List Value).toArray }).get? b = some o := fun b o e => Heap.get?_push_of_some _ e
  have hcs : cs ≠ s.heap.objs.size := by
    obtain ⟨o, fs, oc, its, n, h1, h2, h3, h4, h5, h6, r⟩ := pat; exact Nat.ne_of_lt (Heap.lt_size h6)
  have hne : a ≠ s.heap.objs.size := by
    obtain ⟨o, fs, oc, its, n, h1, _⟩ := pat; exact Nat.ne_of_lt (Heap.lt_size h1)
  refine subloop_ok (s := { s with heap := s.heap.push { cls := .type "list", dict := none, data := .seq ([] : List Value).toArray } }) N hcs hlen (l.length + 1) 0 0 false [] [] (Nat.zero_le _) (by grind) (by simpa using hout) rfl (by simp) (pat.keeps hk) ⟨_, Heap.get?_push_size _ rfl⟩ hne fun h' tk t' eb => ?_
  exact hQ h' tk t' fun b o e => eb b o (Nat.ne_of_lt (Heap.lt_size e)) (hk b o e)
end
end Mine

-- NG
set_option maxRecDepth 10000
namespace Mine
set_option tactic.hygienic false
open Builtin.Str (occurrences partsBetween strKind)

noncomputable def splitP (l y : List Nat) : List (List Nat) := (Txt.split (toStr l) (toStr y)).map fun x => x.cps.toList
noncomputable def splitOKB (l y : List Nat) : Bool := l.length ≤ 100000 && !y.isEmpty && (partsBetween (toStr l) (occurrences (toStr l) (toStr y) 0 (toStr l).length ((toStr l).length + 1)) (toStr y).length).length ≤ 100000

theorem asc_of {x : Str} (h : Asc x.cps.toList) (t : Tok) {O : List Addr} {hh : Heap} : Rep O hh (.str x t) (.str x.cps.toList) := by
  have e : x = toStr x.cps.toList := by simp [toStr]
  conv => arg 3; rw [e]
  exact .str _ _ h
theorem reps_strs {O : List Addr} {hh : Heap} : ∀ (l : List (Str × Tok)), (∀ p ∈ l, Asc p.1.cps.toList) → Reps O hh (strValues l) (l.map fun p => V.str p.1.cps.toList)
  | [], _ => .nil
  | (x, t) :: r, h => .cons (asc_of (h _ List.mem_cons_self) t) (reps_strs r fun p hp => h p (List.mem_cons_of_mem _ hp))

theorem asc_parts {l : List Nat} (h : Asc l) {cuts : List Nat} {n : Nat} : ∀ p ∈ partsBetween (toStr l) cuts n, Asc p.cps.toList := by
  intro p hp
  unfold partsBetween at hp
  obtain ⟨⟨i, j⟩, _, rfl⟩ := List.mem_map.mp hp
  intro c hc
  have : c ∈ (l.toArray.extract i j).toList := hc
  simp at this
  exact h c (List.mem_of_mem_drop (List.mem_of_mem_take this))

section
variable {Z : Par} {prog : Program} {w : World} {A : Around} {E : Value → Shared → Prop} {s : Shared} {O : List Addr}
theorem split_call {l y : List Nat} {t u : Tok} {Q : Value → Shared → Prop} (hl : Asc l) (hok : splitOKB l y = true) (g : Gd Z s.heap) (hO : OIn O s.heap)
    (hQ : ∀ h' tk v, New Z O s.heap h' v (.lst ((splitP l y).map V.str)) → Q v { s with heap := h', toks := tk }) : wpAny (model prog w) A (call (.builtin "str.split") [.str (toStr l) t, .str (toStr y) u]) Q E s := by
  unfold splitOKB at hok
  simp only [Bool.and_eq_true, decide_eq_true_eq, Bool.not_eq_true'] at hok
  obtain ⟨⟨h1', h2'⟩, h3'⟩ := hok
  have hlen : (toStr l).length = l.length := by simp [Str.length]
  have hy : ((toStr y).length == 0) = false := by
    cases y with
    | nil => exact Bool.noConfusion h2'
    | cons => rfl
  have one : ∀ (ps : List (Str × Tok)) (n : Nat) (tk : Nat), ps.map (·.1) = Txt.split (toStr l) (toStr y) → (∀ p ∈ ps, Asc p.1.cps.toList) → Q (.ref s.heap.objs.size) { s with heap := s.heap.push { cls := .type "list", data := .seq (strValues ps).toArray n }, toks := tk } := by
    intro ps n tk e ha
    refine hQ _ tk _ ?_
    have : (splitP l y).map V.str = ps.map fun p => V.str p.1.cps.toList := by
      unfold splitP
      rw [← e, List.map_map, List.map_map]; rfl
    rw [this]
    exact .push g hO (reps_strs ps ha)
  have self : ∀ p ∈ [((toStr l), t)], Asc p.1.cps.toList := fun p hp => by rw [List.mem_singleton.mp hp]; exact hl
  cases h1 : (decide ((toStr l).length < (toStr y).length) || decide (strKind (toStr l) < strKind (toStr y)))
  · cases hf : (occurrences (toStr l) (toStr y) 0 (toStr l).length ((toStr l).length + 1)).isEmpty
    · refine call_meets PySem.F.slot_str_split (typeIs_str _ _ _) PySem.F.entry_str_split (PySem.F.args_str_split_2 _ _) (meets_str_split_sep (toStr l) (toStr y) t u h1 hy hf (by rw [sizeLine_eq, hlen]; omega) (by rw [sizeLine_eq]; omega)) ?_
      show wants Q E _ { s with toks := _, heap := s.heap.push { cls := .type "list", data := .seq (strsFrom s.toks (partsBetween (toStr l) (occurrences (toStr l) (toStr y) 0 (toStr l).length ((toStr l).length + 1)) (toStr y).length)).toArray } }
      rw [strsFrom_eq]
      refine one (numbered s.toks _) _ _ ((numbered_texts _ _).trans ((if_neg (ne_true_of_eq_false h1)).trans (if_neg (ne_true_of_eq_false hf))).symm) fun p hp => ?_
      have : p.1 ∈ (numbered s.toks (partsBetween (toStr l) (occurrences (toStr l) (toStr y) 0 (toStr l).length ((toStr l).length + 1)) (toStr y).length)).map (·.1) := List.mem_map.mpr ⟨p, hp, rfl⟩
      rw [numbered_texts] at this
      exact asc_parts hl _ this
    · exact call_meets PySem.F.slot_str_split (typeIs_str _ _ _) PySem.F.entry_str_split (PySem.F.args_str_split_2 _ _) (meets_str_split_not_found (toStr l) (toStr y) t u h1 hy hf)
        (one [(toStr l, t)] _ s.toks ((if_neg (ne_true_of_eq_false h1)).trans (if_pos hf)).symm self)
  · exact call_meets PySem.F.slot_str_split (typeIs_str _ _ _) PySem.F.entry_str_split (PySem.F.args_str_split_2 _ _) (meets_str_split_cannot_occur (toStr l) (toStr y) t u h1)
      (one [(toStr l, t)] _ s.toks (if_pos h1).symm self)
end
end Mine

-- NH
set_option maxRecDepth 10000
namespace Mine
set_option tactic.hygienic false

noncomputable def next1 (l : List Nat) (s : Nat) : Option (Nat × Nat) := (nextDot l.toArray (l.length - s) s).map fun p => (p, p + 1)
noncomputable def next2 (l : List Nat) (s : Nat) : Option (Nat × Nat) := (nextNl l.toArray (l.length - s) s).map fun p => (p, nlEnd l.toArray l.length p)
theorem nextDot_is {text : Array Nat} : ∀ {n s p : Nat}, nextDot text n s = some p → s ≤ p ∧ p < s + n
  | 0, _, _, h => by cases h
  | n + 1, s, p, h => by
    unfold nextDot at h
    split at h
    · obtain rfl := Option.some.inj h; exact ⟨Nat.le_refl _, by grind⟩
    · obtain ⟨h1, h2⟩ := nextDot_is h
      exact ⟨by grind, by grind⟩
theorem next1_ok (l : List Nat) (hl : l.length ≤ 100000) : NextOK code1 l (next1 l) where
  find := fun pos must hp => by
    obtain ⟨t, mf, e, ht, r⟩ := find1 (text := l.toArray) (pos := pos) (must := must) (by simpa using hp)
    refine ⟨t, mf, e, ?_, ?_⟩
    · have h2 : t ≤ 300006 := by simp at ht; grind
      exact Nat.le_trans h2 (by decide)
    · unfold next1
      have : l.toArray.size = l.length := by simp
      rw [this] at r
      cases h : nextDot l.toArray (l.length - pos) pos with
      | none => rw [h] at r; exact r
      | some p => rw [h] at r; exact r
  ok := fun s p e h => by
    unfold next1 at h
    obtain ⟨q, hq, e'⟩ := Option.map_eq_some_iff.mp h
    cases e'
    obtain ⟨h1, h2⟩ := nextDot_is hq
    exact ⟨h1, by grind, by grind⟩
theorem next2_ok (l : List Nat) : NextOK code2 l (next2 l) where
  find := fun pos must hp => by
    obtain ⟨t, mf, e, ht, r⟩ := find2 (text := l.toArray) (pos := pos) (must := must) (by simpa using hp)
    refine ⟨t, mf, e, Nat.le_trans ht (by decide), ?_⟩
    unfold next2
    have : l.toArray.size = l.length := by simp
    rw [this] at r
    cases h : nextNl l.toArray (l.length - pos) pos with
    | none => rw [h] at r; exact r
    | some p => rw [h] at r; exact r
  ok := fun s p e h => by
    unfold next2 at h
    obtain ⟨q, hq, e'⟩ := Option.map_eq_some_iff.mp h
    cases e'
    obtain ⟨h1, h2, h3⟩ := nextNl_is hq
    unfold nlEnd
    split
    · exact ⟨h1, by grind, by grind⟩
    · exact ⟨h1, by grind, by grind⟩

noncomputable def patOf (t : Str) : Option Bool := if t == ("_twin_re_1" : Str) then some true else if t == ("_twin_re_2" : Str) then some false else none
noncomputable def nextOf (b : Bool) (l : List Nat) : Nat → Option (Nat × Nat) := if b then next1 l else next2 l
noncomputable def codeOf (b : Bool) : Array Nat := if b then code1 else code2
noncomputable def subAll (b : Bool) (rep l : List Nat) : List Nat := (piecesOf (nextOf b l) rep l (l.length + 1) 0).flatten
noncomputable def subOKB (b : Bool) (rep l : List Nat) : Bool := l.length ≤ 100000 && !rep.contains 92 && (subAll b rep l).length ≤ 1000000
theorem asc_pieces {next : Nat → Option (Nat × Nat)} {rep l : List Nat} (hr : Asc rep) (hl : Asc l) : ∀ f s, ∀ x ∈ piecesOf next rep l f s, Asc x
  | 0, _, x, h => by cases h
  | f + 1, s, x, h => by
    unfold piecesOf at h
    split at h
    · rcases List.mem_append.mp h with h | h
      · split at h
        · rw [List.mem_singleton.mp h]; exact fun c hc => hl c (List.mem_of_mem_take (List.mem_of_mem_drop hc))
        · cases h
      · rcases List.mem_cons.mp h with h | h
        · rw [h]; exact hr
        · exact asc_pieces hr hl f _ x h
    · split at h
      · rw [List.mem_singleton.mp h]; exact fun c hc => hl c (List.mem_of_mem_drop hc)
      · cases h
theorem asc_subAll {b : Bool} {rep l : List Nat} (hr : Asc rep) (hl : Asc l) : Asc (subAll b rep l) := fun c hc => by
  obtain ⟨x, hx, hc⟩ := List.mem_flatten.mp hc
  exact asc_pieces hr hl _ _ x hx c hc

noncomputable abbrev Hk := Evl → Bool → Nm → List Str → Rho → Option V
noncomputable def subH (b : Bool) (t : Str) (x y : Expr) : Hk := fun T pk sc own ρ => if isGl sc t then (match T true sc own ρ x, T true sc own ρ y with
  | some (.str rep), some (.str l) => if subOKB b rep l then some (.str (subAll b rep l)) else none
  | _, _ => none) else none
noncomputable def splitH (o x : Expr) : Hk := fun T pk sc own ρ => match T true sc own ρ o, T true sc own ρ x with
  | some (.str l), some (.str y) => if splitOKB l y then some (.lst ((splitP l y).map V.str)) else none
  | _, _ => none

section
variable {Z : Par} {prog : Program} {w : World} {k : Nat} {T : Evl}

noncomputable def PatG (Z : Par) (t : Str) (b : Bool) : Prop := ∃ a cs, Gl Z t (.ref a) ∧ PatAt Z.H0 a cs (codeOf b)

theorem nextOf_ok (b : Bool) (l : List Nat) (hl : l.length ≤ 100000) : NextOK (codeOf b) l (nextOf b l) := by
  cases b
  · exact next2_ok l
  · exact next1_ok l hl

set_option tactic.hygienic true in
theorem subH_ok (hT : EvS Z prog w k T) (hst : NoStar T) {b : Bool} {t : Str} {p apos pos : Pos} {x y : Expr} (hp : PatG Z t b) (hline : (apos.endLine == pos.line) = true) : EvE Z prog w k (.Call (.Attribute (.Name t p) ("sub" : Str) apos) [x, y] [] pos) (subH b t x y T) := by
  intro pk sc own ρ d h A env W O s Q E hA g ok hQ
  unfold subH at h
  split at h
  · rename_i hg
    split at h
    · rename_i rep l h1 h2
      split at h
      · rename_i hok
        obtain rfl := Option.some.inj h
        unfold subOKB at hok
        simp only [Bool.and_eq_true, decide_eq_true_eq, Bool.not_eq_true'] at hok
        obtain ⟨⟨k1, k2⟩, k3⟩ := hok
        obtain ⟨a, cs, hgl, pat⟩ := hp
        refine Call_method2 rfl (by rw [star1 hst h1 [y] env, star1 hst h2 [] env]; rfl) hline ?_
        refine name_glob g ok (isGl_some hg) hgl ?_
        obtain ⟨o, fs, oc, its, n, g1, g2, g3, gr⟩ := id pat
        refine ⟨"re.Pattern", "re.Pattern.sub", plainAttrs_pat, slot_sub, type_sub, ⟨o, g.base _ _ g1, g2⟩, fun b q => by cases q; exact ⟨o, g.base _ _ g1, g3⟩, ?_⟩
        refine callWith_builtin rfl (evalArgs_of rfl ?_)
        refine wpAny_bind (m := eval x env) ?_
        refine hT _ _ _ _ _ _ h1 A env W O s _ E hA g ok fun h₁ tk₁ vx qx => ?_
        refine wpAny_bind (wpAny_pure (wpAny_bind (wpAny_holding ?_)))
        refine wpAny_bind (m := eval y env) ?_
        have g1' := qx.ext.gd g
        refine hT _ _ _ _ _ _ h2 A env W O { s with heap := h₁, toks := tk₁ } _ E hA g1' (ok.ext qx.ext) fun h₂ tk₂ vy qy => ?_
        refine wpAny_bind (wpAny_pure (wpAny_bind (wpAny_holding (wpAny_pure (wpAny_pure ?_)))))
        refine wpAny_pure ?_
        obtain ⟨a1, u, rfl⟩ := qx.top.str
        obtain ⟨a2, u2, rfl⟩ := qy.top.str
        have x12 := qx.ext.trans qy.ext
        show wpAny (model prog w) A (call (.builtin "re.Pattern.sub") [.ref a, .str (toStr rep) u, .str (toStr l) u2]) Q E { s with heap := h₂, toks := tk₂ }
        refine sub_ok (nextOf_ok b l k1) k1 k2 k3 (pat.keeps (x12.gd g).base) fun h3 tk3 t3 hk => ?_
        have x3 : Ext Z h₂ h3 := .ofKeep (x12.gd g) hk
        have r : Rep O h3 (.str (toStr (subAll b rep l)) t3) (.str (subAll b rep l)) := .str _ _ (asc_subAll a1 a2)
        exact hQ h3 tk3 _ ⟨x12.trans x3, r.top, fun _ => r, fun q => by exact Bool.noConfusion q⟩
      · cases h
    · cases h
  · cases h

set_option tactic.hygienic true in
theorem splitH_ok (hT : EvS Z prog w k T) (hst : NoStar T) {apos pos : Pos} {o x : Expr} (hbase : ∀ env, attributeBase o ("split" : Str) env (eval o env) = eval o env) (hline : (apos.endLine == pos.line) = true) : EvE Z prog w k (.Call (.Attribute o ("split" : Str) apos) [x] [] pos) (splitH o x T) := by
  intro pk sc own ρ d h A env W O s Q E hA g ok hQ
  unfold splitH at h
  split at h
  · rename_i l y h1 h2
    split at h
    · rename_i hok
      obtain rfl := Option.some.inj h
      refine Call_method1 (hbase env) (star1 hst h2 [] env) hline ?_
      refine hT _ _ _ _ _ _ h1 A env W O s _ E hA g ok fun h₁ tk₁ vo qo => ?_
      obtain ⟨a1, u, rfl⟩ := qo.top.str
      refine ⟨"str", "str.split", PySem.F.plainAttrs_str, PySem.F.slot_str_split, PySem.F.type_str_split, typeIs_str _ _ _, fun b q => (nomatch q), ?_⟩
      refine callWith_builtin rfl (evalArgs_of rfl ?_)
      refine wpAny_bind (m := eval x env) ?_
      have g1' := qo.ext.gd g
      refine hT _ _ _ _ _ _ h2 A env W O { s with heap := h₁, toks := tk₁ } _ E hA g1' (ok.ext qo.ext) fun h₂ tk₂ vx qx => ?_
      refine wpAny_bind (wpAny_pure (wpAny_bind (wpAny_holding (wpAny_pure (wpAny_pure ?_)))))
      obtain ⟨a2, u2, rfl⟩ := qx.top.str
      have x12 := qo.ext.trans qx.ext
      show wpAny (model prog w) A (call (.builtin "str.split") [.str (toStr l) u, .str (toStr y) u2]) Q E { s with heap := h₂, toks := tk₂ }
      exact split_call (s := { s with heap := h₂, toks := tk₂ }) a1 hok (x12.gd g) (ok.ext x12).oin fun h3 tk3 v n => hQ h3 tk3 v (.later x12 (.ofNew n))
    · cases h
  · cases h
end
end Mine

-- NI
set_option maxRecDepth 10000
namespace Mine
set_option tactic.hygienic false

noncomputable def enumL (sc : Nm) (xi xv : Str) (K : SS → Res) : Nat → List V → SS → Res
  | _, [], st => some (st, none)
  | i, d :: r, st => match storeAll sc [xi, xv] [.int i, d] st with
    | some st1 => (match K st1 with
      | some (st', none) => enumL sc xi xv K (i + 1) r st'
      | o => o)
    | none => none
noncomputable def enumH (T : Evl) (sc : Nm) (xi xv : Str) (e : Expr) (body : List Stmt) : Blk → SS → Res := fun K st =>
  if isGl sc ("enumerate" : Str) then (match T false sc st.own st.ρ e with
    | some (.lst ds) => enumL sc xi xv (K body) 0 ds st
    | _ => none) else none

section
variable {Z : Par} {prog : Program} {w : World} {k : Nat} {g : Heap} {env : Env} {sc : Nm} {O₀ : List Addr} {T : Evl}

theorem enum_fields {h : Heap} {e it : Addr} {i : Int} {old : Value} (x : IsEnum h e it i old) : ∃ o fs, h.get? e = some o ∧ o.data = .fields fs ∧ ∀ q t, fs[1]? ≠ some (.str q t) := ⟨_, _, x, rfl, fun q t h => by cases h⟩
theorem iter_fields {h : Heap} {it l : Addr} {i : Nat} (x : h.IsListIter it l i) : ∃ o fs, h.get? it = some o ∧ o.data = .fields fs ∧ ∀ q t, fs[1]? ≠ some (.str q t) := by
  obtain ⟨o, e, _, d⟩ := x; exact ⟨o, _, e, d, fun q t h => by cases h⟩
theorem enumOut_fields {h : Heap} {e it a : Addr} {i : Int} {old : Value} (x : IsEnumOut h e it i old a) : ∃ o fs, h.get? e = some o ∧ o.data = .fields fs ∧ ∀ q t, fs[1]? ≠ some (.str q t) := ⟨_, _, x, rfl, fun q t h => by cases h⟩
end
end Mine

-- NJ
set_option maxRecDepth 10000
namespace Mine
set_option tactic.hygienic false

section
variable {Z : Par} {prog : Program} {w : World} {k : Nat} {g : Heap} {env : Env} {sc : Nm} {O₀ : List Addr} {T : Evl}

theorem rep_lst {O : List Addr} {h : Heap} {v : Value} {ds : List V} (r : Rep O h v (.lst ds)) : ∃ a vs, v = .ref a ∧ a ∉ O ∧ h.IsList a vs.toArray ∧ Reps O h vs ds := by
  cases r with
  | lst hn hl rr => exact ⟨_, _, rfl, hn, hl.isList, rr⟩
noncomputable def EnSt (ea ia l : Addr) (ws : Array Value) (j : Nat) (h : Heap) : Prop := (∃ old, IsEnum h ea ia j old) ∧ h.IsListIter ia l j ∧ h.IsList l ws
theorem turns2 {O' : List Addr} {om' : Om} {ρ : Rho} {h' h2 : Heap} {ea ia : Addr} (ok' : StOK Z g env sc O₀ O' om' ρ h') (hgE : g.get? ea = none) (hgI : g.get? ia = none) (hEO : ea ∉ O') (hIO : ia ∉ O')
    (fE : ∃ o fs, h'.get? ea = some o ∧ o.data = .fields fs ∧ ∀ q t, fs[1]? ≠ some (.str q t)) (fI : ∃ o fs, h'.get? ia = some o ∧ o.data = .fields fs ∧ ∀ q t, fs[1]? ≠ some (.str q t))
    (hk : ∀ b o, b ∉ [ea, ia] → h'.get? b = some o → h2.get? b = some o) : StOK Z g env sc O₀ O' om' ρ h2 := ok'.turns hk fun b hb => by
  rcases List.mem_cons.mp hb with q | hb
  · rw [q]; exact ⟨hgE, hEO, fE⟩
  · rw [List.mem_singleton.mp hb]; exact ⟨hgI, hIO, fI⟩
theorem stp2 {om om' : Om} {h₁ h' h2 : Heap} {ea ia : Addr} (sp : Stp Z env sc om om' h₁ h') (hne : h₁.get? ea = none) (hni : h₁.get? ia = none) (hk : ∀ b o, b ∉ [ea, ia] → h'.get? b = some o → h2.get? b = some o) : Stp Z env sc om om' h₁ h2 := by
  have no : ∀ b, (h₁.get? b).isSome = true → b ∉ [ea, ia] := fun b e hb => by
    rcases List.mem_cons.mp hb with q | hb
    · rw [q, hne] at e; cases e
    · rw [List.mem_singleton.mp hb, hni] at e; cases e
  refine ⟨fun b o e hP hm => hk b o (no b (by rw [e]; rfl)) (sp.keep b o e hP hm), sp.new, fun b e => ?_⟩
  obtain ⟨o, e'⟩ := Option.isSome_iff_exists.mp (sp.more b e)
  rw [hk b o (no b e) e']; rfl
theorem enum_stay {ea ia l : Addr} {ws : Array Value} (fr : ∀ (j : Nat) (h h' : Heap), EnSt ea ia l ws j h → (∀ b ∈ [ea, ia, l], ∀ o, h.get? b = some o → h'.get? b = some o) → EnSt ea ia l ws j h') (hEP : ea ≠ Z.P) (hIP : ia ≠ Z.P) (hlP : l ≠ Z.P)
    {om2 om3 : Om} {ρ2 : Rho} {O2 : List Addr} {h3 h4 : Heap} {j : Nat} (okk : StOK Z g env sc O₀ O2 om2 ρ2 h3) (n1 : ea ∉ O2) (n2 : ia ∉ O2) (n3 : l ∉ om2.map (·.2)) (st : EnSt ea ia l ws j h3) (sp : Stp Z env sc om2 om3 h3 h4) : EnSt ea ia l ws j h4 ∧ l ∉ om3.map (·.2) := by
  have nm : ∀ {b}, b ∉ O2 → b ∉ om2.map (·.2) := fun n hm => by obtain ⟨p, hp, q⟩ := List.mem_map.mp hm; exact n (q ▸ (okk.omO p hp).1)
  have kp : ∀ {b o o'}, h3.get? b = some o → h3.get? b = some o' → ((∃ vs n, o'.data = .seq vs n) ∨ ∃ fs, o'.data = .fields fs) → b ≠ Z.P → b ∉ om2.map (·.2) → h4.get? b = some o := fun e e' c hP n => by
    rw [e] at e'
    cases Option.some.inj e'
    exact sp.keep _ _ e hP (notMutOf okk e c n)
  obtain ⟨oe, fe, ee, de, _⟩ := enum_fields st.1.choose_spec
  obtain ⟨oi, fi, ei, di, _⟩ := iter_fields st.2.1
  obtain ⟨ol, el, cl, nl, dl⟩ := st.2.2
  refine ⟨fr j _ _ st fun b hb o e => ?_, fun hm => (sp.new l hm).elim n3 fun q => by rw [el] at q; cases q⟩
  rcases List.mem_cons.mp hb with q | hb
  · rw [q] at e ⊢; exact kp e ee (.inr ⟨_, de⟩) hEP (nm n1)
  · rcases List.mem_cons.mp hb with q | hb
    · rw [q] at e ⊢; exact kp e ei (.inr ⟨_, di⟩) hIP (nm n2)
    · rw [List.mem_singleton.mp hb] at e ⊢; exact kp e el (.inl ⟨_, _, dl⟩) hlP n3
set_option tactic.hygienic true in
theorem enum_ok (hT : TOK Z prog w k T) (gd : Gd Z g) (hen : Gl Z "enumerate" (.type "enumerate")) {K : Blk} (hK : BlkS Z prog w k g env sc O₀ K) {xi xv : Str} {pi pv pt p pos' pos : Pos} {x1 : Nat} {e : Expr} {body : List Stmt} :
    StmS Z prog w k g env sc O₀ (fun _ st => enumH T sc xi xv e body K st) (.For (.Tuple [.Name xi pi, .Name xv pv] x1 pt) (.Call (.Name ("enumerate" : Str) p) [e] [] pos') body [] pos) := by
  intro st st' r h A O om s Q E hA ho ok hQ
  simp only [enumH] at h
  split at h
  · rename_i hg
    split at h
    · rename_i ds hds
      obtain ⟨own, ρ⟩ := st
      simp only at ho ok hds
      subst ho
      refine wpAny_For ?_ (fun v => rfl)
      show wpAny _ _ (do callWith pos' (← eval (.Name ("enumerate" : Str) p) env) [] (backTo pos' (starEach [e] env)) (backToKw pos' (keywordEach [] env))) _ _ _
      refine wpAny_bind (name_glob (ok.ext.gd gd) ok.toEnv (isGl_some hg) hen ?_)
      have hm : mapO (T false sc (om.map (·.1)) ρ) [e] = some [.lst ds] := by simp only [mapO, hds]
      refine PySem.callWith_type (back_plain hT.st hm) (evalArgs_of (back_plain hT.st hm) ?_)
      refine spl_ok hT.ev hT.st hm hA (ok.ext.gd gd) ok.toEnv fun h₁ tk₁ vs x1' _ rr => ?_
      have rr := rr rfl
      cases rr with | cons r1 r2 => ?_
      cases r2
      obtain ⟨l, ws, rfl, hlO, hlist, rws⟩ := rep_lst r1
      refine call_enumerate_list (s := { s with heap := h₁, toks := tk₁ }) hlist fun h₂ he hit hz hk2 => ?_
      have ok1 := ok.grown x1'
      have x2 : Ext Z h₁ h₂ := .ofKeep (ok1.ext.gd gd) hk2
      have ok2 := ok1.grown x2
      have hle : l ≠ h₁.objs.size + 1 := by obtain ⟨o, e, _⟩ := hlist; exact Nat.ne_of_lt (Nat.lt_succ_of_lt (Heap.lt_size e))
      have hli : l ≠ h₁.objs.size := by obtain ⟨o, e, _⟩ := hlist; exact Nat.ne_of_lt (Heap.lt_size e)
      have hei : h₁.objs.size + 1 ≠ h₁.objs.size := Nat.succ_ne_self _
      have W := WalksT.enumerate (prog := prog) (w := w) (A := A) hA.handled (h₁.objs.size + 1) h₁.objs.size l hei hle hli ws.toArray
      have hlen : ws.toArray.size = ds.length := by rw [List.size_toArray, rws.length]
      have hne : h₁.get? (h₁.objs.size + 1) = none := by
        cases q : h₁.get? (h₁.objs.size + 1) with
        | none => rfl
        | some o => exact absurd (Heap.lt_size q) (Nat.not_lt.mpr (Nat.le_succ _))
      have hni := get_size h₁
      generalize hE : h₁.objs.size + 1 = ea at *
      generalize hI : h₁.objs.size = ia at *
      refine W.self 0 _ _ _ ⟨⟨_, he⟩, hit, x2.isList hlist⟩ ?_
      have hgE : g.get? ea = none := ok1.ext.kNone hne
      have hgI : g.get? ia = none := ok1.ext.kNone hni
      have hlP : l ≠ Z.P := fun q => by obtain ⟨ps, e2, _⟩ := x1'.tab'; obtain ⟨o, e, _, n, d⟩ := hlist; rw [q, e2] at e; cases e; cases d
      have hEP : ea ≠ Z.P := fun q => by obtain ⟨ps, e2, _⟩ := x1'.tab'; rw [← q, hne] at e2; cases e2
      have hIP : ia ≠ Z.P := fun q => by obtain ⟨ps, e2, _⟩ := x1'.tab'; rw [← q, hni] at e2; cases e2
      have hPn : ∀ b o, h₁.get? b = some o → (∃ vs n, o.data = .seq vs n) → b ≠ Z.P := fun b o e c q => by
        obtain ⟨ps, e2, _⟩ := x1'.tab'; rw [q, e2] at e; cases e; obtain ⟨_, _, c⟩ := c; cases c
      have key : ∀ (rest : List V) (i : Nat) (ρ : Rho) (O' : List Addr) (om' : Om) (h' : Heap) (tk : Tok), enumL sc xi xv (K body) i rest ⟨om'.map (·.1), ρ⟩ = some (st', r) → ds.drop i = rest → i ≤ ds.length → EnSt ea ia l ws.toArray i h' → StOK Z g env sc O₀ O' om' ρ h' →
          Stp Z env sc om om' h₁ h' → SO O O' h₁ → ea ∉ O' → ia ∉ O' → l ∉ om'.map (·.2) →
          codeAny (model prog w) A (.forLoop (.Tuple [.Name xi pi, .Name xv pv] x1 pt) (.ref ea) body [] env) (fun r s' => match r with | .ok f => Q f s' | .error e => cameBackBy (model prog w) A env E e s') { s with heap := h', toks := tk } := by
        intro rest
        induction rest with
        | nil | cons d rest ih => ?_
        all_goals
          intro i ρ O' om' h' tk h hdr hi stI ok' sp so hEO hIO hlom
          refine codeAny_of_tree ?_
          show wpAny _ A ((forTurn (.Tuple [.Name xi pi, .Name xv pv] x1 pt) (.ref ea) body [] env).onRaise (fun x => do noteFrame x env; theTreesLotGoes x)) _ _ _
          refine wpAny_noted ?_
          delta forTurn; dsimp only
          have turn : ∀ h2, (∀ b o, b ∉ [ea, ia] → h'.get? b = some o → h2.get? b = some o) → StOK Z g env sc O₀ O' om' ρ h2 := fun h2 => turns2 ok' hgE hgI hEO hIO (enum_fields stI.1.choose_spec) (iter_fields stI.2.1)
        · have hi' : i = ds.length := Nat.le_antisymm hi (List.drop_eq_nil_iff.mp hdr)
          subst hi'
          have hQ := hQ.of h
          rw [← hlen] at stI
          refine wpAny_bind (wpAny_standAt (wpAny_bind (wpAny_onRaise (W.done { s with heap := h', toks := tk } _ _ stI fun h2 tk2 hk => wpAny_pure ⟨rfl, codeAny_block ?_⟩))))
          have ok2' := turn h2 hk
          exact wpAny_execs_nil (hQ h2 tk2 O' om' rfl ok2' (x1'.stp.trans (stp2 sp hne hni hk)) (SO.trans .same so (x1'.stp (om := om) (env := env) (sc := sc))))
        · have hi' : i < ds.length := Nat.lt_of_not_le fun q => by rw [List.drop_eq_nil_of_le q] at hdr; cases hdr
          have hdi : ds[i]? = some d := drop_hd hdr
          have hdt := drop_tl hdr
          refine wpAny_bind (wpAny_standAt (wpAny_bind (wpAny_onRaise (W.item i { s with heap := h', toks := tk } _ _ (by rw [hlen]; exact hi') stI fun Ta vals h2 tk2 hp hTz htup mid hk => ?_))))
          obtain ⟨t0, x0, hx0, rfl⟩ := hp
          have ok2' := turn h2 hk
          refine wpAny_bind (W.go [.Name xi pi, .Name xv pv] x1 pt i Ta { s with heap := h2, toks := tk2 } _ _ mid fun h3 st3 hk3 => ?_)
          have ok3 : StOK Z g env sc O₀ O' om' ρ h3 := turns2 ok2' hgE hgI hEO hIO (enumOut_fields mid.1.choose_spec) (iter_fields mid.2.1) hk3
          have hk13 : ∀ b o, b ∉ [ea, ia] → h'.get? b = some o → h3.get? b = some o := fun b o hb e => hk3 b o hb (hk b o hb e)
          have sp3 := stp2 sp hne hni hk13
          have htup3 : IsTup h3 Ta #[.int i t0, x0] := by
            obtain ⟨o, e, c, n, d⟩ := htup
            exact ⟨o, hk3 _ _ (W.apart i Ta h2 mid) e, c, n, d⟩
          have rx : Rep O h₁ x0 d := by
            have hx0' : ws[i]? = some x0 := by simpa using hx0
            obtain ⟨d', e', rr⟩ := rws.get' hx0'
            rw [hdi] at e'; obtain rfl := Option.some.inj e'; exact rr
          have rx3 : Rep O' h3 x0 d := rx.keep (fun a o e n hm => (so a hm).elim n fun q => by rw [e] at q; cases q) fun a o e n c => by
            refine sp3.keep a o e (hPn a o e c) (notMutOf ok1 e (.inl c) fun hm => ?_)
            obtain ⟨p, hp', q⟩ := List.mem_map.mp hm
            exact n (q ▸ (ok1.omO p hp').1)
          unfold enumL at h
          split at h
          · rename_i st1 hs1
            show wpAny _ _ (do assign (.Tuple [.Name xi pi, .Name xv pv] x1 pt) env (.ref Ta); _) _ _ _
            refine wpAny_bind ?_
            show wpAny _ _ (do standAt pt; unpack (.ref Ta) (assignEach [.Name xi pi, .Name xv pv] env)) _ _ _
            refine wpAny_bind (wpAny_standAt ?_)
            unfold unpack
            refine wpAny_bind (wpAny_holding (unpackItems_tuple (items := #[.int i t0, x0]) hA.handled htup3 fun h4 hk4 => ?_))
            have x4 : Ext Z h3 h4 := .ofKeep (ok3.ext.gd gd) fun b o e => hk4 b o (Nat.ne_of_lt (Heap.lt_size e)) e
            have ok4 := ok3.grown x4
            refine storeAll_ok (s := { s with heap := h4, toks := tk2 }) (xs := [xi, xv]) (ps := [pi, pv]) rfl hs1 ok4 (.cons (.int _ _) (.cons (x4.rep rx3) .nil)) fun h5 tk5 O5 om5 e5 ok5 sp5 so5 => ?_
            have sp35 := sp3.trans ((x4.stp (om := om') (env := env) (sc := sc)).trans sp5)
            have so35 : SO O O5 h₁ := so.trans (SO.trans .same so5 (x4.stp (om := om') (env := env) (sc := sc))) sp3
            have fr : ∀ (j : Nat) (h h' : Heap), EnSt ea ia l ws.toArray j h → (∀ b ∈ [ea, ia, l], ∀ o, h.get? b = some o → h'.get? b = some o) → EnSt ea ia l ws.toArray j h' := fun j _ _ => W.frame j _ _
            obtain ⟨st5, hl5⟩ := enum_stay fr hEP hIP hlP ok3 hEO hIO hlom st3 ((x4.stp (om := om') (env := env) (sc := sc)).trans sp5)
            have notin : ∀ {O2 O3 : List Addr} {h : Heap} {b : Addr}, SO O2 O3 h → (h.get? b).isSome = true → b ∉ O2 → b ∉ O3 := fun so hb n hm => (so _ hm).elim n fun q => by rw [q] at hb; exact Bool.noConfusion hb
            have eS : (h4.get? ea).isSome = true := x4.kSome (by obtain ⟨o, fs, e, _⟩ := enum_fields st3.1.choose_spec; rw [e]; rfl)
            have iS : (h4.get? ia).isSome = true := x4.kSome (by obtain ⟨o, fs, e, _⟩ := iter_fields st3.2.1; rw [e]; rfl)
            have hE5 : ea ∉ O5 := notin so5 eS hEO
            have hI5 : ia ∉ O5 := notin so5 iS hIO
            obtain ⟨own1, ρ1⟩ := st1
            simp only at e5 ok5 h
            subst e5
            split at h
            · rename_i st6 h6'
              refine wpAny_bind (hK body _ st6 none h6' A O5 om5 { s with heap := h5, toks := tk5 } _ _ hA rfl ok5 fun h6 tk6 O6 om6 e6 ok6 sp6 so6 => ?_)
              obtain ⟨st6', hl6⟩ := enum_stay fr hEP hIP hlP ok5 hE5 hI5 hl5 st5 sp6
              have eS5 : (h5.get? ea).isSome = true := by obtain ⟨o, fs, e, _⟩ := enum_fields st5.1.choose_spec; rw [e]; rfl
              have iS5 : (h5.get? ia).isSome = true := by obtain ⟨o, fs, e, _⟩ := iter_fields st5.2.1; rw [e]; rfl
              exact wpAny_pure ⟨rfl, ih (i + 1) st6.ρ O6 om6 h6 tk6 ((congrArg (enumL sc xi xv (K body) (i + 1) rest) (ss_eta e6)).symm.trans h) hdt hi' st6' ok6 (sp35.trans sp6) (so35.trans so6 sp35) (notin so6 eS5 hE5) (notin so6 iS5 hI5) hl6⟩
            · rename_i o hno
              refine wpAny_bind (hK body _ st' r h A O5 om5 { s with heap := h5, toks := tk5 } _ _ hA rfl ok5 fun h6 tk6 O6 om6 e6 ok6 sp6 so6 => ?_)
              cases r with
              | none => exact absurd h (hno st')
              | some d => exact fun v rv => wpAny_pure (hQ h6 tk6 O6 om6 e6 ok6 (x1'.stp.trans (sp35.trans sp6)) (SO.trans .same (so35.trans so6 sp35) (x1'.stp (om := om) (env := env) (sc := sc))) v rv)
          · cases h
      have hEO0 : ea ∉ O := fun hm => by have := ok1.oin ea hm; rw [hne] at this; exact Bool.noConfusion this
      have hIO0 : ia ∉ O := fun hm => by have := ok1.oin ia hm; rw [hni] at this; exact Bool.noConfusion this
      refine key ds 0 ρ O om h₂ tk₁ h rfl (Nat.zero_le _) ⟨⟨_, he⟩, hit, x2.isList hlist⟩ ok2 x2.stp (fun a ha => .inl ha) hEO0 hIO0 fun hm => ?_
      obtain ⟨p, hp, q⟩ := List.mem_map.mp hm
      exact hlO (q ▸ (ok1.omO p hp).1)
    · cases h
  · cases h
end
end Mine

-- NK
set_option maxRecDepth 10000
namespace Mine
set_option tactic.hygienic false

noncomputable def J (xs : Array Keyed) (i : Nat) : Int := match xs[i]? with
  | some p => numOf p.2
  | none => 0
theorem J_congr {xs ys : Array Keyed} {i j : Nat} (h : xs[i]? = ys[j]?) : J xs i = J ys j := by unfold J; rw [h]
theorem J_bubble {xs : Array Keyed} {src d : Nat} (hs : src < xs.size) (hd : d ≤ src) (k : Nat) :
    J (bubble xs src d) k = if k = src - d then J xs src else if src - d < k ∧ k ≤ src then J xs (k - 1) else J xs k := by
  have e := getElem?_bubble hs d hd k
  by_cases h1 : k = src - d
  · rw [if_pos h1] at e ⊢; exact J_congr e
  · rw [if_neg h1] at e ⊢
    by_cases h2 : src - d < k ∧ k ≤ src
    · rw [if_pos h2] at e ⊢; exact J_congr e
    · rw [if_neg h2] at e ⊢; exact J_congr e
theorem J_mirror {xs : Array Keyed} {i j : Nat} (hj : j ≤ xs.size) (k : Nat) :
    J (mirror xs i j ((j - i) / 2)) k = if i ≤ k ∧ k < j then J xs (i + j - 1 - k) else J xs k := by
  have e := getElem?_mirror_all (i := i) hj k
  by_cases h1 : i ≤ k ∧ k < j
  · rw [if_pos h1] at e ⊢; exact J_congr e
  · rw [if_neg h1] at e ⊢; exact J_congr e

noncomputable def Tl (xs : Array Keyed) (k n : Nat) : Prop := ∀ j, k ≤ j → j < n → ∀ i, i < j → J xs i < J xs j
noncomputable def SL (xs : Array Keyed) (k : Nat) : Prop := ∀ i j, i < j → j < k → K xs i < K xs j ∨ (K xs i = K xs j ∧ J xs i < J xs j)
noncomputable def DL (xs : Array Keyed) (k : Nat) : Prop := ∀ i j, i < j → j < k → K xs j < K xs i ∨ (K xs j = K xs i ∧ J xs j < J xs i)
theorem SL.le {xs : Array Keyed} {k : Nat} (h : SL xs k) : SortedTo xs k := fun i j hij hj => by
  by_cases q : i = j
  · subst q; exact Int.le_refl _
  · rcases h i j (by grind) hj with h | h
    · exact Int.le_of_lt h
    · exact Int.le_of_eq h.1
theorem Tl.mirror {xs : Array Keyed} {i j k n : Nat} (h : Tl xs k n) (hj : j ≤ xs.size) (hjk : j ≤ k) : Tl (mirror xs i j ((j - i) / 2)) k n := by
  intro a ha han b hb
  rw [J_mirror hj, J_mirror hj]
  repeat' split
  all_goals first
    | (exfalso; grind)
    | exact h a ha han _ (by grind)
theorem Tl.more {xs : Array Keyed} {k k' n : Nat} (h : Tl xs k n) (hk : k ≤ k') : Tl xs k' n := fun j hj hn i hi => h j (by grind) hn i hi

noncomputable def bx (l src k : Nat) : Nat := if k < l then k else if k = l then src else if k ≤ src then k - 1 else k
theorem bx_lo {l src k : Nat} (h : k < l) : bx l src k = k := if_pos h
theorem bx_at {l src : Nat} : bx l src l = src := (if_neg (Nat.lt_irrefl l)).trans (if_pos rfl)
theorem bx_mid {l src k : Nat} (h : l < k) (h2 : k ≤ src) : bx l src k = k - 1 := (if_neg (Nat.not_lt.mpr (Nat.le_of_lt h))).trans ((if_neg (Nat.ne_of_gt h)).trans (if_pos h2))
theorem bx_hi {l src k : Nat} (h : l ≤ src) (h2 : src < k) : bx l src k = k := (if_neg (Nat.not_lt.mpr (Nat.le_of_lt (Nat.lt_of_le_of_lt h h2)))).trans ((if_neg (Nat.ne_of_gt (Nat.lt_of_le_of_lt h h2))).trans (if_neg (Nat.not_le.mpr h2)))
theorem bx_le {l src k : Nat} (h : l ≤ src) (hk : k ≤ src) : bx l src k ≤ src := by
  rcases Nat.lt_trichotomy k l with q | rfl | q
  · rw [bx_lo q]; exact hk
  · rw [bx_at]; exact Nat.le_refl _
  · rw [bx_mid q hk]; exact Nat.le_trans (Nat.sub_le _ _) hk
theorem bx_lt {l src i j : Nat} (h : i < j) (hj : j ≤ src) (hi : i ≠ l) (hjl : j ≠ l) : bx l src i < bx l src j := by
  rcases Nat.lt_or_gt_of_ne hjl with q | q
  · rw [bx_lo q, bx_lo (Nat.lt_trans h q)]; exact h
  · rw [bx_mid q hj]
    rcases Nat.lt_or_gt_of_ne hi with p | p
    · rw [bx_lo p]; exact Nat.lt_of_lt_of_le p (Nat.le_sub_one_of_lt q)
    · rw [bx_mid p (Nat.le_trans (Nat.le_of_lt h) hj)]; exact Nat.sub_lt_sub_right (Nat.lt_of_le_of_lt (Nat.zero_le _) p) h
theorem bx_eq {α : Type} (f : Nat → α) {src l : Nat} (hl : l ≤ src) (k : Nat) : (if k = l then f src else if l < k ∧ k ≤ src then f (k - 1) else f k) = f (bx l src k) := by
  rcases Nat.lt_trichotomy k l with q | rfl | q
  · rw [if_neg (Nat.ne_of_lt q), if_neg fun h => Nat.lt_asymm q h.1, bx_lo q]
  · rw [if_pos rfl, bx_at]
  · rw [if_neg (Nat.ne_of_gt q)]
    rcases Nat.lt_or_ge src k with p | p
    · rw [if_neg fun h => Nat.not_le.mpr p h.2, bx_hi hl p]
    · rw [if_pos ⟨q, p⟩, bx_mid q p]
theorem J_bx {xs : Array Keyed} {src l : Nat} (hs : src < xs.size) (hl : l ≤ src) (k : Nat) : J (bubble xs src (src - l)) k = J xs (bx l src k) := by
  rw [J_bubble hs (Nat.sub_le _ _), Nat.sub_sub_self hl]
  exact bx_eq (J xs) hl k
theorem K_bx {xs : Array Keyed} {src l : Nat} (hs : src < xs.size) (hl : l ≤ src) (k : Nat) : K (bubble xs src (src - l)) k = K xs (bx l src k) := by
  rw [K_bubble hs (Nat.sub_le _ _), Nat.sub_sub_self hl]
  exact bx_eq (K xs) hl k
structure Bnd (xs : Array Keyed) (k l r : Nat) : Prop where
  lo : ∀ i, i < l → K xs i ≤ K xs k
  hi : ∀ i, r ≤ i → i < k → K xs k < K xs i
theorem SL.bub {xs : Array Keyed} {k l n : Nat} (hk : k < xs.size) (hl : l ≤ k) (hs : SL xs k) (hb : Bnd xs k l l) (ht : Tl xs k n) (hn : k < n) : SL (bubble xs k (k - l)) (k + 1) := by
  intro i j hij hj
  have hjk := Nat.le_of_lt_succ hj
  rw [K_bx hk hl, K_bx hk hl, J_bx hk hl, J_bx hk hl]
  by_cases q : j = l
  · subst q
    rw [bx_at, bx_lo hij]
    rcases Int.lt_or_eq_of_le (hb.lo i hij) with q | q
    · exact .inl q
    · exact .inr ⟨q, ht k (Nat.le_refl _) hn i (Nat.lt_of_lt_of_le hij hl)⟩
  · by_cases p : i = l
    · subst p
      rw [bx_at, bx_mid hij hjk]
      exact .inl (hb.hi _ (Nat.le_sub_one_of_lt hij) (Nat.sub_one_lt_of_le (Nat.lt_of_le_of_lt (Nat.zero_le _) hij) hjk))
    · refine hs _ _ (bx_lt hij hjk p q) ?_
      rcases Nat.lt_or_gt_of_ne q with r | r
      · rw [bx_lo r]; exact Nat.lt_of_lt_of_le r hl
      · rw [bx_mid r hjk]; exact Nat.sub_one_lt_of_le (Nat.lt_of_le_of_lt (Nat.zero_le _) r) hjk
theorem Tl.bub {xs : Array Keyed} {k l n : Nat} (hk : k < xs.size) (hl : l ≤ k) (ht : Tl xs k n) : Tl (bubble xs k (k - l)) (k + 1) n := by
  intro j hj hjn i hi
  rw [J_bx hk hl, J_bx hk hl, bx_hi hl hj]
  refine ht j (Nat.le_of_lt hj) hjn _ ?_
  rcases Nat.lt_or_ge k i with q | q
  · rw [bx_hi hl q]; exact hi
  · exact Nat.lt_of_le_of_lt (bx_le hl q) hj
structure Io (xs : Array Keyed) (k x l r : Nat) : Prop where
  le : l ≤ r
  rk : r ≤ k
  m : r - l ≤ k - x
  b : Bnd xs k l r
theorem Io.start (xs : Array Keyed) (k : Nat) : Io xs k 0 0 k := ⟨Nat.zero_le _, Nat.le_refl _, Nat.le_refl _, fun i h => absurd h (Nat.not_lt_zero i), fun i h1 h2 => absurd h2 (Nat.not_lt.mpr h1)⟩
theorem Io.fin {xs : Array Keyed} {k l r : Nat} (h : Io xs k k l r) : l ≤ k ∧ Bnd xs k l l := by
  have e : l = r := Nat.le_antisymm h.le (Nat.le_of_sub_eq_zero (Nat.le_zero.mp (Nat.sub_self k ▸ h.m)))
  exact ⟨Nat.le_trans h.le h.rk, e ▸ h.b⟩
theorem mid_lt {l r : Nat} (h : l < r) : (l + r) / 2 < r := (Nat.div_lt_iff_lt_mul (by decide)).mpr (by rw [Nat.mul_two]; exact Nat.add_lt_add_right h r)
theorem le_mid {l r : Nat} (h : l < r) : l ≤ (l + r) / 2 := (Nat.le_div_iff_mul_le (by decide)).mpr (by rw [Nat.mul_two]; exact Nat.add_le_add_left (Nat.le_of_lt h) l)
theorem less_one {a b c x : Nat} (h : a < b) (h2 : b ≤ c - x) : a ≤ c - (x + 1) := Nat.le_sub_one_of_lt (Nat.lt_of_lt_of_le h h2)
theorem Io.up {xs : Array Keyed} {k x l r : Nat} (hs : SL xs k) (h : Io xs k x l r) (hlr : l < r) (q : K xs k < K xs ((l + r) / 2)) : Io xs k (x + 1) l ((l + r) / 2) :=
  ⟨le_mid hlr, Nat.le_trans (Nat.le_of_lt (mid_lt hlr)) h.rk, less_one (Nat.sub_lt_sub_right (le_mid hlr) (mid_lt hlr)) h.m, h.b.lo, fun i h1 h2 => Int.lt_of_lt_of_le q (hs.le _ _ h1 h2)⟩
theorem Io.dn {xs : Array Keyed} {k x l r : Nat} (hs : SL xs k) (h : Io xs k x l r) (hlr : l < r) (q : ¬ K xs k < K xs ((l + r) / 2)) : Io xs k (x + 1) ((l + r) / 2 + 1) r :=
  ⟨mid_lt hlr, h.rk, less_one (Nat.sub_lt_sub_left hlr (Nat.lt_succ_of_le (le_mid hlr))) h.m, fun i h1 => Int.le_trans (hs.le i _ (Nat.le_of_lt_succ h1) (Nat.lt_of_lt_of_le (mid_lt hlr) h.rk)) (Int.not_lt.mp q), h.b.hi⟩

section
variable {prog : Program} {w : World} {A : Around} {E : Value → Shared → Prop} {s : Shared} {a₀ : Array Keyed}

theorem binary_ok {st : SortSt} {n ok : Nat} {Q : Bool → SortSt → Prop} (h0 : IntKeys a₀) (hn : n ≤ a₀.size) (hok : ok ≤ n) (hok1 : 1 ≤ ok) (hB : SBase a₀ st) (hs : SL (arrOf st) ok) (ht : Tl (arrOf st) ok n)
    (h : ∀ st', SBase a₀ st' → SL (arrOf st') n → Q true st') : wpS (model prog w) A E s (binarySort' 0 n ok) Q st := by
  rw [binarySort'_eq]
  simp only [Nat.zero_add]
  rw [Nat.max_eq_left hok1]
  refine wpS_bind (wpS_mono (wpS_forRange (I := fun k c st' => c = (none, ()) ∧ SBase a₀ st' ∧ SL (arrOf st') k ∧ Tl (arrOf st') k n)
    (Q := fun c st' => c = (none, ()) ∧ SBase a₀ st' ∧ SL (arrOf st') n) ?step ?fin ?init) ?post)
  case post =>
    rintro c st' ⟨rfl, hB', hs'⟩
    exact wpS_pure (h st' hB' hs')
  case init => exact ⟨rfl, hB, hs, ht⟩
  case fin =>
    rw [Nat.max_eq_right hok]
    exact fun c st' e => ⟨e.1, e.2.1, e.2.2.1⟩
  case step =>
    rintro k c st' hak hkn ⟨rfl, hB', hs', ht'⟩
    have hk : k < a₀.size := Nat.lt_of_lt_of_le hkn hn
    refine wpS_bind (wpS_mono (wpS_forRange (I := fun x c st'' => st'' = st' ∧ ∃ l r, c = (none, l, r) ∧ Io (arrOf st') k x l r)
      (Q := fun c st'' => st'' = st' ∧ ∃ l r, c = (none, l, r) ∧ l ≤ k ∧ Bnd (arrOf st') k l l) ?istep ?ifin ?iinit) ?ipost)
    case iinit => exact ⟨rfl, 0, k, rfl, .start _ _⟩
    case ifin =>
      rw [Nat.max_eq_right (Nat.zero_le _)]
      exact fun c st'' e => ⟨e.1, e.2.elim fun l e => e.elim fun r e => ⟨l, r, e.1, e.2.fin⟩⟩
    case istep =>
      rintro x c st'' _ hxk ⟨rfl, l, r, rfl, io⟩
      dsimp only
      by_cases hge : l ≥ r
      · rw [if_pos hge]
        exact wpS_pure ⟨rfl, l, r, rfl, Nat.le_trans io.le io.rk, io.b.lo, fun i h => io.b.hi i (Nat.le_trans hge h)⟩
      · rw [if_neg hge]
        have hlr := Nat.not_le.mp hge
        refine wpS_bind (wpS_ltK hB' h0 hk (Nat.lt_trans (Nat.lt_of_lt_of_le (mid_lt hlr) io.rk) hk) ?_)
        by_cases hless : K (arrOf st'') k < K (arrOf st'') ((l + r) / 2)
        · rw [decide_eq_true hless]
          exact wpS_pure ⟨rfl, l, _, rfl, io.up hs' hlr hless⟩
        · rw [decide_eq_false hless]
          exact wpS_pure ⟨rfl, _, r, rfl, io.dn hs' hlr hless⟩
    case ipost =>
      rintro c st'' ⟨rfl, l, r, rfl, hlk, hb⟩
      show wpS _ _ _ _ (do moveDown' k l; pure (ForInStep.yield (none, ()))) _ _
      rw [moveDown'_eq]
      have hks : k < (arrOf st'').size := by rw [hB'.size]; exact hk
      exact wpS_bind (wpS_modify (wpS_pure ⟨rfl, hB'.setArr (bubble_perm _ _ _), hs'.bub hks hlk hb ht' hkn, ht'.bub hks hlk⟩))

theorem asc_ok {st : SortSt} {a nrem : Nat} {Q : AscSt → SortSt → Prop} (h0 : IntKeys a₀) (hn : nrem ≤ a₀.size) (ha : 1 ≤ a) (han : a ≤ nrem) (hB : SBase a₀ st)
    (hs : SL (arrOf st) a) (ht : Tl (arrOf st) a nrem)
    (h : ∀ n, a ≤ n → n ≤ nrem → SL (arrOf st) n → (n = nrem ∨ K (arrOf st) n < K (arrOf st) (n - 1)) → Q (none, n) st) :
    wpS (model prog w) A E s (ascLoop a nrem) Q st := by
  unfold ascLoop
  refine wpS_forRange (I := fun x c st' => st' = st ∧ c = (none, x) ∧ SL (arrOf st) x) ?step ?fin ⟨rfl, rfl, hs⟩
  case fin =>
    rintro c st' ⟨rfl, rfl, hs'⟩
    rw [show max a nrem = nrem by grind] at hs' ⊢
    exact h nrem han (Nat.le_refl _) hs' (.inl rfl)
  case step =>
    rintro x c st' hax hxn ⟨rfl, rfl, hs'⟩
    dsimp only
    refine wpS_bind (wpS_ltK hB h0 (by grind) (by grind) ?_)
    by_cases hless : K (arrOf st') x < K (arrOf st') (x - 1)
    · simp only [hless, decide_true, if_true]
      exact wpS_pure (h x hax (by grind) hs' (.inr hless))
    · simp only [hless, decide_false, Bool.false_eq_true, if_false]
      refine wpS_pure ⟨rfl, rfl, fun i j hij hj => ?_⟩
      by_cases hjx : j < x
      · exact hs' i j hij hjx
      · have hj' : j = x := by grind
        subst hj'
        have h1 : K (arrOf st') i ≤ K (arrOf st') j := Int.le_trans (hs'.le i (j - 1) (by grind) (by grind)) (Int.not_lt.mp hless)
        rcases Int.lt_or_eq_of_le h1 with q | q
        · exact .inl q
        · exact .inr ⟨q, ht j hax hxn i hij⟩

theorem tail_ok {st : SortSt} {n nrem : Nat} {Q : Option Nat → SortSt → Prop} (h0 : IntKeys a₀) (hn : nrem ≤ a₀.size) (h1 : 1 ≤ n) (hnn : n ≤ nrem) (hB : SBase a₀ st)
    (hs : DL (arrOf st) n) (ht : Tl (arrOf st) n nrem) (h : ∀ m st', SBase a₀ st' → 1 ≤ m → m ≤ nrem → SL (arrOf st') m → Tl (arrOf st') m nrem → Q (some m) st') :
    wpS (model prog w) A E s (tail3 n nrem) Q st := by
  unfold tail3
  have hsz : n ≤ (arrOf st).size := by rw [hB.size]; grind
  refine wpS_bind (wpS_reverse ?_)
  have hB' : SBase a₀ (setArr st (mirror (arrOf st) 0 n ((n - 0) / 2))) := hB.setArr (mirror_perm _ _ _ _)
  have ht' : Tl (mirror (arrOf st) 0 n ((n - 0) / 2)) n nrem := ht.mirror hsz (Nat.le_refl _)
  refine wpS_bind (asc_ok h0 hn h1 hnn hB' ?_ ht' fun m hm1 hm2 hsm _ => wpS_pure (h m _ hB' (by grind) hm2 hsm (ht'.more hm1)))
  intro i j hij hj
  show K (mirror (arrOf st) 0 n ((n - 0) / 2)) i < K (mirror (arrOf st) 0 n ((n - 0) / 2)) j ∨ (K (mirror (arrOf st) 0 n ((n - 0) / 2)) i = K (mirror (arrOf st) 0 n ((n - 0) / 2)) j ∧ J (mirror (arrOf st) 0 n ((n - 0) / 2)) i < J (mirror (arrOf st) 0 n ((n - 0) / 2)) j)
  rw [K_mirror hsz, K_mirror hsz, J_mirror hsz, J_mirror hsz, if_pos (by grind), if_pos (by grind), if_pos (by grind), if_pos (by grind)]
  exact hs _ _ (by grind) (by grind)
end
end Mine

-- NL
set_option maxRecDepth 10000
namespace Mine
set_option tactic.hygienic false

theorem mir_ge {y x k : Nat} (h : k < x) : y ≤ y + x - 1 - k := Nat.le_sub_of_add_le (Nat.le_sub_one_of_lt (Nat.add_lt_add_left h y))
theorem mir_lt {y x k : Nat} (h1 : y ≤ k) (h2 : k < x) : y + x - 1 - k < x :=
  Nat.sub_lt_left_of_lt_add (Nat.le_sub_one_of_lt (Nat.lt_of_lt_of_le h2 (Nat.le_add_left x y)))
    (Nat.lt_of_lt_of_le (Nat.sub_lt (Nat.lt_of_lt_of_le (Nat.lt_of_le_of_lt (Nat.zero_le k) h2) (Nat.le_add_left x y)) Nat.one_pos) (Nat.add_le_add_right h1 x))
theorem mir_anti {y x i j : Nat} (hij : i < j) (hj : j < x) : y + x - 1 - j < y + x - 1 - i :=
  Nat.sub_lt_sub_left (Nat.lt_of_lt_of_le hij (Nat.le_sub_one_of_lt (Nat.lt_of_lt_of_le hj (Nat.le_add_left x y)))) hij
theorem Km_in {xs : Array Keyed} {y x k : Nat} (hx : x ≤ xs.size) (h1 : y ≤ k) (h2 : k < x) : K (mirror xs y x ((x - y) / 2)) k = K xs (y + x - 1 - k) := (K_mirror hx k).trans (if_pos ⟨h1, h2⟩)
theorem Jm_in {xs : Array Keyed} {y x k : Nat} (hx : x ≤ xs.size) (h1 : y ≤ k) (h2 : k < x) : J (mirror xs y x ((x - y) / 2)) k = J xs (y + x - 1 - k) := (J_mirror hx k).trans (if_pos ⟨h1, h2⟩)
theorem Km_lo {xs : Array Keyed} {y x k : Nat} (hx : x ≤ xs.size) (h1 : k < y) : K (mirror xs y x ((x - y) / 2)) k = K xs k := (K_mirror hx k).trans (if_neg fun h => Nat.not_le.mpr h1 h.1)
theorem Jm_lo {xs : Array Keyed} {y x k : Nat} (hx : x ≤ xs.size) (h1 : k < y) : J (mirror xs y x ((x - y) / 2)) k = J xs k := (J_mirror hx k).trans (if_neg fun h => Nat.not_le.mpr h1 h.1)
theorem Km_hi {xs : Array Keyed} {y x k : Nat} (hx : x ≤ xs.size) (h1 : x ≤ k) : K (mirror xs y x ((x - y) / 2)) k = K xs k := (K_mirror hx k).trans (if_neg fun h => Nat.not_lt.mpr h1 h.2)

structure Pd (xs : Array Keyed) (y x : Nat) : Prop where
  lt : y < x
  dl : DL xs y
  low : ∀ i, i < y → ∀ j, y ≤ j → j < x → K xs j < K xs i
  like : ∀ i, y ≤ i → i < x → K xs i = K xs (x - 1)
  rise : ∀ i j, y ≤ i → i < j → j < x → J xs i < J xs j

theorem last_in {y x : Nat} (h : y < x) : x - 1 < x := Nat.sub_lt (Nat.lt_of_le_of_lt (Nat.zero_le y) h) Nat.one_pos
theorem Pd.one {xs : Array Keyed} {x : Nat} (h : Pd xs (x - 1) x) : DL xs x := fun i j hij hj => by
  by_cases q : j = x - 1
  · subst q; exact .inl (h.low i hij (x - 1) (Nat.le_refl _) hj)
  · exact h.dl i j hij (Nat.lt_of_le_of_ne (Nat.le_sub_one_of_lt hj) q)
theorem Pd.new {xs : Array Keyed} {x : Nat} (hd : DL xs x) (hl : ∀ i, i < x → K xs x < K xs i) : Pd xs x (x + 1) :=
  ⟨Nat.lt_succ_self x, hd, fun i hi j h1 h2 => Nat.le_antisymm h1 (Nat.le_of_lt_succ h2) ▸ hl i hi, fun i a b => congrArg (K xs) (Nat.le_antisymm (Nat.le_of_lt_succ b) a),
    fun i j a b c => absurd b (Nat.not_lt.mpr (Nat.le_trans (Nat.le_of_lt_succ c) a))⟩
theorem Pd.under {xs : Array Keyed} {y x : Nat} (h : Pd xs y x) (hless : K xs x < K xs (x - 1)) : ∀ i, i < x → K xs x < K xs i := fun i hi => by
  by_cases q : y ≤ i
  · rw [h.like i q hi]; exact hless
  · exact Int.lt_trans hless (h.low i (Nat.not_le.mp q) (x - 1) (Nat.le_sub_one_of_lt h.lt) (last_in hi))
theorem Pd.more {xs : Array Keyed} {y x n : Nat} (h : Pd xs y x) (e : K xs x = K xs (x - 1)) (ht : Tl xs x n) (hx : x < n) : Pd xs y (x + 1) := by
  refine ⟨Nat.lt_succ_of_lt h.lt, h.dl, fun i hi j h1 h2 => ?_, fun i h1 h2 => ?_, fun i j a b c => ?_⟩
  · by_cases q : j = x
    · subst q; rw [e]; exact h.low i hi _ (Nat.le_sub_one_of_lt h.lt) (last_in h.lt)
    · exact h.low i hi j h1 (Nat.lt_of_le_of_ne (Nat.le_of_lt_succ h2) q)
  · by_cases q : i = x
    · subst q; rfl
    · exact (h.like i h1 (Nat.lt_of_le_of_ne (Nat.le_of_lt_succ h2) q)).trans e.symm
  · by_cases q : j = x
    · subst q; exact ht j (Nat.le_refl _) hx i b
    · exact h.rise i j a b (Nat.lt_of_le_of_ne (Nat.le_of_lt_succ c) q)
theorem Pd.rev {xs : Array Keyed} {y x : Nat} (h : Pd xs y x) (hsz : x ≤ xs.size) : DL (mirror xs y x ((x - y) / 2)) x := by
  intro i j hij hj
  by_cases hi : y ≤ i
  · have hi2 := Nat.lt_trans hij hj
    have hj1 := Nat.le_trans hi (Nat.le_of_lt hij)
    rw [Km_in hsz hj1 hj, Km_in hsz hi hi2, Jm_in hsz hj1 hj, Jm_in hsz hi hi2]
    exact .inr ⟨(h.like _ (mir_ge hj) (mir_lt hj1 hj)).trans (h.like _ (mir_ge hi2) (mir_lt hi hi2)).symm, h.rise _ _ (mir_ge hj) (mir_anti hij hj) (mir_lt hi hi2)⟩
  · have hi := Nat.not_le.mp hi
    by_cases hj1 : y ≤ j
    · rw [Km_in hsz hj1 hj, Km_lo hsz hi]
      exact .inl (h.low i hi _ (mir_ge hj) (mir_lt hj1 hj))
    · have hj1 := Nat.not_le.mp hj1
      rw [Km_lo hsz hj1, Km_lo hsz hi, Jm_lo hsz hj1, Jm_lo hsz hi]
      exact h.dl i j hij hj1
theorem Pd.turned {xs : Array Keyed} {y x : Nat} (h : Pd xs y x) (hsz : x ≤ xs.size) (hless : K xs x < K xs (x - 1)) : Pd (mirror xs y x ((x - y) / 2)) x (x + 1) := by
  refine .new (h.rev hsz) fun i hi => ?_
  rw [Km_hi hsz (Nat.le_refl x)]
  by_cases q : y ≤ i
  · rw [Km_in hsz q hi]; exact h.under hless _ (mir_lt q hi)
  · rw [Km_lo hsz (Nat.not_le.mp q)]; exact h.under hless i hi
theorem Pd.flip {xs : Array Keyed} {n nrem : Nat} (hs : SL xs n) (hsz : n ≤ xs.size) (ht : Tl xs 0 nrem) (hn : n < nrem) (h1 : 0 < n) (hno : ¬ K xs 0 < K xs (n - 1)) (hlt : K xs n < K xs (n - 1)) :
    Pd (mirror xs 0 n ((n - 0) / 2)) n (n + 1) := by
  have hall : ∀ k, 0 ≤ k → k < n → K xs k = K xs (n - 1) := fun k _ hk =>
    Int.le_antisymm (hs.le k (n - 1) (Nat.le_sub_one_of_lt hk) (last_in h1)) (Int.le_trans (Int.not_lt.mp hno) (hs.le 0 k (Nat.zero_le k) hk))
  have e := K_mirror_equal hsz hall
  refine .new (fun i j hij hj => ?_) fun i hi => ?_
  · have hi := Nat.lt_trans hij hj
    rw [e, e, Jm_in hsz (Nat.zero_le _) hj, Jm_in hsz (Nat.zero_le _) hi]
    exact .inr ⟨(hall j (Nat.zero_le _) hj).trans (hall i (Nat.zero_le _) hi).symm, ht _ (Nat.zero_le _) (Nat.lt_trans (mir_lt (Nat.zero_le _) hi) hn) _ (mir_anti hij hj)⟩
  · rw [e, e, hall i (Nat.zero_le _) hi]; exact hlt

theorem wpS_eq {α : Type} {m : Model} {A : Around} {E : Value → Shared → Prop} {s : Shared} {σ : Type} {p q : StateT σ Sem α} {Q : α → σ → Prop} {st : σ} (e : p = q) (h : wpS m A E s q Q st) : wpS m A E s p Q st := e ▸ h
section
variable {prog : Program} {w : World} {A : Around} {E : Value → Shared → Prop} {s : Shared} {a₀ : Array Keyed}

theorem desc_ok {st : SortSt} {n nrem : Nat} {Q : DescSt → SortSt → Prop} (h0 : IntKeys a₀) (hn : nrem ≤ a₀.size) (h1 : 1 ≤ n) (hnn : n ≤ nrem) (hB : SBase a₀ st)
    (hs : Pd (arrOf st) (n - 1) n) (ht : Tl (arrOf st) n nrem)
    (h : ∀ m neq st', SBase a₀ st' → n ≤ m → m ≤ nrem → Pd (arrOf st') (m - (neq + 1)) m → Tl (arrOf st') m nrem → Q (none, m, neq) st') :
    wpS (model prog w) A E s (descLoop n nrem) Q st := by
  unfold descLoop
  refine wpS_forRange (I := fun x c st' => ∃ neq, c = (none, x, neq) ∧ SBase a₀ st' ∧ Pd (arrOf st') (x - (neq + 1)) x ∧ Tl (arrOf st') x nrem) ?step ?fin ⟨0, rfl, hB, hs, ht⟩
  case fin =>
    rw [Nat.max_eq_right hnn]
    rintro c st' ⟨neq, rfl, hB', hp, ht'⟩
    exact h nrem neq st' hB' hnn (Nat.le_refl _) hp ht'
  case step =>
    rintro x c st' hax hxn ⟨neq, rfl, hB', hp, ht'⟩
    dsimp only
    have hxa := Nat.lt_of_lt_of_le hxn hn
    have hsz : x ≤ (arrOf st').size := by rw [hB'.size]; exact Nat.le_of_lt hxa
    have hx1 := Nat.lt_trans (last_in hp.lt) hxa
    refine wpS_bind (wpS_ltK hB' h0 hxa hx1 ?_)
    by_cases hless : K (arrOf st') x < K (arrOf st') (x - 1)
    · rw [decide_eq_true hless]
      by_cases hneq : neq > 0
      · refine wpS_eq (if_pos hneq) ?_
        exact wpS_bind (wpS_reverse (wpS_pure ⟨0, rfl, hB'.setArr (mirror_perm _ _ _ _), hp.turned hsz hless, (ht'.mirror hsz (Nat.le_refl _)).more (Nat.le_succ x)⟩))
      · refine wpS_eq (if_neg hneq) ?_
        cases Nat.eq_zero_of_not_pos hneq
        exact wpS_pure ⟨0, rfl, hB', .new hp.one (hp.under hless), ht'.more (Nat.le_succ x)⟩
    · rw [decide_eq_false hless]
      refine wpS_bind (wpS_ltK hB' h0 hx1 hxa ?_)
      by_cases hlarger : K (arrOf st') (x - 1) < K (arrOf st') x
      · rw [decide_eq_true hlarger]
        exact wpS_pure (h x neq st' hB' hax (Nat.le_of_lt hxn) hp ht')
      · rw [decide_eq_false hlarger]
        refine wpS_pure ⟨neq + 1, rfl, hB', ?_, ht'.more (Nat.le_succ x)⟩
        rw [Nat.add_sub_add_right]
        exact hp.more (Int.le_antisymm (Int.not_lt.mp hlarger) (Int.not_lt.mp hless)) ht' hxn

theorem descPart_ok {st : SortSt} {n nrem : Nat} {Q : Option Nat → SortSt → Prop} (h0 : IntKeys a₀) (hn : nrem ≤ a₀.size) (hnn : n + 1 ≤ nrem) (hB : SBase a₀ st)
    (hs : Pd (arrOf st) n (n + 1)) (ht : Tl (arrOf st) (n + 1) nrem) (h : ∀ m st', SBase a₀ st' → 1 ≤ m → m ≤ nrem → SL (arrOf st') m → Tl (arrOf st') m nrem → Q (some m) st') :
    wpS (model prog w) A E s (descPart n nrem) Q st := by
  unfold descPart
  refine wpS_bind (wpS_lift (wpAny_rule ⟨rfl, ?_⟩))
  refine wpS_bind (desc_ok h0 hn (Nat.le_add_left 1 n) hnn hB hs ht fun m neq st' hB' hm1 hm2 hp ht' => ?_)
  dsimp only
  have hsz : m ≤ (arrOf st').size := by rw [hB'.size]; exact Nat.le_trans hm2 hn
  by_cases hneq : neq > 0
  · rw [if_pos hneq]
    exact wpS_bind (wpS_reverse (tail_ok h0 hn (Nat.le_trans (Nat.le_add_left 1 n) hm1) hm2 (hB'.setArr (mirror_perm _ _ _ _)) (hp.rev hsz) (ht'.mirror hsz (Nat.le_refl _)) h))
  · rw [if_neg hneq]
    cases Nat.eq_zero_of_not_pos hneq
    exact tail_ok h0 hn (Nat.le_trans (Nat.le_add_left 1 n) hm1) hm2 hB' hp.one ht' h

theorem countRun_ok {st : SortSt} {nrem : Nat} {Q : Option Nat → SortSt → Prop} (h0 : IntKeys a₀) (hn : nrem ≤ a₀.size) (h1 : 1 ≤ nrem) (hB : SBase a₀ st) (ht : Tl (arrOf st) 0 nrem)
    (h : ∀ m st', SBase a₀ st' → 1 ≤ m → m ≤ nrem → SL (arrOf st') m → Tl (arrOf st') m nrem → Q (some m) st') :
    wpS (model prog w) A E s (countRun' 0 nrem) Q st := by
  rw [countRun0_eq]
  refine wpS_bind (asc_ok h0 hn (Nat.le_refl 1) h1 hB (fun i j hij hj => absurd (Nat.lt_of_lt_of_le hij (Nat.le_of_lt_succ hj)) (Nat.not_lt_zero i)) (ht.more (Nat.zero_le _)) fun n hn1 hn2 hsn hor => ?_)
  dsimp only
  by_cases hnn : n = nrem
  · rw [if_pos (beq_iff_eq.mpr hnn)]
    exact wpS_pure (h n st hB hn1 hn2 hsn (ht.more (Nat.zero_le _)))
  · rw [if_neg fun q => hnn (beq_iff_eq.mp q)]
    have hnr := Nat.lt_of_le_of_ne hn2 hnn
    have hna := Nat.lt_of_lt_of_le hnr hn
    have hlt : K (arrOf st) n < K (arrOf st) (n - 1) := hor.resolve_left hnn
    by_cases hgt : n > 1
    · rw [if_pos hgt]
      refine wpS_bind (wpS_ltK hB h0 (Nat.lt_of_le_of_lt (Nat.zero_le n) hna) (Nat.lt_trans (last_in hgt) hna) ?_)
      by_cases hrose : K (arrOf st) 0 < K (arrOf st) (n - 1)
      · rw [decide_eq_true hrose]
        exact wpS_pure (h n st hB hn1 hn2 hsn (ht.more (Nat.zero_le _)))
      · rw [decide_eq_false hrose]
        have hsz : n ≤ (arrOf st).size := by rw [hB.size]; exact Nat.le_of_lt hna
        exact wpS_bind (wpS_reverse (descPart_ok h0 hn hnr (hB.setArr (mirror_perm _ _ _ _)) (.flip hsn hsz ht hnr hn1 hrose hlt) ((ht.more (Nat.zero_le n)).mirror hsz (Nat.le_refl _) |>.more (Nat.le_succ n)) h))
    · rw [if_neg hgt]
      cases Nat.le_antisymm (Nat.not_lt.mp hgt) hn1
      exact descPart_ok h0 hn hnr hB (.new (fun i j hij hj => absurd (Nat.lt_of_lt_of_le hij (Nat.le_of_lt_succ hj)) (Nat.not_lt_zero i)) fun i hi => Nat.eq_zero_of_not_pos (Nat.not_lt.mpr (Nat.le_of_lt_succ hi)) ▸ hlt) (ht.more (Nat.zero_le _)) h
end
end Mine

-- NM
set_option maxRecDepth 10000
namespace Mine
set_option tactic.hygienic false

section
variable {prog : Program} {w : World} {A : Around} {E : Value → Shared → Prop} {s : Shared} {a₀ : Array Keyed}

noncomputable def LDone (a₀ : Array Keyed) (st : SortSt) : Prop :=
  (arrOf st).Perm a₀ ∧ failedOf st = none ∧ pendingOf st = #[(0, a₀.size, 0)] ∧ SL (arrOf st) a₀.size
theorem ldone {st : SortSt} (hB : SBase a₀ st) (hs : SL (arrOf st) a₀.size) : LDone a₀ (setPending st ((pendingOf st).push (0, a₀.size, 0))) :=
  ⟨hB.perm, hB.failed, by show (pendingOf st).push _ = _; rw [hB.pend]; rfl, hs⟩

theorem runs_ok {st : SortSt} {Q : Unit → SortSt → Prop} (h0 : IntKeys a₀) (hB : SBase a₀ st) (h2 : 2 ≤ a₀.size) (h64 : a₀.size < 64) (ht : Tl (arrOf st) 0 a₀.size)
    (h : ∀ st', (arrOf st').Perm a₀ → failedOf st' = none → SL (arrOf st') a₀.size → Q () st') : wpS (model prog w) A E s sortRuns' Q st := by
  rw [sortRuns'_eq]
  refine wpS_bind (wpS_get ?_)
  dsimp only
  have hmr : minRun' a₀.size a₀.size 0 = a₀.size := by
    obtain ⟨f, hf⟩ : ∃ f, a₀.size = f + 1 := ⟨a₀.size - 1, by grind⟩
    have : minRun' (f + 1) a₀.size 0 = a₀.size := by rw [minRun'_succ, if_pos h64]; rfl
    rwa [← hf] at this
  rw [hB.size, hmr]
  refine wpS_bind (wpS_mono (wpS_forRange
    (I := fun x c st' => (x = 0 ∧ c = (none, 0) ∧ SBase a₀ st' ∧ Tl (arrOf st') 0 a₀.size) ∨ (1 ≤ x ∧ c = (none, a₀.size) ∧ LDone a₀ st'))
    (Q := fun c st' => c = (none, a₀.size) ∧ LDone a₀ st') ?step ?fin (.inl ⟨rfl, rfl, hB, ht⟩)) ?post)
  case fin =>
    rintro c st' (⟨hx, _, _⟩ | ⟨_, hc, hD⟩)
    · grind
    · exact ⟨hc, hD⟩
  case step =>
    rintro x c st' _ hx (⟨rfl, rfl, hB', ht'⟩ | ⟨hx1, rfl, hD⟩)
    · dsimp only
      rw [if_neg (by grind)]
      rw [Nat.sub_zero, Nat.min_self]
      simp only [Nat.zero_add]
      refine wpS_bind (countRun_ok h0 (Nat.le_refl _) (by grind) hB' ht' fun m st2 hB2 hm1 hm2 hs2 ht2 => ?_)
      dsimp only
      by_cases hlt : m < a₀.size
      · rw [if_pos hlt]
        refine wpS_bind (wpS_lift (wpAny_rule ⟨rfl, ?_⟩))
        refine wpS_bind (binary_ok h0 (Nat.le_refl _) hm2 hm1 hB2 hs2 ht2 fun st3 hB3 hs3 => ?_)
        simp only [Bool.not_true, Bool.false_eq_true, if_false]
        refine wpS_bind (wpS_get ?_)
        have hb : (pendingOf st3).back? = none := by rw [hB3.pend]; rfl
        rw [hb]
        dsimp only
        exact wpS_bind (wpS_modify (wpS_pure (.inr ⟨by grind, rfl, ldone hB3 hs3⟩)))
      · rw [if_neg hlt]
        have hm : m = a₀.size := by grind
        subst hm
        refine wpS_bind (wpS_get ?_)
        have hb : (pendingOf st2).back? = none := by rw [hB2.pend]; rfl
        rw [hb]
        dsimp only
        exact wpS_bind (wpS_modify (wpS_pure (.inr ⟨by grind, rfl, ldone hB2 hs2⟩)))
    · dsimp only
      rw [if_pos (Nat.le_refl _)]
      exact wpS_pure ⟨rfl, hD⟩
  case post =>
    rintro c st' ⟨rfl, hD⟩
    dsimp only
    refine wpS_bind (wpS_mono (wpS_forRange (I := fun _ c st'' => st'' = st' ∧ c = (none, ())) (Q := fun c st'' => st'' = st' ∧ c = (none, ())) ?_ (fun _ _ hh => hh) ⟨rfl, rfl⟩) ?_)
    · rintro x c st'' _ _ ⟨rfl, rfl⟩
      refine wpS_bind (wpS_get ?_)
      rw [if_pos (by rw [hD.2.2.1]; exact Nat.le_refl 1)]
      exact wpS_pure ⟨rfl, rfl⟩
    · rintro c st'' ⟨rfl, rfl⟩
      exact wpS_pure (h _ hD.1 hD.2.1 hD.2.2.2)
end

noncomputable def leK (p q : Int × Int) : Bool := decide (p.1 < q.1) || (p.1 == q.1 && decide (p.2 ≤ q.2))
noncomputable def sortK (kz ns : List Int) : List Int := ((kz.zip ns).mergeSort leK).map (·.2)

theorem intsAre_all : ∀ {l : List Value}, (∀ v ∈ l, ∃ n t, v = .int n t) → IntsAre l (l.map numOf)
  | [], _ => .nil
  | v :: l, h => by
    obtain ⟨n, t, rfl⟩ := h v List.mem_cons_self
    exact .cons n t (intsAre_all fun v hv => h v (List.mem_cons_of_mem _ hv))
theorem leK_total (p q : Int × Int) : (leK p q || leK q p) = true := by
  unfold leK
  simp only [Bool.or_eq_true, Bool.and_eq_true, decide_eq_true_eq, beq_iff_eq]
  grind
theorem leK_trans (p q r : Int × Int) (h1 : leK p q = true) (h2 : leK q r = true) : leK p r = true := by
  unfold leK at *
  simp only [Bool.or_eq_true, Bool.and_eq_true, decide_eq_true_eq, beq_iff_eq] at *
  grind
theorem leK_anti {p q : Int × Int} (h1 : leK p q = true) (h2 : leK q p = true) : p = q := by
  unfold leK at *
  simp only [Bool.or_eq_true, Bool.and_eq_true, decide_eq_true_eq, beq_iff_eq] at *
  exact Prod.ext (by grind) (by grind)

theorem zip_nums {keys vs : List Value} {kz ns : List Int} (hk : IntsAre keys kz) (hv : IntsAre vs ns) : (keys.zip vs).map (fun p : Keyed => (numOf p.1, numOf p.2)) = kz.zip ns := by
  rw [← hk.nums, ← hv.nums, List.zip_map]
  exact List.map_congr_left fun ⟨x, y⟩ _ => rfl

theorem K_eq' {xs : Array Keyed} {i : Nat} (h : i < xs.toList.length) : K xs i = numOf (xs.toList[i]).1 ∧ J xs i = numOf (xs.toList[i]).2 := by
  have h' : i < xs.size := by simpa using h
  unfold K J
  rw [getElem?_pos xs i h']
  exact ⟨rfl, rfl⟩

theorem sorted_out_K {keys : Array Value} {vs : List Value} {kz ns : List Int} (hk : IntsAre keys.toList kz) (hv : IntsAre vs ns) {xs : Array Keyed} (hp : xs.Perm (keys.zip vs.toArray)) (hs : SL xs xs.size) :
    IntsAre (xs.map (·.2)).toList (sortK kz ns) := by
  have hl : xs.toList.Perm (keys.toList.zip vs) := by rw [← ksk_zip]; exact Array.perm_iff_toList_perm.mp hp
  have h1 : (xs.toList.map (fun p : Keyed => (numOf p.1, numOf p.2))).Perm (kz.zip ns) := by
    rw [← zip_nums hk hv]; exact hl.map _
  have h2 : (xs.toList.map (fun p : Keyed => (numOf p.1, numOf p.2))).Pairwise (fun p q => leK p q = true) := by
    rw [List.pairwise_iff_getElem]
    intro i j hi hj hij
    have hi' : i < xs.toList.length := by simpa using hi
    have hj' : j < xs.toList.length := by simpa using hj
    have q := hs i j hij (by simpa using hj')
    obtain ⟨a1, a2⟩ := K_eq' hi'
    obtain ⟨b1, b2⟩ := K_eq' hj'
    rw [a1, a2, b1, b2] at q
    simp only [List.getElem_map]
    unfold leK
    simp only [Bool.or_eq_true, Bool.and_eq_true, decide_eq_true_eq, beq_iff_eq]
    grind
  have h3 : xs.toList.map (fun p : Keyed => (numOf p.1, numOf p.2)) = (kz.zip ns).mergeSort leK :=
    (h1.trans (List.mergeSort_perm _ _).symm).eq_of_pairwise (fun a b _ _ x y => leK_anti x y) h2 (List.pairwise_mergeSort leK_trans leK_total _)
  unfold sortK
  rw [← h3, List.map_map]
  have e : (xs.map (·.2)).toList = xs.toList.map (·.2) := by simp
  rw [e]
  have := intsAre_all (l := xs.toList.map (·.2)) fun v hv' => by
    obtain ⟨p, hp', rfl⟩ := List.mem_map.mp hv'
    obtain ⟨x, y⟩ := p
    exact hv.all _ (List.of_mem_zip (hl.mem_iff.mp hp')).2
  rw [List.map_map] at this
  exact this

theorem tl_init {keys : Array Value} {vs : List Value} {ns : List Int} (hv : IntsAre vs ns) (hr : ns.Pairwise (· < ·)) (hl : keys.size = vs.length) : Tl (keys.zip vs.toArray) 0 (keys.zip vs.toArray).size := by
  intro j _ hj i hi
  have hsz : (keys.zip vs.toArray).size = vs.length := by rw [Array.size_zip, hl, List.size_toArray, Nat.min_self]
  have at_ : ∀ k, k < vs.length → ∃ n, ns[k]? = some n ∧ J (keys.zip vs.toArray) k = n := fun k hk => by
    obtain ⟨n, t, e1, e2⟩ := hv.at k vs[k] (List.getElem?_eq_getElem hk)
    refine ⟨n, e2, ?_⟩
    have hk2 : k < (keys.zip vs.toArray).size := by rw [hsz]; exact hk
    have := (K_eq' (xs := keys.zip vs.toArray) (i := k) (by simpa using hk2)).2
    rw [this]
    have e3 : ((keys.zip vs.toArray).toList[k]'(by simpa using hk2)).2 = vs[k] := by
      simp only [ksk_zip, List.getElem_zip]
    rw [e3, e1]; rfl
  obtain ⟨a, ha, ja⟩ := at_ i (by grind)
  obtain ⟨b, hb, jb⟩ := at_ j (by grind)
  rw [ja, jb]
  obtain ⟨h1, e1⟩ := List.getElem?_eq_some_iff.mp ha
  obtain ⟨h2, e2⟩ := List.getElem?_eq_some_iff.mp hb
  rw [← e1, ← e2]
  exact List.pairwise_iff_getElem.mp hr i j h1 h2 hi
end Mine

-- NN
set_option maxRecDepth 10000
namespace Mine
set_option tactic.hygienic false

noncomputable def Kp (H h : Heap) : Prop := ∀ b o, H.get? b = some o → h.get? b = some o
theorem Kp.upd {H h : Heap} {a : Addr} (k : Kp H h) (ha : H.get? a = none) (f : Obj → Obj) : Kp H (h.update a f) := fun b o e =>
  (Heap.SameBut.update h a f).extBut b o (fun q => by rw [q, ha] at e; cases e) (k b o e)

section
variable {prog : Program} {w : World} {A : Around} {E : Value → Shared → Prop} {s : Shared} {H : Heap} {a kS : Addr} {vs : List Value} {kz ns : List Int} {keys : Array Value} {e e1 : Nat} {P : PySem.Fin → Shared → Prop}

theorem kTail_ok {st : SortSt} (k : Kp H s.heap) (hkS : s.heap.get? kS = some (seqObj "list" keys e)) (ha : s.heap.get? a = some (seqObj "list" #[] e1)) (hka : kS ≠ a) (na : H.get? a = none) (nk : H.get? kS = none) (hz : keys.size < 64) (hz2 : (arrOf st).size < 64) (hfl : failedOf st = none)
    (h : ∀ h' c, Kp H h' → h'.get? a = some (seqObj "list" ((arrOf st).map (·.2)) c) → P (.done (.ret .none)) { s with heap := h' }) : wpAny (model prog w) A (ksk_tail a false e1 (.ref kS) st) P E s := by
  have s1 := Heap.SameBut.update s.heap kS (Obj.mapSeq fun _ => (#[] : Array Value))
  have na1 : (s.heap.update kS (Obj.mapSeq fun _ => (#[] : Array Value))).get? a = some (seqObj "list" #[] e1) := (s1.2 a hka.symm).trans ha
  have hc2 := get?_update_seq na1 fun _ => (arrOf st).map (·.2)
  have ksz : keys.size ≤ sizeLine := by rw [sizeLine_eq]; grind
  have osz : ((arrOf st).map (·.2)).size ≤ sizeLine + 1 := by rw [sizeLine_eq, Array.size_map]; grind
  unfold ksk_tail
  try dsimp only
  refine wpAny_bind (listUpdate_at hkS rfl ?_ ksz (Nat.zero_le _))
  refine wpAny_bind (wpAny_letGo ?_)
  refine wpAny_bind (seqEpoch_at na1 rfl ?_)
  refine wpAny_bind (listUpdate_at na1 rfl ?_ (Nat.zero_le _) osz)
  rw [hfl]
  simp only [bne_self_eq_false, Bool.false_eq_true, if_false]
  exact wpAny_pure (h _ _ ((k.upd nk _).upd na _) hc2)

theorem kEnd_ok (k : Kp H s.heap) (hkS : s.heap.get? kS = some (seqObj "list" keys e)) (ha : s.heap.get? a = some (seqObj "list" #[] e1)) (hka : kS ≠ a) (na : H.get? a = none) (nk : H.get? kS = none)
    (hk : IntsAre keys.toList kz) (hv : IntsAre vs ns) (hr : ns.Pairwise (· < ·)) (hlen : kz.length = vs.length) (h64 : vs.length < 64)
    (h : ∀ h' out c, Kp H h' → h'.get? a = some (seqObj "list" out c) → IntsAre out.toList (sortK kz ns) → P (.done (.ret .none)) { s with heap := h' }) : wpAny (model prog w) A (ksk_end a false vs.toArray e1 (.ref kS) keys) P E s := by
  have hsz : keys.size = vs.length := by
    have h1 := hk.length
    rw [Array.length_toList] at h1
    grind
  have hzs : (keys.zip vs.toArray).size = vs.length := by rw [Array.size_zip, hsz, List.size_toArray, Nat.min_self]
  have fin : ∀ st : SortSt, (arrOf st).Perm (keys.zip vs.toArray) → failedOf st = none → SL (arrOf st) (arrOf st).size → wpAny (model prog w) A (ksk_tail a false e1 (.ref kS) st) P E s := fun st hp hf hs =>
    kTail_ok k hkS ha hka na nk (by grind) (by rw [hp.size_eq, hzs]; exact h64) hf fun h' c k' ho => h h' _ c k' ho (sorted_out_K hk hv hp hs)
  unfold ksk_end
  try dsimp only
  simp only [Bool.false_eq_true, if_false]
  by_cases h2 : vs.toArray.size < 2
  · rw [if_pos h2, if_pos h2]
    refine wpAny_bind (wpAny_pure ?_)
    rw [StateT.run_pure]
    refine wpAny_bind (wpAny_pure ?_)
    try dsimp only
    refine fin (SortSt.mk' general' (keys.zip vs.toArray) #[] 7 none) (Array.Perm.refl _) rfl fun i j hij hj => ?_
    have hj2 : j < (keys.zip vs.toArray).size := hj
    rw [hzs] at hj2
    rw [List.size_toArray] at h2
    grind
  · rw [if_neg h2, if_neg h2]
    rw [List.size_toArray] at h2
    rw [ksk_kind hk (by rw [hsz]; grind)]
    refine wpAny_bind (wpAny_pure ?_)
    refine wpAny_bind (wpAny_mono (runs_ok (a₀ := keys.zip vs.toArray) (st := SortSt.mk' oneType' (keys.zip vs.toArray) #[] 7 none)
      (Q := fun _ st' => (arrOf st').Perm (keys.zip vs.toArray) ∧ failedOf st' = none ∧ SL (arrOf st') (keys.zip vs.toArray).size)
      (ksk_intKeys hk) ⟨Array.Perm.refl _, rfl, rfl, rfl⟩ (by rw [hzs]; grind) (by rw [hzs]; exact h64) (tl_init hv hr hsz) fun st' a1 a2 a3 => ⟨a1, a2, a3⟩) ?_ fun _ _ e => e)
    rintro ⟨⟨⟩, st'⟩ s' ⟨rfl, hp, hf, hs⟩
    try dsimp only
    exact fin st' hp hf (by rw [hp.size_eq]; exact hs)

theorem kRest_ok {f : Value} (k : Kp H s.heap) (hkS : s.heap.get? kS = some (seqObj "list" #[] 0)) (ha : s.heap.get? a = some (seqObj "list" #[] e1)) (hka : kS ≠ a) (na : H.get? a = none) (nk : H.get? kS = none)
    (hv : IntsAre vs ns) (hr : ns.Pairwise (· < ·)) (hlen : kz.length = vs.length) (h64 : vs.length < 64)
    (turn : ∀ (i : Nat) (v : Value) (kk : Int), vs[i]? = some v → kz[i]? = some kk → ∀ (h : Heap) (tk : Nat), Kp H h → ∀ (Q : Value → Shared → Prop) (E : Value → Shared → Prop), (∀ h' tk' t', Kp h h' → Q (.int kk t') { s with heap := h', toks := tk' }) → wpAny (model prog w) A (call f [v]) Q E { s with heap := h, toks := tk })
    (h : ∀ h' tk out c, Kp H h' → h'.get? a = some (seqObj "list" out c) → IntsAre out.toList (sortK kz ns) → P (.done (.ret .none)) { s with heap := h', toks := tk }) : wpAny (model prog w) A (ksk_rest a f false vs.toArray e1 (.ref kS)) P E s := by
  unfold ksk_rest
  refine wpAny_bind (wpAny_rule ?_)
  first
    | rw [List.forIn_toArray]
    | (rw [← Array.forIn_toList]; simp only [List.toList_toArray])
    | rw [← Array.forIn_toList]
  refine wpAny_bind (ksk_fold (fun i s' => ∃ h' tk kA e, s' = { s with heap := h', toks := tk } ∧ Kp H h' ∧ h'.get? kS = some (seqObj "list" kA e) ∧ h'.get? a = some (seqObj "list" #[] e1) ∧ IntsAre kA.toList (kz.take i)) vs 0 s
    ⟨s.heap, s.toks, #[], 0, rfl, k, hkS, ha, by simpa using IntsAre.nil⟩ ?step ?done)
  case step =>
    rintro j x s' hx ⟨h', tk, kA, e, rfl, k', hk1, ha1, hk⟩
    simp only [Nat.zero_add] at hk ⊢
    have hj : j < vs.length := (List.getElem?_eq_some_iff.mp hx).1
    obtain ⟨kk, hkj⟩ : ∃ k, kz[j]? = some k := ⟨_, List.getElem?_eq_getElem (by grind)⟩
    have hz : kA.size ≤ vs.length := by
      have h1 := hk.length
      rw [Array.length_toList, List.length_take] at h1
      grind
    refine wpAny_bind (wpAny_attempt (turn j x kk hx hkj h' tk k' _ _ fun g tk2 t2 kg => ?_))
    try dsimp only
    have nk1 := kg _ _ hk1
    have na1 := kg _ _ ha1
    have s1 := Heap.SameBut.update g kS (Obj.mapSeq (·.push (.int kk t2)))
    have hc2 := get?_update_seq nk1 (·.push (.int kk t2))
    have ek : kz.take (j + 1) = kz.take j ++ [kk] := by rw [List.take_add_one, hkj]; simp
    have ea : (kA.push (Value.int kk t2)).toList = kA.toList ++ [Value.int kk t2] := by simp
    refine wpAny_bind (listUpdate_at nk1 rfl ?_ (by rw [sizeLine_eq]; grind) (Nat.le_trans (Nat.le_of_eq (Array.size_push ..)) (by rw [sizeLine_eq]; grind)))
    exact wpAny_pure ⟨rfl, _, _, kA.push (.int kk t2), _, rfl, Kp.upd (fun b o e => kg b o (k' b o e)) nk _, hc2, (s1.2 a hka.symm).trans na1, by rw [ea, ek]; exact ksk_snoc hk⟩
  case done =>
    rintro s' ⟨h', tk, kA, e, rfl, k', hk1, ha1, hk⟩
    have hk' : IntsAre kA.toList kz := by
      have e3 : kz.take (0 + vs.length) = kz := List.take_of_length_le (by grind)
      rw [e3] at hk
      exact hk
    try dsimp only
    refine wpAny_bind (listItems_at hk1 rfl ?_)
    exact kEnd_ok (s := { s with heap := h', toks := tk }) k' hk1 ha1 hka na nk hk' hv hr hlen h64 fun h3 out c k3 ho hi => h h3 tk out c k3 ho hi

theorem sortKey_ok {l : Addr} {f : Value} {Q : Value → Shared → Prop} (hl : s.heap.IsList l vs.toArray) (hv : IntsAre vs ns) (hr : ns.Pairwise (· < ·)) (hlen : kz.length = vs.length) (h64 : vs.length < 64)
    (ht : ∀ x, Builtin.«list.sort» ⟨[.ref x], [(Str.ofString "key", f)]⟩ = ksk_tree x f false)
    (turn : ∀ (i : Nat) (v : Value) (kk : Int), vs[i]? = some v → kz[i]? = some kk → ∀ (h : Heap) (tk : Nat), Kp s.heap h → ∀ (Q : Value → Shared → Prop) (E : Value → Shared → Prop), (∀ h' tk' t', Kp h h' → Q (.int kk t') { s with heap := h', toks := tk' }) → wpAny (model prog w) A.in1.in1 (call f [v]) Q E { s with heap := h, toks := tk })
    (h : ∀ D h' tk out c, Kp s.heap h' → s.heap.get? D = none → h'.get? D = some (seqObj "list" out c) → IntsAre out.toList (sortK kz ns) → Q (.ref D) { s with heap := h', toks := tk }) :
    wpAny (model prog w) A (call (.builtin "sorted") [.ref l] [(Str.ofString "key", f)]) Q E s := by
  refine call_function_entry_kw kind_sorted plain_sorted entry_sorted (ksk_s1 _ _) ?_
  unfold Builtin.«sorted»
  refine wpAny_bind (m := checkCount "sorted" 1 1 _) (wpAny_pure ?_)
  refine wpAny_bind (collect_list hl ?_ (by rw [sizeLine_eq]; grind))
  refine wpAny_bind (wpAny_newList ?_ (by rw [sizeLine_eq]; grind))
  have hsz : ((s.heap.push (seqObj "list" #[] 0)).update s.heap.objs.size (Obj.mapSeq (· ++ vs.toArray))).objs.size = s.heap.objs.size + 1 := by
    rw [Heap.size_update, size_push']
  have hoL : (((s.heap.push (seqObj "list" #[] 0)).update s.heap.objs.size (Obj.mapSeq (· ++ vs.toArray))).push (seqObj "list" vs.toArray 0)).get? (s.heap.objs.size + 1) = some (seqObj "list" vs.toArray 0) := by
    rw [← hsz]; exact Heap.get?_push_size _ rfl
  have keep : Kp s.heap (((s.heap.push (seqObj "list" #[] 0)).update s.heap.objs.size (Obj.mapSeq (· ++ vs.toArray))).push (seqObj "list" vs.toArray 0)) := fun b o q => by
    have hlt : b < s.heap.objs.size := Heap.lt_size q
    rw [Heap.get?_push_ne _ _ _ (by rw [hsz]; exact Nat.ne_of_lt (Nat.lt_succ_of_lt hlt)), Heap.get?_update_ne _ _ _ _ (Nat.ne_of_lt hlt), Heap.get?_push_ne _ _ _ (Nat.ne_of_lt hlt)]
    exact q
  have new : ∀ b, s.heap.objs.size ≤ b → s.heap.get? b = none := fun b hb => by
    cases e : s.heap.get? b with
    | none => rfl
    | some o' => exact absurd (Heap.lt_size e) (Nat.not_lt.mpr hb)
  show wpAny _ _ _ _ _ { s with heap := ((s.heap.push (seqObj "list" #[] 0)).update s.heap.objs.size (Obj.mapSeq (· ++ vs.toArray))).push (seqObj "list" vs.toArray 0) }
  rw [hsz]
  refine wpAny_bind (wpAny_holding (wpAny_call_entry_kw slot_list_sort ⟨_, hoL, rfl⟩ entry_list_sort ?body (ksk_l1 _ _)))
  case body =>
    have ht' := ht (s.heap.objs.size + 1)
    show wpAny (model prog w) A.in1.in1 (Builtin.«list.sort» ⟨[.ref (s.heap.objs.size + 1)], [(Str.ofString "key", f)]⟩) _ _ _
    rw [ht']
    generalize hG : ((s.heap.push (seqObj "list" #[] 0)).update s.heap.objs.size (Obj.mapSeq (· ++ vs.toArray))).push (seqObj "list" vs.toArray 0) = G at *
    have hGs : G.objs.size = s.heap.objs.size + 2 := by rw [← hG, size_push', hsz]
    have na := new (s.heap.objs.size + 1) (Nat.le_succ _)
    have ho1 := get?_update_seq hoL fun _ => #[]
    have k1 : Kp s.heap (G.update (s.heap.objs.size + 1) (Obj.mapSeq fun _ => (#[] : Array Value))) := Kp.upd keep na _
    have hs1 : (G.update (s.heap.objs.size + 1) (Obj.mapSeq fun _ => (#[] : Array Value))).objs.size = s.heap.objs.size + 2 := by rw [Heap.size_update, hGs]
    have hkS : ((G.update (s.heap.objs.size + 1) (Obj.mapSeq fun _ => (#[] : Array Value))).push (seqObj "tuple" vs.toArray 0)).objs.size = s.heap.objs.size + 3 := by rw [size_push', hs1]
    unfold ksk_tree
    refine wpAny_bind (listItems_at (s := { s with heap := G }) hoL rfl ?_)
    refine wpAny_bind (listUpdate_at (s := { s with heap := G }) hoL rfl ?_ (by rw [List.size_toArray, sizeLine_eq]; grind) (Nat.zero_le _))
    refine wpAny_bind (seqEpoch_at ho1 rfl ?_)
    refine wpAny_bind (wpAny_newTuple ?_ (by show vs.length ≤ _; rw [sizeLine_eq]; grind))
    refine wpAny_bind (wpAny_newList ?_ (Nat.zero_le _))
    refine wpAny_holding ?_
    refine kRest_ok (H := s.heap) (s := { s with heap := ((G.update (s.heap.objs.size + 1) (Obj.mapSeq fun _ => (#[] : Array Value))).push (seqObj "tuple" vs.toArray 0)).push (seqObj "list" #[] 0) }) (kS := ((G.update (s.heap.objs.size + 1) (Obj.mapSeq fun _ => (#[] : Array Value))).push (seqObj "tuple" vs.toArray 0)).objs.size)
      (fun b o e => Heap.get?_push_of_some _ (Heap.get?_push_of_some _ (k1 b o e))) (Heap.get?_push_size _ rfl) (Heap.get?_push_of_some _ (Heap.get?_push_of_some _ ho1)) (by rw [hkS]; exact Nat.ne_of_gt (Nat.lt_of_lt_of_le (Nat.lt_succ_self _) (Nat.le_succ _))) na (new _ (by rw [hkS]; exact Nat.le_add_right _ _)) hv hr hlen h64 turn fun h' tk out c k' ho hi => ⟨_, rfl, ?_⟩
    exact wpAny_pure ⟨_, rfl, h _ h' tk out c k' na ho hi⟩
end
end Mine

-- NO
set_option maxRecDepth 10000
namespace Mine
set_option tactic.hygienic false

section
variable {Z : Par} {prog : Program} {w : World} {A : Around} {E : Value → Shared → Prop} {s : Shared} {env : Env} {c : Addr} {params : Arguments} {body : Expr} {lsc : Scope} {clos : List (Str × Addr)}

theorem lam_make {Q : Value → Shared → Prop} (gd : Gd Z s.heap) (hdef : defaultsOf params env = ([], [])) (hcl : closureFor lsc env = pure clos) (hge : env.globals = mainGlobals) (hcode : env.code = .ref c) (hq : env.qual ++ "<lambda>" = Z.lq) (C : CodeHd Z.H0 c Z.P) (hb : Z.H0.BuiltinsAt Z.mg Z.P)
    (h : ∀ h' tk f cv ctv pmv, Ext Z s.heap h' → h'.get? f = some { cls := .type "function", data := .func (kla_fn "<lambda>" Z.lq params body lsc clos pmv cv ctv) } → h'.CodeRec cv Z.lq → Q (.ref f) { s with heap := h', toks := tk }) :
    wpAny (model prog w) A (eval (.Lambda params body lsc Z.lp) env) Q E s := by
  obtain ⟨ps, hP, ht, hcr⟩ := gd.tab
  have hg : s.heap.Ns mainGlobals Z.mg := Z.g.keeps gd.base
  have hgP : mainGlobals ≠ Z.P := fun q => by
    obtain ⟨o, es, ep, e, _⟩ := Z.g; rw [q, Z.hP] at e; cases e
  refine kla_eval hdef ?_
  rw [hq]
  cases hf : codeAmong Z.lp ps.toList with
  | some cv =>
    refine kla_makeFunctionHit hcl hge hg hcode (C.keeps gd.base) hP ht hf (hb.keeps gd.base) fun ctv h' tk hk hsz => ?_
    have x1 : Ext Z s.heap h' := .ofKeep gd hk
    have x2 := x1.trans (Ext.push (x1.gd gd) { cls := .type "function", data := .func (kla_fn "<lambda>" Z.lq params body lsc clos ((Z.mg "__name__").getD .none) cv ctv) })
    exact h _ tk _ cv ctv _ x2 (Heap.get?_push_size _ rfl) (((hcr cv hf).keeps hk).push _)
  | none =>
    refine kla_makeFunction hcl hge hg hcode (C.keeps gd.base) hP ht hf hgP (hb.keeps gd.base) fun c' ctv h' tk hk h1 h2 hrec hP' => ?_
    have x1 : Ext Z s.heap h' := by
      refine ⟨fun b o n e => hk b o n e, gd.tab, ⟨_, hP', ?_, fun cv q => ?_⟩⟩
      · have := TriplesOk_snoc Z.lp.line Z.lp.col (.ref c') ps.toList ht
        simpa using this
      · have e := codeAmong_snoc (pos := Z.lp) (c := .ref c') ps.toList ht hf
        have e2 : (ps ++ #[rawInt Z.lp.line, rawInt Z.lp.col, .ref c']).toList = ps.toList ++ [rawInt Z.lp.line, rawInt Z.lp.col, .ref c'] := by simp
        rw [e2, e] at q
        obtain rfl := Option.some.inj q
        exact hrec
    have x2 := x1.trans (Ext.push (x1.gd gd) (kla_obj "<lambda>" Z.lq params body lsc clos ((Z.mg "__name__").getD .none) c' ctv))
    exact h _ tk _ (.ref c') ctv _ x2 (Heap.get?_push_size _ rfl) (hrec.push _)

theorem lam_call {f cc ml : Addr} {cv ctv pmv : Value} {m kk : Str} {pm pk psub : Pos} {ms : List Value} {mz : List Int} {n v : Int} {t : Tok} {H : Heap} {tk : Tok} {k : Nat} {Q : Value → Shared → Prop} (hA : GoodA k A) (nl : H.NoLimit)
    (hf : H.get? f = some { cls := .type "function", data := .func (kla_fn "<lambda>" Z.lq params (.Subscript (.Name m pm) (.Name kk pk) psub) lsc clos pmv cv ctv) }) (hcr : H.CodeRec cv Z.lq)
    (hbind : ∀ x : Value, bindArgs (kla_fn "<lambda>" Z.lq params (.Subscript (.Name m pm) (.Name kk pk) psub) lsc clos pmv cv ctv) ⟨[x], []⟩ = pure [(kk, x)])
    (hk : lsc.kind = .function) (hco : lsc.isCoroutine = false) (hge : lsc.isGenerator = false) (hcell : ∀ x ∈ lsc.names, x.2 ≠ .cell) (hkk : lsc.names.lookup kk = some .local) (hm : lsc.names.lookup m = some .free)
    (hcl : clos.lookup m = some cc) (hc : H.IsCell cc (some (.ref ml))) (hml : H.IsList ml ms.toArray) (hms : IntsAre ms mz) (h0 : 0 ≤ n) (hv : mz[n.toNat]? = some v) (hlen : mz.length ≤ 100000)
    (hd1 : (kk == ("__debug__" : Str)) = false) (hd2 : (m == ("__debug__" : Str)) = false) (hd3 : (m == ("__classdict__" : Str)) = false)
    (hQ : ∀ h' tk' t', Kp H h' → Q (.int v t') { s with heap := h', toks := tk' }) : wpAny (model prog w) A (call (.ref f) [.int n t]) Q E { s with heap := H, toks := tk } := by
  refine wpAny_call (kla_callFunE (by have := hA.depth; omega) hf rfl hco hge rfl hcr ?_)
  rw [hbind]
  refine wpAny_pure (wpAny_newFunctionEnv hcell (fun x hx => by rw [List.mem_singleton.mp hx]; exact hkk) (fun h₁ hns hsb => ?_) hk)
  have hk₁ : Kp H h₁ := fun b o e => hsb.extBut b o (Nat.ne_of_lt (Heap.lt_size e)) (Heap.get?_push_of_some _ e)
  refine ⟨nl.keeps hk₁, kla_codeExpr (Subscript_ ?_)⟩
  refine wpAny_Name (wpAny_loadName_free (c := cc) hk hm hcl (hc.keeps hk₁) ?_ hd3) hd2
  refine wpAny_Name (wpAny_loadName_local (v := .int n t) hk hkk hns (by simp) ?_) hd1
  have hl1 : h₁.IsList ml ms.toArray := let ⟨o, e, r⟩ := hml; ⟨o, hk₁ _ _ e, r⟩
  have hn : n.toNat < ms.length := by
    have := hms.length
    have h2 := (List.getElem?_eq_some_iff.mp hv).1
    omega
  obtain ⟨n', t', e1, e2⟩ := hms.at n.toNat ms[n.toNat] (List.getElem?_eq_getElem hn)
  rw [hv] at e2
  obtain rfl := Option.some.inj e2
  refine tail_any hl1.typeIs slot_list_getitem.lookup (wpAny_getItem_list (x := .int v t') hl1 h0 (by have := hms.length; omega) ?_ ?_) (subIdx fun lo hi p => nofun)
  · rw [← e1]; simp [hn]
  · exact hQ h₁ _ t' hk₁
end
end Mine

-- NP
set_option maxRecDepth 10000
namespace Mine
set_option tactic.hygienic false

noncomputable def itemsK (mz ns : List Int) : Option (List Int) := mapO (fun n => if 0 ≤ n then mz[n.toNat]? else none) ns
noncomputable def risesB : List Int → Bool
  | [] => true
  | a :: r => r.all (fun b => decide (a < b)) && risesB r
theorem risesB_ok : ∀ {l : List Int}, risesB l = true → l.Pairwise (· < ·)
  | [], _ => .nil
  | a :: r, h => by
    unfold risesB at h
    simp only [Bool.and_eq_true, List.all_eq_true, decide_eq_true_eq] at h
    exact .cons h.1 (risesB_ok h.2)
noncomputable def sortS (T : Evl) (mu : List Str) (sc : Nm) (x : Str) (e : Expr) (m : Str) : Blk → SS → Res := fun _ st =>
  if okVar sc x && isGl sc ("sorted" : Str) && sc.lookup m == some .cell && !st.own.contains m then (match lstE T true sc st.own st.ρ e, st.ρ.lookup m with
    | some ds, some (.lst dm) => (match intsO ds, intsO dm with
      | some ns, some mz => (match itemsK mz ns with
        | some kz => if ns.length < 64 && decide (mz.length ≤ 100000) && risesB ns then some (stash mu x false (.lst ((sortK kz ns).map V.int)) st, none) else none
        | none => none)
      | _, _ => none)
    | _, _ => none) else none

set_option tactic.hygienic true in
theorem mapO_at {α β : Type} {f : α → Option β} : ∀ {l : List α} {r : List β}, mapO f l = some r → r.length = l.length ∧ ∀ (i : Nat) (a : α), l[i]? = some a → ∃ b, r[i]? = some b ∧ f a = some b
  | [], r, h => by cases h; exact ⟨rfl, fun i a h => by cases h⟩
  | a :: l, r, h => by
    unfold mapO at h
    split at h
    · rename_i b hb
      split at h
      · rename_i bs hbs
        cases h
        obtain ⟨h1, h2⟩ := mapO_at hbs
        refine ⟨by rw [List.length_cons, List.length_cons, h1], fun i x hx => ?_⟩
        cases i with
        | zero => cases hx; exact ⟨b, rfl, hb⟩
        | succ i => exact h2 i x hx
      · cases h
    · cases h

section
variable {Z : Par} {prog : Program} {w : World} {k : Nat} {g : Heap} {env : Env} {sc : Nm} {O₀ : List Addr} {T : Evl} {mu : List Str}

structure LamOK (Z : Par) (c : Addr) (params : Arguments) (lsc : Scope) (m kk : Str) : Prop where
  code : CodeHd Z.H0 c Z.P
  blt : Z.H0.BuiltinsAt Z.mg Z.P
  kind : lsc.kind = .function
  co : lsc.isCoroutine = false
  gen : lsc.isGenerator = false
  nocell : ∀ x ∈ lsc.names, x.2 ≠ .cell
  loc : lsc.names.lookup kk = some .local
  fre : lsc.names.lookup m = some .free
  only : ∀ x, (x, NameKind.free) ∈ lsc.names → x = m
  d1 : (kk == ("__debug__" : Str)) = false
  d2 : (m == ("__debug__" : Str)) = false
  d3 : (m == ("__classdict__" : Str)) = false
  dflt : ∀ env, defaultsOf params env = ([], [])
  bind : ∀ (body : Expr) (clos : List (Str × Addr)) (pmv cv ctv x : Value), bindArgs (kla_fn "<lambda>" Z.lq params body lsc clos pmv cv ctv) ⟨[x], []⟩ = pure [(kk, x)]

set_option tactic.hygienic true in
theorem sortS_ok (hT : TOK Z prog w (k + 2) T) (gd : Gd Z g) (hsorted : Gl Z "sorted" (.builtin "sorted")) {c : Addr} {params : Arguments} {lsc : Scope} {x m kk : Str} (L : LamOK Z c params lsc m kk) (hcode : env.code = .ref c) (hq : env.qual ++ "<lambda>" = Z.lq)
    {K : Blk} {px p pm pk psub kp pos' pos : Pos} {e : Expr} :
    StmS Z prog w (k + 2) g env sc O₀ (fun _ st => sortS T mu sc x e m K st) (.Assign [.Name x px] (.Call (.Name ("sorted" : Str) p) [e] [⟨some ("key" : Str), .Lambda params (.Subscript (.Name m pm) (.Name kk pk) psub) lsc Z.lp, kp⟩] pos') pos) := by
  intro st st' r h A O om s Q E hA ho ok hQ
  simp only [sortS] at h
  split at h
  · rename_i hc
    simp only [Bool.and_eq_true, Bool.not_eq_true'] at hc
    obtain ⟨⟨⟨hx, hg⟩, hmc⟩, hmo⟩ := hc
    have hmc := eq_of_beq hmc
    split at h
    · rename_i ds dm hds hdm
      split at h
      · rename_i ns mz hns hmz
        split at h
        · rename_i kz hkz
          split at h
          · rename_i hcond
            simp only [Bool.and_eq_true, decide_eq_true_eq] at hcond
            obtain ⟨⟨h64, hmlen⟩, hri⟩ := hcond
            cases h
            obtain ⟨own, ρ⟩ := st
            simp only at ho ok hds hdm hmo hQ
            subst ho
            have hds := lstE_some hds
            rw [intsO_some hns] at hds
            rw [intsO_some hmz] at hdm
            refine exec_Assign_one x px _ pos (swap_plain (by intros; nofun) (by intros; nofun) (by intros; nofun)) ?_
            show wpAny _ _ (do callWith pos' (← eval (.Name ("sorted" : Str) p) env) [] (backTo pos' (starEach [e] env)) (backToKw pos' (keywordEach [⟨some ("key" : Str), .Lambda params (.Subscript (.Name m pm) (.Name kk pk) psub) lsc Z.lp, kp⟩] env))) _ _ _
            refine wpAny_bind (name_glob (ok.ext.gd gd) ok.toEnv (isGl_some hg) hsorted ?_)
            have hm : mapO (T true sc (om.map (·.1)) ρ) [e] = some [.lst (ns.map V.int)] := by simp only [mapO, hds]
            have hb : backTo pos' (starEach [e] env) = (false, eval e env) :: backTo pos' (starEach [] env) := by rw [star1 hT.st hds [] env]; rfl
            refine callWith_kw ?_ hb (back_plain hT.st hm) rfl rfl
            refine spl_ok hT.ev hT.st hm hA (ok.ext.gd gd) ok.toEnv fun h1 tk1 vs x1 rt _ => ?_
            cases vs, rt using RepTops.one with | _ v r1 => ?_
            have ok1 := ok.grown x1
            have g1 := ok1.ext.gd gd
            obtain ⟨l, ws, rfl, hl, rws⟩ := r1.lst
            have hws := rws.intsAre
            -- marks
            have hmno : m ∉ om.map (·.1) := by simpa using hmo
            obtain ⟨vm, hvm, rm⟩ := ok1.var m .cell _ hmc nofun hmno hdm
            obtain ⟨ml, ms, rfl, _, hml, rms⟩ := rep_lst rm
            have hmsI := rms.intsAre
            obtain ⟨cc, hcc, hcell⟩ : ∃ cc, env.cells.lookup m = some cc ∧ h1.IsCell cc (some (.ref ml)) := by
              rcases hvm with ⟨q, _⟩ | ⟨_, cc, e1, e2⟩
              · rw [(ok1.fe.cel m hmc).1] at q; cases q
              · exact ⟨cc, e1, e2⟩
            obtain ⟨clos, hcl, _, hcl2⟩ := closure_of (scope := lsc) (env := env) (fun _ => cc) (fun y hy => by rw [L.only y hy]; exact hcc)
            refine evalAll_cons (wpAny_bind (lam_make (s := { s with heap := h1, toks := tk1 }) g1 (L.dflt env) hcl ok.fe.glob hcode hq L.code L.blt fun h2 tk2 f cv ctv pmv x2 hf hrec => ?_))
            refine wpAny_bind (wpAny_standAt (wpAny_pure (evalAll_nil ?_)))
            have ok2 := ok1.grown x2
            have g2 := ok2.ext.gd gd
            obtain ⟨hkl, hkat⟩ := mapO_at hkz
            have hwl : ws.length = ns.length := by have := rws.length; simpa using this
            refine sortKey_ok (s := { s with heap := h2, toks := tk2 }) (kz := kz) (x2.isList hl) hws (risesB_ok hri) (by rw [hkl, hwl]) (by rw [hwl]; exact h64) (fun y => ksk_t1 f y) (fun i v kk' hi hk' h tk hkp Q E hQ' => ?_) fun D h3 tk3 out cN hkp hD hDo hint => ?_
            · obtain ⟨n, t, rfl, hn⟩ := hws.at i v hi
              obtain ⟨b, hb1, hb2⟩ := hkat i n hn
              rw [hk'] at hb1
              cases hb1
              have hn0 : 0 ≤ n := by
                by_cases q : 0 ≤ n
                · exact q
                · rw [if_neg q] at hb2; cases hb2
              rw [if_pos hn0] at hb2
              have hcell2 := x2.cell hcell
              have hml2 := x2.isList hml
              exact lam_call (s := s) (tk := tk) hA.in1.in1 ((Z.nolim.keeps g2.base).keeps hkp) (hkp _ _ hf) (hrec.keeps hkp) (fun y => L.bind _ _ _ _ _ y) L.kind L.co L.gen L.nocell L.loc L.fre (hcl2 m (mem_of_lookup L.fre)) (let ⟨o, e, d⟩ := hcell2; ⟨o, hkp _ _ e, d⟩) (let ⟨o, e, d⟩ := hml2; ⟨o, hkp _ _ e, d⟩) hmsI hn0 hb2 hmlen L.d1 L.d2 L.d3 hQ'
            · have x3 : Ext Z h2 h3 := .ofKeep g2 hkp
              have ok3 := ok2.grown x3
              have x13 := x1.trans (x2.trans x3)
              have rD : Rep O h3 (.ref D) (.lst ((sortK kz ns).map V.int)) := .lst (fun hm => by have := ok2.oin D hm; rw [hD] at this; cases this) (vs := out.toList) ⟨cN, by simpa using hDo⟩ (Reps.ofInts hint)
              refine stash_ok (mu := mu) (fr := false) (d := .lst ((sortK kz ns).map V.int)) (s := { s with heap := h3, toks := tk3 }) hx rfl ok3 (by simpa using rD) fun h4 tk4 O4 om4 e4 ok4 hk4 hm4 hO4 _ sk4 hom4 => ?_
              refine hQ h4 tk4 O4 om4 e4 ok4 (x13.stp.trans ⟨hk4, fun a ha => ?_, hm4⟩) fun a ha => .inl (hO4 a ha)
              rcases hom4 a ha with h | ⟨h, _⟩
              · exact .inl h
              · simp at h
          · cases h
        · cases h
      · cases h
    · cases h
  · cases h
end
end Mine

-- NPn
set_option maxRecDepth 10000
namespace Mine
set_option tactic.hygienic false

noncomputable def nrmR (live : List Str) (ρ : Rho) : Rho := live.filterMap fun k => (ρ.lookup k).map fun d => (k, d)
noncomputable def nrm (live : List Str) (st : SS) : SS := ⟨st.own.filter fun x => live.contains x, nrmR live st.ρ⟩
noncomputable def nrmK (live : List Str) (K : Blk) : Blk := fun b st => match K b (nrm live st) with
  | some (st', r) => some (nrm live st', r)
  | none => none
noncomputable abbrev ForQ := Str × Pos × Expr × List Stmt × Pos
noncomputable abbrev forOf (q : ForQ) : Stmt := .For (.Name q.1 q.2.1) q.2.2.1 q.2.2.2.1 [] q.2.2.2.2
noncomputable def isFor : (s : Stmt) → Option { q : ForQ // s = forOf q }
  | .For (.Name x p) iter body [] tc => some ⟨(x, p, iter, body, tc), rfl⟩
  | _ => none
noncomputable def xsFor (T : Evl) (wf : Nat) (mu : List Str) (sc : Nm) (live : Str → List Str) : Xs := fun s => match isFor s with
  | some q => some fun K st => step T (nrmK (live q.1.1) K) wf mu sc (forOf q.1) st
  | none => none

theorem lookup_nrm (ρ : Rho) (z : Str) : ∀ live : List Str, (nrmR live ρ).lookup z = if live.contains z then ρ.lookup z else none
  | [] => rfl
  | k :: live => by
    unfold nrmR
    rw [List.filterMap_cons]
    have ih := lookup_nrm ρ z live
    unfold nrmR at ih
    by_cases q : z = k
    · subst q
      simp only [List.contains_cons, beq_self_eq_true, Bool.true_or, if_true]
      cases e : ρ.lookup z with
      | none => simp only [Option.map_none]; rw [ih, e]; split <;> rfl
      | some d => simp [List.lookup_cons]
    · have h1 : (z == k) = false := by simpa using q
      rw [List.contains_cons, h1, Bool.false_or]
      cases e : ρ.lookup k with
      | none => simp only [Option.map_none]; rw [ih]
      | some d => simp only [Option.map_some]; rw [List.lookup_cons, h1]; exact ih

section
variable {Z : Par} {prog : Program} {w : World} {k : Nat} {g : Heap} {env : Env} {sc : Nm} {O₀ : List Addr} {T : Evl} {K : Blk} {wf : Nat} {mu : List Str}
theorem nrm_ok {O : List Addr} {om : Om} {st : SS} {h : Heap} (live : List Str) (ho : st.own = om.map (·.1)) (ok : StOK Z g env sc O₀ O om st.ρ h) :
    ∃ O', (nrm live st).own = (om.filter fun q => live.contains q.1).map (·.1) ∧ StOK Z g env sc O₀ O' (om.filter fun q => live.contains q.1) (nrm live st).ρ h ∧ ∀ a ∈ O', a ∈ O := by
  obtain ⟨O', x, h1, _⟩ := ok.disown (fun y => live.contains y)
  refine ⟨O', ?_, ⟨x.fe, x.ext, x.ns, x.cells, x.o0, x.o0g, x.oin, x.onew, x.omO, x.nd1, x.nd2, fun z kk d e1 e2 e3 e4 => ?_, fun p hp => ?_⟩, h1⟩
  · show List.filter _ st.own = _
    rw [ho]; exact (drop_om _ om).symm
  · refine x.var z kk d e1 e2 e3 ?_
    have e4 : (nrmR live st.ρ).lookup z = some d := e4
    rw [lookup_nrm] at e4
    split at e4
    · exact e4
    · cases e4
  · obtain ⟨a, ds, vs, e, r⟩ := x.own p hp
    refine ⟨a, ds, vs, ?_, r⟩
    show (nrmR live st.ρ).lookup p.1 = _
    rw [lookup_nrm, if_pos (List.mem_filter.mp hp).2, e]

set_option tactic.hygienic true in
theorem nrmK_ok (live : List Str) (hK : BlkS Z prog w k g env sc O₀ K) : BlkS Z prog w k g env sc O₀ (nrmK live K) := by
  intro b st st' r h A O om s Q E hA ho ok hQ
  unfold nrmK at h
  split at h
  · rename_i st1 r1 h1
    cases h
    obtain ⟨O1, e1, ok1, s1⟩ := nrm_ok live ho ok
    refine hK b _ _ _ h1 A O1 _ s Q E hA e1 ok1 fun h' tk O2 om2 e2 ok2 sp2 so2 => ?_
    obtain ⟨O3, e3, ok3, s3⟩ := nrm_ok live e2 ok2
    have sp3 := (sp2.om (om := om) fun q hq => (List.mem_filter.mp hq).1).lessR (om₂ := om2.filter fun q => live.contains q.1) fun a ha => by
      obtain ⟨p, hp, e⟩ := List.mem_map.mp ha
      exact List.mem_map.mpr ⟨p, (List.mem_filter.mp hp).1, e⟩
    have q := hQ h' tk O3 _ e3 ok3 sp3 fun a ha => (so2 a (s3 a ha)).imp (s1 a) id
    cases r with
    | none => exact q
    | some d => exact fun v rv => q v (rv.lessO s3)
  · cases h
theorem xsFor_ok {live : Str → List Str} (hT : TOK Z prog w k T) (gd : Gd Z g) : XSOK Z prog w k g env sc O₀ (xsFor T wf mu sc live) := by
  intro x H h K hK
  unfold xsFor at h
  cases hq : isFor x with
  | none => rw [hq] at h; cases h
  | some q =>
    rw [hq] at h
    obtain rfl := Option.some.inj h
    obtain ⟨q, e⟩ := q
    subst e
    intro st st' r hh
    exact for_ok hT gd (nrmK_ok _ hK) st st' r hh
noncomputable def orX (a b : Xs) : Xs := fun x => match a x with
  | some H => some H
  | none => b x
set_option tactic.hygienic true in
theorem orX_ok {a b : Xs} (ha : XSOK Z prog w k g env sc O₀ a) (hb : XSOK Z prog w k g env sc O₀ b) : XSOK Z prog w k g env sc O₀ (orX a b) := by
  intro x H h
  unfold orX at h
  split at h
  · rename_i H' h'; cases h; exact ha x H h'
  · exact hb x H h
end
end Mine

-- NA
set_option maxRecDepth 10000
namespace Mine

noncomputable def gConst (x : Str) : Option V := if x == ("ENDMARKER" : Str) then some (.int 0) else if x == ("CRLF" : Str) then some (.str [13, 10]) else none
noncomputable def gBuilt (x : Str) : Option (List V → Option V) :=
  if x == ("len" : Str) then some bLen else if x == ("sum" : Str) then some bSum else if x == ("max" : Str) then some bMax else if x == ("min" : Str) then some bMin else if x == ("list" : Str) then some bList else none
noncomputable def cx0 : Cx := ⟨fun _ _ => none, gConst, gBuilt, fun _ => none, fun _ => none⟩

theorem iseof (i : Int) : blk (fun _ => none) (ev cx0 10) 0 [] (scOf "ISEOF") 5 (bodyOf "ISEOF") ⟨[], [("x", .int i)]⟩ = some (⟨[], [("x", .int i)]⟩, some (.bool (i == 0))) := by
  kernel_rfl
end Mine

-- NQ
set_option maxRecDepth 10000
namespace Mine
set_option tactic.hygienic false

noncomputable def intAt (name : Str) : List Stmt → Option Int
  | [] => none
  | .Assign [.Name n _] (.Constant (.int i) _ _) _ :: r => if n == name then some i else intAt name r
  | _ :: r => intAt name r
noncomputable def dictAt (name : Str) : List Stmt → Option (List (Option Expr) × List Expr)
  | [] => none
  | .Assign [.Name n _] (.Dict ks vs _) _ :: r => if n == name then some (ks, vs) else dictAt name r
  | _ :: r => dictAt name r
noncomputable def tokOf : List (Option Expr) → List Expr → List (List Nat × Int)
  | some (.Constant (.str x) _ _) :: ks, .Name n _ :: vs => (x.cps.toList, (intAt n pw.main.body).getD 0) :: tokOf ks vs
  | _, _ => []
noncomputable def tokTab : List (List Nat × Int) := match dictAt ("EXACT_TOKEN_TYPES" : Str) pw.main.body with
  | some (ks, vs) => tokOf ks vs
  | none => []
noncomputable def gTab (x : Str) : Option (List Nat → Option Int) := if x == ("EXACT_TOKEN_TYPES" : Str) then some fun l => tokTab.lookup l else none

noncomputable abbrev SubQ := Str × Pos × Str × Pos × Expr × Expr × Pos
noncomputable abbrev subOf (q : SubQ) : Expr := .Call (.Attribute (.Name q.1 q.2.1) q.2.2.1 q.2.2.2.1) [q.2.2.2.2.1, q.2.2.2.2.2.1] [] q.2.2.2.2.2.2
noncomputable def isSub : (e : Expr) → Option { q : SubQ // e = subOf q }
  | .Call (.Attribute (.Name t p) m apos) [x, y] [] pos => some ⟨(t, p, m, apos, x, y, pos), rfl⟩
  | _ => none
noncomputable abbrev SplQ := Expr × List Expr × List Keyword × Pos × Str × Pos × Expr × Pos × Expr
noncomputable abbrev splOf (q : SplQ) : Expr := .Call (.Attribute (.Call q.1 (q.2.2.2.2.2.2.2.2 :: q.2.1) q.2.2.1 q.2.2.2.1) q.2.2.2.2.1 q.2.2.2.2.2.1) [q.2.2.2.2.2.2.1] [] q.2.2.2.2.2.2.2.1
noncomputable def isSpl : (e : Expr) → Option { q : SplQ // e = splOf q }
  | .Call (.Attribute (.Call f (a :: args) kws p) m apos) [x] [] pos => some ⟨(f, args, kws, p, m, apos, x, pos, a), rfl⟩
  | _ => none
noncomputable def hookS (e : Expr) : Option Hk := match isSub e with
  | some ⟨(t, p, m, apos, x, y, pos), _⟩ => if m == ("sub" : Str) && apos.endLine == pos.line then (match patOf t with | some b => some (subH b t x y) | none => none) else none
  | none => none
noncomputable def hookT (e : Expr) : Option Hk := match isSpl e with
  | some ⟨(f, args, kws, p, m, apos, x, pos, a), _⟩ => if m == ("split" : Str) && apos.endLine == pos.line then some (splitH (.Call f (a :: args) kws p) x) else none
  | none => none
noncomputable def hookX (e : Expr) : Option Hk := match hookS e with
  | some H => some H
  | none => hookT e

noncomputable def lamOKB (lsc : Scope) (m kk : Str) : Bool :=
  lsc.kind == .function && !lsc.isCoroutine && !lsc.isGenerator && lsc.names.all (fun x => !(x.2 == .cell)) && lsc.names.lookup kk == some .local && lsc.names.lookup m == some .free &&
  lsc.names.all (fun x => !(x.2 == .free) || x.1 == m) && !(kk == ("__debug__" : Str)) && !(m == ("__debug__" : Str)) && !(m == ("__classdict__" : Str))
noncomputable abbrev SortQ := Str × Pos × Str × Pos × Expr × Str × Str × Pos × Str × Pos × Str × Pos × Pos × Scope × Pos × Pos × Pos × Pos
noncomputable abbrev sortOf : SortQ → Stmt
  | (x, px, f, pf, e, key, kk, ap, m, pm, kk', pk, psub, lsc, lpos, kp, pos', pos) =>
    .Assign [.Name x px] (.Call (.Name f pf) [e] [⟨some key, .Lambda ⟨[], [⟨kk, none, ap⟩], none, [], [], none, []⟩ (.Subscript (.Name m pm) (.Name kk' pk) psub) lsc lpos, kp⟩] pos') pos
noncomputable def isSort : (s : Stmt) → Option { q : SortQ // s = sortOf q }
  | .Assign [.Name x px] (.Call (.Name f pf) [e] [⟨some key, .Lambda ⟨[], [⟨kk, none, ap⟩], none, [], [], none, []⟩ (.Subscript (.Name m pm) (.Name kk' pk) psub) lsc lpos, kp⟩] pos') pos =>
    some ⟨(x, px, f, pf, e, key, kk, ap, m, pm, kk', pk, psub, lsc, lpos, kp, pos', pos), rfl⟩
  | _ => none
noncomputable def xsSort (lp : Pos) (T : Evl) (mu : List Str) (sc : Nm) : Xs := fun s => match isSort s with
  | some ⟨(x, px, f, pf, e, key, kk, ap, m, pm, kk', pk, psub, lsc, lpos, kp, pos', pos), _⟩ =>
    if f == ("sorted" : Str) && key == ("key" : Str) && kk == kk' && kk == ("k" : Str) && decide (lpos = lp) && lamOKB lsc m kk then some (sortS T mu sc x e m) else none
  | none => none
noncomputable abbrev EnumQ := Str × Pos × Str × Pos × Nat × Pos × Str × Pos × Expr × Pos × List Stmt × Pos
noncomputable abbrev enumOf : EnumQ → Stmt
  | (xi, p1, xv, p2, kt, tp, f, pf, e, pc, body, pos) => .For (.Tuple [.Name xi p1, .Name xv p2] kt tp) (.Call (.Name f pf) [e] [] pc) body [] pos
noncomputable def isEnum : (s : Stmt) → Option { q : EnumQ // s = enumOf q }
  | .For (.Tuple [.Name xi p1, .Name xv p2] kt tp) (.Call (.Name f pf) [e] [] pc) body [] pos => some ⟨(xi, p1, xv, p2, kt, tp, f, pf, e, pc, body, pos), rfl⟩
  | _ => none
noncomputable def xsEnum (T : Evl) (sc : Nm) : Xs := fun s => match isEnum s with
  | some ⟨(xi, p1, xv, p2, kt, tp, f, pf, e, pc, body, pos), _⟩ => if f == ("enumerate" : Str) then some (enumH T sc xi xv e body) else none
  | none => none
noncomputable def noX : Xs := fun _ => none

noncomputable def cx (F : Str → List V → Option V) : Cx := ⟨F, gConst, gBuilt, gTab, hookX⟩
noncomputable def evF (F : Str → List V → Option V) : Evl := ev (cx F) 40
noncomputable def runF (F : Str → List V → Option V) (XS : Evl → Nm → Xs) (mu : List Str) (name : Str) (params : List Str) (ds : List V) : Option V :=
  if ds.length = params.length then (match blk (XS (evF F) (scOf name)) (evF F) 1000 mu (scOf name) 20 (bodyOf name) ⟨[], params.zip ds⟩ with
    | some (_, d) => d
    | none => none) else none

noncomputable def F0 : Str → List V → Option V := fun _ _ => none
noncomputable def fStrcoll := runF F0 (fun _ _ => noX) [] "_strcoll" ["a", "b"]
noncomputable def fStrip := runF F0 (fun _ _ => noX) [] "_strip_padding" ["s", "amount"]
noncomputable def fQuote := runF F0 (fun _ _ => noX) [] "quotedata" ["data"]
noncomputable def fEof := runF F0 (fun _ _ => noX) [] "ISEOF" ["x"]
noncomputable def liveMail : Str → List Str := fun _ => ["mail", "k", "ends", "rows", "turn"]
noncomputable def fMail := runF F0 (fun T sc => xsFor T 1000 [] sc liveMail) [] "_law_mail" ["rows", "turn"]
noncomputable def fRead := runF F0 (fun _ _ => noX) ["numbers"] "_law_read" ["row"]
noncomputable def F1 : Str → List V → Option V := fun f =>
  if f == ("_strcoll" : Str) then fStrcoll else if f == ("_strip_padding" : Str) then fStrip else if f == ("quotedata" : Str) then fQuote else if f == ("ISEOF" : Str) then fEof
  else if f == ("_law_mail" : Str) then fMail else if f == ("_law_read" : Str) then fRead else fun _ => none
noncomputable def fPeople := runF F0 (fun T sc => xsEnum T sc) ["numbers"] "_law_people" ["script"]
noncomputable def muM : List Str := ["rows", "looks", "picks", "order", "turns"]
noncomputable def liveM : Str → List Str := fun x => if x == ("turn" : Str) then ["turn", "rows", "looks", "picks", "people"] else ["k", "between", "others", "first", "order", "turns", "ready", "blanks", "numbers", "rows", "turn", "looks", "picks", "people"]
noncomputable def fByMail := runF F1 (fun T sc => xsFor T 1000 muM sc liveM) muM "_law_by_mail" ["people"]
noncomputable def muN : List Str := ["wish", "dots", "here", "looks"]
noncomputable def liveN : Str → List Str := fun x => if x == ("turn" : Str) then ["turn", "looks", "here", "dots", "wish", "people", "picks"] else ["k", "others", "first", "turns", "ready", "numbers", "rows", "order", "marks", "free", "turn", "looks", "here", "dots", "wish", "people", "picks"]
noncomputable def fByNumbers (lp : Pos) := runF F0 (fun T sc => orX (xsFor T 1000 muN sc liveN) (xsSort lp T muN sc)) muN "_law_by_numbers" ["people", "picks"]
noncomputable def liveC : Str → List Str := fun _ => ["k", "row"]
noncomputable def fCanBe := runF F0 (fun T sc => xsFor T 1000 [] sc liveC) [] "_law_can_be" ["wishes"]
noncomputable def F2 (lp : Pos) : Str → List V → Option V := fun f =>
  if f == ("_law_people" : Str) then fPeople else if f == ("_law_by_mail" : Str) then fByMail else if f == ("_law_by_numbers" : Str) then fByNumbers lp else if f == ("_law_can_be" : Str) then fCanBe else fun _ => none
noncomputable def lamIn : List Stmt → Option Pos
  | [] => none
  | .Assign _ (.Call _ _ [⟨_, .Lambda _ _ _ p, _⟩] _) _ :: r => some p
  | _ :: r => lamIn r
noncomputable def lamPos : Pos := match (bodyOf "_law_by_numbers").filterMap (fun | .For _ _ b _ _ => lamIn b | _ => none) with
  | p :: _ => p
  | [] => default
noncomputable def fLaw := runF (F2 lamPos) (fun _ _ => noX) [] "law" ["script"]

noncomputable def peopleV (l : List (Int × Int)) : V := .lst (l.map fun p => .lst [.int p.1, .int p.2])
end Mine

-- NR
set_option maxRecDepth 10000
namespace Mine
set_option tactic.hygienic false

structure Facts (Z : Par) (prog : Program) (w : World) : Prop where
  range : Gl Z "range" (.type "range")
  len : Gl Z "len" (.builtin "len")
  set : Gl Z "set" (.type "set")
  sorted : Gl Z "sorted" (.builtin "sorted")
  sum : Gl Z "sum" (.builtin "sum")
  max : Gl Z "max" (.builtin "max")
  min : Gl Z "min" (.builtin "min")
  list : Gl Z "list" (.type "list")
  enum : Gl Z "enumerate" (.type "enumerate")
  eof : ∃ t, Gl Z "ENDMARKER" (.int 0 t)
  crlf : ∃ t, Gl Z "CRLF" (.str (toStr [13, 10]) t)
  pat1 : PatG Z "_twin_re_1" true
  pat2 : PatG Z "_twin_re_2" false
  tab : ∃ a D, Gl Z "EXACT_TOKEN_TYPES" (.ref a) ∧ KTD.TextTab Z.H0 a D ∧ (∀ l i, tokTab.lookup l = some i → KTD.datumAt (toStr l) D = some (.flat (.int i))) ∧ ∀ l, tokTab.lookup l = none → KTD.datumAt (toStr l) D = none

section
variable {Z : Par} {prog : Program} {w : World} {k : Nat}

theorem prod7 {A0 A1 A2 A3 A4 A5 A6 : Type} {motive : A0 × A1 × A2 × A3 × A4 × A5 × A6 → Prop} (h : ∀ a0 a1 a2 a3 a4 a5 a6, motive (a0, a1, a2, a3, a4, a5, a6)) (t : A0 × A1 × A2 × A3 × A4 × A5 × A6) : motive t := h t.1 t.2.1 t.2.2.1 t.2.2.2.1 t.2.2.2.2.1 t.2.2.2.2.2.1 t.2.2.2.2.2.2
theorem prod9 {A0 A1 A2 A3 A4 A5 A6 A7 A8 : Type} {motive : A0 × A1 × A2 × A3 × A4 × A5 × A6 × A7 × A8 → Prop} (h : ∀ a0 a1 a2 a3 a4 a5 a6 a7 a8, motive (a0, a1, a2, a3, a4, a5, a6, a7, a8)) (t : A0 × A1 × A2 × A3 × A4 × A5 × A6 × A7 × A8) : motive t := h t.1 t.2.1 t.2.2.1 t.2.2.2.1 t.2.2.2.2.1 t.2.2.2.2.2.1 t.2.2.2.2.2.2.1 t.2.2.2.2.2.2.2.1 t.2.2.2.2.2.2.2.2
theorem prod12 {A0 A1 A2 A3 A4 A5 A6 A7 A8 A9 A10 A11 : Type} {motive : A0 × A1 × A2 × A3 × A4 × A5 × A6 × A7 × A8 × A9 × A10 × A11 → Prop} (h : ∀ a0 a1 a2 a3 a4 a5 a6 a7 a8 a9 a10 a11, motive (a0, a1, a2, a3, a4, a5, a6, a7, a8, a9, a10, a11)) (t : A0 × A1 × A2 × A3 × A4 × A5 × A6 × A7 × A8 × A9 × A10 × A11) : motive t := h t.1 t.2.1 t.2.2.1 t.2.2.2.1 t.2.2.2.2.1 t.2.2.2.2.2.1 t.2.2.2.2.2.2.1 t.2.2.2.2.2.2.2.1 t.2.2.2.2.2.2.2.2.1 t.2.2.2.2.2.2.2.2.2.1 t.2.2.2.2.2.2.2.2.2.2.1 t.2.2.2.2.2.2.2.2.2.2.2
theorem prod18 {A0 A1 A2 A3 A4 A5 A6 A7 A8 A9 A10 A11 A12 A13 A14 A15 A16 A17 : Type} {motive : A0 × A1 × A2 × A3 × A4 × A5 × A6 × A7 × A8 × A9 × A10 × A11 × A12 × A13 × A14 × A15 × A16 × A17 → Prop} (h : ∀ a0 a1 a2 a3 a4 a5 a6 a7 a8 a9 a10 a11 a12 a13 a14 a15 a16 a17, motive (a0, a1, a2, a3, a4, a5, a6, a7, a8, a9, a10, a11, a12, a13, a14, a15, a16, a17)) (t : A0 × A1 × A2 × A3 × A4 × A5 × A6 × A7 × A8 × A9 × A10 × A11 × A12 × A13 × A14 × A15 × A16 × A17) : motive t := h t.1 t.2.1 t.2.2.1 t.2.2.2.1 t.2.2.2.2.1 t.2.2.2.2.2.1 t.2.2.2.2.2.2.1 t.2.2.2.2.2.2.2.1 t.2.2.2.2.2.2.2.2.1 t.2.2.2.2.2.2.2.2.2.1 t.2.2.2.2.2.2.2.2.2.2.1 t.2.2.2.2.2.2.2.2.2.2.2.1 t.2.2.2.2.2.2.2.2.2.2.2.2.1 t.2.2.2.2.2.2.2.2.2.2.2.2.2.1 t.2.2.2.2.2.2.2.2.2.2.2.2.2.2.1 t.2.2.2.2.2.2.2.2.2.2.2.2.2.2.2.1 t.2.2.2.2.2.2.2.2.2.2.2.2.2.2.2.2.1 t.2.2.2.2.2.2.2.2.2.2.2.2.2.2.2.2.2
noncomputable def HookG (Z : Par) (prog : Program) (w : World) (k : Nat) (e : Expr) (H : Hk) : Prop := (∃ f args kws pos, e = .Call f args kws pos) ∧ ∀ T, EvS Z prog w k T → TsS Z prog w k T → NoStar T → ∀ c, NmOK c T → EvE Z prog w k e (H T)
theorem hook_ok (X : Facts Z prog w) {e : Expr} {H : Hk} (h : hookX e = some H) : HookG Z prog w k e H := by
  unfold hookX at h
  cases hs : hookS e with
  | some H' =>
    rw [hs] at h
    obtain rfl := Option.some.inj h
    unfold hookS at hs
    cases hq : isSub e with
    | none => rw [hq] at hs; cases hs
    | some q =>
      rw [hq] at hs
      clear hq
      obtain ⟨q, e'⟩ := q
      cases q using prod7 with | _ t p m apos x y pos => ?_
      dsimp only at hs e'
      subst e'
      split at hs
      · rename_i hc
        simp only [Bool.and_eq_true] at hc
        have hm := eq_of_beq hc.1
        subst hm
        cases hb : patOf t with
        | none => rw [hb] at hs; cases hs
        | some b =>
          rw [hb] at hs
          obtain rfl := Option.some.inj hs
          refine ⟨⟨_, _, _, _, rfl⟩, fun T hT hTs hst c hnm => ?_⟩
          have hp : PatG Z t b := by
            unfold patOf at hb
            split at hb
            · rename_i q; obtain rfl := Option.some.inj hb; rw [eq_of_beq q]; exact X.pat1
            · split at hb
              · rename_i q; obtain rfl := Option.some.inj hb; rw [eq_of_beq q]; exact X.pat2
              · cases hb
          exact subH_ok hT hst hp hc.2
      · cases hs
  | none =>
    rw [hs] at h
    replace h : hookT e = some H := h
    unfold hookT at h
    cases hq : isSpl e with
    | none => rw [hq] at h; cases h
    | some q =>
      rw [hq] at h
      clear hq
      obtain ⟨q, e'⟩ := q
      cases q using prod9 with | _ f args kws p m apos x pos a => ?_
      dsimp only at h e'
      subst e'
      split at h
      · rename_i hc
        simp only [Bool.and_eq_true] at hc
        have hm := eq_of_beq hc.1
        subst hm
        obtain rfl := Option.some.inj h
        refine ⟨⟨_, _, _, _, rfl⟩, fun T hT hTs hst c hnm => ?_⟩
        refine splitH_ok hT hst (fun env => ?_) hc.2
        exact ea (F := fun f => attributeBase (.Call f (a :: args) kws p) ("split" : Str) env (eval (.Call f (a :: args) kws p) env)) (G := fun f => eval (.Call f (a :: args) kws p) env) (by kernel_rfl) f
      · cases h

theorem cx_ok (X : Facts Z prog w) {F : Str → List V → Option V} (hF : ∀ f ds d, F f ds = some d → ∃ a o fd, Gl Z f (.ref a) ∧ Z.H0.get? a = some o ∧ o.data = .func fd ∧ FOK Z prog w k a ds d) : CxOK Z prog w k (cx F) where
  range := X.range
  len := X.len
  set := X.set
  sorted := X.sorted
  G := fun x d h => by
    simp only [cx, gConst] at h
    split at h
    · rename_i q
      obtain rfl := Option.some.inj h
      obtain ⟨t, ht⟩ := X.eof
      rw [eq_of_beq q]
      exact ⟨_, ht, fun O h => .int 0 t⟩
    · split at h
      · rename_i q
        obtain rfl := Option.some.inj h
        obtain ⟨t, ht⟩ := X.crlf
        rw [eq_of_beq q]
        exact ⟨_, ht, fun O h => .str _ t (by decide)⟩
      · cases h
  B := fun f g h => by
    simp only [cx, gBuilt] at h
    split at h
    · rename_i q; obtain rfl := Option.some.inj h; rw [eq_of_beq q]; exact ⟨_, X.len, .inr ⟨_, rfl⟩, bLen_ok⟩
    · split at h
      · rename_i q; obtain rfl := Option.some.inj h; rw [eq_of_beq q]; exact ⟨_, X.sum, .inr ⟨_, rfl⟩, bSum_ok⟩
      · split at h
        · rename_i q; obtain rfl := Option.some.inj h; rw [eq_of_beq q]; exact ⟨_, X.max, .inr ⟨_, rfl⟩, bMax_ok⟩
        · split at h
          · rename_i q; obtain rfl := Option.some.inj h; rw [eq_of_beq q]; exact ⟨_, X.min, .inr ⟨_, rfl⟩, bMin_ok⟩
          · split at h
            · rename_i q; obtain rfl := Option.some.inj h; rw [eq_of_beq q]; exact ⟨_, X.list, .inl ⟨_, rfl⟩, bList_ok⟩
            · cases h
  F := hF
  tab := fun x f h => by
    simp only [cx, gTab] at h
    split at h
    · rename_i q
      obtain rfl := Option.some.inj h
      rw [eq_of_beq q]
      exact X.tab
    · cases h
  X := fun e H h => by
    obtain ⟨h1, h2⟩ := hook_ok (k := k) X h
    exact ⟨h1, fun T a b c d => h2 T a b c _ d⟩

theorem lam_of {c : Addr} {lsc : Scope} {m kk : Str} {ap : Pos} (hc : CodeHd Z.H0 c Z.P) (hb : Z.H0.BuiltinsAt Z.mg Z.P) (h : lamOKB lsc m kk = true) (hkk : kk = ("k" : Str)) : LamOK Z c ⟨[], [⟨kk, none, ap⟩], none, [], [], none, []⟩ lsc m kk := by
  unfold lamOKB at h
  simp only [Bool.and_eq_true, Bool.not_eq_true', List.all_eq_true, Bool.or_eq_true] at h
  obtain ⟨⟨⟨⟨⟨⟨⟨⟨⟨h1, h2⟩, h3⟩, h4⟩, h5⟩, h6⟩, h7⟩, h8⟩, h9⟩, h10⟩ := h
  exact {
    code := hc
    blt := hb
    kind := eq_of_beq h1
    co := h2
    gen := h3
    nocell := fun x hx q => by have := h4 x hx; rw [q] at this; exact Bool.noConfusion this
    loc := eq_of_beq h5
    fre := eq_of_beq h6
    only := fun x hx => by
      rcases h7 _ hx with q | q
      · exact Bool.noConfusion q
      · exact eq_of_beq q
    d1 := h8
    d2 := h9
    d3 := h10
    dflt := fun env => rfl
    bind := fun body clos pmv cv ctv x => by
      subst hkk
      kernel_rfl }
end
end Mine

-- NS
set_option maxRecDepth 10000
namespace Mine
set_option tactic.hygienic false

section
variable {Z : Par} {prog : Program} {w : World} {k : Nat}

theorem xsSort_ok {g : Heap} {env : Env} {sc : Nm} {O₀ : List Addr} {T : Evl} {mu : List Str} {c : Addr} (X : Facts Z prog w) (hT : TOK Z prog w (k + 2) T) (gd : Gd Z g) (hc : CodeHd Z.H0 c Z.P) (hb : Z.H0.BuiltinsAt Z.mg Z.P) (hcode : env.code = .ref c) (hq : env.qual ++ "<lambda>" = Z.lq) :
    XSOK Z prog w (k + 2) g env sc O₀ (xsSort Z.lp T mu sc) := by
  intro x H h K hK
  unfold xsSort at h
  cases hsq : isSort x with
  | none => rw [hsq] at h; cases h
  | some q =>
    rw [hsq] at h
    clear hsq
    obtain ⟨q, e'⟩ := q
    cases q using prod18 with | _ x' px f p e key kk ap m pm kk' pk psub lsc lpos kp pos' pos => ?_
    dsimp only at h e'
    subst e'
    split at h
    · rename_i hcond
      cases h
      simp only [Bool.and_eq_true, decide_eq_true_eq] at hcond
      obtain ⟨⟨⟨⟨⟨h1, h2⟩, h3⟩, h4⟩, h5⟩, h6⟩ := hcond
      have h1 := eq_of_beq h1
      have h2 := eq_of_beq h2
      have h3 := eq_of_beq h3
      have h4 := eq_of_beq h4
      subst h1 h2 h3 h5
      exact sortS_ok hT gd X.sorted (lam_of hc hb h6 h4) hcode hq
    · cases h

theorem xsEnum_ok {g : Heap} {env : Env} {sc : Nm} {O₀ : List Addr} {T : Evl} (X : Facts Z prog w) (hT : TOK Z prog w k T) (gd : Gd Z g) : XSOK Z prog w k g env sc O₀ (xsEnum T sc) := by
  intro x H h K hK
  unfold xsEnum at h
  cases hq : isEnum x with
  | none => rw [hq] at h; cases h
  | some q =>
    rw [hq] at h
    clear hq
    obtain ⟨q, e'⟩ := q
    cases q using prod12 with | _ xi p1 xv p2 kt tp f pf e pc body pos => ?_
    dsimp only at h e'
    subst e'
    split at h
    · rename_i h1
      cases h
      have h1 := eq_of_beq h1
      subst h1
      exact enum_ok hT gd X.enum hK
    · cases h

structure DefN (Z : Par) (name : Str) (params : List Str) (a : Addr) (o : Obj) (fd : FuncData) : Prop where
  gl : Gl Z name (.ref a)
  at_ : DefAt Z a o fd (bodyOf name) params
  sc : fd.scope.names = scOf name

set_option tactic.hygienic true in
theorem run_ok {F : Str → List V → Option V} {XS : Evl → Nm → Xs} {mu : List Str} {name : Str} {params : List Str} {ds : List V} {d : V} {a : Addr} {o : Obj} {fd : FuncData} (D : DefN Z name params a o fd) (hcx : CxOK Z prog w k (cx F))
    (hXS : ∀ g env O₀, Gd Z g → env.code = fd.code → env.qual = fd.qualname ++ ".<locals>." → XSOK Z prog w k g env (scOf name) O₀ (XS (evF F) (scOf name))) (h : runF F XS mu name params ds = some d) :
    ∃ a o fd, Gl Z name (.ref a) ∧ Z.H0.get? a = some o ∧ o.data = .func fd ∧ FOK Z prog w (k + 1) a ds d := by
  unfold runF at h
  split at h
  · rename_i hlen
    split at h
    · rename_i st' d' hb
      subst h
      refine ⟨a, o, fd, D.gl, D.at_.at_, D.at_.data, ?_⟩
      rw [← D.sc] at hb hXS
      exact def_ok D.at_ (ev_TOK hcx 40) hXS hlen hb
    · cases h
  · cases h

structure Defs (Z : Par) : Prop where
  strcoll : ∃ a o fd, DefN Z "_strcoll" ["a", "b"] a o fd
  strip : ∃ a o fd, DefN Z "_strip_padding" ["s", "amount"] a o fd
  quote : ∃ a o fd, DefN Z "quotedata" ["data"] a o fd
  eof : ∃ a o fd, DefN Z "ISEOF" ["x"] a o fd
  mail : ∃ a o fd, DefN Z "_law_mail" ["rows", "turn"] a o fd
  read : ∃ a o fd, DefN Z "_law_read" ["row"] a o fd
  people : ∃ a o fd, DefN Z "_law_people" ["script"] a o fd
  byMail : ∃ a o fd, DefN Z "_law_by_mail" ["people"] a o fd
  byNum : ∃ a o fd c, DefN Z "_law_by_numbers" ["people", "picks"] a o fd ∧ fd.code = .ref c ∧ CodeHd Z.H0 c Z.P ∧ fd.qualname ++ ".<locals>." ++ "<lambda>" = Z.lq
  canBe : ∃ a o fd, DefN Z "_law_can_be" ["wishes"] a o fd
  blt : Z.H0.BuiltinsAt Z.mg Z.P
  lp : Z.lp = lamPos

theorem F0_ok (X : Facts Z prog w) : CxOK Z prog w k (cx F0) := cx_ok X fun f ds d h => by cases h

theorem F1_ok (X : Facts Z prog w) (D : Defs Z) : CxOK Z prog w (k + 1) (cx F1) := by
  refine cx_ok X fun f ds d h => ?_
  have none_ : ∀ {fd : FuncData} {sc : Nm}, ∀ (g : Heap) (env : Env) (O₀ : List Addr), Gd Z g → env.code = fd.code → env.qual = fd.qualname ++ ".<locals>." → XSOK Z prog w k g env sc O₀ noX := fun _ _ _ _ _ _ => noXS
  unfold F1 at h
  split at h
  · rename_i q; rw [eq_of_beq q]; obtain ⟨a, o, fd, D'⟩ := D.strcoll; exact run_ok D' (F0_ok X) none_ h
  · split at h
    · rename_i q; rw [eq_of_beq q]; obtain ⟨a, o, fd, D'⟩ := D.strip; exact run_ok D' (F0_ok X) none_ h
    · split at h
      · rename_i q; rw [eq_of_beq q]; obtain ⟨a, o, fd, D'⟩ := D.quote; exact run_ok D' (F0_ok X) none_ h
      · split at h
        · rename_i q; rw [eq_of_beq q]; obtain ⟨a, o, fd, D'⟩ := D.eof; exact run_ok D' (F0_ok X) none_ h
        · split at h
          · rename_i q; rw [eq_of_beq q]; obtain ⟨a, o, fd, D'⟩ := D.mail; exact run_ok D' (F0_ok X) (fun g env O₀ gd _ _ => xsFor_ok (ev_TOK (F0_ok X) 40) gd) h
          · split at h
            · rename_i q; rw [eq_of_beq q]; obtain ⟨a, o, fd, D'⟩ := D.read; exact run_ok D' (F0_ok X) none_ h
            · cases h

theorem F2_ok (X : Facts Z prog w) (D : Defs Z) : CxOK Z prog w (k + 3) (cx (F2 lamPos)) := by
  refine cx_ok X fun f ds d h => ?_
  have none_ : ∀ {fd : FuncData} {sc : Nm}, ∀ (g : Heap) (env : Env) (O₀ : List Addr), Gd Z g → env.code = fd.code → env.qual = fd.qualname ++ ".<locals>." → XSOK Z prog w (k + 2) g env sc O₀ noX := fun _ _ _ _ _ _ => noXS
  unfold F2 at h
  split at h
  · rename_i q; rw [eq_of_beq q]; obtain ⟨a, o, fd, D'⟩ := D.people
    exact run_ok (k := k + 2) D' (F0_ok X) (fun g env O₀ gd _ _ => xsEnum_ok X (ev_TOK (F0_ok X) 40) gd) h
  · split at h
    · rename_i q; rw [eq_of_beq q]; obtain ⟨a, o, fd, D'⟩ := D.byMail
      exact run_ok (k := k + 2) D' (F1_ok (k := k + 1) X D) (fun g env O₀ gd _ _ => xsFor_ok (ev_TOK (F1_ok (k := k + 1) X D) 40) gd) h
    · split at h
      · rename_i q; rw [eq_of_beq q]; obtain ⟨a, o, fd, c, D', hc1, hc2, hq⟩ := D.byNum
        refine run_ok (k := k + 2) D' (F0_ok X) (fun g env O₀ gd e1 e2 => ?_) h
        have := xsSort_ok (k := k) (g := g) (env := env) (sc := scOf "_law_by_numbers") (O₀ := O₀) (mu := muN) X (ev_TOK (F0_ok X) 40) gd hc2 D.blt (e1.trans hc1) (by rw [e2]; exact hq)
        rw [D.lp] at this
        exact orX_ok (xsFor_ok (ev_TOK (F0_ok X) 40) gd) this
      · split at h
        · rename_i q; rw [eq_of_beq q]; obtain ⟨a, o, fd, D'⟩ := D.canBe; exact run_ok (k := k + 2) D' (F0_ok X) (fun g env O₀ gd _ _ => xsFor_ok (ev_TOK (F0_ok X) 40) gd) h
        · cases h

set_option tactic.hygienic true in
theorem law_walk (X : Facts Z prog w) (D : Defs Z) {A : Around} {E : Value → Shared → Prop} {s : Shared} {g : Heap} {env : Env} {ns : List Int} {Q : Flow → Shared → Prop} (hA : GoodA 3 A) (gd : Gd Z g) (ok : StOK Z g env (scOf "law") [] [] [] [(("script" : Str), .lst (ns.map V.int))] s.heap)
    (hp : fLaw [.lst (ns.map V.int)] = some (.bool true)) (hQ : ∀ h' tk, Ext Z g h' → Q (.ret (.bool true)) { s with heap := h', toks := tk }) : wpAny (model prog w) A (execs (bodyOf "law") env) Q E s := by
  unfold fLaw runF at hp
  split at hp
  · split at hp
    · rename_i st' d' hb
      subst hp
      refine blk_ok (k := 3) noXS (ev_TOK (F2_ok (k := 0) X D) 40) gd 20 _ _ st' _ hb A [] [] s Q E hA rfl ok fun h' tk O' om' e' ok' sp so v rv => ?_
      cases rv
      exact hQ h' tk ok'.ext
    · cases hp
  · cases hp
end
end Mine

-- HN
set_option maxRecDepth 100000
namespace Mine
set_option tactic.hygienic false

noncomputable def aOf (K : Frag) (name : Str) : Addr := match nsIn K mainGlobals name with
  | some (some (.ref a)) => a
  | _ => 0
noncomputable def oOf (K : Frag) (a : Addr) : Obj := (K.lookup a).getD default
noncomputable def fdOf (o : Obj) : FuncData := match o.data with
  | .func fd => fd
  | _ => default
noncomputable def tokD : List (Str × KTD.Dat) := tokTab.map fun p => (toStr p.1, .flat (.int p.2))

theorem toStr_inj2 {a b : List Nat} (h : toStr a = toStr b) : a = b := by
  have := congrArg (fun x : Str => x.cps.toList) h
  simpa [toStr] using this
theorem datum_tok (l : List Nat) : ∀ D : List (List Nat × Int), KTD.datumAt (toStr l) (D.map fun p => ((toStr p.1, KTD.Dat.flat (.int p.2)) : Str × KTD.Dat)) = (D.lookup l).map fun i => KTD.Dat.flat (.int i)
  | [] => rfl
  | (x, i) :: D => by
    rw [List.map_cons, KTD.datumAt, List.lookup_cons]
    by_cases q : l = x
    · subst q; simp
    · have h1 : ¬ (decide (toStr l = toStr x) = true) := by simpa using fun e => q (toStr_inj2 e)
      have h2 : (l == x) = false := by simpa using q
      rw [if_neg h1, h2, datum_tok l D]

theorem bind1 {fd : FuncData} {p : Str} (h : ∀ v : Value, bindArgs fd ⟨[v], []⟩ = pure [(p, v)]) : ∀ vals : List Value, vals.length = [p].length → bindArgs fd ⟨vals, []⟩ = pure ([p].zip vals)
  | [v], _ => h v
  | [], e => by cases e
  | _ :: _ :: _, e => by simp at e
theorem bind2 {fd : FuncData} {p q : Str} (h : ∀ v u : Value, bindArgs fd ⟨[v, u], []⟩ = pure [(p, v), (q, u)]) : ∀ vals : List Value, vals.length = [p, q].length → bindArgs fd ⟨vals, []⟩ = pure ([p, q].zip vals)
  | [v, u], _ => h v u
  | [], e => by cases e
  | [_], e => by cases e
  | _ :: _ :: _ :: _, e => by simp at e

section
variable {Z : Par} {K : Frag} (X : K.In Z.H0)
include X
theorem gl_of {x : Str} {v : Value} (e : nsIn K mainGlobals x = some (some v)) : Gl Z x v := .inl (mg_of X Z.g e)
theorem gl_b {x : Str} {v : Value} (e : nsIn K mainGlobals x = some none) (hb : ∀ x : Str, x ≠ "__name__" → Z.mb x = bootBuiltins x) (hv : bootBuiltins x = some v) (hn : x ≠ "__name__") : Gl Z x v := .inr ⟨mg_none_of X Z.g e, (hb x hn).trans hv⟩

theorem defN_of {name : Str} {params : List Str} (e1 : nsIn K mainGlobals name = some (some (.ref (aOf K name)))) (e2 : K.lookup (aOf K name) = some (oOf K (aOf K name))) (e3 : (oOf K (aOf K name)).data = .func (fdOf (oOf K (aOf K name))))
    (e4 : codeIn K (fdOf (oOf K (aOf K name))).code (fdOf (oOf K (aOf K name))).qualname = true) (e5 : (fdOf (oOf K (aOf K name))).body = .stmts (bodyOf name)) (e6 : (fdOf (oOf K (aOf K name))).closure = []) (e7 : (fdOf (oOf K (aOf K name))).globals = mainGlobals)
    (e8 : (fdOf (oOf K (aOf K name))).builtins = builtinsNs) (e9 : defScope (fdOf (oOf K (aOf K name))).scope = true) (e10 : decide params.Nodup = true) (e11 : params.all (okVar (fdOf (oOf K (aOf K name))).scope.names) = true)
    (e12 : ∀ vals : List Value, vals.length = params.length → bindArgs (fdOf (oOf K (aOf K name))) ⟨vals, []⟩ = pure (params.zip vals)) (e13 : (fdOf (oOf K (aOf K name))).scope.names = scOf name) :
    DefN Z name params (aOf K name) (oOf K (aOf K name)) (fdOf (oOf K (aOf K name))) where
  gl := gl_of X e1
  at_ := ⟨X _ _ e2, e3, codeRec_of X e4, e5, e6, e7, e8, e9, of_decide_eq_true e10, fun x hx => List.all_eq_true.mp e11 x hx, e12⟩
  sc := e13

theorem patG_of {t : Str} {b : Bool} (fs : Array Value) (cs : Addr) (its : Array Value) (n : Nat) (e1 : nsIn K mainGlobals t = some (some (.ref (aOf K t)))) (e2 : K.lookup (aOf K t) = some { cls := .type "re.Pattern", data := .fields fs }) (e3 : fs.getD 5 .none = .ref cs)
    (e4 : K.lookup cs = some { cls := .type "tuple", data := .seq its n }) (e5 : (its.map Builtin.Re.reRawOf).map (·.toNat) = codeOf b) (e6 : Builtin.Re.reRawNat (fs.getD 2 .none) = 0) (e7 : Builtin.Re.reRawNat (fs.getD 6 .none) = 0) : PatG Z t b :=
  ⟨_, cs, gl_of X e1, _, fs, _, its, n, X _ _ e2, rfl, rfl, rfl, e3, X _ _ e4, rfl, e5, e6, e7⟩
end
noncomputable def fsOf (o : Obj) : Array Value := match o.data with
  | .fields fs => fs
  | _ => #[]
noncomputable def itsOf (o : Obj) : Array Value := match o.data with
  | .seq vs _ => vs
  | _ => #[]
noncomputable def refOf (v : Value) : Addr := match v with
  | .ref a => a
  | _ => 0
noncomputable abbrev oN (P : Params) (name : Str) : Obj := oOf (KK P) (aOf (KK P) name)

section
variable {Z : Par} {P : Params} (X : (KK P).In Z.H0)
include X
theorem d_strcoll : DefN Z "_strcoll" ["a", "b"] (aOf (KK P) "_strcoll") (oN P "_strcoll") (fdOf (oN P "_strcoll")) :=
  defN_of X (by kernel_rfl) (by kernel_rfl) (by kernel_rfl) (by kernel_rfl) (by kernel_rfl) (by kernel_rfl) (by kernel_rfl) (by kernel_rfl) (by kernel_rfl) (by kernel_rfl) (by kernel_rfl) (bind2 fun v u => by kernel_rfl) (by kernel_rfl)
theorem d_strip : DefN Z "_strip_padding" ["s", "amount"] (aOf (KK P) "_strip_padding") (oN P "_strip_padding") (fdOf (oN P "_strip_padding")) :=
  defN_of X (by kernel_rfl) (by kernel_rfl) (by kernel_rfl) (by kernel_rfl) (by kernel_rfl) (by kernel_rfl) (by kernel_rfl) (by kernel_rfl) (by kernel_rfl) (by kernel_rfl) (by kernel_rfl) (bind2 fun v u => by kernel_rfl) (by kernel_rfl)
theorem d_quote : DefN Z "quotedata" ["data"] (aOf (KK P) "quotedata") (oN P "quotedata") (fdOf (oN P "quotedata")) :=
  defN_of X (by kernel_rfl) (by kernel_rfl) (by kernel_rfl) (by kernel_rfl) (by kernel_rfl) (by kernel_rfl) (by kernel_rfl) (by kernel_rfl) (by kernel_rfl) (by kernel_rfl) (by kernel_rfl) (bind1 fun v => by kernel_rfl) (by kernel_rfl)
theorem d_eof : DefN Z "ISEOF" ["x"] (aOf (KK P) "ISEOF") (oN P "ISEOF") (fdOf (oN P "ISEOF")) :=
  defN_of X (by kernel_rfl) (by kernel_rfl) (by kernel_rfl) (by kernel_rfl) (by kernel_rfl) (by kernel_rfl) (by kernel_rfl) (by kernel_rfl) (by kernel_rfl) (by kernel_rfl) (by kernel_rfl) (bind1 fun v => by kernel_rfl) (by kernel_rfl)
theorem d_mail : DefN Z "_law_mail" ["rows", "turn"] (aOf (KK P) "_law_mail") (oN P "_law_mail") (fdOf (oN P "_law_mail")) :=
  defN_of X (by kernel_rfl) (by kernel_rfl) (by kernel_rfl) (by kernel_rfl) (by kernel_rfl) (by kernel_rfl) (by kernel_rfl) (by kernel_rfl) (by kernel_rfl) (by kernel_rfl) (by kernel_rfl) (bind2 fun v u => by kernel_rfl) (by kernel_rfl)
theorem d_read : DefN Z "_law_read" ["row"] (aOf (KK P) "_law_read") (oN P "_law_read") (fdOf (oN P "_law_read")) :=
  defN_of X (by kernel_rfl) (by kernel_rfl) (by kernel_rfl) (by kernel_rfl) (by kernel_rfl) (by kernel_rfl) (by kernel_rfl) (by kernel_rfl) (by kernel_rfl) (by kernel_rfl) (by kernel_rfl) (bind1 fun v => by kernel_rfl) (by kernel_rfl)
theorem d_people : DefN Z "_law_people" ["script"] (aOf (KK P) "_law_people") (oN P "_law_people") (fdOf (oN P "_law_people")) :=
  defN_of X (by kernel_rfl) (by kernel_rfl) (by kernel_rfl) (by kernel_rfl) (by kernel_rfl) (by kernel_rfl) (by kernel_rfl) (by kernel_rfl) (by kernel_rfl) (by kernel_rfl) (by kernel_rfl) (bind1 fun v => by kernel_rfl) (by kernel_rfl)
theorem d_byMail : DefN Z "_law_by_mail" ["people"] (aOf (KK P) "_law_by_mail") (oN P "_law_by_mail") (fdOf (oN P "_law_by_mail")) :=
  defN_of X (by kernel_rfl) (by kernel_rfl) (by kernel_rfl) (by kernel_rfl) (by kernel_rfl) (by kernel_rfl) (by kernel_rfl) (by kernel_rfl) (by kernel_rfl) (by kernel_rfl) (by kernel_rfl) (bind1 fun v => by kernel_rfl) (by kernel_rfl)
theorem d_byNum : DefN Z "_law_by_numbers" ["people", "picks"] (aOf (KK P) "_law_by_numbers") (oN P "_law_by_numbers") (fdOf (oN P "_law_by_numbers")) :=
  defN_of X (by kernel_rfl) (by kernel_rfl) (by kernel_rfl) (by kernel_rfl) (by kernel_rfl) (by kernel_rfl) (by kernel_rfl) (by kernel_rfl) (by kernel_rfl) (by kernel_rfl) (by kernel_rfl) (bind2 fun v u => by kernel_rfl) (by kernel_rfl)
theorem d_canBe : DefN Z "_law_can_be" ["wishes"] (aOf (KK P) "_law_can_be") (oN P "_law_can_be") (fdOf (oN P "_law_can_be")) :=
  defN_of X (by kernel_rfl) (by kernel_rfl) (by kernel_rfl) (by kernel_rfl) (by kernel_rfl) (by kernel_rfl) (by kernel_rfl) (by kernel_rfl) (by kernel_rfl) (by kernel_rfl) (by kernel_rfl) (bind1 fun v => by kernel_rfl) (by kernel_rfl)

theorem facts_of {prog : Program} {w : World} (hb : ∀ x : Str, x ≠ "__name__" → Z.mb x = bootBuiltins x) : Facts Z prog w where
  range := gl_b X (by kernel_rfl) hb (by kernel_rfl) (by decide +kernel)
  len := gl_b X (by kernel_rfl) hb (by kernel_rfl) (by decide +kernel)
  set := gl_b X (by kernel_rfl) hb (by kernel_rfl) (by decide +kernel)
  sorted := gl_b X (by kernel_rfl) hb (by kernel_rfl) (by decide +kernel)
  sum := gl_b X (by kernel_rfl) hb (by kernel_rfl) (by decide +kernel)
  max := gl_b X (by kernel_rfl) hb (by kernel_rfl) (by decide +kernel)
  min := gl_b X (by kernel_rfl) hb (by kernel_rfl) (by decide +kernel)
  list := gl_b X (by kernel_rfl) hb (by kernel_rfl) (by decide +kernel)
  enum := gl_b X (by kernel_rfl) hb (by kernel_rfl) (by decide +kernel)
  eof := ⟨373, gl_of X (by kernel_rfl)⟩
  crlf := ⟨362, gl_of X (by kernel_rfl)⟩
  pat1 := patG_of X (fsOf (oN P "_twin_re_1")) (refOf ((fsOf (oN P "_twin_re_1")).getD 5 .none)) (itsOf (oOf (KK P) (refOf ((fsOf (oN P "_twin_re_1")).getD 5 .none)))) 0 (by kernel_rfl) (by kernel_rfl) (by kernel_rfl) (by kernel_rfl) (by kernel_rfl) (by kernel_rfl) (by kernel_rfl)
  pat2 := patG_of X (fsOf (oN P "_twin_re_2")) (refOf ((fsOf (oN P "_twin_re_2")).getD 5 .none)) (itsOf (oOf (KK P) (refOf ((fsOf (oN P "_twin_re_2")).getD 5 .none)))) 0 (by kernel_rfl) (by kernel_rfl) (by kernel_rfl) (by kernel_rfl) (by kernel_rfl) (by kernel_rfl) (by kernel_rfl)
  tab := by
    refine ⟨aOf (KK P) "EXACT_TOKEN_TYPES", tokD, gl_of X (by kernel_rfl), KTD.text_of_look (get := fun a => List.lookup a (KK P)) X (by kernel_rfl), fun l i h => ?_, fun l h => ?_⟩
    · unfold tokD; rw [datum_tok, h]; rfl
    · unfold tokD; rw [datum_tok, h]; rfl

theorem defs_of (hc : CodeHd Z.H0 100 Z.P) (hlq : Z.lq = (fdOf (oN P "_law_by_numbers")).qualname ++ ".<locals>." ++ "<lambda>") (hbl : Z.H0.BuiltinsAt Z.mg Z.P) (hlp : Z.lp = lamPos) : Defs Z where
  strcoll := ⟨_, _, _, d_strcoll X⟩
  strip := ⟨_, _, _, d_strip X⟩
  quote := ⟨_, _, _, d_quote X⟩
  eof := ⟨_, _, _, d_eof X⟩
  mail := ⟨_, _, _, d_mail X⟩
  read := ⟨_, _, _, d_read X⟩
  people := ⟨_, _, _, d_people X⟩
  byMail := ⟨_, _, _, d_byMail X⟩
  byNum := ⟨_, _, _, 100, d_byNum X, by kernel_rfl, hc, hlq.symm⟩
  canBe := ⟨_, _, _, d_canBe X⟩
  blt := hbl
  lp := hlp
theorem d_law : DefN Z "law" ["script"] (aOf (KK P) "law") (oN P "law") (fdOf (oN P "law")) :=
  defN_of X (by kernel_rfl) (by kernel_rfl) (by kernel_rfl) (by kernel_rfl) (by kernel_rfl) (by kernel_rfl) (by kernel_rfl) (by kernel_rfl) (by kernel_rfl) (by kernel_rfl) (by kernel_rfl) (bind1 fun v => by kernel_rfl) (by kernel_rfl)
end
end Mine

-- HO
set_option maxRecDepth 100000
namespace Mine
set_option tactic.hygienic false

theorem well_ints {P : Params} {h h' : Heap} {O : List Addr} : ∀ {ns : List Int} {vs : List Value}, WellAll P h vs (ofPys (ns.map PyData.int)) → Reps O h' vs (ns.map V.int)
  | [], vs, x => by cases x; exact .nil
  | n :: ns, vs, x => by
    cases x with
    | cons a b => cases a; exact .cons (.int _ _) (well_ints b)

noncomputable def ZZ (s₁h : Heap) (P : Params) (mg mb : Str → Option Value) (g : (ghostOf s₁h [(100, 98)]).Ns mainGlobals mg) (b : (ghostOf s₁h [(100, 98)]).Ns builtinsNs mb) (nl : (ghostOf s₁h [(100, 98)]).NoLimit) : Par where
  H0 := ghostOf s₁h [(100, 98)]
  P := 98
  lp := lamPos
  lq := (fdOf (oN P "_law_by_numbers")).qualname ++ ".<locals>." ++ "<lambda>"
  mg := mg
  mb := mb
  hP := hideAll_none _ (by simp)
  g := g
  b := b
  nolim := nl

theorem law_call {p : Program} {loose : List Str} {mean : ExcName → Option Value} {prog : Program} {w : World} {s : Shared} {mg mb : Str → Option Value} {ns : List Int} {a l : Addr} {E : Value → Shared → Prop} {Q : Value → Shared → Prop}
    (law : fLaw [.lst (ns.map V.int)] = some (.bool true)) (T : Top p loose mean mg mb s.heap) (Y : hk.says w s.heap) (W : Well w.params s.heap (.ref l) (ofPy (.list (ns.map PyData.int)))) (hm : mg ("law" : Str) = some (.ref a))
    (hQ : ∀ h' tk, (∀ b o, b ≠ 98 → s.heap.get? b = some o → h'.get? b = some o) → (∃ ps, h'.get? 98 = some (tabObj ps)) → Q (.bool true) { s with heap := h', toks := tk }) :
    wpAny (model prog w) callerA (PySem.call (.ref a) [.ref l]) Q E s := by
  have X0 : (KK w.params).In s.heap := km_in_of Y
  have h98 : s.heap.get? 98 = some (tabObj #[]) := km_tabs_of Y 98 List.mem_cons_self
  have hT : TabsAt [(100, 98)] s.heap := fun q hq => by
    rw [List.mem_singleton.mp hq]
    exact ⟨codeHd_of_K X0 (by kernel_rfl), h98⟩
  have X := ghost_K hT X0 (by kernel_rfl)
  have T' := ghost_top hT T
  have hc := (ghost_code hT).1
  let Z := ZZ s.heap w.params mg mb T'.g T'.b T'.nolimit
  have gd : Gd Z s.heap := ⟨fun b o e => of_hideAll _ e, #[], h98, trivial, fun cv q => by cases q⟩
  have hbl : Z.H0.BuiltinsAt Z.mg Z.P := by
    refine ex2 T'.bmain fun bm ob q_41 => ?_
    have e1 := q_41.1
    have e2 := q_41.2.1
    have e3 := q_41.2.2.1
    have e4 := q_41.2.2.2.1
    have e5 := q_41.2.2.2.2.1
    have e6 := q_41.2.2.2.2.2
    refine ⟨bm, ob, e1, e2, fun q => ?_, fun q => ?_, e3, e4, e5, e6⟩
    · have := X mainGlobals (oOf (KK w.params) mainGlobals) (by kernel_rfl)
      rw [q, this] at e3; obtain rfl := Option.some.inj e3; rw [show (oOf (KK w.params) mainGlobals).cls = .type "dict" by kernel_rfl] at e4; exact absurd e4 (by simp)
    · rw [q] at e3
      have : (ghostOf s.heap [(100, 98)]).get? 98 = none := Z.hP
      rw [show Z.P = 98 from rfl, this] at e3; cases e3
  have FF : Facts Z prog w := facts_of (P := w.params) X T'.builtins
  have DD : Defs Z := defs_of (P := w.params) X hc rfl hbl rfl
  refine ex3 (run_ok (Z := Z) (prog := prog) (w := w) (d_law (Z := Z) (P := w.params) X) (F2_ok (k := 0) FF DD) (fun _ _ _ _ _ _ => noXS) law) fun a' o' fd' q_50 => ?_
  have g1 := q_50.1
  have k := q_50.2.2.2
  have ea : a' = a := by
    rcases g1 with q | ⟨q, _⟩
    · have := q.symm.trans hm; cases this; rfl
    · have := q.symm.trans hm; cases this
  subst ea
  have rep : Rep [] s.heap (.ref l) (.lst (ns.map V.int)) := by
    cases W with
    | list ho hall => exact .lst (by simp) ⟨_, ho⟩ (well_ints hall)
  refine k callerA [] s Q E [.ref l] ⟨rfl, by decide +kernel, by decide +kernel⟩ gd (fun b hb => by cases hb) (.cons rep .nil) fun h' tk v x r => ?_
  cases r
  obtain ⟨ps, hps, _⟩ := x.tab'
  exact hQ h' tk (fun b o hb e => x.keep b o hb e) ⟨ps, hps⟩
theorem fin (law : ∀ ns : List Int, ns.length ≤ 63 → fLaw [.lst (ns.map V.int)] = some (.bool true)) : rw.Holds := holds0 (by
  intro w s₀ s₁ mg mb G Y a o pm cd doc dV kV ho hd hcd hD hmg hg args vals as hpre hlay hrd hwl hlo
  wrow_args hpre hlay hrd hwl hlo
  rename Well _ _ _ _ => tW
  rename ¬ _ < _ => tL
  have h98 : s₁.heap.get? 98 = some (tabObj #[]) := km_tabs_of Y 98 List.mem_cons_self
  have hT : TabsAt [(100, 98)] s₁.heap := fun q hq => by
    rw [List.mem_singleton.mp hq]
    exact ⟨codeHd_of_K (km_in_of Y) (by kernel_rfl), h98⟩
  have hct : isCodeTable s₁.heap 98 := ((hT (100, 98) List.mem_cons_self).1.tab (hT (100, 98) List.mem_cons_self).2).isCodeTable
  refine law_call (law _ (by omega)) G.T Y tW hmg fun h' tk hk' hg' => ?_
  refine Exists.elim hg' fun ps hps => ?_
  refine ⟨.inl ⟨.bool true, .bool true, [], rfl, fun _ => rfl, .bool true, by kernel_rfl, fun _ => ⟨List.nodup_nil, fun _ h => by cases h⟩⟩, ⟨fun b o e => ?_, fun b o e => ?_⟩, rfl, .of_eq hg⟩
  · by_cases hb : b = 98
    · subst hb
      rw [h98] at e
      obtain rfl := Option.some.inj e
      exact .inr (.inl ⟨hct, rfl, #[], ps, rfl, by rw [Array.empty_append]; exact hps⟩)
    · exact .inl (hk' b o hb e)
  · by_cases hb : b = 98
    · subst hb; exact ⟨_, hps⟩
    · exact ⟨o, hk' b o hb e⟩)
end Mine

-- PA
set_option maxRecDepth 10000
namespace Mine
set_option tactic.hygienic false

mutual
noncomputable def beqV : V → V → Bool
  | .none, .none => true
  | .bool a, .bool b => a == b
  | .int a, .int b => a == b
  | .str a, .str b => a == b
  | .tup a, .tup b => beqVs a b
  | .lst a, .lst b => beqVs a b
  | _, _ => false
noncomputable def beqVs : List V → List V → Bool
  | [], [] => true
  | a :: r, b :: q => beqV a b && beqVs r q
  | _, _ => false
end
mutual
theorem beqV_ok : ∀ {a b : V}, beqV a b = true → a = b
  | .none, b, h => by cases b <;> simp_all [beqV]
  | .bool x, b, h => by cases b <;> simp_all [beqV]
  | .int x, b, h => by cases b <;> simp_all [beqV]
  | .str x, b, h => by cases b <;> simp_all [beqV]
  | .tup x, b, h => by
    cases b with
    | tup y => simp only [beqV] at h; rw [beqVs_ok h]
    | _ => simp [beqV] at h
  | .lst x, b, h => by
    cases b with
    | lst y => simp only [beqV] at h; rw [beqVs_ok h]
    | _ => simp [beqV] at h
theorem beqVs_ok : ∀ {a b : List V}, beqVs a b = true → a = b
  | [], b, h => by cases b <;> simp_all [beqVs]
  | x :: r, b, h => by
    cases b with
    | nil => simp [beqVs] at h
    | cons y q => simp only [beqVs, Bool.and_eq_true] at h; rw [beqV_ok h.1, beqVs_ok h.2]
end
noncomputable def beqO : Option V → V → Bool
  | some a, b => beqV a b
  | none, _ => false
theorem beqO_ok {a : Option V} {b : V} (h : beqO a b = true) : a = some b := by
  cases a with
  | none => cases h
  | some a => rw [beqV_ok h]

structure P3 where
  w : Nat
  d : Nat
  h : Nat
  deriving Inhabited
noncomputable def rowL (p : P3) : List Nat := List.replicate p.w 32 ++ List.replicate p.d 46 ++ List.replicate (3 * p.h) 32
noncomputable def rowV (p : P3) : V := .str (rowL p)
noncomputable def numsL (p : P3) : List Int := List.replicate p.w 0 ++ List.replicate (p.d / 3) 52 ++ List.replicate (p.d % 3) 23 ++ List.replicate (3 * p.h) 0
noncomputable def numsV (p : P3) : V := .lst ((numsL p).map V.int)
noncomputable def natV (n : Nat) : V := .int n
noncomputable def allP (f : P3 → Bool) : Bool := (List.range 6).all fun w => (List.range 9).all fun d => (List.range 2).all fun h => f ⟨w, d, h⟩
structure P3.Ok (p : P3) : Prop where
  w : p.w < 6
  d : p.d < 9
  d1 : 1 ≤ p.d
  h : p.h < 2
  gone : p.h = 0 → p.w = 0
theorem allP_ok {f : P3 → Bool} (h : allP f = true) {p : P3} (w : p.w < 6) (d : p.d < 9) (hh : p.h < 2) : f p = true := by
  unfold allP at h
  simp only [List.all_eq_true, List.mem_range] at h
  exact h p.w w p.d d p.h hh
theorem read_row {p : P3} (w : p.w < 6) (d : p.d < 9) (hh : p.h < 2) : fRead [rowV p] = some (numsV p) :=
  beqO_ok (allP_ok (f := fun p => beqO (fRead [rowV p]) (numsV p)) (by decide +kernel) w d hh)
theorem strip_first {w d : Nat} (hw : w < 6) (hd : d < 9) : fStrip [rowV ⟨w, d + 1, 1⟩, .int (w + 2 : Nat)] = some (.str (List.replicate (d + 1) 46 ++ [32])) := by
  have h : (List.range 6).all (fun w => (List.range 9).all fun d => beqO (fStrip [rowV ⟨w, d + 1, 1⟩, .int (w + 2 : Nat)]) (.str (List.replicate (d + 1) 46 ++ [32]))) = true := by decide +kernel
  simp only [List.all_eq_true, List.mem_range] at h
  exact beqO_ok (h w hw d hd)
theorem strip_last {d : Nat} (hd : d < 9) : fStrip [.str (List.replicate (d + 1) 46 ++ [32]), .int 2] = some (.str (List.replicate (d + 1) 46)) := by
  have h : (List.range 9).all (fun d => beqO (fStrip [.str (List.replicate (d + 1) 46 ++ [32]), .int 2]) (.str (List.replicate (d + 1) 46))) = true := by decide +kernel
  simp only [List.all_eq_true, List.mem_range] at h
  exact beqO_ok (h d hd)
theorem strip_one {w d : Nat} (hw : w < 6) (hd : d < 9) : fStrip [rowV ⟨w + 1, d, 1⟩, .int 1] = some (rowV ⟨w, d, 1⟩) := by
  have h : (List.range 6).all (fun w => (List.range 9).all fun d => beqO (fStrip [rowV ⟨w + 1, d, 1⟩, .int 1]) (rowV ⟨w, d, 1⟩)) = true := by decide +kernel
  simp only [List.all_eq_true, List.mem_range] at h
  exact beqO_ok (h w hw d hd)
theorem eof_int (i : Int) : fEof [.int i] = some (.bool (i == 0)) := by kernel_rfl
theorem coll_str (a b : List Nat) : fStrcoll [.str a, .str b] = some (.int (b2iV (decide (b < a)) - b2iV (decide (a < b)))) := by kernel_rfl
end Mine

-- PB
set_option maxRecDepth 10000
namespace Mine
set_option tactic.hygienic false
open Builtin.Str (occurrences partsBetween strKind strSub subAt)
open StrLaws (occBody occ_eq partsFrom partsBetween_eq)

noncomputable def crAt (l : List Nat) (i : Nat) : Bool := (l.drop i).take 2 == [13, 10]
theorem subAt_cr (l : List Nat) (i : Nat) : subAt (toStr l) (toStr [13, 10]) i = crAt l i := by
  unfold subAt crAt toStr
  show (l.toArray.extract i (i + 2) == ([13, 10] : List Nat).toArray) = _
  rw [Bool.eq_iff_iff, beq_iff_eq, beq_iff_eq]
  rw [← Array.toList_inj]
  simp
theorem crAt_get {l : List Nat} {i : Nat} (h : crAt l i = true) : l.drop i = 13 :: 10 :: l.drop (i + 2) := by
  have h := eq_of_beq h
  have e := (List.take_append_drop 2 (l.drop i)).symm
  rw [h, List.drop_drop] at e
  exact e
theorem crAt_len {l : List Nat} {i : Nat} (h : crAt l i = true) : i + 2 ≤ l.length := by
  have e := congrArg List.length (crAt_get h)
  rw [List.length_drop] at e
  have e2 : 1 < l.length - i := e ▸ Nat.succ_lt_succ (Nat.succ_pos _)
  have e3 := Nat.lt_sub_iff_add_lt.mp e2
  rw [Nat.add_comm] at e3
  exact e3
theorem crAt_next {l : List Nat} {i : Nat} (h : crAt l i = true) : crAt l (i + 1) = false := by
  have e := crAt_get h
  have : l.drop (i + 1) = 10 :: l.drop (i + 2) := by
    rw [show i + 1 = i + 1 from rfl, ← List.drop_drop, e]; rfl
  unfold crAt
  rw [this, List.take_succ_cons]
  simp

theorem occ_loop (l : List Nat) (lim : Nat) : ∀ (n a : Nat) (found : Array Nat) (free : Nat), found.size + n ≤ lim → (free ≤ a ∨ (free = a + 1 ∧ crAt l a = false)) →
    (forIn (List.range' a n) (found, free) (occBody (toStr l) (toStr [13, 10]) l.length lim)).run.fst.toList = found.toList ++ (List.range' a n).filter (crAt l)
  | 0, a, found, free, _, _ => by simp
  | n + 1, a, found, free, h1, h2 => by
    rw [List.range'_succ, List.forIn_cons]
    have h2l : (toStr [13, 10]).length = 2 := rfl
    cases hc : crAt l a with
    | true =>
      have hl := crAt_len hc
      have hf : free ≤ a := by
        rcases h2 with h | ⟨_, h⟩
        · exact h
        · rw [hc] at h; exact Bool.noConfusion h
      have hb : occBody (toStr l) (toStr [13, 10]) l.length lim a (found, free) = pure (ForInStep.yield (found.push a, a + 2)) := by
        unfold occBody
        rw [subAt_cr, h2l, hc]
        exact if_pos ⟨⟨⟨Nat.lt_of_lt_of_le (Nat.lt_add_of_pos_right (Nat.succ_pos n)) h1, hf⟩, hl⟩, rfl⟩
      rw [hb]
      have := occ_loop l lim n (a + 1) (found.push a) (a + 2) (by rw [Array.size_push, Nat.add_right_comm]; exact h1) (.inr ⟨rfl, crAt_next hc⟩)
      refine Eq.trans ?_ (this.trans ?_)
      · rfl
      · simp [List.filter_cons, hc]
    | false =>
      have hb : occBody (toStr l) (toStr [13, 10]) l.length lim a (found, free) = pure (ForInStep.yield (found, free)) := by
        unfold occBody
        rw [subAt_cr, h2l, hc]
        exact if_neg (by simp)
      rw [hb]
      have := occ_loop l lim n (a + 1) found free (Nat.le_of_succ_le h1) (.inl (h2.elim Nat.le_succ_of_le fun e => Nat.le_of_eq e.1))
      refine Eq.trans ?_ (this.trans ?_)
      · rfl
      · simp [List.filter_cons, hc]

noncomputable def cutsFrom (l : List Nat) (a : Nat) : List Nat := (List.range' a (l.length + 1 - a)).filter (crAt l)
theorem occ_cuts (l : List Nat) : occurrences (toStr l) (toStr [13, 10]) 0 (toStr l).length ((toStr l).length + 1) = cutsFrom l 0 := by
  have hl : (toStr l).length = l.length := by simp [Str.length, toStr]
  rw [occ_eq, hl]
  have := occ_loop l (l.length + 1) (l.length + 1) 0 #[] 0 (by simp) (.inl (Nat.le_refl _))
  simpa [cutsFrom] using this

noncomputable def joinCR : List (List Nat) → List Nat
  | [] => []
  | [p] => p
  | p :: q :: r => p ++ 13 :: 10 :: joinCR (q :: r)

theorem sub_toStr (l : List Nat) (a b : Nat) : (strSub (toStr l) a b).cps.toList = (l.drop a).take (b - a) := by
  unfold strSub toStr; simp
theorem no13 {l : List Nat} {a i : Nat} (h : 13 ∉ l.drop a) (hi : a ≤ i) : crAt l i = false := by
  cases hc : crAt l i with
  | false => rfl
  | true =>
    have e := crAt_get hc
    exfalso
    apply h
    have : 13 ∈ l.drop i := by rw [e]; exact List.mem_cons_self
    rw [← Nat.add_sub_cancel' hi, ← List.drop_drop] at this
    exact List.mem_of_mem_drop this

theorem ar1 {a p J : Nat} : a + (p + (J + 1 + 1)) + 1 - a = p + (a + (p + (J + 1 + 1)) + 1 - (a + p + 2) + 1 + 1) := by
  have e : a + (p + (J + 1 + 1)) + 1 = a + p + 2 + (J + 1) := (Nat.add_assoc a p (J + 1 + 1 + 1)).symm.trans (Nat.add_right_comm (a + p) (J + 1) 2)
  have e2 : a + (p + (J + 1 + 1)) + 1 - a = p + (J + 1 + 1 + 1) := Nat.add_sub_cancel_left (m := p + (J + 1 + 1 + 1)) (n := a)
  rw [e2, e, Nat.add_sub_cancel_left]
theorem parts_cr (l : List Nat) : ∀ (ps : List (List Nat)) (p : List Nat) (a : Nat), (∀ q ∈ p :: ps, 13 ∉ q) → a ≤ l.length → l.drop a = joinCR (p :: ps) → (partsFrom (toStr l) 2 a (cutsFrom l a)).map (fun x => x.cps.toList) = p :: ps
  | [], p, a, hp, ha, e => by
    have e : l.drop a = p := e
    have hc : cutsFrom l a = [] := by
      unfold cutsFrom
      rw [List.filter_eq_nil_iff]
      intro i hi
      rw [no13 (a := a) (by rw [e]; exact hp p List.mem_cons_self) (List.mem_range'_1.mp hi).1]
      simp
    rw [hc]
    show [(strSub (toStr l) a (toStr l).length).cps.toList] = [p]
    rw [sub_toStr, show (toStr l).length = l.length by simp [Str.length, toStr], List.take_of_length_le (by simp), e]
  | q :: r, p, a, hp, ha, e => by
    have e : l.drop a = p ++ 13 :: 10 :: joinCR (q :: r) := e
    have hlen : l.length = a + (p.length + ((joinCR (q :: r)).length + 1 + 1)) := by
      have := congrArg List.length e
      rw [List.length_drop, List.length_append] at this
      exact (Nat.add_sub_cancel' ha).symm.trans (congrArg (a + ·) this)
    have d1 : l.drop (a + p.length) = 13 :: 10 :: joinCR (q :: r) := by rw [← List.drop_drop, e, List.drop_left]
    have d2 : l.drop (a + p.length + 2) = joinCR (q :: r) := by rw [← List.drop_drop, d1]; rfl
    have hc : crAt l (a + p.length) = true := by unfold crAt; rw [d1]; rfl
    have e2 : cutsFrom l a = (a + p.length) :: cutsFrom l (a + p.length + 2) := by
      unfold cutsFrom
      rw [show l.length + 1 - a = p.length + (l.length + 1 - (a + p.length + 2) + 1 + 1) from hlen ▸ ar1, ← List.range'_append_1, List.filter_append]
      have h0 : (List.range' a p.length).filter (crAt l) = [] := by
        rw [List.filter_eq_nil_iff]
        intro i hi
        have hi := List.mem_range'_1.mp hi
        intro hci
        have := crAt_get hci
        have hil : i - a < p.length := Nat.sub_lt_left_of_lt_add hi.1 hi.2
        have e3 : l.drop i = p.drop (i - a) ++ 13 :: 10 :: joinCR (q :: r) := by
          rw [← List.drop_append_of_le_length (Nat.le_of_lt hil), ← e, List.drop_drop, Nat.add_sub_cancel' hi.1]
        have hne : p.drop (i - a) ≠ [] := fun h => Nat.not_le.mpr hil (List.drop_eq_nil_iff.mp h)
        obtain ⟨y, ys, hy⟩ := List.exists_cons_of_ne_nil hne
        rw [e3, hy] at this
        injection this with this _
        have hm : y ∈ p := List.mem_of_mem_drop (i := i - a) (by rw [hy]; exact List.mem_cons_self)
        rw [this] at hm
        exact hp p List.mem_cons_self hm
      rw [h0, List.nil_append, List.range'_succ, List.range'_succ, List.filter_cons, hc, if_pos rfl, List.filter_cons, crAt_next hc]
      rfl
    rw [e2]
    show (strSub (toStr l) a (a + p.length)).cps.toList :: (partsFrom (toStr l) 2 (a + p.length + 2) (cutsFrom l (a + p.length + 2))).map (fun x => x.cps.toList) = p :: q :: r
    rw [parts_cr l r q (a + p.length + 2) (fun x hx => hp x (List.mem_cons_of_mem _ hx)) (by rw [hlen, ← Nat.add_assoc]; exact Nat.add_le_add_left (Nat.le_add_left 2 _) _) d2, sub_toStr, e, Nat.add_sub_cancel_left, List.take_left]

theorem cps_len (l : List Nat) : (toStr l).length = l.length := by simp [Str.length, toStr]
theorem split_cr {ps : List (List Nat)} {p : List Nat} (hp : ∀ q ∈ p :: ps, 13 ∉ q) : splitP (joinCR (p :: ps)) [13, 10] = p :: ps := by
  have key := parts_cr (joinCR (p :: ps)) ps p 0 hp (Nat.zero_le _) rfl
  unfold splitP
  have e : Txt.split (toStr (joinCR (p :: ps))) (toStr [13, 10]) = partsFrom (toStr (joinCR (p :: ps))) 2 0 (cutsFrom (joinCR (p :: ps)) 0) := by
    generalize joinCR (p :: ps) = l
    unfold Txt.split
    rw [occ_cuts, partsBetween_eq]
    have hone : cutsFrom l 0 = [] → [toStr l] = partsFrom (toStr l) 2 0 (cutsFrom l 0) := fun h => by
      rw [h]
      show [toStr l] = [strSub (toStr l) 0 (toStr l).length]
      congr 1
      unfold strSub
      rw [cps_len]
      unfold toStr
      simp
    split
    · rename_i h
      refine hone ?_
      simp only [Bool.or_eq_true, decide_eq_true_eq] at h
      rcases h with h | h
      · rw [cps_len, cps_len] at h
        unfold cutsFrom
        rw [List.filter_eq_nil_iff]
        intro i _ hi
        have := crAt_len hi
        have h : l.length < 2 := h
        grind
      · exfalso
        have h1 : Builtin.Str.strKind (toStr [13, 10]) = 1 := by decide +kernel
        rw [h1] at h
        unfold Builtin.Str.strKind at h
        split at h
        · grind
        · split at h <;> grind
    · split
      · rename_i h
        exact hone (List.isEmpty_iff.mp h)
      · rfl
  rw [e, key]
theorem splitOK_cr {ps : List (List Nat)} {p : List Nat} (hp : ∀ q ∈ p :: ps, 13 ∉ q) (h1 : (joinCR (p :: ps)).length ≤ 100000) (h2 : (p :: ps).length ≤ 100000) : splitOKB (joinCR (p :: ps)) [13, 10] = true := by
  have key := parts_cr (joinCR (p :: ps)) ps p 0 hp (Nat.zero_le _) rfl
  unfold splitOKB
  rw [occ_cuts, partsBetween_eq]
  have h3 := congrArg List.length key
  rw [List.length_map] at h3
  simp only [Bool.and_eq_true, decide_eq_true_eq]
  refine ⟨⟨h1, rfl⟩, ?_⟩
  rw [show (toStr [13, 10]).length = 2 from rfl, h3]
  exact h2
end Mine

-- PC
set_option maxRecDepth 10000
namespace Mine
set_option tactic.hygienic false

noncomputable def nlS : List Nat → List Nat
  | [] => []
  | 13 :: 10 :: r => 13 :: 10 :: nlS r
  | c :: r => if isNl c then 13 :: 10 :: nlS r else c :: nlS r
noncomputable def dotS : Bool → List Nat → List Nat
  | _, [] => []
  | b, c :: r => if b && c == 46 then 46 :: 46 :: dotS false r else c :: dotS (c == 10) r
theorem nlS_plain {c : Nat} {r : List Nat} (h : isNl c = false) : nlS (c :: r) = c :: nlS r := by
  unfold isNl at h
  simp only [Bool.or_eq_false_iff, beq_eq_false_iff_ne] at h
  rw [nlS]
  · unfold isNl; simp [h.1, h.2]
  · intro r' e; exact absurd e h.2
theorem nlS_crlf (r : List Nat) : nlS (13 :: 10 :: r) = 13 :: 10 :: nlS r := by rw [nlS]
theorem nlS_nl {c : Nat} {r : List Nat} (h : isNl c = true) (hn : ¬ (c = 13 ∧ ∃ r', r = 10 :: r')) : nlS (c :: r) = 13 :: 10 :: nlS r := by
  rw [nlS]
  · rw [h]; rfl
  · intro r' e1 e2; exact hn ⟨e1, r', e2⟩

theorem drop_at {l : List Nat} {s : Nat} (h : s < l.length) : l.drop s = l.toArray.getD s 0 :: l.drop (s + 1) := by
  rw [List.drop_eq_getElem_cons h]
  congr 1
  simp [Array.getD, h]
theorem mid_cons {l : List Nat} {s p : Nat} (h : s < p) (hp : p ≤ l.length) : (l.take p).drop s = l.toArray.getD s 0 :: (l.take p).drop (s + 1) := by
  have hs : s < (l.take p).length := by simp; grind
  rw [List.drop_eq_getElem_cons hs]
  congr 1
  have : s < l.length := by grind
  simp [Array.getD, this]
theorem mid_nil {l : List Nat} {s : Nat} : (l.take s).drop s = [] := List.drop_of_length_le (by simp; grind)

theorem scan2 (l : List Nat) : ∀ (n s : Nat), s + n = l.length → match nextNl l.toArray n s with
    | none => nlS (l.drop s) = l.drop s
    | some p => s ≤ p ∧ p < l.length ∧ nlS (l.drop s) = (l.take p).drop s ++ 13 :: 10 :: nlS (l.drop (nlEnd l.toArray l.length p))
  | 0, s, h => by
    show nlS (l.drop s) = l.drop s
    rw [List.drop_of_length_le (by grind)]; rfl
  | n + 1, s, h => by
    have hs : s < l.length := by grind
    unfold nextNl
    cases hc : isNl (l.toArray.getD s 0) with
    | true =>
      simp only [if_true]
      refine ⟨Nat.le_refl _, hs, ?_⟩
      rw [mid_nil, List.nil_append, drop_at hs]
      unfold nlEnd
      split
      · rename_i q
        obtain ⟨q1, q2, q3⟩ := q
        rw [q1, drop_at q2, q3, nlS_crlf]
      · rename_i q
        rw [nlS_nl hc]
        rintro ⟨e1, r', e2⟩
        refine q ⟨e1, ?_, ?_⟩
        · have := congrArg List.length e2
          simp at this; grind
        · have hs1 : s + 1 < l.length := by have := congrArg List.length e2; simp at this; grind
          rw [drop_at hs1] at e2
          injection e2
    | false =>
      have ih := scan2 l n (s + 1) (by grind)
      simp only [Bool.false_eq_true, if_false]
      cases hn : nextNl l.toArray n (s + 1) with
      | none =>
        rw [hn] at ih
        show nlS (l.drop s) = l.drop s
        rw [drop_at hs, nlS_plain hc, ih]
      | some p =>
        rw [hn] at ih
        obtain ⟨h1, h2, h3⟩ := ih
        refine ⟨by grind, h2, ?_⟩
        rw [drop_at hs, nlS_plain hc, h3, mid_cons (l := l) (s := s) (p := p) (by grind) (by grind)]
        rfl
theorem scan1 (l : List Nat) : ∀ (n s : Nat), s + n = l.length → match nextDot l.toArray n s with
    | none => dotS (bol l.toArray s) (l.drop s) = l.drop s
    | some p => s ≤ p ∧ p < l.length ∧ dotS (bol l.toArray s) (l.drop s) = (l.take p).drop s ++ 46 :: 46 :: dotS (bol l.toArray (p + 1)) (l.drop (p + 1))
  | 0, s, h => by
    show dotS _ (l.drop s) = l.drop s
    rw [List.drop_of_length_le (by grind)]; rfl
  | n + 1, s, h => by
    have hs : s < l.length := by grind
    have hb : bol l.toArray (s + 1) = (l.toArray.getD s 0 == 10) := by unfold bol; simp
    unfold nextDot dotAt
    cases hc : (bol l.toArray s && l.toArray.getD s 0 == 46) with
    | true =>
      simp only [if_true]
      refine ⟨Nat.le_refl _, hs, ?_⟩
      simp only [Bool.and_eq_true] at hc
      have h46 := eq_of_beq hc.2
      rw [mid_nil, List.nil_append, drop_at hs, hb, h46, hc.1]
      rfl
    | false =>
      have ih := scan1 l n (s + 1) (by grind)
      simp only [Bool.false_eq_true, if_false]
      have step : dotS (bol l.toArray s) (l.drop s) = l.toArray.getD s 0 :: dotS (bol l.toArray (s + 1)) (l.drop (s + 1)) := by
        rw [drop_at hs, hb, dotS, hc]; rfl
      cases hn : nextDot l.toArray n (s + 1) with
      | none =>
        rw [hn] at ih
        show dotS _ (l.drop s) = l.drop s
        rw [step, ih, ← drop_at hs]
      | some p =>
        rw [hn] at ih
        obtain ⟨h1, h2, h3⟩ := ih
        refine ⟨by grind, h2, ?_⟩
        rw [step, h3, mid_cons (l := l) (s := s) (p := p) (by grind) (by grind)]
        rfl

theorem pieces2 (l : List Nat) : ∀ (f s : Nat), s ≤ l.length → l.length < f + s → (piecesOf (next2 l) [13, 10] l f s).flatten = nlS (l.drop s)
  | 0, s, h1, h2 => by grind
  | f + 1, s, h1, h2 => by
    have key := scan2 l (l.length - s) s (by grind)
    unfold piecesOf
    cases hn : nextNl l.toArray (l.length - s) s with
    | none =>
      rw [hn] at key
      have e : next2 l s = none := by unfold next2; rw [hn]; rfl
      rw [e]
      show (if s < l.length then [l.drop s] else []).flatten = _
      rw [key]
      split
      · simp
      · rw [List.drop_of_length_le (by grind)]; rfl
    | some p =>
      rw [hn] at key
      obtain ⟨k1, k2, k3⟩ := key
      have e : next2 l s = some (p, nlEnd l.toArray l.length p) := by unfold next2; rw [hn]; rfl
      have hle : nlEnd l.toArray l.length p ≤ l.length ∧ s < nlEnd l.toArray l.length p := by
        unfold nlEnd; split <;> grind
      rw [e]
      show ((if s < p then [(l.take p).drop s] else []) ++ [13, 10] :: piecesOf (next2 l) [13, 10] l f (nlEnd l.toArray l.length p)).flatten = _
      rw [List.flatten_append, List.flatten_cons, pieces2 l f _ hle.1 (by grind), k3]
      congr 1
      split
      · simp
      · rw [show p = s by grind, mid_nil]; rfl
theorem pieces1 (l : List Nat) : ∀ (f s : Nat), s ≤ l.length → l.length < f + s → (piecesOf (next1 l) [46, 46] l f s).flatten = dotS (bol l.toArray s) (l.drop s)
  | 0, s, h1, h2 => by grind
  | f + 1, s, h1, h2 => by
    have key := scan1 l (l.length - s) s (by grind)
    unfold piecesOf
    cases hn : nextDot l.toArray (l.length - s) s with
    | none =>
      rw [hn] at key
      have e : next1 l s = none := by unfold next1; rw [hn]; rfl
      rw [e]
      show (if s < l.length then [l.drop s] else []).flatten = _
      rw [key]
      split
      · simp
      · rw [List.drop_of_length_le (by grind)]; rfl
    | some p =>
      rw [hn] at key
      obtain ⟨k1, k2, k3⟩ := key
      have e : next1 l s = some (p, p + 1) := by unfold next1; rw [hn]; rfl
      rw [e]
      show ((if s < p then [(l.take p).drop s] else []) ++ [46, 46] :: piecesOf (next1 l) [46, 46] l f (p + 1)).flatten = _
      rw [List.flatten_append, List.flatten_cons, pieces1 l f _ (by grind) (by grind), k3]
      congr 1
      split
      · simp
      · rw [show p = s by grind, mid_nil]; rfl
theorem subAll_nl (l : List Nat) : subAll false [13, 10] l = nlS l := by
  have := pieces2 l (l.length + 1) 0 (Nat.zero_le _) (by grind)
  rw [List.drop_zero] at this
  exact this
theorem subAll_dot (l : List Nat) : subAll true [46, 46] l = dotS true l := by
  have := pieces1 l (l.length + 1) 0 (Nat.zero_le _) (by grind)
  rw [List.drop_zero] at this
  exact this

noncomputable def Plain (r : List Nat) : Prop := ∀ c ∈ r, c = 32 ∨ c = 46
theorem nlS_app : ∀ {x : List Nat} (y : List Nat), Plain x → nlS (x ++ y) = x ++ nlS y
  | [], y, _ => rfl
  | c :: x, y, h => by
    have hc : isNl c = false := by rcases h c List.mem_cons_self with e | e <;> subst e <;> rfl
    rw [List.cons_append, nlS_plain hc, nlS_app y fun d hd => h d (List.mem_cons_of_mem _ hd)]; rfl
noncomputable def IsEnd (e : List Nat) : Prop := e = [10] ∨ e = [13] ∨ e = [13, 10]
theorem nlS_end {e x : List Nat} (he : IsEnd e) (hx : e = [13] → ∀ r, x ≠ 10 :: r) : nlS (e ++ x) = 13 :: 10 :: nlS x := by
  rcases he with rfl | rfl | rfl
  · exact nlS_nl rfl (by rintro ⟨e, _⟩; cases e)
  · exact nlS_nl rfl (by rintro ⟨_, r, e⟩; exact hx rfl r e)
  · exact nlS_crlf x
noncomputable def tailM (en : Nat → List Nat) : Nat → List (List Nat) → List Nat
  | _, [] => []
  | k, r :: rs => en k ++ (r ++ tailM en (k + 1) rs)
noncomputable def tailJ : List (List Nat) → List Nat
  | [] => []
  | r :: rs => 13 :: 10 :: (r ++ tailJ rs)
theorem joinCR_tail (p : List Nat) : ∀ rs, joinCR (p :: rs) = p ++ tailJ rs
  | [] => by simp [joinCR, tailJ]
  | q :: rs => by rw [joinCR, joinCR_tail q rs]; rfl
theorem nlS_tail {en : Nat → List Nat} (he : ∀ k, IsEnd (en k)) : ∀ (rs : List (List Nat)) (k : Nat), (∀ r ∈ rs, Plain r ∧ r ≠ []) → nlS (tailM en k rs) = tailJ rs
  | [], _, _ => rfl
  | r :: rs, k, h => by
    obtain ⟨h1, h2⟩ := h r List.mem_cons_self
    unfold tailM tailJ
    rw [nlS_end (he k), nlS_app _ h1, nlS_tail he rs (k + 1) fun q hq => h q (List.mem_cons_of_mem _ hq)]
    intro _ x e
    obtain ⟨c, cs, rfl⟩ := List.exists_cons_of_ne_nil h2
    injection e with e _
    rcases h1 c List.mem_cons_self with q | q <;> rw [q] at e <;> cases e
noncomputable def mailL (en : Nat → List Nat) (p : List Nat) (rs : List (List Nat)) : List Nat := p ++ (en 1 ++ tailM en 1 rs)
theorem nlS_mail {en : Nat → List Nat} (he : ∀ k, IsEnd (en k)) {p r : List Nat} {rs : List (List Nat)} (hp : Plain p) (h : ∀ q ∈ r :: rs, Plain q ∧ q ≠ []) : nlS (mailL en p (r :: rs)) = joinCR (p :: [] :: r :: rs) := by
  unfold mailL
  rw [nlS_app _ hp, nlS_end (he 1), nlS_tail he _ 1 h, joinCR_tail]
  · rfl
  · intro h1 x e
    unfold tailM at e
    rw [h1] at e
    injection e with e _
    cases e
noncomputable def dotRow (p : List Nat) : List Nat := if p.head? = some 46 then 46 :: p else p
theorem dotS_false : ∀ {x : List Nat} (y : List Nat), Plain x → dotS false (x ++ y) = x ++ dotS false y
  | [], y, _ => rfl
  | c :: x, y, h => by
    have hc : (c == 10) = false := by rcases h c List.mem_cons_self with e | e <;> subst e <;> rfl
    rw [List.cons_append, dotS, hc, dotS_false y fun d hd => h d (List.mem_cons_of_mem _ hd)]; rfl
theorem dotS_true {x : List Nat} (hx : Plain x) (y : List Nat) (hy : y = [] ∨ ∃ r, y = 13 :: r) : dotS true (x ++ y) = dotRow x ++ dotS false y := by
  cases x with
  | nil => rcases hy with rfl | ⟨r, rfl⟩ <;> rfl
  | cons c x =>
    have hx' : Plain x := fun d hd => hx d (List.mem_cons_of_mem _ hd)
    rcases hx c List.mem_cons_self with e | e
    · subst e
      show 32 :: dotS false (x ++ y) = 32 :: x ++ dotS false y
      rw [dotS_false y hx']; rfl
    · subst e
      show 46 :: 46 :: dotS false (x ++ y) = 46 :: 46 :: x ++ dotS false y
      rw [dotS_false y hx']; rfl
theorem dotS_tail : ∀ (rs : List (List Nat)), (∀ r ∈ rs, Plain r) → dotS false (tailJ rs) = tailJ (rs.map dotRow)
  | [], _ => rfl
  | r :: rs, h => by
    show 13 :: 10 :: dotS true (r ++ tailJ rs) = 13 :: 10 :: (dotRow r ++ tailJ (rs.map dotRow))
    rw [dotS_true (h r List.mem_cons_self), dotS_tail rs fun q hq => h q (List.mem_cons_of_mem _ hq)]
    cases rs with
    | nil => exact .inl rfl
    | cons q rs => exact .inr ⟨_, rfl⟩
theorem dotS_join (p : List Nat) (rs : List (List Nat)) (h : ∀ r ∈ p :: rs, Plain r) : dotS true (joinCR (p :: rs)) = joinCR ((p :: rs).map dotRow) := by
  rw [List.map_cons, joinCR_tail, joinCR_tail, dotS_true (h p List.mem_cons_self), dotS_tail rs fun q hq => h q (List.mem_cons_of_mem _ hq)]
  cases rs with
  | nil => exact .inl rfl
  | cons q rs => exact .inr ⟨_, rfl⟩
theorem tailJ_len : ∀ (rs : List (List Nat)), (∀ r ∈ rs, r.length ≤ 30) → (tailJ rs).length ≤ 32 * rs.length
  | [], _ => Nat.zero_le _
  | r :: rs, h => by
    have h1 := tailJ_len rs fun q hq => h q (List.mem_cons_of_mem _ hq)
    have h2 := h r List.mem_cons_self
    simp only [tailJ, List.length_cons, List.length_append]; grind
theorem tailM_len {en : Nat → List Nat} (he : ∀ k, IsEnd (en k)) : ∀ (rs : List (List Nat)) (k : Nat), (∀ r ∈ rs, r.length ≤ 30) → (tailM en k rs).length ≤ 32 * rs.length
  | [], _, _ => Nat.zero_le _
  | r :: rs, k, h => by
    have h1 := tailM_len he rs (k + 1) fun q hq => h q (List.mem_cons_of_mem _ hq)
    have h2 := h r List.mem_cons_self
    have h3 : (en k).length ≤ 2 := by rcases he k with e | e | e <;> rw [e] <;> decide
    simp only [tailM, List.length_cons, List.length_append]; grind
theorem dotRow_len {p : List Nat} (h : p.length ≤ 20) : (dotRow p).length ≤ 30 := by
  unfold dotRow
  split
  · simp only [List.length_cons]; grind
  · grind
theorem dotRow_plain {p : List Nat} (h : Plain p) : Plain (dotRow p) := by
  unfold dotRow
  split
  · intro c hc
    rcases List.mem_cons.mp hc with e | e
    · exact .inr e
    · exact h c e
  · exact h
theorem plain13 {p : List Nat} (h : Plain p) : 13 ∉ p := fun hm => by rcases h 13 hm with e | e <;> cases e

theorem mail_came {en : Nat → List Nat} (he : ∀ k, IsEnd (en k)) {p r : List Nat} {rs : List (List Nat)} (hn : rs.length ≤ 10) (h : ∀ q ∈ p :: r :: rs, Plain q ∧ q ≠ [] ∧ q.length ≤ 20) :
    subOKB false [13, 10] (mailL en p (r :: rs)) = true ∧ subOKB true [46, 46] (subAll false [13, 10] (mailL en p (r :: rs))) = true ∧
      splitOKB (subAll true [46, 46] (subAll false [13, 10] (mailL en p (r :: rs)))) [13, 10] = true ∧
      splitP (subAll true [46, 46] (subAll false [13, 10] (mailL en p (r :: rs)))) [13, 10] = dotRow p :: [] :: (r :: rs).map dotRow := by
  have hp := h p List.mem_cons_self
  have hr : ∀ q ∈ r :: rs, Plain q ∧ q ≠ [] := fun q hq => ⟨(h q (List.mem_cons_of_mem _ hq)).1, (h q (List.mem_cons_of_mem _ hq)).2.1⟩
  have e1 : subAll false [13, 10] (mailL en p (r :: rs)) = joinCR (p :: [] :: r :: rs) := by rw [subAll_nl, nlS_mail he hp.1 hr]
  have pl : ∀ q ∈ p :: [] :: r :: rs, Plain q := fun q hq => by
    rcases List.mem_cons.mp hq with e | hq
    · rw [e]; exact hp.1
    · rcases List.mem_cons.mp hq with e | hq
      · rw [e]; intro c hc; cases hc
      · exact (hr q hq).1
  have e2 : subAll true [46, 46] (joinCR (p :: [] :: r :: rs)) = joinCR (dotRow p :: [] :: (r :: rs).map dotRow) := by rw [subAll_dot, dotS_join p _ pl]; rfl
  have pl2 : ∀ q ∈ dotRow p :: [] :: (r :: rs).map dotRow, 13 ∉ q := fun q hq => by
    rcases List.mem_cons.mp hq with e | hq
    · rw [e]; exact plain13 (dotRow_plain hp.1)
    · rcases List.mem_cons.mp hq with e | hq
      · rw [e]; simp
      · obtain ⟨x, hx, rfl⟩ := List.mem_map.mp hq
        exact plain13 (dotRow_plain (hr x hx).1)
  have l0 : (mailL en p (r :: rs)).length ≤ 1000 := by
    have h1 := tailM_len he (r :: rs) 1 fun q hq => by have := (h q (List.mem_cons_of_mem _ hq)).2.2; grind
    have h3 : (en 1).length ≤ 2 := by rcases he 1 with e | e | e <;> rw [e] <;> decide
    have h2 := hp.2.2
    unfold mailL
    simp only [List.length_append, List.length_cons] at h1 ⊢
    grind
  have l1 : (joinCR (p :: [] :: r :: rs)).length ≤ 1000 := by
    have h1 := tailJ_len ([] :: r :: rs) fun q hq => by
      rcases List.mem_cons.mp hq with e | hq
      · rw [e]; simp
      · have := (h q (List.mem_cons_of_mem _ hq)).2.2; grind
    have h2 := hp.2.2
    rw [joinCR_tail]
    simp only [List.length_append, List.length_cons] at h1 ⊢
    grind
  have l2 : (joinCR (dotRow p :: [] :: (r :: rs).map dotRow)).length ≤ 1000 := by
    have h1 := tailJ_len ([] :: (r :: rs).map dotRow) fun q hq => by
      rcases List.mem_cons.mp hq with e | hq
      · rw [e]; simp
      · obtain ⟨x, hx, rfl⟩ := List.mem_map.mp hq
        exact dotRow_len (h x (List.mem_cons_of_mem _ hx)).2.2
    have h2 := dotRow_len hp.2.2
    rw [joinCR_tail]
    simp only [List.length_append, List.length_cons, List.length_map] at h1 ⊢
    grind
  refine ⟨?_, ?_, ?_, ?_⟩
  · unfold subOKB
    rw [e1]
    simp only [Bool.and_eq_true, decide_eq_true_eq]
    exact ⟨⟨by grind, rfl⟩, by grind⟩
  · rw [e1]
    unfold subOKB
    rw [e2]
    simp only [Bool.and_eq_true, decide_eq_true_eq]
    exact ⟨⟨by grind, rfl⟩, by grind⟩
  · rw [e1, e2]
    exact splitOK_cr pl2 (by grind) (by simp; grind)
  · rw [e1, e2]
    exact split_cr pl2
end Mine

-- PD
set_option maxRecDepth 10000
namespace Mine
set_option tactic.hygienic false

theorem lt4 {k : Nat} (h : k < 4) : k = 0 ∨ k = 1 ∨ k = 2 ∨ k = 3 := (by decide : ∀ k, k < 4 → k = 0 ∨ k = 1 ∨ k = 2 ∨ k = 3) k h
theorem lt5 {k : Nat} (h : k < 5) : k = 0 ∨ k = 1 ∨ k = 2 ∨ k = 3 ∨ k = 4 := (by decide : ∀ k, k < 5 → k = 0 ∨ k = 1 ∨ k = 2 ∨ k = 3 ∨ k = 4) k h
theorem lt13 {k : Nat} (h : 1 ≤ k ∧ k < 4) : k = 1 ∨ k = 2 ∨ k = 3 := (by decide : ∀ k, k < 4 → 1 ≤ k → k = 1 ∨ k = 2 ∨ k = 3) k h.2 h.1
theorem lt14 {k : Nat} (h : 1 ≤ k ∧ k < 5) : k = 1 ∨ k = 2 ∨ k = 3 ∨ k = 4 := (by decide : ∀ k, k < 5 → 1 ≤ k → k = 1 ∨ k = 2 ∨ k = 3 ∨ k = 4) k h.2 h.1
noncomputable def S (f : Str) (i : Nat) : Stmt := (bodyOf f).getD i default
set_option backward.match.sparseCases false in
noncomputable def forB : Stmt → List Stmt
  | .For _ _ b _ _ => b
  | .While _ b _ _ => b
  | .If _ b _ _ => b
  | _ => []
noncomputable def FB (f : Str) (i j : Nat) : Stmt := (forB (S f i)).getD j default

theorem run_eq {F : Str → List V → Option V} {XS : Evl → Nm → Xs} {mu : List Str} {name : Str} {params : List Str} {ds : List V} {st' : SS} {d : V} (hl : ds.length = params.length)
    (h : blk (XS (evF F) (scOf name)) (evF F) 1000 mu (scOf name) 20 (bodyOf name) ⟨[], params.zip ds⟩ = some (st', some d)) : runF F XS mu name params ds = some d := by
  unfold runF
  rw [if_pos hl, h]
theorem seq_next {f : Stmt → SS → Res} {s : Stmt} {r : List Stmt} {st st' : SS} {R : Res} (h : f s st = some (st', none)) (h2 : seqB f r st' = R) : seqB f (s :: r) st = R := by
  rw [seqB, h]; exact h2
theorem seq_ret {f : Stmt → SS → Res} {s : Stmt} {r : List Stmt} {st st' : SS} {d : V} (h : f s st = some (st', some d)) : seqB f (s :: r) st = some (st', some d) := by
  rw [seqB, h]
theorem forL_cons {sc : Nm} {x : Str} {live : List Str} {K : Blk} {b : List Stmt} {d : V} {r : List V} {st c st1 c' : SS} {R : Res} (h1 : nrm live ⟨less x st.own, put x d st.ρ⟩ = c) (h2 : K b c = some (st1, none)) (h3 : nrm live st1 = c')
    (h4 : forL sc x (nrmK live K b) r c' = R) : forL sc x (nrmK live K b) (d :: r) st = R := by
  rw [forL]
  have : nrmK live K b ⟨less x st.own, put x d st.ρ⟩ = some (c', none) := by unfold nrmK; rw [h1, h2, ← h3]
  rw [this]; exact h4
theorem forL_ret {sc : Nm} {x : Str} {live : List Str} {K : Blk} {b : List Stmt} {d v : V} {r : List V} {st c st1 : SS} (h1 : nrm live ⟨less x st.own, put x d st.ρ⟩ = c) (h2 : K b c = some (st1, some v)) :
    forL sc x (nrmK live K b) (d :: r) st = some (nrm live st1, some v) := by
  rw [forL]
  have : nrmK live K b ⟨less x st.own, put x d st.ρ⟩ = some (nrm live st1, some v) := by unfold nrmK; rw [h1, h2]
  rw [this]
theorem mkS_ok {l : List Nat} (h : l.length ≤ 100000) : mkS l = some (.str l) := if_pos h
theorem mkL_ok {l : List V} (h : l.length ≤ 100000) : mkL l = some (.lst l) := if_pos h
theorem overE_map {f : V → Option (List V)} {g : V → List V} : ∀ {l : List V}, (∀ d ∈ l, f d = some (g d)) → overE f l = some (l.flatMap g)
  | [], _ => rfl
  | d :: l, h => by
    rw [overE, h d List.mem_cons_self, overE_map fun x hx => h x (List.mem_cons_of_mem _ hx)]
    rfl

noncomputable def endsL : List (List Nat) := [[10], [13], [13, 10]]
noncomputable def en (t k : Nat) : List Nat := endsL.getD ((t + k) % 3) [10]
theorem en_is (t k : Nat) : IsEnd (en t k) := by
  have h : (t + k) % 3 = 0 ∨ (t + k) % 3 = 1 ∨ (t + k) % 3 = 2 := by grind
  unfold en
  rcases h with h | h | h <;> rw [h]
  · exact .inl rfl
  · exact .inr (.inl rfl)
  · exact .inr (.inr rfl)
noncomputable abbrev XSm : Xs := xsFor (evF F0) 1000 [] (scOf "_law_mail") liveMail
noncomputable abbrev fm (n : Nat) : Stmt → SS → Res := stepX XSm (evF F0) (blk XSm (evF F0) 1000 [] (scOf "_law_mail") n) 1000 [] (scOf "_law_mail")
noncomputable def endsV : V := .lst (endsL.map V.str)
noncomputable def mst0 (m : List Nat) (rows : List V) (t : Nat) : SS := ⟨[], [("mail", .str m), ("ends", endsV), ("rows", .lst rows), ("turn", .int t)]⟩
noncomputable def mst (m : List Nat) (k : Nat) (rows : List V) (t : Nat) : SS := ⟨[], [("mail", .str m), ("k", .int k), ("ends", endsV), ("rows", .lst rows), ("turn", .int t)]⟩

noncomputable def Idx (n : Nat) (rows : List (List Nat)) (t k : Nat) : Prop :=
  ∀ m, fm 18 (FB "_law_mail" 2 0) (mst m k (rows.map V.str) t) = (match some (V.str m), mkS (en t k ++ rows.getD k []) with
    | some a, some b => (iop .Add a b).map fun d => (⟨[], put "mail" d (mst m k (rows.map V.str) t).ρ⟩, none)
    | _, _ => none)
theorem idx4 (a b c d : List Nat) {t k : Nat} (ht : t < 5) (hk : 1 ≤ k ∧ k < 4) : Idx 4 [a, b, c, d] t k := by
  intro m
  rcases (lt5 ht) with rfl | rfl | rfl | rfl | rfl <;>
  rcases (lt13 hk) with rfl | rfl | rfl <;> kernel_rfl
theorem idx5 (a b c d e : List Nat) {t k : Nat} (ht : t < 5) (hk : 1 ≤ k ∧ k < 5) : Idx 5 [a, b, c, d, e] t k := by
  intro m
  rcases (lt5 ht) with rfl | rfl | rfl | rfl | rfl <;>
  rcases (lt14 hk) with rfl | rfl | rfl | rfl <;> kernel_rfl
theorem mail_turn {rows : List (List Nat)} {t k : Nat} {n : Nat} (h : Idx n rows t k) {m : List Nat} (h1 : (rows.getD k []).length ≤ 20) (h2 : m.length ≤ 1000) :
    blk XSm (evF F0) 1000 [] (scOf "_law_mail") 19 (forB (S "_law_mail" 2)) (mst m k (rows.map V.str) t) = some (mst (m ++ (en t k ++ rows.getD k [])) k (rows.map V.str) t, none) := by
  show seqB (fm 18) [FB "_law_mail" 2 0] _ = _
  have he : (en t k).length ≤ 2 := by rcases en_is t k with e | e | e <;> rw [e] <;> decide
  refine seq_next (st' := mst (m ++ (en t k ++ rows.getD k [])) k (rows.map V.str) t) ?_ rfl
  rw [h m, mkS_ok (by simp only [List.length_append]; grind)]
  show (mkS (m ++ (en t k ++ rows.getD k []))).map _ = _
  rw [mkS_ok (by simp only [List.length_append]; grind)]
  kernel_rfl
noncomputable abbrev mloop (items : List V) (st : SS) : Res := forL (scOf "_law_mail") "k" (nrmK (liveMail "k") (blk XSm (evF F0) 1000 [] (scOf "_law_mail") 19) (forB (S "_law_mail" 2))) items st

theorem mail4 (a b c d : List Nat) {t : Nat} (ht : t < 5) (ha : a.length ≤ 20) (hb : b.length ≤ 20) (hc : c.length ≤ 20) (hd : d.length ≤ 20) :
    fMail [.lst ([a, b, c, d].map V.str), .int t] = some (.str (mailL (en t) a [b, c, d])) := by
  have he : ∀ k, (en t k).length ≤ 2 := fun k => by rcases en_is t k with e | e | e <;> rw [e] <;> decide
  refine run_eq (st' := mst (((a ++ en t 1) ++ (en t 1 ++ b)) ++ (en t 2 ++ c) ++ (en t 3 ++ d)) 3 ([a, b, c, d].map V.str) t) rfl ?_
  show seqB (fm 19) [S "_law_mail" 0, S "_law_mail" 1, S "_law_mail" 2, S "_law_mail" 3] _ = _
  refine seq_next (st' := ⟨[], [("ends", endsV), ("rows", .lst ([a, b, c, d].map V.str)), ("turn", .int t)]⟩) (by kernel_rfl) ?_
  refine seq_next (st' := mst0 (a ++ en t 1) ([a, b, c, d].map V.str) t) ?_ ?_
  · have : fm 19 (S "_law_mail" 1) ⟨[], [("ends", endsV), ("rows", .lst ([a, b, c, d].map V.str)), ("turn", .int t)]⟩ = (match mkS (a ++ en t 1) with
      | some v => some (⟨[], put "mail" v [("ends", endsV), ("rows", .lst ([a, b, c, d].map V.str)), ("turn", .int t)]⟩, none)
      | none => none) := by
      rcases (lt5 ht) with rfl | rfl | rfl | rfl | rfl <;> kernel_rfl
    rw [this, mkS_ok (by have := he 1; simp only [List.length_append]; grind)]
    kernel_rfl
  refine seq_next (st' := mst (((a ++ en t 1) ++ (en t 1 ++ b)) ++ (en t 2 ++ c) ++ (en t 3 ++ d)) 3 ([a, b, c, d].map V.str) t) ?_ ?_
  · have : fm 19 (S "_law_mail" 2) (mst0 (a ++ en t 1) ([a, b, c, d].map V.str) t) = mloop [.int (1 : Nat), .int (2 : Nat), .int (3 : Nat)] (mst0 (a ++ en t 1) ([a, b, c, d].map V.str) t) := by kernel_rfl
    rw [this]
    have h1 := he 1
    have h2 := he 2
    have h3 := he 3
    refine forL_cons (c := mst (a ++ en t 1) 1 ([a, b, c, d].map V.str) t) (c' := mst ((a ++ en t 1) ++ (en t 1 ++ b)) 1 ([a, b, c, d].map V.str) t) (by kernel_rfl) (mail_turn (idx4 a b c d ht ⟨by grind, by grind⟩) hb (by simp only [List.length_append]; grind)) (by kernel_rfl) ?_
    refine forL_cons (c := mst ((a ++ en t 1) ++ (en t 1 ++ b)) 2 ([a, b, c, d].map V.str) t) (c' := mst (((a ++ en t 1) ++ (en t 1 ++ b)) ++ (en t 2 ++ c)) 2 ([a, b, c, d].map V.str) t) (by kernel_rfl) (mail_turn (idx4 a b c d ht ⟨by grind, by grind⟩) hc (by simp only [List.length_append]; grind)) (by kernel_rfl) ?_
    refine forL_cons (c := mst (((a ++ en t 1) ++ (en t 1 ++ b)) ++ (en t 2 ++ c)) 3 ([a, b, c, d].map V.str) t) (c' := mst ((((a ++ en t 1) ++ (en t 1 ++ b)) ++ (en t 2 ++ c)) ++ (en t 3 ++ d)) 3 ([a, b, c, d].map V.str) t) (by kernel_rfl) (mail_turn (idx4 a b c d ht ⟨by grind, by grind⟩) hd (by simp only [List.length_append]; grind)) (by kernel_rfl) ?_
    rfl
  · refine seq_ret ?_
    have : mailL (en t) a [b, c, d] = (((a ++ en t 1) ++ (en t 1 ++ b)) ++ (en t 2 ++ c) ++ (en t 3 ++ d)) := by simp [mailL, tailM]
    rw [this]
    kernel_rfl
theorem mail5 (a b c d e : List Nat) {t : Nat} (ht : t < 5) (ha : a.length ≤ 20) (hb : b.length ≤ 20) (hc : c.length ≤ 20) (hd : d.length ≤ 20) (hee : e.length ≤ 20) :
    fMail [.lst ([a, b, c, d, e].map V.str), .int t] = some (.str (mailL (en t) a [b, c, d, e])) := by
  have he : ∀ k, (en t k).length ≤ 2 := fun k => by rcases en_is t k with e | e | e <;> rw [e] <;> decide
  refine run_eq (st' := mst (((a ++ en t 1) ++ (en t 1 ++ b)) ++ (en t 2 ++ c) ++ (en t 3 ++ d) ++ (en t 4 ++ e)) 4 ([a, b, c, d, e].map V.str) t) rfl ?_
  show seqB (fm 19) [S "_law_mail" 0, S "_law_mail" 1, S "_law_mail" 2, S "_law_mail" 3] _ = _
  refine seq_next (st' := ⟨[], [("ends", endsV), ("rows", .lst ([a, b, c, d, e].map V.str)), ("turn", .int t)]⟩) (by kernel_rfl) ?_
  refine seq_next (st' := mst0 (a ++ en t 1) ([a, b, c, d, e].map V.str) t) ?_ ?_
  · have : fm 19 (S "_law_mail" 1) ⟨[], [("ends", endsV), ("rows", .lst ([a, b, c, d, e].map V.str)), ("turn", .int t)]⟩ = (match mkS (a ++ en t 1) with
      | some v => some (⟨[], put "mail" v [("ends", endsV), ("rows", .lst ([a, b, c, d, e].map V.str)), ("turn", .int t)]⟩, none)
      | none => none) := by
      rcases (lt5 ht) with rfl | rfl | rfl | rfl | rfl <;> kernel_rfl
    rw [this, mkS_ok (by have := he 1; simp only [List.length_append]; grind)]
    kernel_rfl
  refine seq_next (st' := mst (((a ++ en t 1) ++ (en t 1 ++ b)) ++ (en t 2 ++ c) ++ (en t 3 ++ d) ++ (en t 4 ++ e)) 4 ([a, b, c, d, e].map V.str) t) ?_ ?_
  · have : fm 19 (S "_law_mail" 2) (mst0 (a ++ en t 1) ([a, b, c, d, e].map V.str) t) = mloop [.int (1 : Nat), .int (2 : Nat), .int (3 : Nat), .int (4 : Nat)] (mst0 (a ++ en t 1) ([a, b, c, d, e].map V.str) t) := by kernel_rfl
    rw [this]
    have h1 := he 1
    have h2 := he 2
    have h3 := he 3
    have h4 := he 4
    refine forL_cons (c := mst (a ++ en t 1) 1 ([a, b, c, d, e].map V.str) t) (c' := mst ((a ++ en t 1) ++ (en t 1 ++ b)) 1 ([a, b, c, d, e].map V.str) t) (by kernel_rfl) (mail_turn (idx5 a b c d e ht ⟨by grind, by grind⟩) hb (by simp only [List.length_append]; grind)) (by kernel_rfl) ?_
    refine forL_cons (c := mst ((a ++ en t 1) ++ (en t 1 ++ b)) 2 ([a, b, c, d, e].map V.str) t) (c' := mst (((a ++ en t 1) ++ (en t 1 ++ b)) ++ (en t 2 ++ c)) 2 ([a, b, c, d, e].map V.str) t) (by kernel_rfl) (mail_turn (idx5 a b c d e ht ⟨by grind, by grind⟩) hc (by simp only [List.length_append]; grind)) (by kernel_rfl) ?_
    refine forL_cons (c := mst (((a ++ en t 1) ++ (en t 1 ++ b)) ++ (en t 2 ++ c)) 3 ([a, b, c, d, e].map V.str) t) (c' := mst ((((a ++ en t 1) ++ (en t 1 ++ b)) ++ (en t 2 ++ c)) ++ (en t 3 ++ d)) 3 ([a, b, c, d, e].map V.str) t) (by kernel_rfl) (mail_turn (idx5 a b c d e ht ⟨by grind, by grind⟩) hd (by simp only [List.length_append]; grind)) (by kernel_rfl) ?_
    refine forL_cons (c := mst (((a ++ en t 1) ++ (en t 1 ++ b)) ++ (en t 2 ++ c) ++ (en t 3 ++ d)) 4 ([a, b, c, d, e].map V.str) t) (c' := mst ((((a ++ en t 1) ++ (en t 1 ++ b)) ++ (en t 2 ++ c) ++ (en t 3 ++ d)) ++ (en t 4 ++ e)) 4 ([a, b, c, d, e].map V.str) t) (by kernel_rfl) (mail_turn (idx5 a b c d e ht ⟨by grind, by grind⟩) hee (by simp only [List.length_append]; grind)) (by kernel_rfl) ?_
    rfl
  · refine seq_ret ?_
    have : mailL (en t) a [b, c, d, e] = (((a ++ en t 1) ++ (en t 1 ++ b)) ++ (en t 2 ++ c) ++ (en t 3 ++ d) ++ (en t 4 ++ e)) := by simp [mailL, tailM]
    rw [this]
    kernel_rfl
theorem quote_str (l : List Nat) (h1 : subOKB false [13, 10] l = true) (h2 : subOKB true [46, 46] (subAll false [13, 10] l) = true) : fQuote [.str l] = some (.str (subAll true [46, 46] (subAll false [13, 10] l))) := by
  have key : evF F0 false (scOf "quotedata") [] [("data", .str l)] (match S "quotedata" 0 with | .Return (some e) _ => e | _ => default) = (match some (V.str [46, 46]), (match some (V.str [13, 10]), some (V.str l) with
      | some (.str rep), some (.str l) => if subOKB false rep l then some (V.str (subAll false rep l)) else none
      | _, _ => none) with
      | some (.str rep), some (.str l) => if subOKB true rep l then some (V.str (subAll true rep l)) else none
      | _, _ => none) := by kernel_rfl
  refine run_eq (st' := ⟨[], [("data", .str l)]⟩) rfl ?_
  show seqB (stepX noX (evF F0) (blk noX (evF F0) 1000 [] (scOf "quotedata") 19) 1000 [] (scOf "quotedata")) [S "quotedata" 0] _ = _
  refine seq_ret ?_
  have e2 : stepX noX (evF F0) (blk noX (evF F0) 1000 [] (scOf "quotedata") 19) 1000 [] (scOf "quotedata") (S "quotedata" 0) ⟨[], [("data", .str l)]⟩ = (match evF F0 false (scOf "quotedata") [] [("data", .str l)] (match S "quotedata" 0 with | .Return (some e) _ => e | _ => default) with
      | some d => some (⟨[], [("data", .str l)]⟩, some d)
      | none => none) := by kernel_rfl
  have k1 : (match some (V.str [13, 10]), some (V.str l) with
      | some (.str rep), some (.str l) => if subOKB false rep l then some (V.str (subAll false rep l)) else none
      | _, _ => none) = some (V.str (subAll false [13, 10] l)) := if_pos h1
  have k2 : (match some (V.str [46, 46]), some (V.str (subAll false [13, 10] l)) with
      | some (.str rep), some (.str l) => if subOKB true rep l then some (V.str (subAll true rep l)) else none
      | _, _ => none) = some (V.str (subAll true [46, 46] (subAll false [13, 10] l))) := if_pos h2
  refine e2.trans ?_
  rw [key, k1, k2]
end Mine

-- PE
set_option maxRecDepth 10000
namespace Mine
set_option tactic.hygienic false

noncomputable def bump (p : P3) : P3 := if p.w = 0 then ⟨0, p.d + 1, p.h⟩ else p
noncomputable def blank (p : P3) : Int := ((p.w + 3 * p.h : Nat) : Int)
noncomputable def mark (p : P3) : Int := (p.d : Int) - 100 * (p.w : Int)
noncomputable def at_ (qs : List P3) (k : Nat) : P3 := qs.getD k default
noncomputable def cmpI (a b : Int) : Int := b2iV (decide (b < a)) - b2iV (decide (a < b))
noncomputable def held (qs : List P3) (o : List Nat) (k : Nat) : List Int := o.map fun j => cmpI (mark (at_ qs j)) (mark (at_ qs k))
noncomputable def ins (o : List Nat) (c k : Nat) : List Nat := o.take c ++ k :: o.drop c
noncomputable def low (hs : List Int) : Nat := (hs.filter fun x => decide (x < 1)).length
noncomputable def ordStep (qs : List P3) (st : List Nat × List (List Int)) (k : Nat) : List Nat × List (List Int) :=
  if blank (at_ qs k) == 0 then st else (ins st.1 (low (held qs st.1 k)) k, st.2 ++ [held qs st.1 k])
noncomputable def ordA (qs : List P3) : List Nat × List (List Int) := (List.range qs.length).foldl (ordStep qs) ([], [])
noncomputable def readyA (qs : List P3) : List Nat := (List.range qs.length).filter fun k => blank (at_ qs k) - 3 == 0
noncomputable def natsV (l : List Nat) : V := .lst (l.map natV)
noncomputable def intsV (l : List Int) : V := .lst (l.map V.int)
noncomputable def lookV (qs : List P3) : V := .lst [.lst (qs.map rowV), .lst (qs.map numsV), natsV (readyA qs), natsV (ordA qs).1, .lst ((ordA qs).2.map intsV)]
noncomputable def betweenV (p : P3) : V := .str (List.replicate p.d 46 ++ [32])
noncomputable def less1 (p : P3) : P3 := ⟨p.w - 1, p.d, p.h⟩
noncomputable def putAt (qs : List P3) (k : Nat) (p : P3) : List P3 := qs.set k p
noncomputable def nextP (qs : List P3) (f : Nat) (os : List Nat) : List P3 := os.foldl (fun q k => q.set k (less1 (at_ q k))) (qs.set f ⟨0, (at_ qs f).d, 0⟩)
noncomputable def pickV (x : Nat × List Nat) : V := .lst [natV x.1, natsV x.2]
structure Ran where
  looks : List V
  picks : List (Nat × List Nat)
  good : Bool
noncomputable def runA : Nat → List P3 → Ran
  | 0, _ => ⟨[], [], false⟩
  | n + 1, ps => match (ordA (ps.map bump)).1 with
    | [] => ⟨[lookV (ps.map bump)], [], true⟩
    | f :: r => if (at_ (ps.map bump) f).w = 0 then ⟨[lookV (ps.map bump)], [], true⟩ else
      if (r.take (at_ (ps.map bump) f).w).length < (at_ (ps.map bump) f).w ∨ (at_ (ps.map bump) ((r.take (at_ (ps.map bump) f).w).getLastD 0)).w = 0 then ⟨[lookV (ps.map bump)], [], false⟩ else
      ⟨lookV (ps.map bump) :: betweenV (at_ (ps.map bump) f) :: (runA n (nextP (ps.map bump) f (r.take (at_ (ps.map bump) f).w))).looks,
       (f, r.take (at_ (ps.map bump) f).w) :: (runA n (nextP (ps.map bump) f (r.take (at_ (ps.map bump) f).w))).picks,
       (runA n (nextP (ps.map bump) f (r.take (at_ (ps.map bump) f).w))).good⟩
noncomputable def perV (p : P3) : V := .lst [.int (p.w : Nat), .int (p.d : Nat)]

theorem row_ltB : ((List.range 6).all fun w => (List.range 9).all fun d => (List.range 6).all fun v => (List.range 9).all fun e => (d == 0 || e == 0) || (decide (rowL ⟨w, d, 1⟩ < rowL ⟨v, e, 1⟩) == decide (mark ⟨w, d, 1⟩ < mark ⟨v, e, 1⟩))) = true := by decide +kernel
theorem row_lt {p q : P3} (hp : p.h = 1) (hq : q.h = 1) (dp : 1 ≤ p.d) (dq : 1 ≤ q.d) (bp : p.w < 6 ∧ p.d < 9 ∧ p.h < 2) (bq : q.w < 6 ∧ q.d < 9 ∧ q.h < 2) : decide (rowL p < rowL q) = decide (mark p < mark q) := by
  have h := List.all_eq_true.mp (List.all_eq_true.mp (List.all_eq_true.mp (List.all_eq_true.mp row_ltB p.w (List.mem_range.mpr bp.1)) p.d (List.mem_range.mpr bp.2.1)) q.w (List.mem_range.mpr bq.1)) q.d (List.mem_range.mpr bq.2.1)
  have ep : (⟨p.w, p.d, 1⟩ : P3) = p := by rw [← hp]
  have eq : (⟨q.w, q.d, 1⟩ : P3) = q := by rw [← hq]
  rw [ep, eq] at h
  rcases Bool.or_eq_true_iff.mp h with h | h
  · rcases Bool.or_eq_true_iff.mp h with h | h
    · rw [eq_of_beq h] at dp; cases dp
    · rw [eq_of_beq h] at dq; cases dq
  · exact eq_of_beq h
theorem bump_row {p : P3} (hd : 1 ≤ p.d) : dotRow (rowL p) = rowL (bump p) := by
  unfold dotRow bump
  by_cases hw : p.w = 0
  · obtain ⟨d, hd⟩ : ∃ d, p.d = d + 1 := ⟨p.d - 1, by grind⟩
    simp only [rowL, hw, hd, List.replicate_zero, List.nil_append, List.replicate_succ, List.cons_append, List.head?_cons, if_true]
  · obtain ⟨w, hw'⟩ : ∃ w, p.w = w + 1 := ⟨p.w - 1, by grind⟩
    rw [if_neg hw]
    simp only [rowL, hw', List.replicate_succ, List.cons_append, List.head?_cons]
    rfl
theorem row_plain (p : P3) : Plain (rowL p) := by
  intro c hc
  unfold rowL at hc
  simp only [List.mem_append, List.mem_replicate] at hc
  grind
theorem row_ne {p : P3} (hd : 1 ≤ p.d) : rowL p ≠ [] := by
  intro h
  have := congrArg List.length h
  simp only [rowL, List.length_append, List.length_replicate, List.length_nil] at this
  grind
theorem row_len {p : P3} (h : p.w < 6 ∧ p.d < 9 ∧ p.h < 2) : (rowL p).length ≤ 20 := by
  simp only [rowL, List.length_append, List.length_replicate]
  grind
end Mine

-- PF
set_option maxRecDepth 10000
namespace Mine
set_option tactic.hygienic false

inductive Two : List P3 → List P3 → Prop
  | four (a b c d a' b' c' d' : P3) : Two [a, b, c, d] [a', b', c', d']
  | five (a b c d e a' b' c' d' e' : P3) : Two [a, b, c, d, e] [a', b', c', d', e']
noncomputable def q4L {α : Type} (F : List P3 → List P3 → α) (a b c d a' b' c' d' : P3) : α := F [a, b, c, d] [a', b', c', d']
noncomputable def i4L {α : Type} (F : List P3 → List P3 → Nat → α) (a b c d a' b' c' d' : P3) : List α := [F [a, b, c, d] [a', b', c', d'] 0, F [a, b, c, d] [a', b', c', d'] 1, F [a, b, c, d] [a', b', c', d'] 2, F [a, b, c, d] [a', b', c', d'] 3]
noncomputable def x4L {α : Type} (F : List P3 → List P3 → Nat → Nat → α) (a b c d a' b' c' d' : P3) : List (List α) := [[F [a, b, c, d] [a', b', c', d'] 0 0, F [a, b, c, d] [a', b', c', d'] 0 1, F [a, b, c, d] [a', b', c', d'] 0 2, F [a, b, c, d] [a', b', c', d'] 0 3], [F [a, b, c, d] [a', b', c', d'] 1 0, F [a, b, c, d] [a', b', c', d'] 1 1, F [a, b, c, d] [a', b', c', d'] 1 2, F [a, b, c, d] [a', b', c', d'] 1 3], [F [a, b, c, d] [a', b', c', d'] 2 0, F [a, b, c, d] [a', b', c', d'] 2 1, F [a, b, c, d] [a', b', c', d'] 2 2, F [a, b, c, d] [a', b', c', d'] 2 3], [F [a, b, c, d] [a', b', c', d'] 3 0, F [a, b, c, d] [a', b', c', d'] 3 1, F [a, b, c, d] [a', b', c', d'] 3 2, F [a, b, c, d] [a', b', c', d'] 3 3]]
noncomputable def q5L {α : Type} (F : List P3 → List P3 → α) (a b c d e a' b' c' d' e' : P3) : α := F [a, b, c, d, e] [a', b', c', d', e']
noncomputable def i5L {α : Type} (F : List P3 → List P3 → Nat → α) (a b c d e a' b' c' d' e' : P3) : List α := [F [a, b, c, d, e] [a', b', c', d', e'] 0, F [a, b, c, d, e] [a', b', c', d', e'] 1, F [a, b, c, d, e] [a', b', c', d', e'] 2, F [a, b, c, d, e] [a', b', c', d', e'] 3, F [a, b, c, d, e] [a', b', c', d', e'] 4]
noncomputable def x5L {α : Type} (F : List P3 → List P3 → Nat → Nat → α) (a b c d e a' b' c' d' e' : P3) : List (List α) := [[F [a, b, c, d, e] [a', b', c', d', e'] 0 0, F [a, b, c, d, e] [a', b', c', d', e'] 0 1, F [a, b, c, d, e] [a', b', c', d', e'] 0 2, F [a, b, c, d, e] [a', b', c', d', e'] 0 3, F [a, b, c, d, e] [a', b', c', d', e'] 0 4], [F [a, b, c, d, e] [a', b', c', d', e'] 1 0, F [a, b, c, d, e] [a', b', c', d', e'] 1 1, F [a, b, c, d, e] [a', b', c', d', e'] 1 2, F [a, b, c, d, e] [a', b', c', d', e'] 1 3, F [a, b, c, d, e] [a', b', c', d', e'] 1 4], [F [a, b, c, d, e] [a', b', c', d', e'] 2 0, F [a, b, c, d, e] [a', b', c', d', e'] 2 1, F [a, b, c, d, e] [a', b', c', d', e'] 2 2, F [a, b, c, d, e] [a', b', c', d', e'] 2 3, F [a, b, c, d, e] [a', b', c', d', e'] 2 4], [F [a, b, c, d, e] [a', b', c', d', e'] 3 0, F [a, b, c, d, e] [a', b', c', d', e'] 3 1, F [a, b, c, d, e] [a', b', c', d', e'] 3 2, F [a, b, c, d, e] [a', b', c', d', e'] 3 3, F [a, b, c, d, e] [a', b', c', d', e'] 3 4], [F [a, b, c, d, e] [a', b', c', d', e'] 4 0, F [a, b, c, d, e] [a', b', c', d', e'] 4 1, F [a, b, c, d, e] [a', b', c', d', e'] 4 2, F [a, b, c, d, e] [a', b', c', d', e'] 4 3, F [a, b, c, d, e] [a', b', c', d', e'] 4 4]]
noncomputable def q4R {α : Type} (F : List P3 → List P3 → α) (a b c d a' b' c' d' : P3) : α := F [a, b, c, d] [a', b', c', d']
noncomputable def i4R {α : Type} (F : List P3 → List P3 → Nat → α) (a b c d a' b' c' d' : P3) : List α := [F [a, b, c, d] [a', b', c', d'] 0, F [a, b, c, d] [a', b', c', d'] 1, F [a, b, c, d] [a', b', c', d'] 2, F [a, b, c, d] [a', b', c', d'] 3]
noncomputable def x4R {α : Type} (F : List P3 → List P3 → Nat → Nat → α) (a b c d a' b' c' d' : P3) : List (List α) := [[F [a, b, c, d] [a', b', c', d'] 0 0, F [a, b, c, d] [a', b', c', d'] 0 1, F [a, b, c, d] [a', b', c', d'] 0 2, F [a, b, c, d] [a', b', c', d'] 0 3], [F [a, b, c, d] [a', b', c', d'] 1 0, F [a, b, c, d] [a', b', c', d'] 1 1, F [a, b, c, d] [a', b', c', d'] 1 2, F [a, b, c, d] [a', b', c', d'] 1 3], [F [a, b, c, d] [a', b', c', d'] 2 0, F [a, b, c, d] [a', b', c', d'] 2 1, F [a, b, c, d] [a', b', c', d'] 2 2, F [a, b, c, d] [a', b', c', d'] 2 3], [F [a, b, c, d] [a', b', c', d'] 3 0, F [a, b, c, d] [a', b', c', d'] 3 1, F [a, b, c, d] [a', b', c', d'] 3 2, F [a, b, c, d] [a', b', c', d'] 3 3]]
noncomputable def q5R {α : Type} (F : List P3 → List P3 → α) (a b c d e a' b' c' d' e' : P3) : α := F [a, b, c, d, e] [a', b', c', d', e']
noncomputable def i5R {α : Type} (F : List P3 → List P3 → Nat → α) (a b c d e a' b' c' d' e' : P3) : List α := [F [a, b, c, d, e] [a', b', c', d', e'] 0, F [a, b, c, d, e] [a', b', c', d', e'] 1, F [a, b, c, d, e] [a', b', c', d', e'] 2, F [a, b, c, d, e] [a', b', c', d', e'] 3, F [a, b, c, d, e] [a', b', c', d', e'] 4]
noncomputable def x5R {α : Type} (F : List P3 → List P3 → Nat → Nat → α) (a b c d e a' b' c' d' e' : P3) : List (List α) := [[F [a, b, c, d, e] [a', b', c', d', e'] 0 0, F [a, b, c, d, e] [a', b', c', d', e'] 0 1, F [a, b, c, d, e] [a', b', c', d', e'] 0 2, F [a, b, c, d, e] [a', b', c', d', e'] 0 3, F [a, b, c, d, e] [a', b', c', d', e'] 0 4], [F [a, b, c, d, e] [a', b', c', d', e'] 1 0, F [a, b, c, d, e] [a', b', c', d', e'] 1 1, F [a, b, c, d, e] [a', b', c', d', e'] 1 2, F [a, b, c, d, e] [a', b', c', d', e'] 1 3, F [a, b, c, d, e] [a', b', c', d', e'] 1 4], [F [a, b, c, d, e] [a', b', c', d', e'] 2 0, F [a, b, c, d, e] [a', b', c', d', e'] 2 1, F [a, b, c, d, e] [a', b', c', d', e'] 2 2, F [a, b, c, d, e] [a', b', c', d', e'] 2 3, F [a, b, c, d, e] [a', b', c', d', e'] 2 4], [F [a, b, c, d, e] [a', b', c', d', e'] 3 0, F [a, b, c, d, e] [a', b', c', d', e'] 3 1, F [a, b, c, d, e] [a', b', c', d', e'] 3 2, F [a, b, c, d, e] [a', b', c', d', e'] 3 3, F [a, b, c, d, e] [a', b', c', d', e'] 3 4], [F [a, b, c, d, e] [a', b', c', d', e'] 4 0, F [a, b, c, d, e] [a', b', c', d', e'] 4 1, F [a, b, c, d, e] [a', b', c', d', e'] 4 2, F [a, b, c, d, e] [a', b', c', d', e'] 4 3, F [a, b, c, d, e] [a', b', c', d', e'] 4 4]]
noncomputable def a4L {α : Type} (F : List P3 → α) (a b c d : P3) : α := F [a, b, c, d]
noncomputable def a4R {α : Type} (F : List P3 → α) (a b c d : P3) : α := F [a, b, c, d]
noncomputable def a5L {α : Type} (F : List P3 → α) (a b c d e : P3) : α := F [a, b, c, d, e]
noncomputable def a5R {α : Type} (F : List P3 → α) (a b c d e : P3) : α := F [a, b, c, d, e]
theorem at4 {α : Type} {f g : Nat → α} (h : [f 0, f 1, f 2, f 3] = [g 0, g 1, g 2, g 3]) {k : Nat} (hk : k < 4) : f k = g k := by
  have e : ∀ k, k < 4 → ([f 0, f 1, f 2, f 3] : List α)[k]? = some (f k) := fun k hk => by rcases lt4 hk with rfl | rfl | rfl | rfl <;> rfl
  have e2 : ∀ k, k < 4 → ([g 0, g 1, g 2, g 3] : List α)[k]? = some (g k) := fun k hk => by rcases lt4 hk with rfl | rfl | rfl | rfl <;> rfl
  exact Option.some.inj ((e k hk).symm.trans ((congrArg (·[k]?) h).trans (e2 k hk)))
theorem at5 {α : Type} {f g : Nat → α} (h : [f 0, f 1, f 2, f 3, f 4] = [g 0, g 1, g 2, g 3, g 4]) {k : Nat} (hk : k < 5) : f k = g k := by
  have e : ∀ k, k < 5 → ([f 0, f 1, f 2, f 3, f 4] : List α)[k]? = some (f k) := fun k hk => by rcases lt5 hk with rfl | rfl | rfl | rfl | rfl <;> rfl
  have e2 : ∀ k, k < 5 → ([g 0, g 1, g 2, g 3, g 4] : List α)[k]? = some (g k) := fun k hk => by rcases lt5 hk with rfl | rfl | rfl | rfl | rfl <;> rfl
  exact Option.some.inj ((e k hk).symm.trans ((congrArg (·[k]?) h).trans (e2 k hk)))
theorem two_eq {α : Type} {us qs : List P3} (h : Two us qs) {F G : List P3 → List P3 → α} (e4 : q4L F = q4R G) (e5 : q5L F = q5R G) : F us qs = G us qs := by
  cases h
  · exact congrFun (congrFun (congrFun (congrFun (congrFun (congrFun (congrFun (congrFun e4 _) _) _) _) _) _) _) _
  · exact congrFun (congrFun (congrFun (congrFun (congrFun (congrFun (congrFun (congrFun (congrFun (congrFun e5 _) _) _) _) _) _) _) _) _) _
theorem two_ix {α : Type} {us qs : List P3} {k : Nat} (h : Two us qs) (hk : k < qs.length) {F G : List P3 → List P3 → Nat → α} (e4 : i4L F = i4R G) (e5 : i5L F = i5R G) : F us qs k = G us qs k := by
  cases h
  · exact at4 (f := F _ _) (g := G _ _) (congrFun (congrFun (congrFun (congrFun (congrFun (congrFun (congrFun (congrFun e4 _) _) _) _) _) _) _) _) hk
  · exact at5 (f := F _ _) (g := G _ _) (congrFun (congrFun (congrFun (congrFun (congrFun (congrFun (congrFun (congrFun (congrFun (congrFun e5 _) _) _) _) _) _) _) _) _) _) hk
theorem two_ix2 {α : Type} {us qs : List P3} {k j : Nat} (h : Two us qs) (hk : k < qs.length) (hj : j < qs.length) {F G : List P3 → List P3 → Nat → Nat → α} (e4 : x4L F = x4R G) (e5 : x5L F = x5R G) : F us qs k j = G us qs k j := by
  cases h
  · exact at4 (f := F _ _ k) (g := G _ _ k) (at4 (f := fun k => [F _ _ k 0, F _ _ k 1, F _ _ k 2, F _ _ k 3]) (g := fun k => [G _ _ k 0, G _ _ k 1, G _ _ k 2, G _ _ k 3]) (congrFun (congrFun (congrFun (congrFun (congrFun (congrFun (congrFun (congrFun e4 _) _) _) _) _) _) _) _) hk) hj
  · exact at5 (f := F _ _ k) (g := G _ _ k) (at5 (f := fun k => [F _ _ k 0, F _ _ k 1, F _ _ k 2, F _ _ k 3, F _ _ k 4]) (g := fun k => [G _ _ k 0, G _ _ k 1, G _ _ k 2, G _ _ k 3, G _ _ k 4]) (congrFun (congrFun (congrFun (congrFun (congrFun (congrFun (congrFun (congrFun (congrFun (congrFun e5 _) _) _) _) _) _) _) _) _) _) hk) hj
theorem two_len {us qs : List P3} (h : Two us qs) : us.length = qs.length ∧ (qs.length = 4 ∨ qs.length = 5) := by cases h <;> simp
theorem list4 {α : Type} {l : List α} (h : l.length = 4) : ∃ a b c d, l = [a, b, c, d] := by
  match l, h with
  | [a, b, c, d], _ => exact ⟨a, b, c, d, rfl⟩
theorem list5 {α : Type} {l : List α} (h : l.length = 5) : ∃ a b c d e, l = [a, b, c, d, e] := by
  match l, h with
  | [a, b, c, d, e], _ => exact ⟨a, b, c, d, e, rfl⟩
theorem len_two {us qs : List P3} (h1 : us.length = qs.length) (h2 : qs.length = 4 ∨ qs.length = 5) : Two us qs := by
  rcases h2 with h2 | h2
  · obtain ⟨a, b, c, d, rfl⟩ := list4 h2
    obtain ⟨a', b', c', d', rfl⟩ := list4 (l := us) (by rw [h1]; rfl)
    exact .four ..
  · obtain ⟨a, b, c, d, e, rfl⟩ := list5 h2
    obtain ⟨a', b', c', d', e', rfl⟩ := list5 (l := us) (by rw [h1]; rfl)
    exact .five ..
theorem two_tr {us qs q : List P3} (h : Two us qs) (h2 : Two us q) : Two qs q := len_two ((two_len h).1.symm.trans (two_len h2).1) (two_len h2).2
theorem two_len5 {us qs : List P3} (h : Two us qs) : qs.length ≤ 5 := (two_len h).2.elim (fun e => e ▸ (by decide : 4 ≤ 5)) fun e => e ▸ Nat.le_refl 5
theorem two_sm {us qs : List P3} {α : Type} {f : P3 → α} (h : Two us qs) : (qs.map f).length ≤ 100000 := by rw [List.length_map]; exact Nat.le_trans (two_len5 h) (by decide)
theorem any_eq {α : Type} {ps : List P3} (hn : ps.length = 4 ∨ ps.length = 5) {F G : List P3 → α} (e4 : a4L F = a4R G) (e5 : a5L F = a5R G) : F ps = G ps := by
  rcases hn with hn | hn
  · obtain ⟨a, b, c, d, rfl⟩ := list4 hn; exact congrFun (congrFun (congrFun (congrFun e4 _) _) _) _
  · obtain ⟨a, b, c, d, e, rfl⟩ := list5 hn; exact congrFun (congrFun (congrFun (congrFun (congrFun e5 _) _) _) _) _
set_option backward.match.sparseCases false in
noncomputable def compT (n : Nat) (F : Str → List V → Option V) (sc : Nm) (own : List Str) (ρ : Rho) (e : Expr) : V → Option (List V) := match e with
  | .ListComp elt (g :: gs) scope _ => turnE (ev (cx F) n) scope.names (own.filter fun x => scope.names.lookup x == some .free) elt g gs (ρ.filter fun p => scope.names.lookup p.1 == some .free)
  | _ => fun _ => none
set_option backward.match.sparseCases false in
noncomputable def rhs : Stmt → Expr
  | .Assign _ e _ => e
  | .Expr e _ => e
  | .Return (some e) _ => e
  | _ => default
theorem overE_at {α : Type} {f : V → Option (List V)} {i : α → V} {g : α → List V} : ∀ {l : List α}, (∀ a ∈ l, f (i a) = some (g a)) → overE f (l.map i) = some (l.flatMap g)
  | [], _ => rfl
  | a :: l, h => by
    rw [List.map_cons, overE, h a List.mem_cons_self, overE_at fun x hx => h x (List.mem_cons_of_mem _ hx)]
    rfl
theorem overE_one {α : Type} {f : V → Option (List V)} {i h : α → V} {l : List α} (hh : ∀ a ∈ l, f (i a) = some [h a]) : overE f (l.map i) = some (l.map h) := by
  rw [overE_at (g := fun a => [h a]) hh]
  congr 1
  clear hh
  induction l with
  | nil => rfl
  | cons a l ih => rw [List.flatMap_cons, ih]; rfl
theorem overE_if {α : Type} {f : V → Option (List V)} {i h : α → V} {c : α → Bool} {l : List α} (hh : ∀ a ∈ l, f (i a) = some (if c a then [h a] else [])) : overE f (l.map i) = some ((l.filter c).map h) := by
  rw [overE_at (g := fun a => if c a then [h a] else []) hh]
  congr 1
  induction l with
  | nil => rfl
  | cons a l ih =>
    rw [List.flatMap_cons, ih fun x hx => hh x (List.mem_cons_of_mem _ hx), List.filter_cons]
    split <;> simp
noncomputable abbrev scM : Nm := scOf "_law_by_mail"
noncomputable abbrev XSM (F : Str → List V → Option V) : Xs := xsFor (evF F) 1000 muM scM liveM
noncomputable abbrev kM (F : Str → List V → Option V) (n : Nat) : Blk := blk (XSM F) (evF F) 1000 muM scM n
noncomputable abbrev fM (F : Str → List V → Option V) (n : Nat) : Stmt → SS → Res := stepX (XSM F) (evF F) (kM F n) 1000 muM scM
noncomputable abbrev bM (j : Nat) : Stmt := FB "_law_by_mail" 2 j
noncomputable def ownL : List Str := ["rows", "looks", "picks"]
noncomputable def ownO (b : Bool) : List Str := if b then ["rows", "looks", "picks"] else ["looks", "picks", "rows"]
noncomputable def hdM (b : Bool) (rows : List V) (t : Nat) (L P pv : List V) : SS := ⟨ownO b, [("turn", natV t), ("rows", .lst rows), ("looks", .lst L), ("picks", .lst P), ("people", .lst pv)]⟩
noncomputable def s0M (b : Bool) (came : V) (rows : List V) (t : Nat) (L P pv : List V) : SS := ⟨ownO b, [("came", came), ("turn", natV t), ("rows", .lst rows), ("looks", .lst L), ("picks", .lst P), ("people", .lst pv)]⟩
noncomputable def r1M (came : V) (rows : List V) (t : Nat) (L P pv : List V) : Rho := [("rows", .lst rows), ("came", came), ("turn", natV t), ("looks", .lst L), ("picks", .lst P), ("people", .lst pv)]
noncomputable def s1M (came : V) (rows : List V) (t : Nat) (L P pv : List V) : SS := ⟨ownL, r1M came rows t L P pv⟩

section
variable {F : Str → List V → Option V}
theorem b0 {b : Bool} {rows pv L P : List V} {t : Nat} {m q : List Nat} (h1 : F "_law_mail" [.lst rows, natV t] = some (.str m)) (h2 : F "quotedata" [.str m] = some (.str q)) (h3 : splitOKB q [13, 10] = true) :
    fM F 18 (bM 0) (hdM b rows t L P pv) = some (s0M b (.lst ((splitP q [13, 10]).map V.str)) rows t L P pv, none) := by
  have key : fM F 18 (bM 0) (hdM b rows t L P pv) = (match (match (match (mapO id [match F "_law_mail" [.lst rows, natV t] with
          | some d => (if (true && !atomV d) = true then none else some d)
          | none => none]) with
        | some ds => (match F "quotedata" ds with
          | some d => (if (false && !atomV d) = true then none else some d)
          | none => none)
        | none => none), some (V.str [13, 10]) with
      | some (.str l), some (.str y) => if splitOKB l y then some (.lst ((splitP l y).map V.str)) else none
      | _, _ => none) with
    | some d => some (stash muM "came" false d (hdM b rows t L P pv), none)
    | none => none) := by cases b <;> kernel_rfl
  rw [key, h1]
  have e1 : (mapO id [match some (V.str m) with
          | some d => (if (true && !atomV d) = true then none else some d)
          | none => none]) = some [V.str m] := rfl
  rw [e1]
  have e2 : (match some [V.str m] with
        | some ds => (match F "quotedata" ds with
          | some d => (if (false && !atomV d) = true then none else some d)
          | none => none)
        | none => none) = some (.str q) := by
    show (match F "quotedata" [V.str m] with
          | some d => (if (false && !atomV d) = true then none else some d)
          | none => none) = _
    rw [h2]; rfl
  rw [e2]
  show (match (if splitOKB q [13, 10] = true then some (V.lst ((splitP q [13, 10]).map V.str)) else none) with
    | some d => some (stash muM "came" false d (hdM b rows t L P pv), none)
    | none => none) = _
  rw [if_pos h3]
  cases b <;> kernel_rfl
noncomputable def cameV (qs : List P3) : V := .lst (match qs with
  | q :: r => rowV q :: .str [] :: r.map rowV
  | [] => [])
theorem b1 {b : Bool} {us qs : List P3} {rows L P : List V} {t : Nat} (h : Two us qs) : fM F 18 (bM 1) (s0M b (cameV qs) rows t L P (us.map perV)) = some (s1M (cameV qs) (qs.map rowV) t L P (us.map perV), none) := by
  cases h <;> cases b <;> kernel_rfl
theorem b2 {us qs : List P3} {L P : List V} {t : Nat} (h : Two us qs) : fM F 18 (bM 2) (s1M (cameV qs) (qs.map rowV) t L P (us.map perV)) = some (s1M (cameV qs) (qs.map rowV) t L P (us.map perV), none) := by
  apply two_eq (us := us) (qs := qs) h <;> kernel_rfl
theorem comp_set {f : Stmt → SS → Res} {s : Stmt} {st st' : SS} {c : V → Option (List V)} {items r : List V} {G : V → SS} (h1 : f s st = (match (match overE c items with
      | some ds => mkL ds
      | none => none) with
    | some d => some (G d, none)
    | none => none)) (h2 : overE c items = some r) (h3 : r.length ≤ 100000) (h4 : G (.lst r) = st') : f s st = some (st', none) := by
  rw [h1, h2]
  show (match mkL r with
    | some d => some (G d, none)
    | none => none) = _
  rw [mkL_ok h3, ← h4]
noncomputable def r3M (came : V) (qs : List P3) (t : Nat) (L P pv : List V) : Rho := ("numbers", .lst (qs.map numsV)) :: r1M came (qs.map rowV) t L P pv
theorem b3 {us qs : List P3} {L P : List V} {t : Nat} (h : Two us qs) (hF : ∀ q ∈ qs, F "_law_read" [rowV q] = some (numsV q)) :
    fM F 18 (bM 3) (s1M (cameV qs) (qs.map rowV) t L P (us.map perV)) = some (⟨ownL, r3M (cameV qs) qs t L P (us.map perV)⟩, none) := by
  refine comp_set (c := compT 39 F scM ownL (r1M (cameV qs) (qs.map rowV) t L P (us.map perV)) (rhs (bM 3))) (items := qs.map rowV) (r := qs.map numsV) (G := fun d => ⟨ownL, put "numbers" d (r1M (cameV qs) (qs.map rowV) t L P (us.map perV))⟩) ?_ ?_ ?_ ?_
  · apply two_eq (us := us) (qs := qs) h <;> kernel_rfl
  · refine overE_one fun q hq => ?_
    have e : compT 39 F scM ownL (r1M (cameV qs) (qs.map rowV) t L P (us.map perV)) (rhs (bM 3)) (rowV q) = (match (match F "_law_read" [rowV q] with
      | some d => (if (false && !atomV d) = true then none else some d)
      | none => none) with
      | some d => some [d]
      | none => none) := by apply two_eq (us := us) (qs := qs) h <;> kernel_rfl
    rw [e, hF q hq]; rfl
  · exact two_sm h
  · apply two_eq (us := us) (qs := qs) h <;> kernel_rfl
end
end Mine

-- PG
set_option maxRecDepth 10000
namespace Mine
set_option tactic.hygienic false

set_option backward.match.sparseCases false in
noncomputable def eltOf : Expr → Expr
  | .ListComp elt _ _ _ => elt
  | _ => default
noncomputable def scopeE : Expr → Nm
  | .ListComp _ _ sc _ => sc.names
  | _ => []
set_option backward.match.sparseCases false in
noncomputable def arg0 : Expr → Expr
  | .Call _ (a :: _) _ _ => a
  | _ => default
noncomputable def arg1 : Expr → Expr
  | .Call _ (_ :: b :: _) _ _ => b
  | _ => default
theorem zeros (q : P3) : ((numsL q).filter fun x => x == 0).length = q.w + 3 * q.h := by
  unfold numsL
  simp only [List.filter_append, List.filter_replicate, List.length_append]
  simp
theorem bLen_lst {l : List V} (h : l.length ≤ 1000000) : bLen [.lst l] = some (.int l.length) := if_pos h
noncomputable def r4M (came : V) (qs : List P3) (t : Nat) (L P pv : List V) : Rho := ("blanks", .lst (qs.map fun q => .int (blank q))) :: r3M came qs t L P pv
noncomputable def eB : Expr := rhs (bM 4)
noncomputable def eB2 : Expr := arg0 (eltOf eB)
theorem b4 {us qs : List P3} {L P : List V} {t : Nat} (h : Two us qs) (hw : ∀ q ∈ qs, q.w < 6 ∧ q.d < 9 ∧ q.h < 2) :
    fM F1 18 (bM 4) ⟨ownL, r3M (cameV qs) qs t L P (us.map perV)⟩ = some (⟨ownL, r4M (cameV qs) qs t L P (us.map perV)⟩, none) := by
  refine comp_set (c := compT 39 F1 scM ownL (r3M (cameV qs) qs t L P (us.map perV)) eB) (items := qs.map numsV) (r := qs.map fun q => .int (blank q)) (G := fun d => ⟨ownL, put "blanks" d (r3M (cameV qs) qs t L P (us.map perV))⟩) ?_ ?_ ?_ ?_
  · apply two_eq (us := us) (qs := qs) h <;> kernel_rfl
  · refine overE_one fun q hq => ?_
    have e : compT 39 F1 scM ownL (r3M (cameV qs) qs t L P (us.map perV)) eB (numsV q) = (match (match mapO id [match overE (compT 37 F1 (scopeE eB) [] [("row", numsV q)] eB2) ((numsL q).map V.int) with
        | some ds => mkL ds
        | none => none] with
      | some ds => bLen ds
      | none => none) with
      | some d => some [d]
      | none => none) := by apply two_eq (us := us) (qs := qs) h <;> kernel_rfl
    have e2 : overE (compT 37 F1 (scopeE eB) [] [("row", numsV q)] eB2) ((numsL q).map V.int) = some (((numsL q).filter fun x => x == 0).map V.int) := by
      refine overE_if fun x hx => ?_
      have e3 : compT 37 F1 (scopeE eB) [] [("row", numsV q)] eB2 (.int x) = (match (match some (x == 0) with
        | some true => some true
        | some false => some false
        | none => none) with
        | some true => some [.int x]
        | some false => some []
        | none => none) := by kernel_rfl
      rw [e3]
      cases x == 0 <;> rfl
    have hl := zeros q
    have hq' := hw q hq
    rw [e, e2]
    show (match (match mapO id [mkL (((numsL q).filter fun x => x == 0).map V.int)] with
      | some ds => bLen ds
      | none => none) with
      | some d => some [d]
      | none => none) = _
    rw [mkL_ok (by rw [List.length_map, hl]; omega)]
    show (match bLen [.lst (((numsL q).filter fun x => x == 0).map V.int)] with
      | some d => some [d]
      | none => none) = _
    rw [bLen_lst (by rw [List.length_map, hl]; omega), List.length_map, hl]
    rfl
  · exact two_sm h
  · apply two_eq (us := us) (qs := qs) h <;> kernel_rfl
noncomputable def idxs (qs : List P3) : List Nat := List.range qs.length
noncomputable def r5M (came : V) (qs : List P3) (t : Nat) (L P pv : List V) : Rho := ("ready", natsV (readyA qs)) :: r4M came qs t L P pv
theorem b5 {us qs : List P3} {L P : List V} {t : Nat} (h : Two us qs) :
    fM F1 18 (bM 5) ⟨ownL, r4M (cameV qs) qs t L P (us.map perV)⟩ = some (⟨ownL, r5M (cameV qs) qs t L P (us.map perV)⟩, none) := by
  refine comp_set (c := compT 39 F1 scM ownL (r4M (cameV qs) qs t L P (us.map perV)) (rhs (bM 5))) (items := (idxs qs).map natV) (r := (readyA qs).map natV) (G := fun d => ⟨ownL, put "ready" d (r4M (cameV qs) qs t L P (us.map perV))⟩) ?_ ?_ ?_ ?_
  · apply two_eq (us := us) (qs := qs) h <;> kernel_rfl
  · refine overE_if fun k hk => ?_
    have e : compT 39 F1 scM ownL (r4M (cameV qs) qs t L P (us.map perV)) (rhs (bM 5)) (natV k) = (match (match some (blank (at_ qs k) - 3 == 0) with
        | some true => some true
        | some false => some false
        | none => none) with
        | some true => some [natV k]
        | some false => some []
        | none => none) := by
      have hk' := List.mem_range.mp hk
      apply two_ix (us := us) (qs := qs) (k := k) h hk' <;> kernel_rfl
    rw [e]
    cases blank (at_ qs k) - 3 == 0 <;> rfl
  · have := List.length_filter_le (fun k => blank (at_ qs k) - 3 == 0) (List.range qs.length)
    rw [List.length_range] at this
    rw [List.length_map]
    unfold readyA
    have : qs.length ≤ 5 := two_len5 h
    omega
  · apply two_eq (us := us) (qs := qs) h <;> kernel_rfl
noncomputable def r6M (o : List Nat) (tn : List (List Int)) (came : V) (qs : List P3) (t : Nat) (L P pv : List V) : Rho := ("order", natsV o) :: ("turns", .lst (tn.map intsV)) :: r5M came qs t L P pv
noncomputable def own6 : List Str := ["order", "turns", "rows", "looks", "picks"]
theorem b6 {us qs : List P3} {L P : List V} {t : Nat} (h : Two us qs) :
    fM F1 18 (bM 6) ⟨ownL, r5M (cameV qs) qs t L P (us.map perV)⟩ = some (⟨own6, r6M [] [] (cameV qs) qs t L P (us.map perV)⟩, none) := by
  apply two_eq (us := us) (qs := qs) h <;> kernel_rfl
end Mine

-- PH
set_option maxRecDepth 10000
namespace Mine
set_option tactic.hygienic false

noncomputable def rIn (kv : V) (o : List Nat) (tn : List (List Int)) (qs : List P3) (t : Nat) (L P pv : List V) : Rho :=
  [("k", kv), ("order", natsV o), ("turns", .lst (tn.map intsV)), ("ready", natsV (readyA qs)), ("blanks", .lst (qs.map fun q => .int (blank q))), ("numbers", .lst (qs.map numsV)), ("rows", .lst (qs.map rowV)), ("turn", natV t), ("looks", .lst L), ("picks", .lst P), ("people", .lst pv)]
noncomputable def cin (kv : V) (o : List Nat) (tn : List (List Int)) (qs : List P3) (t : Nat) (L P pv : List V) : SS := ⟨own6, rIn kv o tn qs t L P pv⟩
noncomputable abbrev iIf : Stmt := (forB (bM 7)).getD 0 default
noncomputable abbrev iM (j : Nat) : Stmt := (forB iIf).getD j default
structure Good (qs : List P3) : Prop where
  w : ∀ q ∈ qs, q.w < 6 ∧ q.d < 9 ∧ q.h < 2
  d1 : ∀ q ∈ qs, 1 ≤ q.d
  gone : ∀ q ∈ qs, q.h = 0 → q.w = 0
theorem at_mem {qs : List P3} {k : Nat} (hk : k < qs.length) : at_ qs k ∈ qs := by
  unfold at_
  rw [List.getD_eq_getElem?_getD, List.getElem?_eq_getElem hk]
  exact List.getElem_mem hk
theorem here_of {qs : List P3} (g : Good qs) {k : Nat} (hk : k < qs.length) (h : ¬ (blank (at_ qs k) == 0) = true) : (at_ qs k).h = 1 := by
  have h1 := (g.w _ (at_mem hk)).2.2
  have h2 := g.gone _ (at_mem hk)
  unfold blank at h
  simp only [beq_iff_eq] at h
  grind
theorem cmp_rows {qs : List P3} (g : Good qs) {j k : Nat} (hj : j < qs.length) (hk : k < qs.length) (bj : ¬ (blank (at_ qs j) == 0) = true) (bk : ¬ (blank (at_ qs k) == 0) = true) :
    b2iV (decide (rowL (at_ qs k) < rowL (at_ qs j))) - b2iV (decide (rowL (at_ qs j) < rowL (at_ qs k))) = cmpI (mark (at_ qs j)) (mark (at_ qs k)) := by
  have wj := g.w _ (at_mem hj)
  have wk := g.w _ (at_mem hk)
  rw [row_lt (here_of g hk bk) (here_of g hj bj) (g.d1 _ (at_mem hk)) (g.d1 _ (at_mem hj)) wk wj, row_lt (here_of g hj bj) (here_of g hk bk) (g.d1 _ (at_mem hj)) (g.d1 _ (at_mem hk)) wj wk]
  rfl
noncomputable def rI1 (hs : List Int) (kv : V) (o : List Nat) (tn : List (List Int)) (qs : List P3) (t : Nat) (L P pv : List V) : Rho := ("held", intsV hs) :: rIn kv o tn qs t L P pv
theorem in0 {us qs : List P3} {L P : List V} {t k : Nat} {o : List Nat} {tn : List (List Int)} (h : Two us qs) (g : Good qs) (hk : k < qs.length) (bk : ¬ (blank (at_ qs k) == 0) = true) (ho : ∀ j ∈ o, j < qs.length ∧ ¬ (blank (at_ qs j) == 0) = true) (hl : o.length ≤ 100) :
    fM F1 16 (iM 0) (cin (natV k) o tn qs t L P (us.map perV)) = some (⟨own6, rI1 (held qs o k) (natV k) o tn qs t L P (us.map perV)⟩, none) := by
  refine comp_set (c := compT 39 F1 scM own6 (rIn (natV k) o tn qs t L P (us.map perV)) (rhs (iM 0))) (items := o.map natV) (r := o.map fun j => .int (cmpI (mark (at_ qs j)) (mark (at_ qs k)))) (G := fun d => ⟨own6, put "held" d (rIn (natV k) o tn qs t L P (us.map perV))⟩) ?_ ?_ ?_ ?_
  · apply two_eq (us := us) (qs := qs) h <;> kernel_rfl
  · refine overE_one fun j hj => ?_
    obtain ⟨hj1, hj2⟩ := ho j hj
    rw [← cmp_rows g hj1 hk hj2 bk]
    apply two_ix2 (us := us) (qs := qs) (k := k) (j := j) h hk hj1 <;> kernel_rfl
  · rw [List.length_map]; grind
  · have e : held qs o k = o.map fun j => cmpI (mark (at_ qs j)) (mark (at_ qs k)) := rfl
    unfold rI1 intsV
    rw [e, List.map_map]
    kernel_rfl
noncomputable def rI2 (o' : List Nat) (hs : List Int) (kv : V) (o : List Nat) (tn : List (List Int)) (qs : List P3) (t : Nat) (L P pv : List V) : Rho :=
  [("order", natsV o'), ("held", intsV hs), ("k", kv), ("turns", .lst (tn.map intsV)), ("ready", natsV (readyA qs)), ("blanks", .lst (qs.map fun q => .int (blank q))), ("numbers", .lst (qs.map numsV)), ("rows", .lst (qs.map rowV)), ("turn", natV t), ("looks", .lst L), ("picks", .lst P), ("people", .lst pv)]
noncomputable def eI : Expr := arg0 (rhs (iM 1))
theorem in1 {qs : List P3} {L P pv : List V} {t k : Nat} {o : List Nat} {tn : List (List Int)} {hs : List Int} (hl : o.length ≤ 100) (hhs : hs.length = o.length) :
    fM F1 16 (iM 1) ⟨own6, rI1 hs (natV k) o tn qs t L P pv⟩ = some (⟨own6, rI2 (ins o (low hs) k) hs (natV k) o tn qs t L P pv⟩, none) := by
  have key : fM F1 16 (iM 1) ⟨own6, rI1 hs (natV k) o tn qs t L P pv⟩ = (match (match mapO id [match overE (compT 38 F1 scM own6 (rI1 hs (natV k) o tn qs t L P pv) (arg0 eI)) (hs.map V.int) with
        | some ds => mkL ds
        | none => none] with
      | some ds => bLen ds
      | none => none), some (natV k), some (natsV o) with
      | some (.int i), some d, some (.lst ds) => if 0 ≤ i ∧ i ≤ ds.length ∧ ds.length ≤ 100000 then some (SS.mk own6 (put "order" (.lst (ds.take i.toNat ++ d :: ds.drop i.toNat)) (rI1 hs (natV k) o tn qs t L P pv))) else none
      | _, _, _ => none).map (·, none) := by kernel_rfl
  have e2 : overE (compT 38 F1 scM own6 (rI1 hs (natV k) o tn qs t L P pv) (arg0 eI)) (hs.map V.int) = some ((hs.filter fun x => decide (x < 1)).map V.int) := by
    refine overE_if fun x hx => ?_
    have e3 : compT 38 F1 scM own6 (rI1 hs (natV k) o tn qs t L P pv) (arg0 eI) (.int x) = (match (match some (decide (x < 1)) with
        | some true => some true
        | some false => some false
        | none => none) with
        | some true => some [.int x]
        | some false => some []
        | none => none) := by kernel_rfl
    rw [e3]
    cases decide (x < 1) <;> rfl
  have hle : low hs ≤ o.length := by rw [← hhs]; exact List.length_filter_le _ _
  have hle' : low hs = (hs.filter fun x => decide (x < 1)).length := rfl
  rw [key, e2]
  show (match (match mapO id [mkL ((hs.filter fun x => decide (x < 1)).map V.int)] with
      | some ds => bLen ds
      | none => none), some (natV k), some (natsV o) with
      | some (.int i), some d, some (.lst ds) => if 0 ≤ i ∧ i ≤ ds.length ∧ ds.length ≤ 100000 then some (SS.mk own6 (put "order" (.lst (ds.take i.toNat ++ d :: ds.drop i.toNat)) (rI1 hs (natV k) o tn qs t L P pv))) else none
      | _, _, _ => none).map (·, none) = _
  rw [mkL_ok (by rw [List.length_map, ← hle']; grind)]
  show (match bLen [.lst ((hs.filter fun x => decide (x < 1)).map V.int)], some (natV k), some (natsV o) with
      | some (.int i), some d, some (.lst ds) => if 0 ≤ i ∧ i ≤ ds.length ∧ ds.length ≤ 100000 then some (SS.mk own6 (put "order" (.lst (ds.take i.toNat ++ d :: ds.drop i.toNat)) (rI1 hs (natV k) o tn qs t L P pv))) else none
      | _, _, _ => none).map (·, none) = _
  rw [bLen_lst (by rw [List.length_map, ← hle']; grind), List.length_map, ← hle']
  show (if 0 ≤ ((low hs : Nat) : Int) ∧ ((low hs : Nat) : Int) ≤ ((o.map natV).length : Int) ∧ (o.map natV).length ≤ 100000 then some (SS.mk own6 (put "order" (.lst ((o.map natV).take (low hs) ++ natV k :: (o.map natV).drop (low hs))) (rI1 hs (natV k) o tn qs t L P pv))) else none).map (·, none) = _
  rw [if_pos ⟨by grind, by rw [List.length_map]; grind, by rw [List.length_map]; grind⟩]
  have e5 : natsV (ins o (low hs) k) = .lst ((o.map natV).take (low hs) ++ natV k :: (o.map natV).drop (low hs)) := by
    unfold natsV ins
    rw [List.map_append, List.map_cons, List.map_take, List.map_drop]
  unfold rI2
  rw [e5]
  kernel_rfl
theorem in2 {qs : List P3} {L P pv : List V} {t k : Nat} {o o' : List Nat} {tn : List (List Int)} {hs : List Int} (hl : tn.length ≤ 100) :
    ∃ st, fM F1 16 (iM 2) ⟨own6, rI2 o' hs (natV k) o tn qs t L P pv⟩ = some (st, none) ∧ nrm (liveM "k") st = cin (natV k) o' (tn ++ [hs]) qs t L P pv := by
  have key : fM F1 16 (iM 2) ⟨own6, rI2 o' hs (natV k) o tn qs t L P pv⟩ = (if (tn.map intsV).length ≤ 100000 then some (SS.mk own6 (put "turns" (.lst (tn.map intsV ++ [intsV hs])) (rI2 o' hs (natV k) o tn qs t L P pv))) else none).map (·, none) := by kernel_rfl
  refine ⟨SS.mk own6 (put "turns" (.lst (tn.map intsV ++ [intsV hs])) (rI2 o' hs (natV k) o tn qs t L P pv)), ?_, ?_⟩
  · rw [key, if_pos (by rw [List.length_map]; grind)]; rfl
  · unfold cin rIn
    rw [List.map_append]
    kernel_rfl

theorem in_turn {us qs : List P3} {L P : List V} {t k : Nat} {o : List Nat} {tn : List (List Int)} (h : Two us qs) (g : Good qs) (hk : k < qs.length) (ho : ∀ j ∈ o, j < qs.length ∧ ¬ (blank (at_ qs j) == 0) = true) (hl : o.length ≤ 100) (htn : tn.length ≤ 100) :
    ∃ st, kM F1 18 (forB (bM 7)) (cin (natV k) o tn qs t L P (us.map perV)) = some (st, none) ∧ nrm (liveM "k") st = cin (natV k) (ordStep qs (o, tn) k).1 (ordStep qs (o, tn) k).2 qs t L P (us.map perV) := by
  have key : fM F1 17 iIf (cin (natV k) o tn qs t L P (us.map perV)) = (match !(blank (at_ qs k) == 0) with
      | true => kM F1 17 (forB iIf) (cin (natV k) o tn qs t L P (us.map perV))
      | false => some (cin (natV k) o tn qs t L P (us.map perV), none)) := by
    apply two_ix (us := us) (qs := qs) (k := k) h hk <;> kernel_rfl
  by_cases hb : (blank (at_ qs k) == 0) = true
  · refine ⟨cin (natV k) o tn qs t L P (us.map perV), ?_, ?_⟩
    · show seqB (fM F1 17) [iIf] _ = _
      refine seq_next (st' := cin (natV k) o tn qs t L P (us.map perV)) ?_ rfl
      rw [key, hb]; rfl
    · unfold ordStep
      rw [if_pos hb]
      kernel_rfl
  · obtain ⟨st, h2, h3⟩ := in2 (qs := qs) (L := L) (P := P) (pv := us.map perV) (t := t) (k := k) (o := o) (o' := ins o (low (held qs o k)) k) (tn := tn) (hs := held qs o k) htn
    refine ⟨st, ?_, ?_⟩
    · show seqB (fM F1 17) [iIf] _ = _
      refine seq_next (st' := st) ?_ rfl
      have hb' : (blank (at_ qs k) == 0) = false := by simpa using hb
      rw [key, hb']
      show seqB (fM F1 16) [iM 0, iM 1, iM 2] _ = _
      exact seq_next (in0 h g hk hb ho hl) (seq_next (in1 hl (by unfold held; rw [List.length_map])) (seq_next h2 rfl))
    · unfold ordStep
      rw [if_neg hb]
      exact h3

noncomputable abbrev iloop (l : List Nat) (st : SS) : Res := forL scM "k" (nrmK (liveM "k") (kM F1 18) (forB (bM 7))) (l.map natV) st
noncomputable def IvO (qs : List P3) (o : List Nat) : Prop := ∀ j ∈ o, j < qs.length ∧ ¬ (blank (at_ qs j) == 0) = true
theorem ordStep_iv {qs : List P3} {o : List Nat} {tn : List (List Int)} {k : Nat} (hk : k < qs.length) (ho : IvO qs o) : IvO qs (ordStep qs (o, tn) k).1 := by
  unfold ordStep
  by_cases hb : (blank (at_ qs k) == 0) = true
  · rw [if_pos hb]; exact ho
  · rw [if_neg hb]
    intro j hj
    unfold ins at hj
    rcases List.mem_append.mp hj with hj | hj
    · exact ho j (List.mem_of_mem_take hj)
    · rcases List.mem_cons.mp hj with e | hj
      · rw [e]; exact ⟨hk, hb⟩
      · exact ho j (List.mem_of_mem_drop hj)
theorem ordStep_len {qs : List P3} {o : List Nat} {tn : List (List Int)} {k m : Nat} (h1 : o.length ≤ m) (h2 : tn.length ≤ m) : (ordStep qs (o, tn) k).1.length ≤ m + 1 ∧ (ordStep qs (o, tn) k).2.length ≤ m + 1 := by
  unfold ordStep
  split
  · exact ⟨Nat.le_succ_of_le h1, Nat.le_succ_of_le h2⟩
  · unfold ins
    refine ⟨?_, ?_⟩
    · simp only [List.length_append, List.length_cons, List.length_take, List.length_drop]; grind
    · simp; grind
theorem in_loop {us qs : List P3} {L P : List V} {t : Nat} (h : Two us qs) (g : Good qs) : ∀ (l : List Nat) (kv : V) (o : List Nat) (tn : List (List Int)) (m : Nat), (∀ k ∈ l, k < qs.length) → IvO qs o → o.length ≤ m → tn.length ≤ m → m + l.length ≤ 50 →
    ∃ kv', iloop l (cin kv o tn qs t L P (us.map perV)) = some (cin kv' (l.foldl (ordStep qs) (o, tn)).1 (l.foldl (ordStep qs) (o, tn)).2 qs t L P (us.map perV), none)
  | [], kv, o, tn, m, _, _, _, _, _ => ⟨kv, rfl⟩
  | k :: l, kv, o, tn, m, hk, ho, h1, h2, h3 => by
    simp only [List.length_cons] at h3
    have hk0 := hk k List.mem_cons_self
    obtain ⟨st, e1, e2⟩ := in_turn (L := L) (P := P) (t := t) (tn := tn) h g hk0 ho (by grind) (by grind)
    have hl := ordStep_len (qs := qs) (k := k) h1 h2
    obtain ⟨kv', e3⟩ := in_loop (L := L) (P := P) (t := t) h g l (natV k) (ordStep qs (o, tn) k).1 (ordStep qs (o, tn) k).2 (m + 1) (fun x hx => hk x (List.mem_cons_of_mem _ hx)) (ordStep_iv hk0 ho) hl.1 hl.2 (by grind)
    refine ⟨kv', ?_⟩
    exact forL_cons (c := cin (natV k) o tn qs t L P (us.map perV)) (c' := cin (natV k) (ordStep qs (o, tn) k).1 (ordStep qs (o, tn) k).2 qs t L P (us.map perV)) (by kernel_rfl) e1 e2 e3
theorem b7 {us qs : List P3} {L P : List V} {t : Nat} (h : Two us qs) (g : Good qs) :
    ∃ kv, fM F1 18 (bM 7) ⟨own6, r6M [] [] (cameV qs) qs t L P (us.map perV)⟩ = some (cin kv (ordA qs).1 (ordA qs).2 qs t L P (us.map perV), none) := by
  have hn : qs.length ≤ 5 ∧ 0 < qs.length := by cases h <;> simp
  have key : fM F1 18 (bM 7) ⟨own6, r6M [] [] (cameV qs) qs t L P (us.map perV)⟩ = iloop (idxs qs) ⟨own6, r6M [] [] (cameV qs) qs t L P (us.map perV)⟩ := by apply two_eq (us := us) (qs := qs) h <;> kernel_rfl
  obtain ⟨m, hm⟩ : ∃ m, qs.length = m + 1 := ⟨qs.length - 1, by grind⟩
  have hi : idxs qs = 0 :: (List.range m).map (· + 1) := by unfold idxs; rw [hm, List.range_succ_eq_map]
  have hl := ordStep_len (qs := qs) (k := 0) (o := []) (tn := []) (m := 0) (Nat.le_refl _) (Nat.le_refl _)
  obtain ⟨st, e1, e2⟩ := in_turn (L := L) (P := P) (t := t) (o := []) (tn := []) (k := 0) h g hn.2 (fun j hj => by cases hj) (Nat.zero_le _) (Nat.zero_le _)
  obtain ⟨kv', e3⟩ := in_loop (L := L) (P := P) (t := t) h g ((List.range m).map (· + 1)) (natV 0) (ordStep qs ([], []) 0).1 (ordStep qs ([], []) 0).2 1 (fun x hx => by
    obtain ⟨y, hy, rfl⟩ := List.mem_map.mp hx
    have := List.mem_range.mp hy; grind) (ordStep_iv hn.2 fun j hj => by cases hj) hl.1 hl.2 (by simp; grind)
  refine ⟨kv', ?_⟩
  rw [key]
  have e4 : ordA qs = ((List.range m).map (· + 1)).foldl (ordStep qs) (ordStep qs ([], []) 0) := by
    have hi' : List.range qs.length = 0 :: (List.range m).map (· + 1) := hi
    unfold ordA; rw [hi']; rfl
  rw [hi, e4]
  exact forL_cons (c := cin (natV 0) [] [] qs t L P (us.map perV)) (c' := cin (natV 0) (ordStep qs ([], []) 0).1 (ordStep qs ([], []) 0).2 qs t L P (us.map perV)) (by kernel_rfl) e1 e2 e3
end Mine

-- PI
set_option maxRecDepth 10000
namespace Mine
set_option tactic.hygienic false

theorem deps_nats : ∀ l : List Nat, deps (l.map natV) = 0
  | [] => rfl
  | n :: l => by
    show max 0 (deps (l.map natV)) = 0
    rw [deps_nats l]; rfl
theorem mem_nats (f : Nat) : ∀ l : List Nat, ((toPys (l.map natV)).any fun y => PyData.eqv y (.int (f : Nat))) = decide (f ∈ l)
  | [] => rfl
  | n :: l => by
    show (PyData.eqv (.int (n : Nat)) (.int (f : Nat)) || (toPys (l.map natV)).any fun y => PyData.eqv y (.int (f : Nat))) = _
    rw [mem_nats f l]
    have h : PyData.eqv (.int (n : Nat)) (.int (f : Nat)) = (((n : Nat) : Int) == ((f : Nat) : Int)) := by
      first | rfl | simp [PyData.eqv]
    rw [h]
    by_cases q : f = n
    · subst q; simp
    · have : (((n : Nat) : Int) == ((f : Nat) : Int)) = false := by simp; grind
      rw [this]; simp [q]
theorem seq_nat {k n : Nat} (h : k < n) : seqIndex? (k : Int) n = some k := by
  have h2 : (decide (0 ≤ (k : Int)) && decide ((k : Int) < (n : Int))) = true := by rw [decide_eq_true (Int.natCast_nonneg k), decide_eq_true (Int.ofNat_lt.mpr h)]; rfl
  unfold seqIndex?
  simp only [if_neg (Int.not_lt.mpr (Int.natCast_nonneg k))]
  exact if_pos h2
theorem seq_last {n : Nat} (h : 0 < n) : seqIndex? (-1) n = some (n - 1) := by
  cases n with
  | zero => cases h
  | succ m =>
    have e : (-1 : Int) + ((m + 1 : Nat) : Int) = m := by rw [Int.add_comm]; exact Int.add_neg_cancel_right (m : Int) 1
    have h2 : (decide (0 ≤ (m : Int)) && decide ((m : Int) < ((m + 1 : Nat) : Int))) = true := by rw [decide_eq_true (Int.natCast_nonneg m), decide_eq_true (Int.ofNat_lt.mpr (Nat.lt_succ_self m))]; rfl
    unfold seqIndex?
    simp only [if_pos (by decide : (-1 : Int) < 0)]
    rw [e]
    exact if_pos h2
theorem clip_nat {n k : Nat} : clipAt n (k : Int) = min k n := by
  unfold clipAt
  rw [if_neg (Int.not_lt.mpr (Int.natCast_nonneg k))]
  rcases Nat.le_total k n with h | h
  · rw [Nat.min_eq_left h, Int.min_eq_left (Int.ofNat_le.mpr h), Int.max_eq_right (Int.natCast_nonneg k)]; rfl
  · rw [Nat.min_eq_right h, Int.min_eq_right (Int.ofNat_le.mpr h), Int.max_eq_right (Int.natCast_nonneg n)]; rfl
theorem itemV_nat {ds : List V} {k : Nat} (hk : k < ds.length) (hb : k ≤ 1000000) : itemV (.lst ds) (natV k) = ds[k]? := by
  show (if ((k : Nat) : Int).natAbs ≤ 1000000 then (seqIndex? (k : Nat) ds.length).bind (ds[·]?) else none) = _
  rw [if_pos (by omega), seq_nat hk]
  rfl
theorem itemV_last {ds : List V} (hk : 0 < ds.length) : itemV (.lst ds) (.int (-1)) = ds[ds.length - 1]? := by
  show (if (-1 : Int).natAbs ≤ 1000000 then (seqIndex? (-1) ds.length).bind (ds[·]?) else none) = _
  rw [if_pos (by decide), seq_last hk]
  rfl
theorem slice_others {x : V} {r : List V} {w : Nat} (h : r.length ≤ 1000) : sliceV (some 1) (some ((w + 1 : Nat) : Int)) (.lst (x :: r)) = some (.lst (r.take w)) := by
  show (if (x :: r).length ≤ 100000 then some (V.lst (((x :: r).drop (clipAt (x :: r).length 1)).take (clipAt (x :: r).length ((w + 1 : Nat) : Int) - clipAt (x :: r).length 1))) else none) = _
  rw [if_pos (show (x :: r).length ≤ 100000 from Nat.succ_le_succ (Nat.le_trans h (by decide)))]
  have e1 : clipAt (x :: r).length 1 = 1 := (clip_nat (k := 1)).trans (Nat.min_eq_left (Nat.le_add_left 1 r.length))
  have e2 : clipAt (x :: r).length ((w + 1 : Nat) : Int) = min w r.length + 1 := clip_nat.trans (Nat.add_min_add_right w r.length 1)
  rw [e1, e2, List.drop_succ_cons, List.drop_zero, Nat.add_sub_cancel, ← List.take_eq_take_min]

noncomputable def r8M (LK : List V) (kv : V) (o : List Nat) (tn : List (List Int)) (qs : List P3) (t : Nat) (P pv : List V) : Rho :=
  [("looks", .lst LK), ("k", kv), ("order", natsV o), ("turns", .lst (tn.map intsV)), ("ready", natsV (readyA qs)), ("blanks", .lst (qs.map fun q => .int (blank q))), ("numbers", .lst (qs.map numsV)), ("rows", .lst (qs.map rowV)), ("turn", natV t), ("picks", .lst P), ("people", .lst pv)]
theorem b8 {us qs : List P3} {kv : V} {L P : List V} {t : Nat} (h : Two us qs) (hL : L.length ≤ 1000) :
    fM F1 18 (bM 8) (cin kv (ordA qs).1 (ordA qs).2 qs t L P (us.map perV)) = some (⟨ownL, r8M (L ++ [lookV qs]) kv (ordA qs).1 (ordA qs).2 qs t P (us.map perV)⟩, none) := by
  have key : ∀ o tn, fM F1 18 (bM 8) (cin kv o tn qs t L P (us.map perV)) = (if L.length ≤ 100000 then some (SS.mk ownL (r8M (L ++ [.lst [.lst (qs.map rowV), .lst (qs.map numsV), natsV (readyA qs), natsV o, .lst (tn.map intsV)]]) kv o tn qs t P (us.map perV))) else none).map (·, none) := fun o tn => by apply two_eq (us := us) (qs := qs) h <;> kernel_rfl
  rw [key, if_pos (by omega)]
  rfl
theorem b9_none {us qs : List P3} {kv : V} {LK P : List V} {tn : List (List Int)} {t : Nat} (h : Two us qs) :
    ∃ st, fM F1 18 (bM 9) ⟨ownL, r8M LK kv [] tn qs t P (us.map perV)⟩ = some (st, some (.lst [.lst LK, .lst P, .bool true])) := by
  refine ⟨⟨["rows"], r8M LK kv [] tn qs t P (us.map perV)⟩, ?_⟩
  apply two_eq (us := us) (qs := qs) h <;> kernel_rfl
theorem b9 {us qs : List P3} {kv : V} {LK P : List V} {tn : List (List Int)} {t f : Nat} {r : List Nat} (h : Two us qs) :
    fM F1 18 (bM 9) ⟨ownL, r8M LK kv (f :: r) tn qs t P (us.map perV)⟩ = (match decide (f ∈ readyA qs) with
      | true => some (⟨["rows"], r8M LK kv (f :: r) tn qs t P (us.map perV)⟩, some (.lst [.lst LK, .lst P, .bool true]))
      | false => some (⟨ownL, r8M LK kv (f :: r) tn qs t P (us.map perV)⟩, none)) := by
  have key : fM F1 18 (bM 9) ⟨ownL, r8M LK kv (f :: r) tn qs t P (us.map perV)⟩ = (match (match boolG .Or [(match (if deps ((f :: r).map natV) ≤ 50 then some false else none) with
        | some t => some (V.bool t)
        | none => none), (match itemV (natsV (f :: r)) (natV 0), some (natsV (readyA qs)) with
        | some a, some b => (match cmpop .In a b with
          | some t => some (V.bool t)
          | none => none)
        | _, _ => none)] with
      | some d => truth d
      | none => none) with
    | some true => some (⟨["rows"], r8M LK kv (f :: r) tn qs t P (us.map perV)⟩, some (.lst [.lst LK, .lst P, .bool true]))
    | some false => some (⟨ownL, r8M LK kv (f :: r) tn qs t P (us.map perV)⟩, none)
    | none => none) := by apply two_eq (us := us) (qs := qs) h <;> kernel_rfl
  have e1 : itemV (natsV (f :: r)) (natV 0) = some (natV f) := itemV_nat (ds := (f :: r).map natV) (by simp) (by omega)
  have e2 : cmpop .In (natV f) (natsV (readyA qs)) = some (decide (f ∈ readyA qs)) := by
    show some ((toPys ((readyA qs).map natV)).any fun y => PyData.eqv y (.int (f : Nat))) = _
    rw [mem_nats]
  rw [key, deps_nats, if_pos (by omega), e1]
  show (match (match boolG .Or [some (V.bool false), (match cmpop .In (natV f) (natsV (readyA qs)) with
          | some t => some (V.bool t)
          | none => none)] with
      | some d => truth d
      | none => none) with
    | some true => _
    | some false => _
    | none => _) = _
  rw [e2]
  cases decide (f ∈ readyA qs) <;> rfl
end Mine

-- PJ
set_option maxRecDepth 10000
namespace Mine
set_option tactic.hygienic false

noncomputable def r11 (os : List Nat) (f : Nat) (LK : List V) (kv : V) (o : List Nat) (tn : List (List Int)) (qs : List P3) (t : Nat) (P pv : List V) : Rho := ("others", natsV os) :: ("first", natV f) :: r8M LK kv o tn qs t P pv
section
variable {us qs : List P3} {kv : V} {LK P : List V} {tn : List (List Int)} {t f : Nat} {r os o : List Nat}
theorem b10 (h : Two us qs) : fM F1 18 (bM 10) ⟨ownL, r8M LK kv (f :: r) tn qs t P (us.map perV)⟩ = some (⟨ownL, ("first", natV f) :: r8M LK kv (f :: r) tn qs t P (us.map perV)⟩, none) := by
  have key : fM F1 18 (bM 10) ⟨ownL, r8M LK kv (f :: r) tn qs t P (us.map perV)⟩ = (match itemV (natsV (f :: r)) (natV 0) with
    | some d => some (⟨ownL, put "first" d (r8M LK kv (f :: r) tn qs t P (us.map perV))⟩, none)
    | none => none) := by apply two_eq (us := us) (qs := qs) h <;> kernel_rfl
  have e1 : itemV (natsV (f :: r)) (natV 0) = some (natV f) := itemV_nat (ds := (f :: r).map natV) (by simp) (by grind)
  rw [key, e1]
  apply two_eq (us := us) (qs := qs) h <;> kernel_rfl
theorem b11 (h : Two us qs) (g : Good qs) (hf : f < qs.length) (hb : ¬ (blank (at_ qs f) == 0) = true) (hr : r.length ≤ 100) :
    fM F1 18 (bM 11) ⟨ownL, ("first", natV f) :: r8M LK kv (f :: r) tn qs t P (us.map perV)⟩ = some (⟨ownL, r11 (r.take (at_ qs f).w) f LK kv (f :: r) tn qs t P (us.map perV)⟩, none) := by
  have key : fM F1 18 (bM 11) ⟨ownL, ("first", natV f) :: r8M LK kv (f :: r) tn qs t P (us.map perV)⟩ = (match (match some (natsV (f :: r)), partO (some (some (.int 1))), partO (some (some (.int (blank (at_ qs f) - 2)))) with
      | some a, some l, some u => sliceV l u a
      | _, _, _ => none) with
    | some d => some (⟨ownL, put "others" d (("first", natV f) :: r8M LK kv (f :: r) tn qs t P (us.map perV))⟩, none)
    | none => none) := by
    apply two_ix (us := us) (qs := qs) (k := f) h hf <;> kernel_rfl
  have h1 := here_of g hf hb
  have h2 := (g.w _ (at_mem hf)).1
  have e0 : blank (at_ qs f) - 2 = (((at_ qs f).w + 1 : Nat) : Int) := by unfold blank; grind
  have e1 : partO (some (some (V.int (((at_ qs f).w + 1 : Nat) : Int)))) = some (some (((at_ qs f).w + 1 : Nat) : Int)) := if_pos (by grind)
  have e2 : partO (some (some (V.int 1))) = some (some 1) := rfl
  rw [key, e0, e1, e2]
  show (match sliceV (some 1) (some (((at_ qs f).w + 1 : Nat) : Int)) (.lst (natV f :: r.map natV)) with
    | some d => some (SS.mk ownL (put "others" d (("first", natV f) :: r8M LK kv (f :: r) tn qs t P (us.map perV))), none)
    | none => none) = _
  rw [slice_others (by rw [List.length_map]; grind), ← List.map_take]
  apply two_eq (us := us) (qs := qs) h <;> kernel_rfl
theorem b12 (h : Two us qs) (g : Good qs) (hf : f < qs.length) (hb : ¬ (blank (at_ qs f) == 0) = true) (hos : os.length ≤ 100) (hw : 1 ≤ (at_ qs f).w) :
    fM F1 18 (bM 12) ⟨ownL, r11 os f LK kv o tn qs t P (us.map perV)⟩ = (match decide (os.length < (at_ qs f).w) || decide (os.getLastD 0 ∈ readyA qs) with
      | true => some (⟨["rows"], r11 os f LK kv o tn qs t P (us.map perV)⟩, some (.lst [.lst LK, .lst P, .bool false]))
      | false => some (⟨ownL, r11 os f LK kv o tn qs t P (us.map perV)⟩, none)) := by
  have key : fM F1 18 (bM 12) ⟨ownL, r11 os f LK kv o tn qs t P (us.map perV)⟩ = (match (match boolG .Or [(match (match bLen [natsV os], some (V.int 3) with
            | some a, some b => binop .Add a b
            | _, _ => none), some (V.int (blank (at_ qs f))) with
          | some a, some b => (match cmpop .Lt a b with
            | some t => some (V.bool t)
            | none => none)
          | _, _ => none), (match itemV (natsV os) (.int (-1)), some (natsV (readyA qs)) with
        | some a, some b => (match cmpop .In a b with
          | some t => some (V.bool t)
          | none => none)
        | _, _ => none)] with
      | some d => truth d
      | none => none) with
    | some true => some (⟨["rows"], r11 os f LK kv o tn qs t P (us.map perV)⟩, some (.lst [.lst LK, .lst P, .bool false]))
    | some false => some (⟨ownL, r11 os f LK kv o tn qs t P (us.map perV)⟩, none)
    | none => none) := by
    apply two_ix (us := us) (qs := qs) (k := f) h hf <;> kernel_rfl
  have h1 := here_of g hf hb
  have e1 : bLen [natsV os] = some (.int (os.length : Nat)) := by
    have := bLen_lst (l := os.map natV) (by rw [List.length_map]; grind)
    rw [List.length_map] at this; exact this
  rw [key, e1]
  have e2 : (match (match some (V.int (os.length : Nat)), some (V.int 3) with
            | some a, some b => binop .Add a b
            | _, _ => none), some (V.int (blank (at_ qs f))) with
          | some a, some b => (match cmpop .Lt a b with
            | some t => some (V.bool t)
            | none => none)
          | _, _ => none) = some (V.bool (decide (os.length < (at_ qs f).w))) := by
    show some (V.bool (decide (((os.length : Nat) : Int) + 3 < blank (at_ qs f)))) = _
    congr 2
    rw [decide_eq_decide]
    unfold blank
    grind
  rw [e2]
  by_cases q : os.length < (at_ qs f).w
  · rw [decide_eq_true q]; rfl
  · rw [decide_eq_false q]
    have hne : 0 < os.length := by grind
    have e3 : itemV (natsV os) (.int (-1)) = some (natV (os.getLastD 0)) := by
      have := itemV_last (ds := os.map natV) (by rw [List.length_map]; grind)
      refine this.trans ?_
      rw [List.length_map, List.getElem?_map, List.getElem?_eq_getElem (by grind)]
      simp only [Option.map_some]
      congr 2
      rw [List.getLastD_eq_getLast?, List.getLast?_eq_getElem?, List.getElem?_eq_getElem (by grind)]
      rfl
    have e4 : cmpop .In (natV (os.getLastD 0)) (natsV (readyA qs)) = some (decide (os.getLastD 0 ∈ readyA qs)) := by
      show some ((toPys ((readyA qs).map natV)).any fun y => PyData.eqv y (.int ((os.getLastD 0 : Nat) : Int))) = _
      rw [mem_nats]
    rw [e3]
    show (match (match boolG .Or [some (V.bool false), (match cmpop .In (natV (os.getLastD 0)) (natsV (readyA qs)) with
          | some t => some (V.bool t)
          | none => none)] with
      | some d => truth d
      | none => none) with
    | some true => _
    | some false => _
    | none => _) = _
    rw [e4]
    cases decide (os.getLastD 0 ∈ readyA qs) <;> rfl
end
noncomputable def r13 (btw : V) (os : List Nat) (f : Nat) (LK : List V) (kv : V) (o : List Nat) (tn : List (List Int)) (qs : List P3) (t : Nat) (P pv : List V) : Rho := ("between", btw) :: r11 os f LK kv o tn qs t P pv
noncomputable def r14 (rows : List V) (btw : V) (os : List Nat) (f : Nat) (LK : List V) (kv : V) (o : List Nat) (tn : List (List Int)) (qs : List P3) (t : Nat) (P pv : List V) : Rho := put "rows" (.lst rows) (r13 btw os f LK kv o tn qs t P pv)
section
variable {F : Str → List V → Option V} {us qs q2 : List P3} {kv : V} {LK P : List V} {tn : List (List Int)} {t f : Nat} {r os o : List Nat}
theorem b13 {btw : V} (h : Two us qs) (hf : f < qs.length) (hF : F "_strip_padding" [rowV (at_ qs f), .int (blank (at_ qs f) - 1)] = some btw) :
    fM F 18 (bM 13) ⟨ownL, r11 os f LK kv o tn qs t P (us.map perV)⟩ = some (⟨ownL, r13 btw os f LK kv o tn qs t P (us.map perV)⟩, none) := by
  have key : fM F 18 (bM 13) ⟨ownL, r11 os f LK kv o tn qs t P (us.map perV)⟩ = (match (match F "_strip_padding" [rowV (at_ qs f), .int (blank (at_ qs f) - 1)] with
      | some d => (if (false && !atomV d) = true then none else some d)
      | none => none) with
    | some d => some (⟨ownL, put "between" d (r11 os f LK kv o tn qs t P (us.map perV))⟩, none)
    | none => none) := by
    apply two_ix (us := us) (qs := qs) (k := f) h hf <;> kernel_rfl
  rw [key, hF]
  apply two_eq (us := us) (qs := qs) h <;> kernel_rfl
theorem b14 {btw d : V} (h : Two us qs) (hf : f < qs.length) (hF : F "_strip_padding" [btw, .int 2] = some d) :
    fM F 18 (bM 14) ⟨ownL, r13 btw os f LK kv o tn qs t P (us.map perV)⟩ = some (⟨ownL, r14 ((qs.map rowV).set f d) btw os f LK kv o tn qs t P (us.map perV)⟩, none) := by
  have key : fM F 18 (bM 14) ⟨ownL, r13 btw os f LK kv o tn qs t P (us.map perV)⟩ = (match (match F "_strip_padding" [btw, .int 2] with
      | some d => (if (false && !atomV d) = true then none else some d)
      | none => none), some (natV f) with
    | some d, some k => (setI "rows" k d ⟨ownL, r13 btw os f LK kv o tn qs t P (us.map perV)⟩).map (·, none)
    | _, _ => none) := by
    apply two_ix (us := us) (qs := qs) (k := f) h hf <;> kernel_rfl
  rw [key, hF]
  show (setI "rows" (natV f) d ⟨ownL, r13 btw os f LK kv o tn qs t P (us.map perV)⟩).map (fun x => (x, (none : Option V))) = _
  clear key hF
  apply two_ix (us := us) (qs := qs) (k := f) h hf <;> kernel_rfl
noncomputable def cin2 (q2 : List P3) (btw : V) (os : List Nat) (f : Nat) (LK : List V) (kv : V) (o : List Nat) (tn : List (List Int)) (qs : List P3) (t : Nat) (P pv : List V) : SS :=
  ⟨ownL, [("k", kv), ("between", btw), ("others", natsV os), ("first", natV f), ("order", natsV o), ("turns", .lst (tn.map intsV)), ("ready", natsV (readyA qs)), ("blanks", .lst (qs.map fun q => .int (blank q))), ("numbers", .lst (qs.map numsV)), ("rows", .lst (q2.map rowV)), ("turn", natV t), ("looks", .lst LK), ("picks", .lst P), ("people", .lst pv)]⟩
theorem ot_turn {btw : V} {k : Nat} {p : P3} (h : Two us qs) (h2 : Two us q2) (hk : k < q2.length) (hF : F "_strip_padding" [rowV (at_ q2 k), .int 1] = some (rowV p)) :
    ∃ st, kM F 18 (forB (bM 15)) (cin2 q2 btw os f LK (natV k) o tn qs t P (us.map perV)) = some (st, none) ∧ nrm (liveM "k") st = cin2 (q2.set k p) btw os f LK (natV k) o tn qs t P (us.map perV) := by
  have key : kM F 18 (forB (bM 15)) (cin2 q2 btw os f LK (natV k) o tn qs t P (us.map perV)) = seqB (fM F 17) [(forB (bM 15)).getD 0 default] (cin2 q2 btw os f LK (natV k) o tn qs t P (us.map perV)) := by rfl
  have key2 : fM F 17 ((forB (bM 15)).getD 0 default) (cin2 q2 btw os f LK (natV k) o tn qs t P (us.map perV)) = (match (match F "_strip_padding" [rowV (at_ q2 k), .int 1] with
      | some d => (if (false && !atomV d) = true then none else some d)
      | none => none), some (natV k) with
    | some d, some k' => (setI "rows" k' d (cin2 q2 btw os f LK (natV k) o tn qs t P (us.map perV))).map (·, none)
    | _, _ => none) := by
    cases h2
    · rcases (lt4 hk) with rfl | rfl | rfl | rfl <;> kernel_rfl
    · rcases (lt5 hk) with rfl | rfl | rfl | rfl | rfl <;> kernel_rfl
  refine ⟨⟨ownL, put "rows" (.lst ((q2.map rowV).set k (rowV p))) (cin2 q2 btw os f LK (natV k) o tn qs t P (us.map perV)).ρ⟩, ?_, ?_⟩
  · rw [key]
    refine seq_next ?_ rfl
    rw [key2, hF]
    show (setI "rows" (natV k) (rowV p) (cin2 q2 btw os f LK (natV k) o tn qs t P (us.map perV))).map (fun x => (x, (none : Option V))) = _
    clear key key2 hF
    cases h2
    · rcases (lt4 hk) with rfl | rfl | rfl | rfl <;> kernel_rfl
    · rcases (lt5 hk) with rfl | rfl | rfl | rfl | rfl <;> kernel_rfl
  · rw [← List.map_set]
    kernel_rfl
end
end Mine

-- PK
set_option maxRecDepth 10000
namespace Mine
set_option tactic.hygienic false

theorem two_set {us qs : List P3} (h : Two us qs) (k : Nat) (p : P3) : Two us (qs.set k p) := by
  have := two_len h
  exact len_two (by rw [List.length_set]; exact this.1) (by rw [List.length_set]; exact this.2)
theorem at_set {qs : List P3} {k j : Nat} {p : P3} (hk : k < qs.length) : at_ (qs.set k p) j = if k = j then p else at_ qs j := by
  unfold at_
  rw [List.getD_eq_getElem?_getD, List.getD_eq_getElem?_getD, List.getElem?_set]
  split
  · first | rfl | (rw [if_pos hk]; rfl)
  · rfl
theorem F1_strip : F1 "_strip_padding" = fStrip := by kernel_rfl
theorem F1_read : F1 "_law_read" = fRead := by kernel_rfl
theorem F1_mail : F1 "_law_mail" = fMail := by kernel_rfl
theorem F1_quote : F1 "quotedata" = fQuote := by kernel_rfl
noncomputable def stepO (q : List P3) (k : Nat) : List P3 := q.set k (less1 (at_ q k))
noncomputable abbrev oloop (l : List Nat) (st : SS) : Res := forL scM "k" (nrmK (liveM "k") (kM F1 18) (forB (bM 15))) (l.map natV) st
noncomputable def IvL (q : List P3) (l : List Nat) : Prop := ∀ k ∈ l, k < q.length ∧ (at_ q k).h = 1 ∧ 1 ≤ (at_ q k).w ∧ (at_ q k).w < 6 ∧ (at_ q k).d < 9
theorem ivL_step {q : List P3} {k : Nat} {l : List Nat} (hn : (k :: l).Nodup) (h : IvL q (k :: l)) : IvL (stepO q k) l := by
  intro j hj
  have h1 := h j (List.mem_cons_of_mem _ hj)
  have hk := (h k List.mem_cons_self).1
  have hne : k ≠ j := fun e => (List.nodup_cons.mp hn).1 (e ▸ hj)
  unfold stepO
  rw [at_set hk, if_neg hne, List.length_set]
  exact h1
theorem strip_k {q : P3} (h1 : q.h = 1) (h2 : 1 ≤ q.w) (h3 : q.w < 6) (h4 : q.d < 9) : F1 "_strip_padding" [rowV q, .int 1] = some (rowV (less1 q)) := by
  rw [F1_strip]
  obtain ⟨w, d, h⟩ := q
  obtain ⟨w', rfl⟩ : ∃ w', w = w' + 1 := ⟨w - 1, by simp at h2; omega⟩
  simp only at h1 h3 h4
  subst h1
  exact strip_one (by omega) h4
section
variable {us qs : List P3} {btw : V} {LK P : List V} {tn : List (List Int)} {t f : Nat} {os o : List Nat}
theorem ot_loop (h : Two us qs) : ∀ (l : List Nat) (q2 : List P3) (kv : V), Two us q2 → l.Nodup → IvL q2 l → ∃ kv', oloop l (cin2 q2 btw os f LK kv o tn qs t P (us.map perV)) = some (cin2 (l.foldl stepO q2) btw os f LK kv' o tn qs t P (us.map perV), none)
  | [], q2, kv, _, _, _ => ⟨kv, rfl⟩
  | k :: l, q2, kv, h2, hn, iv => by
    have q_44 := iv k List.mem_cons_self
    have a1 := q_44.1
    have a2 := q_44.2.1
    have a3 := q_44.2.2.1
    have a4 := q_44.2.2.2.1
    have a5 := q_44.2.2.2.2
    refine Exists.elim (ot_turn (btw := btw) (LK := LK) (P := P) (tn := tn) (t := t) (f := f) (os := os) (o := o) h h2 a1 (strip_k a2 a3 a4 a5)) fun st q_45 => ?_
    have e1 := q_45.1
    have e2 := q_45.2
    obtain ⟨kv', e3⟩ := ot_loop h l (stepO q2 k) (natV k) (two_set h2 _ _) (List.nodup_cons.mp hn).2 (ivL_step hn iv)
    exact ⟨kv', forL_cons (c := cin2 q2 btw os f LK (natV k) o tn qs t P (us.map perV)) (c' := cin2 (stepO q2 k) btw os f LK (natV k) o tn qs t P (us.map perV)) (by kernel_rfl) e1 e2 e3⟩
theorem b15 {kv : V} {q2 : List P3} {k : Nat} {l : List Nat} (h : Two us qs) (h2 : Two us q2) (hn : (k :: l).Nodup) (iv : IvL q2 (k :: l)) :
    ∃ kv', fM F1 18 (bM 15) ⟨ownL, r14 (q2.map rowV) btw (k :: l) f LK kv o tn qs t P (us.map perV)⟩ = some (cin2 ((k :: l).foldl stepO q2) btw (k :: l) f LK kv' o tn qs t P (us.map perV), none) := by
  have key : fM F1 18 (bM 15) ⟨ownL, r14 (q2.map rowV) btw (k :: l) f LK kv o tn qs t P (us.map perV)⟩ = oloop (k :: l) ⟨ownL, r14 (q2.map rowV) btw (k :: l) f LK kv o tn qs t P (us.map perV)⟩ := by kernel_rfl
  have q_51 := iv k List.mem_cons_self
  have a1 := q_51.1
  have a2 := q_51.2.1
  have a3 := q_51.2.2.1
  have a4 := q_51.2.2.2.1
  have a5 := q_51.2.2.2.2
  refine Exists.elim (ot_turn (btw := btw) (LK := LK) (P := P) (tn := tn) (t := t) (f := f) (os := k :: l) (o := o) h h2 a1 (strip_k a2 a3 a4 a5)) fun st q_52 => ?_
  have e1 := q_52.1
  have e2 := q_52.2
  obtain ⟨kv', e3⟩ := ot_loop (btw := btw) (LK := LK) (P := P) (tn := tn) (t := t) (f := f) (os := k :: l) (o := o) h l (stepO q2 k) (natV k) (two_set h2 _ _) (List.nodup_cons.mp hn).2 (ivL_step hn iv)
  exact ⟨kv', key.trans (forL_cons (c := cin2 q2 btw (k :: l) f LK (natV k) o tn qs t P (us.map perV)) (c' := cin2 (stepO q2 k) btw (k :: l) f LK (natV k) o tn qs t P (us.map perV)) (by kernel_rfl) e1 e2 e3)⟩
theorem b16 {kv : V} {q2 : List P3} (hL : LK.length ≤ 1000) : fM F1 18 (bM 16) (cin2 q2 btw os f LK kv o tn qs t P (us.map perV)) = some (⟨ownL, put "looks" (.lst (LK ++ [btw])) (cin2 q2 btw os f LK kv o tn qs t P (us.map perV)).ρ⟩, none) := by
  have key : fM F1 18 (bM 16) (cin2 q2 btw os f LK kv o tn qs t P (us.map perV)) = (if LK.length ≤ 100000 then some (SS.mk ownL (put "looks" (.lst (LK ++ [btw])) (cin2 q2 btw os f LK kv o tn qs t P (us.map perV)).ρ)) else none).map (·, none) := by kernel_rfl
  rw [key, if_pos (by omega)]; rfl
theorem b17 {kv : V} {q2 : List P3} (hP : P.length ≤ 1000) : ∃ st, fM F1 18 (bM 17) ⟨ownL, put "looks" (.lst (LK ++ [btw])) (cin2 q2 btw os f LK kv o tn qs t P (us.map perV)).ρ⟩ = some (st, none) ∧
    nrm (liveM "turn") st = hdM true (q2.map rowV) t (LK ++ [btw]) (P ++ [pickV (f, os)]) (us.map perV) := by
  have key : fM F1 18 (bM 17) ⟨ownL, put "looks" (.lst (LK ++ [btw])) (cin2 q2 btw os f LK kv o tn qs t P (us.map perV)).ρ⟩ = (if P.length ≤ 100000 then some (SS.mk ownL (put "picks" (.lst (P ++ [pickV (f, os)])) (put "looks" (.lst (LK ++ [btw])) (cin2 q2 btw os f LK kv o tn qs t P (us.map perV)).ρ))) else none).map (·, none) := by kernel_rfl
  refine ⟨SS.mk ownL (put "picks" (.lst (P ++ [pickV (f, os)])) (put "looks" (.lst (LK ++ [btw])) (cin2 q2 btw os f LK kv o tn qs t P (us.map perV)).ρ)), ?_, ?_⟩
  · rw [key, if_pos (by omega)]; rfl
  · kernel_rfl
end

structure GoodT (t : Nat) (ps : List P3) : Prop where
  w : ∀ p ∈ ps, p.w < 6 ∧ p.d ≤ 3 + t ∧ p.h < 2
  d1 : ∀ p ∈ ps, 1 ≤ p.d
  gone : ∀ p ∈ ps, p.h = 0 → p.w = 0
theorem GoodT.bump {t : Nat} {ps : List P3} (g : GoodT t ps) (ht : t < 5) : Good (ps.map bump) where
  w := fun q hq => by
    obtain ⟨p, hp, rfl⟩ := List.mem_map.mp hq
    have := g.w p hp
    unfold Mine.bump
    split
    · simp only; omega
    · omega
  d1 := fun q hq => by
    obtain ⟨p, hp, rfl⟩ := List.mem_map.mp hq
    have := g.d1 p hp
    unfold Mine.bump
    split
    · simp only; omega
    · omega
  gone := fun q hq => by
    refine Exists.elim (List.mem_map.mp hq) fun p q_87 => ?_
    have hp := q_87.1
    obtain rfl := q_87.2
    have := g.gone p hp
    unfold Mine.bump
    split
    · intro _; rfl
    · exact this
theorem two_bump {us ps : List P3} (h : Two us ps) : Two us (ps.map bump) := by
  have := two_len h
  exact len_two (by rw [List.length_map]; exact this.1) (by rw [List.length_map]; exact this.2)
theorem came_ok {us ps : List P3} {t : Nat} (h : Two us ps) (g : GoodT t ps) (ht : t < 5) : ∃ m q, F1 "_law_mail" [.lst (ps.map rowV), natV t] = some (.str m) ∧ F1 "quotedata" [.str m] = some (.str q) ∧ splitOKB q [13, 10] = true ∧
    V.lst ((splitP q [13, 10]).map V.str) = cameV (ps.map bump) := by
  rw [F1_mail, F1_quote]
  have row : ∀ p ∈ ps, Plain (rowL p) ∧ rowL p ≠ [] ∧ (rowL p).length ≤ 20 := fun p hp => ⟨row_plain p, row_ne (g.d1 p hp), row_len (by have := g.w p hp; omega)⟩
  have dr : ∀ p ∈ ps, dotRow (rowL p) = rowL (bump p) := fun p hp => bump_row (g.d1 p hp)
  cases h with
  | four a b c d a' b' c' d' =>
    have ra := row a' (by simp); have rb := row b' (by simp); have rc := row c' (by simp); have rd := row d' (by simp)
    have hm := mail4 (rowL a') (rowL b') (rowL c') (rowL d') ht ra.2.2 rb.2.2 rc.2.2 rd.2.2
    obtain ⟨e1, e2, e3, e4⟩ := mail_came (en := en t) (en_is t) (p := rowL a') (r := rowL b') (rs := [rowL c', rowL d']) (by simp) (by
      intro q hq
      simp only [List.mem_cons, List.not_mem_nil, or_false] at hq
      rcases hq with rfl | rfl | rfl | rfl <;> assumption)
    refine ⟨_, _, hm, quote_str _ e1 e2, e3, ?_⟩
    rw [e4, dr a' (by simp)]
    simp only [List.map_cons, List.map_nil]
    rw [dr b' (by simp), dr c' (by simp), dr d' (by simp)]
    rfl
  | five a b c d e a' b' c' d' e' =>
    have ra := row a' (by simp); have rb := row b' (by simp); have rc := row c' (by simp); have rd := row d' (by simp); have re := row e' (by simp)
    have hm := mail5 (rowL a') (rowL b') (rowL c') (rowL d') (rowL e') ht ra.2.2 rb.2.2 rc.2.2 rd.2.2 re.2.2
    obtain ⟨e1, e2, e3, e4⟩ := mail_came (en := en t) (en_is t) (p := rowL a') (r := rowL b') (rs := [rowL c', rowL d', rowL e']) (by simp) (by
      intro q hq
      simp only [List.mem_cons, List.not_mem_nil, or_false] at hq
      rcases hq with rfl | rfl | rfl | rfl | rfl <;> assumption)
    refine ⟨_, _, hm, quote_str _ e1 e2, e3, ?_⟩
    rw [e4, dr a' (by simp)]
    simp only [List.map_cons, List.map_nil]
    rw [dr b' (by simp), dr c' (by simp), dr d' (by simp), dr e' (by simp)]
    rfl
end Mine

-- PL
set_option maxRecDepth 10000
namespace Mine
set_option tactic.hygienic false

noncomputable def isIn (qs : List P3) (k : Nat) : Bool := !(blank (at_ qs k) == 0)
theorem ins_perm (o : List Nat) (c k : Nat) : (ins o c k).Perm (k :: o) := by
  unfold ins
  have := List.perm_middle (a := k) (l₁ := o.take c) (l₂ := o.drop c)
  rwa [List.take_append_drop] at this
theorem fold_perm (qs : List P3) : ∀ (l o : List Nat) (tn : List (List Int)), (l.foldl (ordStep qs) (o, tn)).1.Perm (o ++ l.filter (isIn qs))
  | [], o, tn => by simp
  | k :: l, o, tn => by
    rw [List.foldl_cons]
    refine (fold_perm qs l (ordStep qs (o, tn) k).1 (ordStep qs (o, tn) k).2).trans ?_
    unfold ordStep
    by_cases hb : (blank (at_ qs k) == 0) = true
    · rw [if_pos hb, List.filter_cons, if_neg (by unfold isIn; rw [hb]; simp)]
    · rw [if_neg hb, List.filter_cons, if_pos (by unfold isIn; simpa using hb)]
      refine ((ins_perm o _ k).append_right _).trans ?_
      exact List.perm_middle.symm
noncomputable def free (qs : List P3) : List Nat := (List.range qs.length).filter (isIn qs)
theorem ordA_perm (qs : List P3) : (ordA qs).1.Perm (free qs) := by
  have := fold_perm qs (List.range qs.length) [] []
  exact this
theorem ordA_nodup (qs : List P3) : (ordA qs).1.Nodup := (ordA_perm qs).nodup_iff.mpr (List.nodup_range.filter _)
theorem mem_ordA {qs : List P3} {k : Nat} : k ∈ (ordA qs).1 ↔ k < qs.length ∧ isIn qs k = true := by
  rw [(ordA_perm qs).mem_iff]
  unfold free
  rw [List.mem_filter, List.mem_range]
theorem isIn_not {qs : List P3} {k : Nat} : isIn qs k = true ↔ ¬ (blank (at_ qs k) == 0) = true := by unfold isIn; simp
theorem mem_ready {qs : List P3} (g : Good qs) {k : Nat} (hk : k < qs.length) (hb : ¬ (blank (at_ qs k) == 0) = true) : k ∈ readyA qs ↔ (at_ qs k).w = 0 := by
  have h1 := here_of g hk hb
  unfold readyA
  rw [List.mem_filter, List.mem_range]
  unfold blank
  simp only [hk, true_and, beq_iff_eq]
  omega
theorem nextP_eq (qs : List P3) (f : Nat) (os : List Nat) : nextP qs f os = os.foldl stepO (qs.set f ⟨0, (at_ qs f).d, 0⟩) := rfl
theorem foldO_len : ∀ (l : List Nat) (q : List P3), (l.foldl stepO q).length = q.length
  | [], _ => rfl
  | k :: l, q => by rw [List.foldl_cons, foldO_len]; unfold stepO; rw [List.length_set]

noncomputable def Lex (qs : List P3) (i j : Nat) : Prop := mark (at_ qs i) < mark (at_ qs j) ∨ (mark (at_ qs i) = mark (at_ qs j) ∧ i < j)
theorem lex_w {qs : List P3} {i j : Nat} (h : Lex qs i j) (hi : (at_ qs i).d < 9) (hj : (at_ qs j).d < 9) (hw : (at_ qs j).w ≠ 0) : 1 ≤ (at_ qs i).w := by
  replace h : mark (at_ qs i) ≤ mark (at_ qs j) := h.elim Int.le_of_lt fun e => Int.le_of_eq e.1
  unfold mark at h
  generalize (at_ qs i).w = a at *
  generalize (at_ qs i).d = b at *
  generalize (at_ qs j).w = c at *
  generalize (at_ qs j).d = d at *
  clear qs
  omega
theorem last_w {qs : List P3} {os : List Nat} (g : Good qs) (hin : ∀ j ∈ os, j < qs.length) (hp : os.Pairwise (Lex qs)) (hne : os ≠ []) (hl0 : ¬ (at_ qs (os.getLastD 0)).w = 0) : ∀ j ∈ os, 1 ≤ (at_ qs j).w := fun j hj => by
  have hgl : os = os.dropLast ++ [os.getLastD 0] := by
    rw [List.getLastD_eq_getLast?, List.getLast?_eq_some_getLast hne]
    exact (List.dropLast_concat_getLast hne).symm
  have hlm : os.getLastD 0 ∈ os := by
    have h := List.mem_append_right os.dropLast (List.mem_singleton.mpr rfl : os.getLastD 0 ∈ [os.getLastD 0])
    rwa [← hgl] at h
  have hj2 := hj
  rw [hgl] at hp hj2
  rcases List.mem_append.mp hj2 with q | q
  · exact lex_w ((List.pairwise_append.mp hp).2.2 j q _ List.mem_cons_self) (g.w _ (at_mem (hin j hj))).2.1 (g.w _ (at_mem (hin _ hlm))).2.1 hl0
  · rw [List.mem_singleton.mp q]; exact Nat.pos_of_ne_zero hl0
theorem cut_at {p : Nat → Bool} : ∀ {o : List Nat}, o.Pairwise (fun x y => p y = true → p x = true) → (∀ x ∈ o.take (o.filter p).length, p x = true) ∧ (∀ x ∈ o.drop (o.filter p).length, p x = false)
  | [], _ => ⟨(fun x h => by simp at h), (fun x h => by simp at h)⟩
  | a :: o, h => by
    rw [List.pairwise_cons] at h
    cases ha : p a with
    | true =>
      rw [List.filter_cons, if_pos ha, List.length_cons, List.take_succ_cons, List.drop_succ_cons]
      obtain ⟨h1, h2⟩ := cut_at h.2
      exact ⟨fun x hx => (List.mem_cons.mp hx).elim (fun e => e ▸ ha) (h1 x), h2⟩
    | false =>
      have hall : ∀ x ∈ a :: o, p x = false := fun x hx => by
        rcases List.mem_cons.mp hx with e | hx
        · rw [e]; exact ha
        · cases hx' : p x with
          | false => rfl
          | true => have := h.1 x hx hx'; rw [ha] at this; exact Bool.noConfusion this
      have : (a :: o).filter p = [] := by
        rw [List.filter_eq_nil_iff]
        intro x hx
        rw [hall x hx]; simp
      rw [this]
      exact ⟨(fun x h => by simp at h), hall⟩
theorem cmp_lt {a b : Int} : decide (cmpI a b < 1) = decide (a ≤ b) := by
  rw [decide_eq_decide]
  unfold cmpI b2iV
  by_cases h1 : b < a <;> by_cases h2 : a < b <;> simp [h1, h2] <;> grind
theorem low_eq (qs : List P3) (o : List Nat) (k : Nat) : low (held qs o k) = (o.filter fun j => decide (mark (at_ qs j) ≤ mark (at_ qs k))).length := by
  unfold low held
  rw [List.filter_map, List.length_map]
  congr 1
  refine congrArg (fun f => List.filter f o) (funext fun j => ?_)
  exact cmp_lt
theorem ins_lex {qs : List P3} {o : List Nat} {k : Nat} (h : o.Pairwise (Lex qs)) (hk : ∀ x ∈ o, x < k) : (ins o (low (held qs o k)) k).Pairwise (Lex qs) := by
  have hp : o.Pairwise (fun x y => decide (mark (at_ qs y) ≤ mark (at_ qs k)) = true → decide (mark (at_ qs x) ≤ mark (at_ qs k)) = true) := h.imp fun {x y} hxy => by
    rw [decide_eq_true_iff, decide_eq_true_iff]
    rcases hxy with q | ⟨q, _⟩ <;> grind
  obtain ⟨h1, h2⟩ := cut_at hp
  rw [← low_eq] at h1 h2
  generalize low (held qs o k) = c at *
  have ho := h
  rw [← List.take_append_drop c o, List.pairwise_append] at ho
  unfold ins
  rw [List.pairwise_append, List.pairwise_cons]
  refine ⟨ho.1, ⟨fun x hx => ?_, ho.2.1⟩, fun x hx y hy => ?_⟩
  · have := h2 x hx
    rw [decide_eq_false_iff_not] at this
    exact .inl (by omega)
  · rcases List.mem_cons.mp hy with e | hy
    · rw [e]
      have := h1 x hx
      rw [decide_eq_true_iff] at this
      have hlt := hk x (List.mem_of_mem_take hx)
      rcases Int.lt_or_eq_of_le this with q | q
      · exact .inl q
      · exact .inr ⟨q, hlt⟩
    · exact ho.2.2 x hx y hy
theorem fold_lex (qs : List P3) : ∀ (l o : List Nat) (tn : List (List Int)), l.Pairwise (· < ·) → (∀ x ∈ o, ∀ k ∈ l, x < k) → o.Pairwise (Lex qs) → (l.foldl (ordStep qs) (o, tn)).1.Pairwise (Lex qs)
  | [], o, tn, _, _, h => h
  | k :: l, o, tn, hl, hx, h => by
    rw [List.foldl_cons]
    rw [List.pairwise_cons] at hl
    by_cases hb : (blank (at_ qs k) == 0) = true
    · have e : ordStep qs (o, tn) k = (o, tn) := by unfold ordStep; rw [if_pos hb]
      rw [e]
      exact fold_lex qs l o tn hl.2 (fun x hx' j hj => hx x hx' j (List.mem_cons_of_mem _ hj)) h
    · have e : ordStep qs (o, tn) k = (ins o (low (held qs o k)) k, tn ++ [held qs o k]) := by unfold ordStep; rw [if_neg hb]
      rw [e]
      refine fold_lex qs l _ _ hl.2 (fun x hx' j hj => ?_) (ins_lex h fun x hx' => hx x hx' k List.mem_cons_self)
      rcases List.mem_cons.mp ((ins_perm o _ k).mem_iff.mp hx') with e | hx'
      · rw [e]; exact hl.1 j hj
      · exact hx x hx' j (List.mem_cons_of_mem _ hj)
theorem ordA_lex (qs : List P3) : (ordA qs).1.Pairwise (Lex qs) := fold_lex qs _ [] [] List.pairwise_lt_range (fun x h => by cases h) .nil

noncomputable def EndsM (b : Bool) (us ps : List P3) (t : Nat) (L P : List V) (g : Bool) : Prop :=
  ∃ st, kM F1 19 (forB (S "_law_by_mail" 2)) (hdM b (ps.map rowV) t L P (us.map perV)) = some (st, some (.lst [.lst (L ++ [lookV (ps.map bump)]), .lst P, .bool g]))
theorem bodyM_is : forB (S "_law_by_mail" 2) = [bM 0, bM 1, bM 2, bM 3, bM 4, bM 5, bM 6, bM 7, bM 8, bM 9, bM 10, bM 11, bM 12, bM 13, bM 14, bM 15, bM 16, bM 17] := by kernel_rfl
theorem turn_start {b : Bool} {us ps : List P3} {t : Nat} {L P : List V} (h : Two us ps) (g : GoodT t ps) (ht : t < 5) (hL : L.length ≤ 500) :
    ∃ kv, ∀ R, seqB (fM F1 18) [bM 9, bM 10, bM 11, bM 12, bM 13, bM 14, bM 15, bM 16, bM 17] ⟨ownL, r8M (L ++ [lookV (ps.map bump)]) kv (ordA (ps.map bump)).1 (ordA (ps.map bump)).2 (ps.map bump) t P (us.map perV)⟩ = R →
      kM F1 19 (forB (S "_law_by_mail" 2)) (hdM b (ps.map rowV) t L P (us.map perV)) = R := by
  have h2 := two_bump h
  have gq := g.bump ht
  refine ex2 (came_ok h g ht) fun m q q_151 => ?_
  have e1 := q_151.1
  have e2 := q_151.2.1
  have e3 := q_151.2.2.1
  have e4 := q_151.2.2.2
  obtain ⟨kv, e7⟩ := b7 (L := L) (P := P) (t := t) h2 gq
  refine ⟨kv, fun R hR => ?_⟩
  show seqB (fM F1 18) (forB (S "_law_by_mail" 2)) _ = _
  rw [bodyM_is]
  refine seq_next (b0 e1 e2 e3) ?_
  rw [e4]
  refine seq_next (b1 h2) (seq_next (b2 h2) (seq_next (b3 h2 fun q hq => ?_) (seq_next (b4 h2 gq.w) (seq_next (b5 h2) (seq_next (b6 h2) (seq_next e7 (seq_next (b8 h2 (by grind)) hR)))))))
  rw [F1_read]
  have := gq.w q hq
  exact read_row this.1 this.2.1 this.2.2
theorem turn_none {b : Bool} {us ps : List P3} {t : Nat} {L P : List V} (h : Two us ps) (g : GoodT t ps) (ht : t < 5) (hL : L.length ≤ 500) (ho : (ordA (ps.map bump)).1 = []) : EndsM b us ps t L P true := by
  refine Exists.elim (turn_start (b := b) (P := P) h g ht hL) fun kv hk => ?_
  rw [ho] at hk
  obtain ⟨st, e⟩ := b9_none (kv := kv) (LK := L ++ [lookV (ps.map bump)]) (P := P) (tn := (ordA (ps.map bump)).2) (t := t) (two_bump h)
  exact ⟨st, hk _ (seq_ret e)⟩
section
variable {b : Bool} {us ps : List P3} {t f : Nat} {r : List Nat} {L P : List V} (h : Two us ps) (g : GoodT t ps) (ht : t < 5) (hL : L.length ≤ 500) (ho : (ordA (ps.map bump)).1 = f :: r)
include h g ht hL ho
theorem turn_ready (hw : (at_ (ps.map bump) f).w = 0) : EndsM b us ps t L P true := by
  obtain ⟨kv, hk⟩ := turn_start (b := b) (P := P) h g ht hL
  rw [ho] at hk
  have hm := mem_ordA.mp (by rw [ho]; exact List.mem_cons_self : f ∈ (ordA (ps.map bump)).1)
  have hr : f ∈ readyA (ps.map bump) := (mem_ready (g.bump ht) hm.1 (isIn_not.mp hm.2)).mpr hw
  exact ⟨⟨["rows"], r8M (L ++ [lookV (ps.map bump)]) kv (f :: r) (ordA (ps.map bump)).2 (ps.map bump) t P (us.map perV)⟩, hk _ (seq_ret (by rw [b9 (two_bump h), decide_eq_true hr]))⟩
theorem turn_go (hP : P.length ≤ 500) (hw : ¬ (at_ (ps.map bump) f).w = 0) :
    if (r.take (at_ (ps.map bump) f).w).length < (at_ (ps.map bump) f).w ∨ (at_ (ps.map bump) ((r.take (at_ (ps.map bump) f).w).getLastD 0)).w = 0 then EndsM b us ps t L P false else
      ∃ st, kM F1 19 (forB (S "_law_by_mail" 2)) (hdM b (ps.map rowV) t L P (us.map perV)) = some (st, none) ∧
        nrm (liveM "turn") st = hdM true ((nextP (ps.map bump) f (r.take (at_ (ps.map bump) f).w)).map rowV) t (L ++ [lookV (ps.map bump)] ++ [betweenV (at_ (ps.map bump) f)]) (P ++ [pickV (f, r.take (at_ (ps.map bump) f).w)]) (us.map perV) := by
  refine Exists.elim (turn_start (b := b) (P := P) h g ht hL) fun kv hk => ?_
  rw [ho] at hk
  have h2 := two_bump h
  have gq := g.bump ht
  have hin : ∀ k ∈ f :: r, k < (ps.map bump).length ∧ ¬ (blank (at_ (ps.map bump) k) == 0) = true := fun k hk' => by
    have hm := mem_ordA.mp (by rw [ho]; exact hk' : k ∈ (ordA (ps.map bump)).1)
    exact ⟨hm.1, isIn_not.mp hm.2⟩
  have hnd : (f :: r).Nodup := by rw [← ho]; exact ordA_nodup _
  have hlen : (f :: r).length ≤ 5 := by
    rw [← ho, (ordA_perm _).length_eq]
    have h1 := List.length_filter_le (isIn (ps.map bump)) (List.range (ps.map bump).length)
    rw [List.length_range] at h1
    have := two_len h2
    unfold free; grind
  simp only [List.length_cons] at hlen
  generalize hqs : ps.map bump = qs at *
  generalize htn : (ordA qs).2 = tn at *
  have q_197 := hin f List.mem_cons_self
  have hf := q_197.1
  have hbf := q_197.2
  have hnr : ¬ f ∈ readyA qs := fun q => hw ((mem_ready gq hf hbf).mp q)
  have e9 : fM F1 18 (bM 9) ⟨ownL, r8M (L ++ [lookV qs]) kv (f :: r) tn qs t P (us.map perV)⟩ = some (⟨ownL, r8M (L ++ [lookV qs]) kv (f :: r) tn qs t P (us.map perV)⟩, none) := by
    rw [b9 h2, decide_eq_false hnr]
  generalize hos : r.take (at_ qs f).w = os at *
  have hosl : os.length ≤ 100 := by rw [← hos, List.length_take]; omega
  have hosm : ∀ k ∈ os, k ∈ r := fun k hk' => by rw [← hos] at hk'; exact List.mem_of_mem_take hk'
  have e11 := b11 (kv := kv) (LK := L ++ [lookV qs]) (P := P) (tn := tn) (t := t) (r := r) h2 gq hf hbf (by omega)
  rw [hos] at e11
  have e12 := b12 (kv := kv) (LK := L ++ [lookV qs]) (P := P) (tn := tn) (t := t) (o := f :: r) h2 gq hf hbf hosl (by grind)
  have hlast : os ≠ [] → (os.getLastD 0 ∈ readyA qs ↔ (at_ qs (os.getLastD 0)).w = 0) := fun hne => by
    have hm : os.getLastD 0 ∈ os := by
      rw [List.getLastD_eq_getLast?, List.getLast?_eq_some_getLast hne]
      exact List.getLast_mem hne
    have q_211 := hin _ (List.mem_cons_of_mem _ (hosm _ hm))
    have x1 := q_211.1
    have x2 := q_211.2
    exact mem_ready gq x1 x2
  split
  · rename_i hbad
    have hd : (decide (os.length < (at_ qs f).w) || decide (os.getLastD 0 ∈ readyA qs)) = true := by
      rw [Bool.or_eq_true, decide_eq_true_iff, decide_eq_true_iff]
      by_cases q : os.length < (at_ qs f).w
      · exact .inl q
      · refine .inr ((hlast fun e => ?_).mpr (hbad.resolve_left q))
        rw [e] at q; simp at q; omega
    rw [hd] at e12
    refine ⟨⟨["rows"], r11 os f (L ++ [lookV qs]) kv (f :: r) tn qs t P (us.map perV)⟩, ?_⟩
    rw [hqs]
    exact hk _ (seq_next e9 (seq_next (b10 h2) (seq_next e11 (seq_ret e12))))
  · rename_i hbad
    have q1 : ¬ os.length < (at_ qs f).w := fun q => hbad (.inl q)
    have hne : os ≠ [] := fun e => by rw [e] at q1; simp at q1; omega
    have q2 : ¬ os.getLastD 0 ∈ readyA qs := fun q => hbad (.inr ((hlast hne).mp q))
    rw [decide_eq_false q1, decide_eq_false q2] at e12
    have hwf := gq.w _ (at_mem hf)
    have hhf := here_of gq hf hbf
    have hdf := gq.d1 _ (at_mem hf)
    have s1 : F1 "_strip_padding" [rowV (at_ qs f), .int (blank (at_ qs f) - 1)] = some (betweenV (at_ qs f)) := by
      rw [F1_strip]
      have := strip_first (w := (at_ qs f).w) (d := (at_ qs f).d - 1) hwf.1 (by omega)
      rw [show (at_ qs f).d - 1 + 1 = (at_ qs f).d by omega] at this
      have e0 : blank (at_ qs f) - 1 = (((at_ qs f).w + 2 : Nat) : Int) := by unfold blank; grind
      rw [e0]
      refine Eq.trans ?_ this
      rw [← hhf]
    have s2 : F1 "_strip_padding" [betweenV (at_ qs f), .int 2] = some (rowV ⟨0, (at_ qs f).d, 0⟩) := by
      rw [F1_strip]
      have := strip_last (d := (at_ qs f).d - 1) (by omega)
      rw [show (at_ qs f).d - 1 + 1 = (at_ qs f).d by omega] at this
      refine this.trans ?_
      simp [rowV, rowL]
    have two2 := two_set h2 f ⟨0, (at_ qs f).d, 0⟩
    refine ex2 (List.exists_cons_of_ne_nil hne) fun k l hkl => ?_
    have hfr : ∀ j ∈ os, f ≠ j := fun j hj e => (List.nodup_cons.mp hnd).1 (e ▸ hosm j hj)
    have hlex : (f :: r).Pairwise (Lex qs) := by rw [← ho, ← hqs]; exact ordA_lex _
    have hwos := last_w gq (fun j hj => (hin j (List.mem_cons_of_mem _ (hosm j hj))).1) (by rw [← hos]; exact ((List.pairwise_cons.mp hlex).2).sublist (List.take_sublist _ _)) hne (fun q => hbad (.inr q))
    have iv : IvL (qs.set f ⟨0, (at_ qs f).d, 0⟩) os := fun j hj => by
      have q_253 := hin j (List.mem_cons_of_mem _ (hosm j hj))
      have x1 := q_253.1
      have x2 := q_253.2
      rw [at_set hf, if_neg (hfr j hj), List.length_set]
      have y1 := gq.w _ (at_mem x1)
      exact ⟨x1, here_of gq x1 x2, hwos j hj, y1.1, y1.2.1⟩
    have hndo : os.Nodup := by rw [← hos]; exact (List.nodup_cons.mp hnd).2.sublist (List.take_sublist _ _)
    have e14 := b14 (us := us) (qs := qs) (kv := kv) (LK := L ++ [lookV qs]) (P := P) (tn := tn) (t := t) (os := os) (o := f :: r) h2 hf s2
    rw [← List.map_set] at e14
    rw [hkl] at iv hndo
    refine Exists.elim (b15 (us := us) (qs := qs) (btw := betweenV (at_ qs f)) (kv := kv) (LK := L ++ [lookV qs]) (P := P) (tn := tn) (t := t) (f := f) (o := f :: r) h2 two2 hndo iv) fun kv' e15 => ?_
    rw [← hkl] at e15
    refine Exists.elim (b17 (us := us) (qs := qs) (btw := betweenV (at_ qs f)) (kv := kv') (LK := L ++ [lookV qs]) (P := P) (tn := tn) (t := t) (f := f) (os := os) (o := f :: r) (q2 := os.foldl stepO (qs.set f ⟨0, (at_ qs f).d, 0⟩)) (by omega)) fun st q_263 => ?_
    have e17 := q_263.1
    have e18 := q_263.2
    refine ⟨st, hk _ (seq_next e9 (seq_next (b10 h2) (seq_next e11 (seq_next e12 (seq_next (b13 h2 hf s1) (seq_next e14 (seq_next e15 (seq_next (b16 (by simp; omega)) (seq_next e17 rfl))))))))), ?_⟩
    rw [nextP_eq]
    exact e18
end
end Mine

-- PM
set_option maxRecDepth 10000
namespace Mine
set_option tactic.hygienic false

theorem mem_at {ps : List P3} {p : P3} (h : p ∈ ps) : ∃ k, k < ps.length ∧ at_ ps k = p := by
  obtain ⟨k, hk, e⟩ := List.getElem_of_mem h
  refine ⟨k, hk, ?_⟩
  unfold at_
  rw [List.getD_eq_getElem?_getD, List.getElem?_eq_getElem hk]
  exact e
theorem at_map {ps : List P3} {g : P3 → P3} {k : Nat} (hk : k < ps.length) : at_ (ps.map g) k = g (at_ ps k) := by
  unfold at_
  rw [List.getD_eq_getElem?_getD, List.getD_eq_getElem?_getD, List.getElem?_map, List.getElem?_eq_getElem hk]
  rfl
theorem at_fold : ∀ (l : List Nat) (q : List P3) (k : Nat), l.Nodup → (∀ j ∈ l, j < q.length) → at_ (l.foldl stepO q) k = if k ∈ l then less1 (at_ q k) else at_ q k
  | [], q, k, _, _ => by simp
  | j :: l, q, k, hn, hl => by
    rw [List.nodup_cons] at hn
    rw [List.foldl_cons, at_fold l (stepO q j) k hn.2 (fun i hi => by unfold stepO; rw [List.length_set]; exact hl i (List.mem_cons_of_mem _ hi))]
    unfold stepO
    rw [at_set (hl j List.mem_cons_self)]
    by_cases e : j = k
    · subst e
      rw [if_neg hn.1, if_pos rfl, if_pos List.mem_cons_self]
    · rw [if_neg e]
      by_cases q' : k ∈ l
      · rw [if_pos q', if_pos (List.mem_cons_of_mem _ q')]
      · rw [if_neg q', if_neg]
        intro hm
        rcases List.mem_cons.mp hm with x | x
        · exact e x.symm
        · exact q' x
theorem at_next {qs : List P3} {f : Nat} {os : List Nat} (hf : f < qs.length) (hn : (f :: os).Nodup) (hl : ∀ j ∈ os, j < qs.length) (k : Nat) :
    at_ (nextP qs f os) k = if k ∈ os then less1 (at_ qs k) else if k = f then ⟨0, (at_ qs f).d, 0⟩ else at_ qs k := by
  rw [List.nodup_cons] at hn
  rw [nextP_eq, at_fold os _ k hn.2 (fun j hj => by rw [List.length_set]; exact hl j hj), at_set hf]
  by_cases h1 : k ∈ os
  · rw [if_pos h1, if_pos h1, if_neg (fun e => hn.1 (by rw [e]; exact h1))]
  · rw [if_neg h1, if_neg h1]
    by_cases h2 : k = f
    · rw [if_pos h2, if_pos h2.symm]
    · rw [if_neg h2, if_neg (Ne.symm h2)]
theorem nextP_len (qs : List P3) (f : Nat) (os : List Nat) : (nextP qs f os).length = qs.length := by rw [nextP_eq, foldO_len, List.length_set]
theorem bump_same (p : P3) : (bump p).w = p.w ∧ (bump p).h = p.h := by unfold bump; split <;> simp_all
noncomputable def cnt (ps : List P3) : Nat := (free (ps.map bump)).length

structure Go (qs : List P3) (f : Nat) (os : List Nat) : Prop where
  fl : f < qs.length
  nd : (f :: os).Nodup
  osl : ∀ j ∈ os, j < qs.length
  inn : ∀ j ∈ f :: os, isIn qs j = true
  ne : os ≠ []
  len : os.length = (at_ qs f).w
  w1 : ∀ j ∈ os, 1 ≤ (at_ qs j).w
theorem go_of {qs : List P3} {f : Nat} {r : List Nat} (g : Good qs) (ho : (ordA qs).1 = f :: r) (hw : ¬ (at_ qs f).w = 0)
    (hb : ¬ ((r.take (at_ qs f).w).length < (at_ qs f).w ∨ (at_ qs ((r.take (at_ qs f).w).getLastD 0)).w = 0)) : Go qs f (r.take (at_ qs f).w) := by
  have hin : ∀ k ∈ f :: r, k < qs.length ∧ isIn qs k = true := fun k hk' => mem_ordA.mp (by rw [ho]; exact hk')
  have hnd : (f :: r).Nodup := by rw [← ho]; exact ordA_nodup _
  have hlex : (f :: r).Pairwise (Lex qs) := by rw [← ho]; exact ordA_lex _
  have hlen2 : (r.take (at_ qs f).w).length ≤ (at_ qs f).w := by rw [List.length_take]; omega
  generalize hos : r.take (at_ qs f).w = os at *
  have hosm : ∀ k ∈ os, k ∈ r := fun k hk' => by rw [← hos] at hk'; exact List.mem_of_mem_take hk'
  have hsub : os.Sublist r := by rw [← hos]; exact List.take_sublist _ _
  have hne : os ≠ [] := fun e => by rw [e] at hb; simp at hb; grind
  refine ⟨(hin f List.mem_cons_self).1, hnd.sublist (hsub.cons_cons f), fun j hj => (hin j (List.mem_cons_of_mem _ (hosm j hj))).1, fun j hj => ?_, hne, ?_, fun j hj => ?_⟩
  · rcases List.mem_cons.mp hj with e | hj
    · rw [e]; exact (hin f List.mem_cons_self).2
    · exact (hin j (List.mem_cons_of_mem _ (hosm j hj))).2
  · have := fun q => hb (.inl q); grind
  · exact last_w g (fun j hj => (hin j (List.mem_cons_of_mem _ (hosm j hj))).1) (((List.pairwise_cons.mp hlex).2).sublist hsub) hne (fun q => hb (.inr q)) j hj
theorem isIn_iff {qs : List P3} {k : Nat} : isIn qs k = true ↔ (at_ qs k).w + 3 * (at_ qs k).h ≠ 0 := by
  unfold isIn blank; simp; grind
theorem next_good {t : Nat} {ps : List P3} {f : Nat} {os : List Nat} (g : GoodT t ps) (G : Go (ps.map bump) f os) : GoodT (t + 1) (nextP (ps.map bump) f os) := by
  have key : ∀ p ∈ nextP (ps.map bump) f os, ∃ q ∈ ps, p.w ≤ q.w ∧ p.h ≤ q.h ∧ (p.d = q.d ∨ p.d = q.d + 1) ∧ (p.h = 0 → p.w = 0) := fun p hp => by
    obtain ⟨k, hk, e⟩ := mem_at hp
    rw [nextP_len, List.length_map] at hk
    refine ⟨at_ ps k, at_mem hk, ?_⟩
    have gg := g.gone _ (at_mem hk)
    rw [at_next G.fl G.nd G.osl, at_map hk] at e
    have b1 := bump_same (at_ ps k)
    have bd : (bump (at_ ps k)).d = (at_ ps k).d ∨ (bump (at_ ps k)).d = (at_ ps k).d + 1 := by unfold bump; split <;> simp
    split at e
    · rw [← e]; exact ⟨Nat.le_trans (Nat.sub_le _ _) (Nat.le_of_eq b1.1), Nat.le_of_eq b1.2, bd, fun h => by show (bump (at_ ps k)).w - 1 = 0; rw [b1.1, gg (b1.2.symm.trans h)]⟩
    · split at e
      · rename_i h2
        rw [← e, ← h2, at_map hk]
        exact ⟨Nat.zero_le _, Nat.zero_le _, bd, fun _ => rfl⟩
      · rw [← e]; exact ⟨Nat.le_of_eq b1.1, Nat.le_of_eq b1.2, bd, fun h => b1.1.trans (gg (b1.2.symm.trans h))⟩
  refine ⟨fun p hp => ?_, fun p hp => ?_, fun p hp => ?_⟩
  · obtain ⟨q, hq, h1, h2, h3, h4⟩ := key p hp
    have := g.w q hq
    exact ⟨Nat.lt_of_le_of_lt h1 this.1, h3.elim (fun e => Nat.le_trans (Nat.le_of_eq e) (Nat.le_succ_of_le this.2.1)) (fun e => Nat.le_trans (Nat.le_of_eq e) (Nat.succ_le_succ this.2.1)), Nat.lt_of_le_of_lt h2 this.2.2⟩
  · obtain ⟨q, hq, h1, h2, h3, h4⟩ := key p hp
    exact Nat.le_trans (g.d1 q hq) (h3.elim (fun e => Nat.le_of_eq e.symm) (fun e => Nat.le_trans (Nat.le_succ _) (Nat.le_of_eq e.symm)))
  · obtain ⟨q, hq, h1, h2, h3, h4⟩ := key p hp
    exact h4
theorem cnt_next {ps : List P3} {f : Nat} {os : List Nat} (G : Go (ps.map bump) f os) : cnt (nextP (ps.map bump) f os) < cnt ps := by
  unfold cnt free
  rw [List.length_map, nextP_len]
  have hsub : (List.range (ps.map bump).length).filter (isIn ((nextP (ps.map bump) f os).map bump)) = ((List.range (ps.map bump).length).filter (isIn (ps.map bump))).filter (isIn ((nextP (ps.map bump) f os).map bump)) := by
    rw [List.filter_filter]
    refine List.filter_congr fun k hk => ?_
    have hk := List.mem_range.mp hk
    have hk2 : k < (nextP (ps.map bump) f os).length := by rw [nextP_len]; exact hk
    cases h1 : isIn ((nextP (ps.map bump) f os).map bump) k with
    | false => simp
    | true =>
      have : isIn (ps.map bump) k = true := by
        rw [isIn_iff] at h1 ⊢
        rw [at_map hk2] at h1
        have b := bump_same (at_ (nextP (ps.map bump) f os) k)
        rw [b.1, b.2, at_next G.fl G.nd G.osl] at h1
        split at h1
        · exact fun e => h1 (by show (at_ (ps.map bump) k).w - 1 + 3 * (at_ (ps.map bump) k).h = 0; rw [(Nat.add_eq_zero_iff.mp e).1, (Nat.add_eq_zero_iff.mp e).2])
        · split at h1
          · simp at h1
          · exact h1
      rw [this]; rfl
  rw [hsub]
  refine List.length_filter_lt_length_iff_exists.mpr ⟨f, ?_, ?_⟩
  · exact List.mem_filter.mpr ⟨List.mem_range.mpr G.fl, G.inn f List.mem_cons_self⟩
  · rw [isIn_iff]
    have hk2 : f < (nextP (ps.map bump) f os).length := by rw [nextP_len]; exact G.fl
    rw [at_map hk2]
    have b := bump_same (at_ (nextP (ps.map bump) f os) f)
    rw [b.1, b.2, at_next G.fl G.nd G.osl, if_neg (List.nodup_cons.mp G.nd).1, if_pos rfl]
    simp
theorem cnt_go {ps : List P3} {f : Nat} {r : List Nat} (ho : (ordA (ps.map bump)).1 = f :: r) (hr : r ≠ []) : 2 ≤ cnt ps := by
  unfold cnt
  rw [← (ordA_perm _).length_eq, ho]
  refine ex2 (List.exists_cons_of_ne_nil hr) fun a l q_135 => ?_
  obtain rfl := q_135
  simp

noncomputable abbrev tloop (l : List Nat) (st : SS) : Res := forL scM "turn" (nrmK (liveM "turn") (kM F1 19) (forB (S "_law_by_mail" 2))) (l.map natV) st
theorem runM {us : List P3} : ∀ (m t : Nat) (b : Bool) (ps : List P3) (L P : List V) (st : SS), Two us ps → GoodT t ps → t + m ≤ 5 → 1 ≤ m → cnt ps ≤ m → L.length + 2 * m ≤ 400 → P.length + m ≤ 400 →
    (∀ t', nrm (liveM "turn") ⟨less "turn" st.own, put "turn" (natV t') st.ρ⟩ = hdM b (ps.map rowV) t' L P (us.map perV)) →
    ∃ st', tloop (List.range' t m) st = some (st', some (.lst [.lst (L ++ (runA m ps).looks), .lst (P ++ (runA m ps).picks.map pickV), .bool (runA m ps).good]))
  | 0, t, b, ps, L, P, st, _, _, _, h1, _, _, _, _ => by omega
  | m + 1, t, b, ps, L, P, st, h, g, h5, h1, hc, hL, hP, hst => by
    have gq := g.bump (by omega)
    have fin : ∀ {gd : Bool}, runA (m + 1) ps = ⟨[lookV (ps.map bump)], [], gd⟩ → EndsM b us ps t L P gd → ∃ st', tloop (List.range' t (m + 1)) st = some (st', some (.lst [.lst (L ++ (runA (m + 1) ps).looks), .lst (P ++ (runA (m + 1) ps).picks.map pickV), .bool (runA (m + 1) ps).good])) := by
      intro gd e ⟨st', e'⟩
      rw [e]
      refine ⟨nrm (liveM "turn") st', ?_⟩
      rw [List.map_nil, List.append_nil]
      exact forL_ret (hst t) e'
    cases ho : (ordA (ps.map bump)).1 with
    | nil => exact fin (by unfold runA; rw [ho]) (turn_none h g (by omega) (by omega) ho)
    | cons f r =>
      by_cases hw : (at_ (ps.map bump) f).w = 0
      · exact fin (by unfold runA; rw [ho]; simp only; rw [if_pos hw]) (turn_ready h g (by omega) (by omega) ho hw)
      · have key := turn_go (b := b) (L := L) (P := P) h g (by omega) (by omega) ho (by omega) hw
        by_cases hb : (r.take (at_ (ps.map bump) f).w).length < (at_ (ps.map bump) f).w ∨ (at_ (ps.map bump) ((r.take (at_ (ps.map bump) f).w).getLastD 0)).w = 0
        · rw [if_pos hb] at key
          exact fin (by unfold runA; rw [ho]; simp only; rw [if_neg hw, if_pos hb]) key
        · rw [if_neg hb] at key
          refine Exists.elim key fun st1 q_161 => ?_
          have e1 := q_161.1
          have e2 := q_161.2
          have G := go_of gq ho hw hb
          have hr : r ≠ [] := fun e => by rw [e] at G; exact G.ne (by simp)
          have hc2 := cnt_go ho hr
          have hcn := cnt_next G
          have two' : Two us (nextP (ps.map bump) f (r.take (at_ (ps.map bump) f).w)) := by
            have := two_len (two_bump h)
            exact len_two (by rw [nextP_len]; exact this.1) (by rw [nextP_len]; exact this.2)
          obtain ⟨st', e3⟩ := runM m (t + 1) true (nextP (ps.map bump) f (r.take (at_ (ps.map bump) f).w)) (L ++ [lookV (ps.map bump)] ++ [betweenV (at_ (ps.map bump) f)]) (P ++ [pickV (f, r.take (at_ (ps.map bump) f).w)])
            (hdM true ((nextP (ps.map bump) f (r.take (at_ (ps.map bump) f).w)).map rowV) t (L ++ [lookV (ps.map bump)] ++ [betweenV (at_ (ps.map bump) f)]) (P ++ [pickV (f, r.take (at_ (ps.map bump) f).w)]) (us.map perV)) two' (next_good g G) (by omega) (by omega) (by omega) (by simp; omega) (by simp; omega) (fun t' => by kernel_rfl)
          refine ⟨st', ?_⟩
          have e4 : runA (m + 1) ps = ⟨lookV (ps.map bump) :: betweenV (at_ (ps.map bump) f) :: (runA m (nextP (ps.map bump) f (r.take (at_ (ps.map bump) f).w))).looks, (f, r.take (at_ (ps.map bump) f).w) :: (runA m (nextP (ps.map bump) f (r.take (at_ (ps.map bump) f).w))).picks, (runA m (nextP (ps.map bump) f (r.take (at_ (ps.map bump) f).w))).good⟩ := by
            conv => lhs; unfold runA
            rw [ho]; simp only; rw [if_neg hw, if_neg hb]
          rw [e4]
          have e5 := forL_cons (r := (List.range' (t + 1) m).map natV) (hst t) e1 e2 e3
          rw [List.append_assoc, List.append_assoc, List.append_assoc] at e5
          exact e5
end Mine

-- PN
set_option maxRecDepth 10000
namespace Mine
set_option tactic.hygienic false

noncomputable def eR : Expr := rhs (S "_law_by_mail" 0)
noncomputable def oneV (o : Option (List V)) (v : V) : Bool := match o with
  | some [x] => beqV x v
  | _ => false
theorem oneV_ok {o : Option (List V)} {v : V} (h : oneV o v = true) : o = some [v] := by
  unfold oneV at h
  split at h
  · rw [beqV_ok h]
  · exact Bool.noConfusion h
theorem start_row {p : P3} (w : p.w < 6) (d : p.d < 4) (hh : p.h = 1) : compT 39 F1 scM [] [] eR (perV p) = some [rowV p] := by
  have h : (List.range 6).all (fun w => (List.range 4).all fun d => oneV (compT 39 F1 scM [] [] eR (perV ⟨w, d, 1⟩)) (rowV ⟨w, d, 1⟩)) = true := by decide +kernel
  simp only [List.all_eq_true, List.mem_range] at h
  obtain ⟨w', d', h'⟩ := p
  simp only at hh
  subst hh
  exact oneV_ok (h w' w d' d)
theorem two_self {ps : List P3} (h : ps.length = 4 ∨ ps.length = 5) : Two ps ps := len_two rfl h
theorem byMail_ok {ps : List P3} (hn : ps.length = 4 ∨ ps.length = 5) (g : GoodT 0 ps) (h1 : ∀ p ∈ ps, p.h = 1) (hc : cnt ps ≤ ps.length) :
    fByMail [.lst (ps.map perV)] = some (.lst [.lst (runA ps.length ps).looks, .lst ((runA ps.length ps).picks.map pickV), .bool (runA ps.length ps).good]) := by
  have h := two_self hn
  have e0 : fM F1 19 (S "_law_by_mail" 0) ⟨[], [("people", .lst (ps.map perV))]⟩ = some (⟨["rows"], [("rows", .lst (ps.map rowV)), ("people", .lst (ps.map perV))]⟩, none) := by
    refine comp_set (c := compT 39 F1 scM [] [] eR) (items := ps.map perV) (r := ps.map rowV) (G := fun d => stash muM "rows" true d ⟨[], [("people", .lst (ps.map perV))]⟩) ?_ ?_ ?_ ?_
    · apply any_eq (ps := ps) hn <;> kernel_rfl
    · refine overE_one fun p hp => ?_
      have := g.w p hp
      exact start_row this.1 (by omega) (h1 p hp)
    · rw [List.length_map]; omega
    · kernel_rfl
  have e1 : fM F1 19 (S "_law_by_mail" 1) ⟨["rows"], [("rows", .lst (ps.map rowV)), ("people", .lst (ps.map perV))]⟩ = some (⟨["looks", "picks", "rows"], [("looks", .lst []), ("picks", .lst []), ("rows", .lst (ps.map rowV)), ("people", .lst (ps.map perV))]⟩, none) := by kernel_rfl
  have e2 : fM F1 19 (S "_law_by_mail" 2) ⟨["looks", "picks", "rows"], [("looks", .lst []), ("picks", .lst []), ("rows", .lst (ps.map rowV)), ("people", .lst (ps.map perV))]⟩ = tloop (List.range ps.length) ⟨["looks", "picks", "rows"], [("looks", .lst []), ("picks", .lst []), ("rows", .lst (ps.map rowV)), ("people", .lst (ps.map perV))]⟩ := by
    apply any_eq (ps := ps) hn <;> kernel_rfl
  obtain ⟨st', e3⟩ := runM ps.length 0 false ps [] [] ⟨["looks", "picks", "rows"], [("looks", .lst []), ("picks", .lst []), ("rows", .lst (ps.map rowV)), ("people", .lst (ps.map perV))]⟩ h g (by omega) (by omega) hc (by simp; omega) (by simp; omega) (fun t' => by kernel_rfl)
  rw [← List.range_eq_range'] at e3
  refine run_eq (st' := st') rfl ?_
  show seqB (fM F1 19) [S "_law_by_mail" 0, S "_law_by_mail" 1, S "_law_by_mail" 2, S "_law_by_mail" 3] _ = _
  exact seq_next e0 (seq_next e1 (seq_ret (e2.trans e3)))

noncomputable abbrev scN : Nm := scOf "_law_by_numbers"
noncomputable abbrev TN : Evl := evF F0
noncomputable abbrev XSN : Xs := orX (xsFor TN 1000 muN scN liveN) (xsSort lamPos TN muN scN)
noncomputable abbrev kN (n : Nat) : Blk := blk XSN TN 1000 muN scN n
noncomputable abbrev fN (n : Nat) : Stmt → SS → Res := stepX XSN TN (kN n) 1000 muN scN
noncomputable abbrev bN (j : Nat) : Stmt := FB "_law_by_numbers" 3 j
noncomputable def ownN : List Str := ["looks", "here", "dots", "wish"]
noncomputable def wishV (ps : List P3) : V := .lst (ps.map fun p => natV p.w)
noncomputable def dotsV (ps : List P3) : V := .lst (ps.map fun p => natV p.d)
noncomputable def hereV (ps : List P3) : V := .lst (ps.map fun p => natV p.h)
noncomputable def tlN (t : Nat) (L : List V) (qs : List P3) (us : List P3) (pk : List V) : Rho := [("turn", natV t), ("looks", .lst L), ("here", hereV qs), ("dots", dotsV qs), ("wish", wishV qs), ("people", .lst (us.map perV)), ("picks", .lst pk)]
noncomputable def hdN (t : Nat) (L : List V) (qs : List P3) (us : List P3) (pk : List V) : SS := ⟨ownN, tlN t L qs us pk⟩
noncomputable def r1N (t : Nat) (L : List V) (qs : List P3) (us : List P3) (pk : List V) : Rho := ("k", natV (qs.length - 1)) :: tlN t L qs us pk
theorem p3_cases {C : P3 → Prop} (h0 : ∀ d h, C ⟨0, d, h⟩) (h1 : ∀ w d h, C ⟨w + 1, d, h⟩) : ∀ p, C p
  | ⟨0, d, h⟩ => h0 d h
  | ⟨w + 1, d, h⟩ => h1 w d h
theorem n0 {us ps : List P3} {t : Nat} {L pk : List V} (h : Two us ps) : fN 18 (bN 0) (hdN t L ps us pk) = some (⟨ownN, r1N t L (ps.map bump) us pk⟩, none) := by
  cases h with
  | four a b c d a' b' c' d' =>
    refine p3_cases (C := fun a' => fN 18 (bN 0) (hdN t L [a', b', c', d'] [a, b, c, d] pk) = some (⟨ownN, r1N t L ([a', b', c', d'].map bump) [a, b, c, d] pk⟩, none)) ?_ ?_ a' <;> intros <;>
    refine p3_cases (C := fun b' => fN 18 (bN 0) (hdN t L [_, b', c', d'] [a, b, c, d] pk) = some (⟨ownN, r1N t L ([_, b', c', d'].map bump) [a, b, c, d] pk⟩, none)) ?_ ?_ b' <;> intros <;>
    refine p3_cases (C := fun c' => fN 18 (bN 0) (hdN t L [_, _, c', d'] [a, b, c, d] pk) = some (⟨ownN, r1N t L ([_, _, c', d'].map bump) [a, b, c, d] pk⟩, none)) ?_ ?_ c' <;> intros <;>
    refine p3_cases (C := fun d' => fN 18 (bN 0) (hdN t L [_, _, _, d'] [a, b, c, d] pk) = some (⟨ownN, r1N t L ([_, _, _, d'].map bump) [a, b, c, d] pk⟩, none)) ?_ ?_ d' <;> intros <;> kernel_rfl
  | five a b c d e a' b' c' d' e' =>
    refine p3_cases (C := fun a' => fN 18 (bN 0) (hdN t L [a', b', c', d', e'] [a, b, c, d, e] pk) = some (⟨ownN, r1N t L ([a', b', c', d', e'].map bump) [a, b, c, d, e] pk⟩, none)) ?_ ?_ a' <;> intros <;>
    refine p3_cases (C := fun b' => fN 18 (bN 0) (hdN t L [_, b', c', d', e'] [a, b, c, d, e] pk) = some (⟨ownN, r1N t L ([_, b', c', d', e'].map bump) [a, b, c, d, e] pk⟩, none)) ?_ ?_ b' <;> intros <;>
    refine p3_cases (C := fun c' => fN 18 (bN 0) (hdN t L [_, _, c', d', e'] [a, b, c, d, e] pk) = some (⟨ownN, r1N t L ([_, _, c', d', e'].map bump) [a, b, c, d, e] pk⟩, none)) ?_ ?_ c' <;> intros <;>
    refine p3_cases (C := fun d' => fN 18 (bN 0) (hdN t L [_, _, _, d', e'] [a, b, c, d, e] pk) = some (⟨ownN, r1N t L ([_, _, _, d', e'].map bump) [a, b, c, d, e] pk⟩, none)) ?_ ?_ d' <;> intros <;>
    refine p3_cases (C := fun e' => fN 18 (bN 0) (hdN t L [_, _, _, _, e'] [a, b, c, d, e] pk) = some (⟨ownN, r1N t L ([_, _, _, _, e'].map bump) [a, b, c, d, e] pk⟩, none)) ?_ ?_ e' <;> intros <;> kernel_rfl
end Mine

-- PO
set_option maxRecDepth 10000
namespace Mine
set_option tactic.hygienic false

noncomputable def freeH (qs : List P3) : List Nat := (List.range qs.length).filter fun k => ((at_ qs k).h : Int) != 0
noncomputable def r2N (t : Nat) (L : List V) (qs : List P3) (us : List P3) (pk : List V) : Rho := ("free", natsV (freeH qs)) :: r1N t L qs us pk
noncomputable def r3N (t : Nat) (L : List V) (qs : List P3) (us : List P3) (pk : List V) : Rho := ("marks", .lst (qs.map fun q => .int (mark q))) :: r2N t L qs us pk
noncomputable def r4N (o : V) (t : Nat) (L : List V) (qs : List P3) (us : List P3) (pk : List V) : Rho := ("order", o) :: r3N t L qs us pk
noncomputable def r5N (o : V) (t : Nat) (L : List V) (qs : List P3) (us : List P3) (pk : List V) : Rho := ("rows", .lst (qs.map rowV)) :: r4N o t L qs us pk
noncomputable def r6N (o : V) (t : Nat) (L : List V) (qs : List P3) (us : List P3) (pk : List V) : Rho := ("numbers", .lst (qs.map numsV)) :: r5N o t L qs us pk
noncomputable def r7N (rd : V) (o : V) (t : Nat) (L : List V) (qs : List P3) (us : List P3) (pk : List V) : Rho := ("ready", rd) :: r6N o t L qs us pk
noncomputable def r8N (tn : V) (rd : V) (o : V) (t : Nat) (L : List V) (qs : List P3) (us : List P3) (pk : List V) : Rho := ("turns", tn) :: r7N rd o t L qs us pk
noncomputable def bo (op : Operator) (x y : Option V) : Option V := match x, y with
  | some a, some b => binop op a b
  | _, _ => none
theorem qs_map {qs : List P3} {α : Type} {g : P3 → α} : qs.map g = (List.range qs.length).map fun k => g (at_ qs k) := by
  apply List.ext_getElem
  · simp
  · intro i h1 h2
    simp only [List.getElem_map, List.getElem_range]
    congr 1
    unfold at_
    rw [List.getD_eq_getElem?_getD, List.getElem?_eq_getElem (by simpa using h1)]
    rfl
section
variable {us qs : List P3} {t : Nat} {L pk : List V}
theorem n1 (h : Two us qs) : fN 18 (bN 1) ⟨ownN, r1N t L qs us pk⟩ = some (⟨ownN, r2N t L qs us pk⟩, none) := by
  refine comp_set (c := compT 39 F0 scN ownN (r1N t L qs us pk) (rhs (bN 1))) (items := (idxs qs).map natV) (r := (freeH qs).map natV) (G := fun d => ⟨ownN, put "free" d (r1N t L qs us pk)⟩) ?_ ?_ ?_ ?_
  · apply two_eq (us := us) (qs := qs) h <;> kernel_rfl
  · refine overE_if fun k hk => ?_
    have e : compT 39 F0 scN ownN (r1N t L qs us pk) (rhs (bN 1)) (natV k) = (match (match some (((at_ qs k).h : Int) != 0) with
        | some true => some true
        | some false => some false
        | none => none) with
        | some true => some [natV k]
        | some false => some []
        | none => none) := by
      have hk' := List.mem_range.mp hk
      apply two_ix (us := us) (qs := qs) (k := k) h hk' <;> kernel_rfl
    rw [e]
    cases ((at_ qs k).h : Int) != 0 <;> rfl
  · have := List.length_filter_le (fun k => ((at_ qs k).h : Int) != 0) (List.range qs.length)
    rw [List.length_range] at this
    rw [List.length_map]
    unfold freeH
    have := two_len h
    omega
  · apply two_eq (us := us) (qs := qs) h <;> kernel_rfl
theorem n2 (h : Two us qs) (hw : ∀ q ∈ qs, q.w < 6 ∧ q.d < 9 ∧ q.h < 2) : fN 18 (bN 2) ⟨ownN, r2N t L qs us pk⟩ = some (⟨ownN, r3N t L qs us pk⟩, none) := by
  refine comp_set (c := compT 39 F0 scN ownN (r2N t L qs us pk) (rhs (bN 2))) (items := (idxs qs).map natV) (r := (idxs qs).map fun k => .int (mark (at_ qs k))) (G := fun d => ⟨ownN, put "marks" d (r2N t L qs us pk)⟩) ?_ ?_ ?_ ?_
  · apply two_eq (us := us) (qs := qs) h <;> kernel_rfl
  · refine overE_one fun k hk => ?_
    have hk' := List.mem_range.mp hk
    have e : compT 39 F0 scN ownN (r2N t L qs us pk) (rhs (bN 2)) (natV k) = (match (match some (natV (at_ qs k).d), (if (100 : Int).natAbs ≤ 1000000 ∧ (((at_ qs k).w : Nat) : Int).natAbs ≤ 1000000 then some (V.int (100 * ((at_ qs k).w : Nat))) else none) with
        | some a, some b => binop .Sub a b
        | _, _ => none) with
        | some d => some [d]
        | none => none) := by
      apply two_ix (us := us) (qs := qs) (k := k) h hk' <;> kernel_rfl
    have := hw _ (at_mem hk')
    rw [e, if_pos ⟨by decide, by omega⟩]
    rfl
  · have := two_len h
    rw [List.length_map]; unfold idxs; rw [List.length_range]; omega
  · rw [show (idxs qs).map (fun k => V.int (mark (at_ qs k))) = qs.map fun q => .int (mark q) from (qs_map (g := fun q => V.int (mark q))).symm]
    apply two_eq (us := us) (qs := qs) h <;> kernel_rfl
theorem intsO_nats : ∀ l : List Nat, intsO (l.map natV) = some (l.map fun n : Nat => (n : Int))
  | [] => rfl
  | n :: l => by
    have := intsO_nats l
    unfold intsO at this ⊢
    rw [List.map_cons, mapO, this]; rfl
theorem itemsK_nats {mz : List Int} : ∀ l : List Nat, (∀ k ∈ l, k < mz.length) → itemsK mz (l.map fun n : Nat => (n : Int)) = some (l.map fun k => mz.getD k 0)
  | [], _ => rfl
  | n :: l, h => by
    have ih := itemsK_nats l fun k hk => h k (List.mem_cons_of_mem _ hk)
    have hn := h n List.mem_cons_self
    unfold itemsK at ih ⊢
    rw [List.map_cons, mapO]
    have e : (if 0 ≤ (n : Int) then mz[(n : Int).toNat]? else none) = some (mz.getD n 0) := by
      rw [if_pos (by omega), Int.toNat_natCast, List.getD_eq_getElem?_getD, List.getElem?_eq_getElem hn]
      rfl
    rw [e, ih]; rfl
theorem risesB_of : ∀ {l : List Nat}, l.Pairwise (· < ·) → risesB (l.map fun n : Nat => (n : Int)) = true
  | [], _ => rfl
  | a :: l, h => by
    rw [List.pairwise_cons] at h
    rw [List.map_cons, risesB, risesB_of h.2, Bool.and_true, List.all_eq_true]
    intro b hb
    obtain ⟨c, hc, rfl⟩ := List.mem_map.mp hb
    have := h.1 c hc
    simpa using this
noncomputable def ordB (qs : List P3) : List Int := sortK ((freeH qs).map fun k => mark (at_ qs k)) ((freeH qs).map fun n : Nat => (n : Int))
theorem n3 (h : Two us qs) : fN 18 (bN 3) ⟨ownN, r3N t L qs us pk⟩ = some (⟨ownN, r4N (intsV (ordB qs)) t L qs us pk⟩, none) := by
  have key : ∀ fr : List Nat, fN 18 (bN 3) ⟨ownN, ("marks", .lst (qs.map fun q => .int (mark q))) :: ("free", natsV fr) :: r1N t L qs us pk⟩ = (match intsO (fr.map natV), some (qs.map mark) with
      | some ns, some mz => (match itemsK mz ns with
        | some kz => if (decide (ns.length < 64) && decide (mz.length ≤ 100000) && risesB ns) = true then some (⟨ownN, put "order" (.lst ((sortK kz ns).map V.int)) (("marks", .lst (qs.map fun q => .int (mark q))) :: ("free", natsV fr) :: r1N t L qs us pk)⟩, none) else none
        | none => none)
      | _, _ => none) := fun fr => by apply two_eq (us := us) (qs := qs) h <;> kernel_rfl
  have hl := two_len h
  have hfl : (freeH qs).length ≤ 5 := by
    have := List.length_filter_le (fun k => ((at_ qs k).h : Int) != 0) (List.range qs.length)
    rw [List.length_range] at this
    unfold freeH; omega
  have e1 := itemsK_nats (mz := qs.map mark) (freeH qs) (fun k hk => by
    rw [List.length_map]
    exact List.mem_range.mp (List.mem_filter.mp hk).1)
  have e2 : ((freeH qs).map fun k => (qs.map mark).getD k 0) = (freeH qs).map fun k => mark (at_ qs k) := by
    refine List.map_congr_left fun k hk => ?_
    have hk := List.mem_range.mp (List.mem_filter.mp hk).1
    unfold at_
    rw [List.getD_eq_getElem?_getD, List.getD_eq_getElem?_getD, List.getElem?_map, List.getElem?_eq_getElem hk]
    rfl
  rw [e2] at e1
  have e3 : (decide (((freeH qs).map fun n : Nat => (n : Int)).length < 64) && decide ((qs.map mark).length ≤ 100000) && risesB ((freeH qs).map fun n : Nat => (n : Int))) = true := by
    have hp : (freeH qs).Pairwise (· < ·) := List.pairwise_lt_range.filter _
    rw [risesB_of hp, List.length_map, List.length_map, decide_eq_true (by omega), decide_eq_true (by omega)]
    rfl
  refine (key (freeH qs)).trans ?_
  rw [intsO_nats]
  show (match itemsK (qs.map mark) ((freeH qs).map fun n : Nat => (n : Int)) with
        | some kz => if (decide (((freeH qs).map fun n : Nat => (n : Int)).length < 64) && decide ((qs.map mark).length ≤ 100000) && risesB ((freeH qs).map fun n : Nat => (n : Int))) = true then some (SS.mk ownN (put "order" (.lst ((sortK kz ((freeH qs).map fun n : Nat => (n : Int))).map V.int)) (("marks", .lst (qs.map fun q => .int (mark q))) :: ("free", natsV (freeH qs)) :: r1N t L qs us pk)), none) else none
        | none => none) = _
  rw [e1]
  show (if _ then _ else none) = _
  rw [if_pos e3]
  kernel_rfl
noncomputable def rowX (q : P3) : Option V := bo .Add (bo .Add (bo .Mult (some (.str [32])) (some (natV q.w))) (bo .Mult (some (.str [46])) (some (natV q.d)))) (bo .Mult (some (.str [32, 32, 32])) (some (natV q.h)))
theorem rowX_ok {q : P3} (h : q.w < 6 ∧ q.d < 9 ∧ q.h < 2) : rowX q = some (rowV q) :=
  beqO_ok (allP_ok (f := fun q => beqO (rowX q) (rowV q)) (by decide +kernel) h.1 (by omega) h.2.2)
theorem n4 {o : V} (h : Two us qs) (hw : ∀ q ∈ qs, q.w < 6 ∧ q.d < 9 ∧ q.h < 2) : fN 18 (bN 4) ⟨ownN, r4N o t L qs us pk⟩ = some (⟨ownN, r5N o t L qs us pk⟩, none) := by
  refine comp_set (c := compT 39 F0 scN ownN (r4N o t L qs us pk) (rhs (bN 4))) (items := (idxs qs).map natV) (r := (idxs qs).map fun k => rowV (at_ qs k)) (G := fun d => ⟨ownN, put "rows" d (r4N o t L qs us pk)⟩) ?_ ?_ ?_ ?_
  · apply two_eq (us := us) (qs := qs) h <;> kernel_rfl
  · refine overE_one fun k hk => ?_
    have hk' := List.mem_range.mp hk
    have e : compT 39 F0 scN ownN (r4N o t L qs us pk) (rhs (bN 4)) (natV k) = (match rowX (at_ qs k) with
        | some d => some [d]
        | none => none) := by
      apply two_ix (us := us) (qs := qs) (k := k) h hk' <;> kernel_rfl
    rw [e, rowX_ok (hw _ (at_mem hk'))]
  · have := two_len h
    rw [List.length_map]; unfold idxs; rw [List.length_range]; omega
  · rw [show (idxs qs).map (fun k => rowV (at_ qs k)) = qs.map rowV from (qs_map (g := rowV)).symm]
    apply two_eq (us := us) (qs := qs) h <;> kernel_rfl
noncomputable def i1 (n : Int) : Option V := some (.lst [.int n])
noncomputable def numX (q : P3) : Option V := bo .Add (bo .Add (bo .Add (bo .Mult (i1 0) (some (natV q.w))) (bo .Mult (i1 52) (bo .FloorDiv (some (natV q.d)) (some (.int 3))))) (bo .Mult (i1 23) (bo .Mod (some (natV q.d)) (some (.int 3))))) (bo .Mult (i1 0) (bo .Mult (some (.int 3)) (some (natV q.h))))
theorem numX_ok {q : P3} (h : q.w < 6 ∧ q.d < 9 ∧ q.h < 2) : numX q = some (numsV q) :=
  beqO_ok (allP_ok (f := fun q => beqO (numX q) (numsV q)) (by decide +kernel) h.1 (by omega) h.2.2)
theorem n5 {o : V} (h : Two us qs) (hw : ∀ q ∈ qs, q.w < 6 ∧ q.d < 9 ∧ q.h < 2) : fN 18 (bN 5) ⟨ownN, r5N o t L qs us pk⟩ = some (⟨ownN, r6N o t L qs us pk⟩, none) := by
  refine comp_set (c := compT 39 F0 scN ownN (r5N o t L qs us pk) (rhs (bN 5))) (items := (idxs qs).map natV) (r := (idxs qs).map fun k => numsV (at_ qs k)) (G := fun d => ⟨ownN, put "numbers" d (r5N o t L qs us pk)⟩) ?_ ?_ ?_ ?_
  · apply two_eq (us := us) (qs := qs) h <;> kernel_rfl
  · refine overE_one fun k hk => ?_
    have hk' := List.mem_range.mp hk
    have e : compT 39 F0 scN ownN (r5N o t L qs us pk) (rhs (bN 5)) (natV k) = (match numX (at_ qs k) with
        | some d => some [d]
        | none => none) := by
      apply two_ix (us := us) (qs := qs) (k := k) h hk' <;> kernel_rfl
    rw [e, numX_ok (hw _ (at_mem hk'))]
  · have := two_len h
    rw [List.length_map]; unfold idxs; rw [List.length_range]; omega
  · rw [show (idxs qs).map (fun k => numsV (at_ qs k)) = qs.map numsV from (qs_map (g := numsV)).symm]
    apply two_eq (us := us) (qs := qs) h <;> kernel_rfl
noncomputable def readyB (qs : List P3) : List Nat := (freeH qs).filter fun k => ((at_ qs k).w : Int) == 0
theorem n6 {o : V} (h : Two us qs) : fN 18 (bN 6) ⟨ownN, r6N o t L qs us pk⟩ = some (⟨ownN, r7N (natsV (readyB qs)) o t L qs us pk⟩, none) := by
  refine comp_set (c := compT 39 F0 scN ownN (r6N o t L qs us pk) (rhs (bN 6))) (items := (freeH qs).map natV) (r := (readyB qs).map natV) (G := fun d => ⟨ownN, put "ready" d (r6N o t L qs us pk)⟩) ?_ ?_ ?_ ?_
  · apply two_eq (us := us) (qs := qs) h <;> kernel_rfl
  · refine overE_if fun k hk => ?_
    have hk' := List.mem_range.mp (List.mem_filter.mp hk).1
    have e : compT 39 F0 scN ownN (r6N o t L qs us pk) (rhs (bN 6)) (natV k) = (match (match some (((at_ qs k).w : Int) == 0) with
        | some true => some true
        | some false => some false
        | none => none) with
        | some true => some [natV k]
        | some false => some []
        | none => none) := by
      apply two_ix (us := us) (qs := qs) (k := k) h hk' <;> kernel_rfl
    rw [e]
    cases ((at_ qs k).w : Int) == 0 <;> rfl
  · have h1 := List.length_filter_le (fun k => ((at_ qs k).w : Int) == 0) (freeH qs)
    have h2 := List.length_filter_le (fun k => ((at_ qs k).h : Int) != 0) (List.range qs.length)
    rw [List.length_range] at h2
    rw [List.length_map]
    have := two_len h
    unfold readyB freeH at *
    omega
  · apply two_eq (us := us) (qs := qs) h <;> kernel_rfl
end
end Mine

-- PP
set_option maxRecDepth 10000
namespace Mine
set_option tactic.hygienic false

theorem freeH_eq {qs : List P3} (g : Good qs) : freeH qs = free qs := by
  unfold freeH free
  refine List.filter_congr fun k hk => ?_
  have hk := List.mem_range.mp hk
  have h1 := g.gone _ (at_mem hk)
  have h2 := (g.w _ (at_mem hk)).2.2
  rw [Bool.eq_iff_iff, isIn_iff]
  simp
  grind
theorem ready_eq {qs : List P3} (g : Good qs) : readyB qs = readyA qs := by
  unfold readyB readyA
  rw [freeH_eq g]
  unfold free
  rw [List.filter_filter]
  refine List.filter_congr fun k hk => ?_
  have hk := List.mem_range.mp hk
  have h1 := g.gone _ (at_mem hk)
  have h2 := (g.w _ (at_mem hk)).2.2
  rw [Bool.eq_iff_iff, Bool.and_eq_true, isIn_iff]
  unfold blank
  simp
  grind
theorem lex_unique {α : Type} {R : α → α → Prop} (hR : ∀ a b, R a b → R b a → False) {l₁ l₂ : List α} (h1 : l₁.Pairwise R) (h2 : l₂.Pairwise R) (hp : l₁.Perm l₂) : l₁ = l₂ :=
  hp.eq_of_pairwise (fun a b _ _ x y => (hR a b x y).elim) h1 h2
theorem lexP_of {a b : Int × Int} (h : leK a b = true) (hne : a ≠ b) : a.1 < b.1 ∨ (a.1 = b.1 ∧ a.2 < b.2) := by
  unfold leK at h
  simp only [Bool.or_eq_true, decide_eq_true_iff, Bool.and_eq_true, beq_iff_eq] at h
  rcases h with h | ⟨h, h2⟩
  · exact .inl h
  · refine .inr ⟨h, ?_⟩
    rcases Int.lt_or_eq_of_le h2 with q | q
    · exact q
    · exact (hne (Prod.ext h q)).elim
theorem ordB_eq {qs : List P3} (g : Good qs) : ordB qs = (ordA qs).1.map fun n : Nat => (n : Int) := by
  unfold ordB sortK
  rw [freeH_eq g]
  have hz : (((free qs).map fun k => mark (at_ qs k)).zip ((free qs).map fun n : Nat => (n : Int))) = (free qs).map fun k => (mark (at_ qs k), (k : Int)) := by
    rw [List.zip_map']
  rw [hz]
  have e : ((free qs).map fun k => (mark (at_ qs k), (k : Int))).mergeSort leK = (ordA qs).1.map fun k => (mark (at_ qs k), (k : Int)) := by
    have hperm : (((free qs).map fun k => (mark (at_ qs k), (k : Int))).mergeSort leK).Perm ((ordA qs).1.map fun k => (mark (at_ qs k), (k : Int))) :=
      (List.mergeSort_perm _ _).trans ((ordA_perm qs).symm.map _)
    have hnd : (((free qs).map fun k => (mark (at_ qs k), (k : Int))).mergeSort leK).Nodup := by
      rw [hperm.nodup_iff]
      refine (List.pairwise_map.mpr ((ordA_nodup qs).imp fun {a b} hab e => hab ?_))
      have := congrArg Prod.snd e
      simp only at this
      grind
    have hs := List.pairwise_mergeSort (le := leK) (fun a b c => leK_trans a b c) (fun a b => leK_total a b) ((free qs).map fun k => (mark (at_ qs k), (k : Int)))
    refine lex_unique (R := fun a b : Int × Int => a.1 < b.1 ∨ (a.1 = b.1 ∧ a.2 < b.2)) (fun a b x y => by grind) ?_ ?_ hperm
    · exact (hs.and hnd).imp fun {a b} hab => lexP_of hab.1 hab.2
    · refine List.pairwise_map.mpr ((ordA_lex qs).imp fun {a b} hab => ?_)
      unfold Lex at hab
      simp only
      grind
  rw [e, List.map_map]
  rfl
noncomputable def stA (qs : List P3) (m : Nat) : List Nat × List (List Int) := (List.range m).foldl (ordStep qs) ([], [])
theorem stA_succ (qs : List P3) (m : Nat) : stA qs (m + 1) = ordStep qs (stA qs m) m := by
  unfold stA
  rw [List.range_succ, List.foldl_append]; rfl
theorem stA_turns (qs : List P3) : ∀ m, (stA qs m).2 = ((List.range m).filter (isIn qs)).map fun k => held qs (stA qs k).1 k
  | 0 => rfl
  | m + 1 => by
    rw [stA_succ, List.range_succ, List.filter_append, List.map_append, ← stA_turns qs m]
    unfold ordStep
    by_cases hb : (blank (at_ qs m) == 0) = true
    · have hi : isIn qs m = false := by unfold isIn; rw [hb]; rfl
      rw [if_pos hb, List.filter_cons, hi]
      simp
    · have hi : isIn qs m = true := isIn_not.mpr hb
      rw [if_neg hb, List.filter_cons, hi]
      rfl
theorem range_cut {p : Nat → Bool} {n k : Nat} (h : k ≤ n) : ((List.range n).filter p).filter (fun j => decide (j < k)) = (List.range k).filter p := by
  obtain ⟨m, rfl⟩ : ∃ m, n = k + m := ⟨n - k, by grind⟩
  rw [List.range_add, List.filter_append, List.filter_append]
  have e1 : (((List.range m).map (k + ·)).filter p).filter (fun j => decide (j < k)) = [] := by
    rw [List.filter_eq_nil_iff]
    intro x hx
    obtain ⟨y, _, e⟩ := List.mem_map.mp (List.mem_filter.mp hx).1
    rw [decide_eq_true_iff]; grind
  rw [e1, List.append_nil, List.filter_filter]
  refine List.filter_congr fun x hx => ?_
  have := List.mem_range.mp hx
  rw [decide_eq_true this]; rfl
theorem stA_cut {qs : List P3} {k : Nat} (h : k ≤ qs.length) : (stA qs k).1 = (ordA qs).1.filter fun j => decide (j < k) := by
  refine lex_unique (R := Lex qs) (fun a b x y => ?_) ?_ ?_ ?_
  · unfold Lex at x y; grind
  · exact fold_lex qs _ [] [] List.pairwise_lt_range (fun x h => by cases h) .nil
  · exact (ordA_lex qs).filter _
  · refine (fold_perm qs (List.range k) [] []).trans ?_
    rw [List.nil_append, ← range_cut (p := isIn qs) h]
    exact ((ordA_perm qs).filter _).symm
theorem ordA_turns (qs : List P3) : (ordA qs).2 = (free qs).map fun k => held qs ((ordA qs).1.filter fun j => decide (j < k)) k := by
  have := stA_turns qs qs.length
  refine (this : (ordA qs).2 = _).trans ?_
  unfold free
  refine List.map_congr_left fun k hk => ?_
  have hk := List.mem_range.mp (List.mem_filter.mp hk).1
  rw [stA_cut (Nat.le_of_lt hk)]

noncomputable def eT : Expr := rhs (bN 7)
theorem ordB_V {qs : List P3} (g : Good qs) : intsV (ordB qs) = natsV (ordA qs).1 := by
  rw [ordB_eq g]
  unfold intsV natsV
  rw [List.map_map]
  rfl
section
variable {us qs : List P3} {t : Nat} {L pk : List V}
theorem n7 {rd : V} (h : Two us qs) (g : Good qs) : fN 18 (bN 7) ⟨ownN, r7N rd (natsV (ordA qs).1) t L qs us pk⟩ = some (⟨ownN, r8N (.lst ((ordA qs).2.map intsV)) rd (natsV (ordA qs).1) t L qs us pk⟩, none) := by
  have hl := two_len h
  have hlo : (ordA qs).1.length ≤ 5 := by
    rw [(ordA_perm qs).length_eq]
    have := List.length_filter_le (isIn qs) (List.range qs.length)
    rw [List.length_range] at this
    unfold free; grind
  have hlf : (free qs).length ≤ 5 := by rw [← (ordA_perm qs).length_eq]; exact hlo
  refine comp_set (c := compT 39 F0 scN ownN (r7N rd (natsV (ordA qs).1) t L qs us pk) eT) (items := (freeH qs).map natV) (r := (free qs).map fun k => intsV (held qs ((ordA qs).1.filter fun j => decide (j < k)) k)) (G := fun d => ⟨ownN, put "turns" d (r7N rd (natsV (ordA qs).1) t L qs us pk)⟩) ?_ ?_ ?_ ?_
  · apply two_eq (us := us) (qs := qs) h <;> kernel_rfl
  · rw [freeH_eq g]
    refine overE_one fun k hk => ?_
    have hk' := List.mem_range.mp (List.mem_filter.mp hk).1
    have e : ∀ o : List Nat, compT 39 F0 scN ownN (r7N rd (natsV o) t L qs us pk) eT (natV k) = (match (match overE (compT 38 F0 (scopeE eT) [] (("k", natV k) :: (r7N rd (natsV o) t L qs us pk).filter fun p => (scopeE eT).lookup p.1 == some .free) (eltOf eT)) (o.map natV) with
        | some ds => mkL ds
        | none => none) with
        | some d => some [d]
        | none => none) := fun o => by
      apply two_eq (us := us) (qs := qs) h <;> kernel_rfl
    have e2 : ∀ o : List Nat, (∀ j ∈ o, j < qs.length) → overE (compT 38 F0 (scopeE eT) [] (("k", natV k) :: (r7N rd (natsV o) t L qs us pk).filter fun p => (scopeE eT).lookup p.1 == some .free) (eltOf eT)) (o.map natV) = some ((o.filter fun j => decide (j < k)).map fun j => .int (cmpI (mark (at_ qs j)) (mark (at_ qs k)))) := fun o ho => by
      refine overE_if fun j hj => ?_
      have hj' := ho j hj
      have e3 : compT 38 F0 (scopeE eT) [] (("k", natV k) :: (r7N rd (natsV o) t L qs us pk).filter fun p => (scopeE eT).lookup p.1 == some .free) (eltOf eT) (natV j) = (match (match some (decide ((j : Int) < (k : Int))) with
          | some true => some true
          | some false => some false
          | none => none) with
          | some true => some [.int (cmpI (mark (at_ qs j)) (mark (at_ qs k)))]
          | some false => some []
          | none => none) := by
        apply two_ix2 (us := us) (qs := qs) (k := k) (j := j) h hk' hj' <;> kernel_rfl
      rw [e3]
      by_cases q : j < k
      · rw [decide_eq_true q, decide_eq_true (show (j : Int) < (k : Int) by grind)]; rfl
      · rw [decide_eq_false q, decide_eq_false (show ¬ (j : Int) < (k : Int) by grind)]; rfl
    rw [e, e2 _ fun j hj => (mem_ordA.mp hj).1]
    have hle := List.length_filter_le (fun j => decide (j < k)) (ordA qs).1
    show (match mkL (((ordA qs).1.filter fun j => decide (j < k)).map fun j => V.int (cmpI (mark (at_ qs j)) (mark (at_ qs k)))) with
        | some d => some [d]
        | none => none) = _
    rw [mkL_ok (by rw [List.length_map]; grind)]
    unfold intsV held
    rw [List.map_map]
    rfl
  · rw [List.length_map]; grind
  · rw [ordA_turns, List.map_map]
    apply two_eq (us := us) (qs := qs) h <;> kernel_rfl
theorem n8 (h : Two us qs) (g : Good qs) (hL : L.length ≤ 1000) :
    fN 18 (bN 8) ⟨ownN, r8N (.lst ((ordA qs).2.map intsV)) (natsV (readyA qs)) (natsV (ordA qs).1) t L qs us pk⟩ = some (⟨ownN, put "looks" (.lst (L ++ [lookV qs])) (r8N (.lst ((ordA qs).2.map intsV)) (natsV (readyA qs)) (natsV (ordA qs).1) t L qs us pk)⟩, none) := by
  have key : ∀ tn rd o, fN 18 (bN 8) ⟨ownN, r8N tn rd o t L qs us pk⟩ = (if L.length ≤ 100000 then some (SS.mk ownN (put "looks" (.lst (L ++ [.lst [.lst (qs.map rowV), .lst (qs.map numsV), rd, o, tn]])) (r8N tn rd o t L qs us pk))) else none).map (·, none) := fun tn rd o => by apply two_eq (us := us) (qs := qs) h <;> kernel_rfl
  rw [key, if_pos (by grind)]
  rfl
end
end Mine

-- PQ
set_option maxRecDepth 10000
namespace Mine
set_option tactic.hygienic false

noncomputable abbrev jN (i : Nat) : Stmt := (forB (bN 9)).getD i default
noncomputable def ra (tn rd o : V) (t : Nat) (LK : List V) (qs : List P3) (us : List P3) (pk : List V) : Rho := put "looks" (.lst LK) (r8N tn rd o t [] qs us pk)
noncomputable def r9N (tn rd o : V) (t : Nat) (LK : List V) (qs : List P3) (us : List P3) (pk : List V) : Rho :=
  [("looks", .lst LK), ("turns", tn), ("ready", rd), ("numbers", .lst (qs.map numsV)), ("rows", .lst (qs.map rowV)), ("order", o), ("marks", .lst (qs.map fun q => .int (mark q))), ("free", natsV (freeH qs)), ("k", natV (qs.length - 1)), ("turn", natV t), ("here", hereV qs), ("dots", dotsV qs), ("wish", wishV qs), ("people", .lst (us.map perV)), ("picks", .lst pk)]
theorem bLen_le {l : List V} (h : l.length ≤ 1000) : bLen [.lst l] = some (natV l.length) := bLen_lst (by omega)
section
variable {us qs q : List P3} {t f : Nat} {LK pk : List V} {tn rd o : V} {os : List Nat}
theorem n9 (hp : pk.length ≤ 1000) : fN 18 (bN 9) ⟨ownN, r9N tn rd o t LK qs us pk⟩ = (match decide (t < pk.length) with
    | true => kN 18 (forB (bN 9)) ⟨ownN, r9N tn rd o t LK qs us pk⟩
    | false => some (⟨ownN, r9N tn rd o t LK qs us pk⟩, none)) := by
  have key : fN 18 (bN 9) ⟨ownN, r9N tn rd o t LK qs us pk⟩ = (match (match (match some (natV t), bLen [.lst pk] with
        | some a, some b => (match cmpop .Lt a b with
          | some t => some (V.bool t)
          | none => none)
        | _, _ => none) with
      | some d => truth d
      | none => none) with
    | some true => kN 18 (forB (bN 9)) ⟨ownN, r9N tn rd o t LK qs us pk⟩
    | some false => kN 18 [] ⟨ownN, r9N tn rd o t LK qs us pk⟩
    | none => none) := by kernel_rfl
  rw [key, bLen_le hp]
  show (match some (decide ((t : Int) < (pk.length : Int))) with
    | some true => kN 18 (forB (bN 9)) ⟨ownN, r9N tn rd o t LK qs us pk⟩
    | some false => kN 18 [] ⟨ownN, r9N tn rd o t LK qs us pk⟩
    | none => none) = _
  by_cases h : t < pk.length
  · rw [decide_eq_true h, decide_eq_true (show (t : Int) < (pk.length : Int) by omega)]
  · rw [decide_eq_false h, decide_eq_false (show ¬ (t : Int) < (pk.length : Int) by omega)]; rfl
noncomputable def r10N (tn rd o : V) (t : Nat) (LK : List V) (qs : List P3) (us : List P3) (pk : List V) (f : Nat) (os : List Nat) : Rho := ("others", natsV os) :: ("first", natV f) :: r9N tn rd o t LK qs us pk
theorem m0 (ht : t < pk.length) (hp : pk.length ≤ 1000) (he : pk[t]? = some (pickV (f, os))) : fN 17 (jN 0) ⟨ownN, r9N tn rd o t LK qs us pk⟩ = some (⟨ownN, r10N tn rd o t LK qs us pk f os⟩, none) := by
  have key : fN 17 (jN 0) ⟨ownN, r9N tn rd o t LK qs us pk⟩ = (match some [("first" : Str), "others"], itemV (.lst pk) (natV t) with
      | some xs, some (.lst ds) => (match storeAll scN xs ds ⟨ownN, r9N tn rd o t LK qs us pk⟩ with
        | some st' => some (st', none)
        | none => none)
      | _, _ => none) := by kernel_rfl
  rw [key, itemV_nat ht (by omega), he]
  kernel_rfl
noncomputable def kst (kv : V) (q : List P3) (tn rd o : V) (t : Nat) (LK : List V) (qs : List P3) (us : List P3) (pk : List V) (f : Nat) (os : List Nat) : SS :=
  ⟨ownN, [("k", kv), ("others", natsV os), ("first", natV f), ("turns", tn), ("ready", rd), ("numbers", .lst (qs.map numsV)), ("rows", .lst (qs.map rowV)), ("order", o), ("marks", .lst (qs.map fun q => .int (mark q))), ("free", natsV (freeH qs)), ("turn", natV t), ("looks", .lst LK), ("here", hereV qs), ("dots", dotsV qs), ("wish", wishV q), ("people", .lst (us.map perV)), ("picks", .lst pk)]⟩
theorem wish_set {k : Nat} (hw : 1 ≤ (at_ q k).w) : V.lst ((q.map fun p => natV p.w).set k (.int (((at_ q k).w : Int) - 1))) = wishV (stepO q k) := by
  unfold wishV stepO
  rw [List.map_set]
  have : V.int (((at_ q k).w : Int) - 1) = natV (less1 (at_ q k)).w := by
    unfold natV less1
    simp only
    congr 1
    omega
  rw [this]
theorem m1_turn {k : Nat} (h : Two us q) (hk : k < q.length) (hw : 1 ≤ (at_ q k).w) :
    ∃ st, kN 17 (forB (jN 1)) (kst (natV k) q tn rd o t LK qs us pk f os) = some (st, none) ∧ nrm (liveN "k") st = kst (natV k) (stepO q k) tn rd o t LK qs us pk f os := by
  refine ⟨⟨ownN, put "wish" (.lst ((q.map fun p => natV p.w).set k (.int (((at_ q k).w : Int) - 1)))) (kst (natV k) q tn rd o t LK qs us pk f os).ρ⟩, ?_, ?_⟩
  · clear hw
    apply two_ix (us := us) (qs := q) (k := k) h hk <;> kernel_rfl
  · rw [wish_set hw]
    kernel_rfl
noncomputable abbrev nloop (l : List Nat) (st : SS) : Res := forL scN "k" (nrmK (liveN "k") (kN 17) (forB (jN 1))) (l.map natV) st
theorem m1_loop : ∀ (l : List Nat) (q : List P3) (kv : V), Two us q → l.Nodup → (∀ j ∈ l, j < q.length ∧ 1 ≤ (at_ q j).w) → ∃ kv', nloop l (kst kv q tn rd o t LK qs us pk f os) = some (kst kv' (l.foldl stepO q) tn rd o t LK qs us pk f os, none)
  | [], q, kv, _, _, _ => ⟨kv, rfl⟩
  | k :: l, q, kv, h, hn, hl => by
    rw [List.nodup_cons] at hn
    obtain ⟨hk, hw⟩ := hl k List.mem_cons_self
    obtain ⟨st, e1, e2⟩ := m1_turn (tn := tn) (rd := rd) (o := o) (t := t) (LK := LK) (qs := qs) (pk := pk) (f := f) (os := os) h hk hw
    obtain ⟨kv', e3⟩ := m1_loop l (stepO q k) (natV k) (two_set h _ _) hn.2 fun j hj => by
      have := hl j (List.mem_cons_of_mem _ hj)
      have hne : k ≠ j := fun e => hn.1 (by rw [e]; exact hj)
      unfold stepO
      rw [List.length_set, at_set hk, if_neg hne]
      exact this
    exact ⟨kv', forL_cons (c := kst (natV k) q tn rd o t LK qs us pk f os) (c' := kst (natV k) (stepO q k) tn rd o t LK qs us pk f os) (by kernel_rfl) e1 e2 e3⟩
theorem m1 (h : Two us qs) (hne : os ≠ []) (hn : os.Nodup) (hl : ∀ j ∈ os, j < qs.length ∧ 1 ≤ (at_ qs j).w) :
    ∃ kv', fN 17 (jN 1) ⟨ownN, r10N tn rd o t LK qs us pk f os⟩ = some (kst kv' (os.foldl stepO qs) tn rd o t LK qs us pk f os, none) := by
  have key : fN 17 (jN 1) ⟨ownN, r10N tn rd o t LK qs us pk f os⟩ = nloop os ⟨ownN, r10N tn rd o t LK qs us pk f os⟩ := by kernel_rfl
  obtain ⟨k, l, rfl⟩ := List.exists_cons_of_ne_nil hne
  rw [List.nodup_cons] at hn
  obtain ⟨hk, hw⟩ := hl k List.mem_cons_self
  obtain ⟨st, e1, e2⟩ := m1_turn (tn := tn) (rd := rd) (o := o) (t := t) (LK := LK) (qs := qs) (pk := pk) (f := f) (os := k :: l) h hk hw
  obtain ⟨kv', e3⟩ := m1_loop (tn := tn) (rd := rd) (o := o) (t := t) (LK := LK) (qs := qs) (pk := pk) (f := f) (os := k :: l) l (stepO qs k) (natV k) (two_set h _ _) hn.2 fun j hj => by
    have := hl j (List.mem_cons_of_mem _ hj)
    have hne : k ≠ j := fun e => hn.1 (by rw [e]; exact hj)
    unfold stepO
    rw [List.length_set, at_set hk, if_neg hne]
    exact this
  exact ⟨kv', key.trans (forL_cons (c := kst (natV k) qs tn rd o t LK qs us pk f (k :: l)) (c' := kst (natV k) (stepO qs k) tn rd o t LK qs us pk f (k :: l)) (by kernel_rfl) e1 e2 e3)⟩
noncomputable def kst2 (kv : V) (q : List P3) (tn rd o : V) (t : Nat) (LK : List V) (qs : List P3) (us : List P3) (pk : List V) (f : Nat) (os : List Nat) : SS :=
  ⟨ownN, put "here" (.lst ((qs.map fun p => natV p.h).set f (natV 0))) (put "wish" (.lst ((q.map fun p => natV p.w).set f (natV 0))) (kst kv q tn rd o t LK qs us pk f os).ρ)⟩
theorem m2 {kv : V} (h : Two us qs) (h2 : Two us q) (hf : f < qs.length) : fN 17 (jN 2) (kst kv q tn rd o t LK qs us pk f os) = some (kst2 kv q tn rd o t LK qs us pk f os, none) := by
  apply two_ix (us := qs) (qs := q) (k := f) (two_tr h h2) ((two_len (two_tr h h2)).1 ▸ hf) <;> kernel_rfl
noncomputable def btwX (q : P3) : Option V := bo .Add (bo .Mult (some (.str [46])) (some (natV q.d))) (some (.str [32]))
theorem btwX_ok {q : P3} (h : q.w < 6 ∧ q.d < 9 ∧ q.h < 2) : btwX q = some (betweenV q) :=
  beqO_ok (allP_ok (f := fun q => beqO (btwX q) (betweenV q)) (by decide +kernel) h.1 (by omega) h.2.2)
theorem m3 {kv : V} (h : Two us qs) (hf : f < qs.length) (hw : (at_ qs f).w < 6 ∧ (at_ qs f).d < 9 ∧ (at_ qs f).h < 2) (hL : LK.length ≤ 1000) :
    fN 17 (jN 3) (kst2 kv q tn rd o t LK qs us pk f os) = some (⟨ownN, put "looks" (.lst (LK ++ [betweenV (at_ qs f)])) (kst2 kv q tn rd o t LK qs us pk f os).ρ⟩, none) := by
  have key : fN 17 (jN 3) (kst2 kv q tn rd o t LK qs us pk f os) = (match btwX (at_ qs f), some (V.lst LK) with
      | some d, some (.lst ds) => if ds.length ≤ 100000 then some (SS.mk ownN (put "looks" (.lst (ds ++ [d])) (kst2 kv q tn rd o t LK qs us pk f os).ρ)) else none
      | _, _ => none).map (·, none) := by
    apply two_ix (us := us) (qs := qs) (k := f) h hf <;> kernel_rfl
  rw [key, btwX_ok hw]
  show (if LK.length ≤ 100000 then some (SS.mk ownN (put "looks" (.lst (LK ++ [betweenV (at_ qs f)])) (kst2 kv q tn rd o t LK qs us pk f os).ρ)) else none).map _ = _
  rw [if_pos (by omega)]
  rfl
end
theorem ext_at {a b : List P3} (hl : a.length = b.length) (h : ∀ k, k < a.length → at_ a k = at_ b k) : a = b := by
  apply List.ext_getElem hl
  intro i h1 h2
  have := h i h1
  unfold at_ at this
  rw [List.getD_eq_getElem?_getD, List.getD_eq_getElem?_getD, List.getElem?_eq_getElem h1, List.getElem?_eq_getElem h2] at this
  exact this
theorem nextP_alt {qs : List P3} {f : Nat} {os : List Nat} (hf : f < qs.length) (hn : (f :: os).Nodup) (hl : ∀ j ∈ os, j < qs.length) : nextP qs f os = (os.foldl stepO qs).set f ⟨0, (at_ qs f).d, 0⟩ := by
  have hn' := List.nodup_cons.mp hn
  refine ext_at (by rw [nextP_len, List.length_set, foldO_len]) fun k hk => ?_
  rw [at_next hf hn hl, at_set (by rw [foldO_len]; exact hf), at_fold os qs k hn'.2 hl]
  by_cases h1 : k ∈ os
  · have : f ≠ k := fun e => hn'.1 (by rw [e]; exact h1)
    rw [if_pos h1, if_neg this, if_pos h1]
  · rw [if_neg h1, if_neg h1]
    by_cases h2 : k = f
    · rw [if_pos h2, if_pos h2.symm]
    · rw [if_neg h2, if_neg (Ne.symm h2)]
theorem map_at {α : Type} {g : P3 → α} {a b : List P3} (hl : a.length = b.length) (h : ∀ k, k < a.length → g (at_ a k) = g (at_ b k)) : a.map g = b.map g := by
  rw [qs_map (qs := a), qs_map (qs := b), ← hl]
  exact List.map_congr_left fun k hk => h k (List.mem_range.mp hk)
theorem next_wish {qs : List P3} {f : Nat} {os : List Nat} (hf : f < qs.length) (hn : (f :: os).Nodup) (hl : ∀ j ∈ os, j < qs.length) :
    V.lst (((os.foldl stepO qs).map fun p => natV p.w).set f (natV 0)) = wishV (nextP qs f os) ∧ V.lst ((qs.map fun p => natV p.h).set f (natV 0)) = hereV (nextP qs f os) ∧ dotsV qs = dotsV (nextP qs f os) := by
  have hn' := List.nodup_cons.mp hn
  refine ⟨?_, ?_, ?_⟩
  · unfold wishV
    rw [nextP_alt hf hn hl, List.map_set]
  · unfold hereV
    congr 1
    rw [nextP_alt hf hn hl, List.map_set]
    congr 1
    refine map_at (by rw [foldO_len]) fun k hk => ?_
    rw [at_fold os qs k hn'.2 hl]
    split <;> rfl
  · unfold dotsV
    congr 1
    refine map_at (by rw [nextP_len]) fun k hk => ?_
    rw [at_next hf hn hl]
    split
    · rfl
    · split
      · rename_i e; rw [e]
      · rfl
end Mine

-- PR
set_option maxRecDepth 10000
namespace Mine
set_option tactic.hygienic false

theorem bodyN_is : forB (S "_law_by_numbers" 3) = [bN 0, bN 1, bN 2, bN 3, bN 4, bN 5, bN 6, bN 7, bN 8, bN 9] := by kernel_rfl
section
variable {us ps : List P3} {t f : Nat} {L pk : List V} {os : List Nat}
theorem turnN_start (h : Two us ps) (g : GoodT t ps) (ht : t < 5) (hL : L.length ≤ 500) {R : Res}
    (hR : seqB (fN 18) [bN 9] ⟨ownN, r9N (.lst ((ordA (ps.map bump)).2.map intsV)) (natsV (readyA (ps.map bump))) (natsV (ordA (ps.map bump)).1) t (L ++ [lookV (ps.map bump)]) (ps.map bump) us pk⟩ = R) :
    kN 19 (forB (S "_law_by_numbers" 3)) (hdN t L ps us pk) = R := by
  have h2 := two_bump h
  have gq := g.bump ht
  have e3 := n3 (t := t) (L := L) (pk := pk) h2
  rw [ordB_V gq] at e3
  have e6 := n6 (t := t) (L := L) (pk := pk) (o := natsV (ordA (ps.map bump)).1) h2
  rw [ready_eq gq] at e6
  show seqB (fN 18) (forB (S "_law_by_numbers" 3)) _ = _
  rw [bodyN_is]
  refine seq_next (n0 h) (seq_next (n1 h2) (seq_next (n2 h2 gq.w) (seq_next e3 (seq_next (n4 h2 gq.w) (seq_next (n5 h2 gq.w) (seq_next e6 (seq_next (n7 h2 gq) (seq_next (n8 h2 gq (by grind)) ?_))))))))
  exact hR
theorem turnN_end (h : Two us ps) (g : GoodT t ps) (ht : t < 5) (hL : L.length ≤ 500) (hp : pk.length ≤ 1000) (he : ¬ t < pk.length) :
    ∃ st, kN 19 (forB (S "_law_by_numbers" 3)) (hdN t L ps us pk) = some (st, none) ∧ nrm (liveN "turn") st = hdN t (L ++ [lookV (ps.map bump)]) (ps.map bump) us pk := by
  refine ⟨_, turnN_start h g ht hL (seq_next (st' := ⟨ownN, r9N (.lst ((ordA (ps.map bump)).2.map intsV)) (natsV (readyA (ps.map bump))) (natsV (ordA (ps.map bump)).1) t (L ++ [lookV (ps.map bump)]) (ps.map bump) us pk⟩) ?_ rfl), ?_⟩
  · rw [n9 hp, decide_eq_false he]
  · kernel_rfl
theorem turnN_next (h : Two us ps) (g : GoodT t ps) (ht : t < 5) (hL : L.length ≤ 500) (hp : pk.length ≤ 1000) (he : pk[t]? = some (pickV (f, os))) (G : Go (ps.map bump) f os) :
    ∃ st, kN 19 (forB (S "_law_by_numbers" 3)) (hdN t L ps us pk) = some (st, none) ∧ nrm (liveN "turn") st = hdN t (L ++ [lookV (ps.map bump)] ++ [betweenV (at_ (ps.map bump) f)]) (nextP (ps.map bump) f os) us pk := by
  have h2 := two_bump h
  have gq := g.bump ht
  have hlt : t < pk.length := by
    cases q : decide (t < pk.length) with
    | true => exact of_decide_eq_true q
    | false =>
      have := of_decide_eq_false q
      rw [List.getElem?_eq_none (by grind)] at he; cases he
  have hn' := List.nodup_cons.mp G.nd
  generalize hq : ps.map bump = qs at *
  obtain ⟨kv, e1⟩ := m1 (tn := .lst ((ordA qs).2.map intsV)) (rd := natsV (readyA qs)) (o := natsV (ordA qs).1) (t := t) (LK := L ++ [lookV qs]) (pk := pk) (f := f) h2 G.ne hn'.2 fun j hj => ⟨G.osl j hj, G.w1 j hj⟩
  have two' : Two us (os.foldl stepO qs) := by
    have := two_len h2
    exact len_two (by rw [foldO_len]; exact this.1) (by rw [foldO_len]; exact this.2)
  have e2 := m2 (tn := .lst ((ordA qs).2.map intsV)) (rd := natsV (readyA qs)) (o := natsV (ordA qs).1) (t := t) (LK := L ++ [lookV qs]) (pk := pk) (os := os) (kv := kv) h2 two' G.fl
  have e3 := m3 (us := us) (q := os.foldl stepO qs) (tn := .lst ((ordA qs).2.map intsV)) (rd := natsV (readyA qs)) (o := natsV (ordA qs).1) (t := t) (LK := L ++ [lookV qs]) (pk := pk) (os := os) (kv := kv) h2 G.fl (gq.w _ (at_mem G.fl)) (by simp; grind)
  have e0 := m0 (us := us) (qs := qs) (tn := .lst ((ordA qs).2.map intsV)) (rd := natsV (readyA qs)) (o := natsV (ordA qs).1) (LK := L ++ [lookV qs]) hlt hp he
  refine ⟨⟨ownN, put "looks" (.lst (L ++ [lookV qs] ++ [betweenV (at_ qs f)])) (kst2 kv (os.foldl stepO qs) (.lst ((ordA qs).2.map intsV)) (natsV (readyA qs)) (natsV (ordA qs).1) t (L ++ [lookV qs]) qs us pk f os).ρ⟩, ?_, ?_⟩
  · refine turnN_start h g ht hL ?_
    rw [hq]
    refine seq_next ?_ rfl
    rw [n9 hp, decide_eq_true hlt]
    show seqB (fN 17) [jN 0, jN 1, jN 2, jN 3] _ = _
    exact seq_next e0 (seq_next e1 (seq_next e2 (seq_next e3 rfl)))
  · obtain ⟨w1, w2, w3⟩ := next_wish G.fl G.nd G.osl
    unfold hdN tlN
    rw [← w1, ← w2, ← w3]
    kernel_rfl
end
noncomputable abbrev ntl (l : List Nat) (st : SS) : Res := forL scN "turn" (nrmK (liveN "turn") (kN 19) (forB (S "_law_by_numbers" 3))) (l.map natV) st
theorem runA_nil {m : Nat} {ps : List P3} (ho : (ordA (ps.map bump)).1 = []) : runA (m + 1) ps = ⟨[lookV (ps.map bump)], [], true⟩ := by
  unfold runA; rw [ho]
theorem runA_cons {m : Nat} {ps : List P3} {f : Nat} {r : List Nat} (ho : (ordA (ps.map bump)).1 = f :: r) : runA (m + 1) ps =
    if (at_ (ps.map bump) f).w = 0 then ⟨[lookV (ps.map bump)], [], true⟩ else
      if (r.take (at_ (ps.map bump) f).w).length < (at_ (ps.map bump) f).w ∨ (at_ (ps.map bump) ((r.take (at_ (ps.map bump) f).w).getLastD 0)).w = 0 then ⟨[lookV (ps.map bump)], [], false⟩ else
      ⟨lookV (ps.map bump) :: betweenV (at_ (ps.map bump) f) :: (runA m (nextP (ps.map bump) f (r.take (at_ (ps.map bump) f).w))).looks,
       (f, r.take (at_ (ps.map bump) f).w) :: (runA m (nextP (ps.map bump) f (r.take (at_ (ps.map bump) f).w))).picks,
       (runA m (nextP (ps.map bump) f (r.take (at_ (ps.map bump) f).w))).good⟩ := by
  conv => lhs; unfold runA
  rw [ho]
theorem runA_end {m : Nat} {ps : List P3} (h : (runA (m + 1) ps).picks = []) : (runA (m + 1) ps).looks = [lookV (ps.map bump)] := by
  cases ho : (ordA (ps.map bump)).1 with
  | nil => rw [runA_nil ho]
  | cons f r =>
    rw [runA_cons ho] at h ⊢
    by_cases hw : (at_ (ps.map bump) f).w = 0
    · rw [if_pos hw]
    · rw [if_neg hw] at h ⊢
      split
      · rfl
      · rename_i hb
        rw [if_neg hb] at h
        cases h
theorem runA_next {m : Nat} {ps : List P3} {x : Nat × List Nat} {P : List (Nat × List Nat)} (g : Good (ps.map bump)) (h : (runA (m + 1) ps).picks = x :: P) :
    Go (ps.map bump) x.1 x.2 ∧ (runA m (nextP (ps.map bump) x.1 x.2)).picks = P ∧ (runA (m + 1) ps).looks = lookV (ps.map bump) :: betweenV (at_ (ps.map bump) x.1) :: (runA m (nextP (ps.map bump) x.1 x.2)).looks ∧
      (runA (m + 1) ps).good = (runA m (nextP (ps.map bump) x.1 x.2)).good ∧ ∃ r, (ordA (ps.map bump)).1 = x.1 :: r ∧ x.2 = r.take (at_ (ps.map bump) x.1).w ∧ 2 ≤ cnt ps := by
  cases ho : (ordA (ps.map bump)).1 with
  | nil => rw [runA_nil ho] at h; cases h
  | cons f r =>
    rw [runA_cons ho] at h ⊢
    by_cases hw : (at_ (ps.map bump) f).w = 0
    · rw [if_pos hw] at h; cases h
    · rw [if_neg hw] at h ⊢
      by_cases hb : (r.take (at_ (ps.map bump) f).w).length < (at_ (ps.map bump) f).w ∨ (at_ (ps.map bump) ((r.take (at_ (ps.map bump) f).w).getLastD 0)).w = 0
      · rw [if_pos hb] at h; cases h
      · rw [if_neg hb] at h ⊢
        injection h with h1 h2
        subst h1
        have G := go_of g ho hw hb
        exact ⟨G, h2, rfl, rfl, r, rfl, rfl, cnt_go ho fun e => G.ne (by simp [e])⟩
theorem runN {us : List P3} {PK : List (Nat × List Nat)} : ∀ (P : List (Nat × List Nat)) (m t : Nat) (ps : List P3) (L : List V) (st : SS), Two us ps → GoodT t ps → t + m ≤ 5 → 1 ≤ m → cnt ps ≤ m → L.length + 2 * m ≤ 400 → PK.length ≤ 100 →
    PK.drop t = P → (runA m ps).picks = P → (∀ t', nrm (liveN "turn") ⟨less "turn" st.own, put "turn" (natV t') st.ρ⟩ = hdN t' L ps us (PK.map pickV)) →
    ∃ t' q, ntl (List.range' t (P.length + 1)) st = some (hdN t' (L ++ (runA m ps).looks) q us (PK.map pickV), none)
  | P, 0, t, ps, L, st, _, _, _, h1, _, _, _, _, _, _ => by grind
  | [], m + 1, t, ps, L, st, h, g, h5, h1, hc, hL, hpk, hd, hr, hst => by
    have hlen : ¬ t < (PK.map pickV).length := by
      rw [List.length_map]
      have := congrArg List.length hd
      rw [List.length_drop, List.length_nil] at this
      grind
    obtain ⟨st1, e1, e2⟩ := turnN_end (L := L) (pk := PK.map pickV) h g (by grind) (by grind) (by rw [List.length_map]; grind) hlen
    refine ⟨t, ps.map bump, ?_⟩
    rw [runA_end hr]
    exact forL_cons (hst t) e1 e2 rfl
  | x :: P, m + 1, t, ps, L, st, h, g, h5, h1, hc, hL, hpk, hd, hr, hst => by
    have gq := g.bump (by grind)
    obtain ⟨G, hp, hl, _, r, ho, hos, hc2⟩ := runA_next gq hr
    have hx : (PK.map pickV)[t]? = some (pickV (x.1, x.2)) := by
      rw [List.getElem?_map]
      have : PK[t]? = (PK.drop t)[0]? := by rw [List.getElem?_drop]; rfl
      rw [this, hd]; rfl
    obtain ⟨st1, e1, e2⟩ := turnN_next (L := L) (pk := PK.map pickV) h g (by grind) (by grind) (by rw [List.length_map]; grind) hx G
    have hcn := cnt_next G
    have two' : Two us (nextP (ps.map bump) x.1 x.2) := by
      have := two_len (two_bump h)
      exact len_two (by rw [nextP_len]; exact this.1) (by rw [nextP_len]; exact this.2)
    obtain ⟨t', q, e3⟩ := runN P m (t + 1) (nextP (ps.map bump) x.1 x.2) (L ++ [lookV (ps.map bump)] ++ [betweenV (at_ (ps.map bump) x.1)])
      (hdN t (L ++ [lookV (ps.map bump)] ++ [betweenV (at_ (ps.map bump) x.1)]) (nextP (ps.map bump) x.1 x.2) us (PK.map pickV)) two' (next_good g G) (by grind) (by grind) (by grind) (by simp; grind) hpk
      (by rw [← List.drop_drop, hd]; rfl) hp (fun t' => by kernel_rfl)
    refine ⟨t', q, ?_⟩
    rw [hl]
    have e5 := forL_cons (r := (List.range' (t + 1) (P.length + 1)).map natV) (hst t) e1 e2 e3
    rw [List.append_assoc, List.append_assoc] at e5
    exact e5
theorem runA_picks {m : Nat} : ∀ {ps : List P3} {t : Nat}, GoodT t ps → t + m ≤ 5 → (runA m ps).picks.length ≤ m := by
  induction m with
  | zero => intro ps t _ _; exact Nat.le_refl 0
  | succ m ih =>
    intro ps t g h5
    cases hp : (runA (m + 1) ps).picks with
    | nil => exact Nat.zero_le _
    | cons x P =>
      obtain ⟨G, hp', _⟩ := runA_next (g.bump (by grind)) hp
      have := ih (next_good g G) (t := t + 1) (by grind)
      rw [hp'] at this
      exact Nat.succ_le_succ this
noncomputable def rngX (x : Option V) : Option (List V) := match intO x with
  | some b => if b ≤ 100000 ∧ -100000 ≤ b then some ((List.range b.toNat).map fun i => V.int (i : Nat)) else none
  | none => none
theorem rngX_ok {n : Nat} (h : n ≤ 1000) : rngX (bo .Add (some (natV n)) (some (.int 1))) = some ((List.range' 0 (n + 1)).map natV) := by
  have e : bo .Add (some (natV n)) (some (.int 1)) = some (.int ((n : Int) + 1)) := rfl
  rw [e]
  show (if ((n : Int) + 1) ≤ 100000 ∧ -100000 ≤ ((n : Int) + 1) then some ((List.range ((n : Int) + 1).toNat).map fun i => V.int (i : Nat)) else none) = _
  rw [if_pos ⟨by grind, by grind⟩, show ((n : Int) + 1).toNat = n + 1 by grind, ← List.range_eq_range']
  rfl
theorem byNumbers_ok {ps : List P3} (hn : ps.length = 4 ∨ ps.length = 5) (g : GoodT 0 ps) (h1 : ∀ p ∈ ps, p.h = 1) (hc : cnt ps ≤ ps.length) :
    fByNumbers lamPos [.lst (ps.map perV), .lst ((runA ps.length ps).picks.map pickV)] = some (.lst (runA ps.length ps).looks) := by
  have h := two_self hn
  have hpl := runA_picks (m := ps.length) g (by grind)
  generalize hPK : (runA ps.length ps).picks = PK at *
  have e0 : fN 19 (S "_law_by_numbers" 0) ⟨[], [("people", .lst (ps.map perV)), ("picks", .lst (PK.map pickV))]⟩ = some (⟨["dots", "wish"], [("dots", dotsV ps), ("wish", wishV ps), ("people", .lst (ps.map perV)), ("picks", .lst (PK.map pickV))]⟩, none) := by
    clear h1 hPK g hc hpl
    apply any_eq (ps := ps) hn <;> kernel_rfl
  have e1 : fN 19 (S "_law_by_numbers" 1) ⟨["dots", "wish"], [("dots", dotsV ps), ("wish", wishV ps), ("people", .lst (ps.map perV)), ("picks", .lst (PK.map pickV))]⟩ = some (⟨["here", "dots", "wish"], [("here", .lst (ps.map fun _ => natV 1)), ("dots", dotsV ps), ("wish", wishV ps), ("people", .lst (ps.map perV)), ("picks", .lst (PK.map pickV))]⟩, none) := by
    clear h1 hPK g hc hpl
    apply any_eq (ps := ps) hn <;> kernel_rfl
  have hh : V.lst (ps.map fun _ => natV 1) = hereV ps := by
    unfold hereV
    congr 1
    exact List.map_congr_left fun p hp => by rw [h1 p hp]
  rw [hh] at e1
  have e2 : fN 19 (S "_law_by_numbers" 2) ⟨["here", "dots", "wish"], [("here", hereV ps), ("dots", dotsV ps), ("wish", wishV ps), ("people", .lst (ps.map perV)), ("picks", .lst (PK.map pickV))]⟩ = some (⟨ownN, [("looks", .lst []), ("here", hereV ps), ("dots", dotsV ps), ("wish", wishV ps), ("people", .lst (ps.map perV)), ("picks", .lst (PK.map pickV))]⟩, none) := by kernel_rfl
  have e3 : fN 19 (S "_law_by_numbers" 3) ⟨ownN, [("looks", .lst []), ("here", hereV ps), ("dots", dotsV ps), ("wish", wishV ps), ("people", .lst (ps.map perV)), ("picks", .lst (PK.map pickV))]⟩ = ntl (List.range' 0 (PK.length + 1)) ⟨ownN, [("looks", .lst []), ("here", hereV ps), ("dots", dotsV ps), ("wish", wishV ps), ("people", .lst (ps.map perV)), ("picks", .lst (PK.map pickV))]⟩ := by
    have key : fN 19 (S "_law_by_numbers" 3) ⟨ownN, [("looks", .lst []), ("here", hereV ps), ("dots", dotsV ps), ("wish", wishV ps), ("people", .lst (ps.map perV)), ("picks", .lst (PK.map pickV))]⟩ = (match rngX (bo .Add (bLen [.lst (PK.map pickV)]) (some (.int 1))) with
      | some items => forL scN "turn" (nrmK (liveN "turn") (kN 19) (forB (S "_law_by_numbers" 3))) items ⟨ownN, [("looks", .lst []), ("here", hereV ps), ("dots", dotsV ps), ("wish", wishV ps), ("people", .lst (ps.map perV)), ("picks", .lst (PK.map pickV))]⟩
      | none => none) := by kernel_rfl
    rw [key, bLen_le (by rw [List.length_map]; grind), List.length_map, rngX_ok (by grind)]
  obtain ⟨t', q, e4⟩ := runN (us := ps) (PK := PK) PK ps.length 0 ps [] ⟨ownN, [("looks", .lst []), ("here", hereV ps), ("dots", dotsV ps), ("wish", wishV ps), ("people", .lst (ps.map perV)), ("picks", .lst (PK.map pickV))]⟩ h g (by grind) (by grind) hc (by simp; grind) (by grind) rfl hPK (fun t' => by kernel_rfl)
  rw [List.nil_append] at e4
  refine run_eq (st' := ⟨["here", "dots", "wish"], (hdN t' (runA ps.length ps).looks q ps (PK.map pickV)).ρ⟩) rfl ?_
  show seqB (fN 19) [S "_law_by_numbers" 0, S "_law_by_numbers" 1, S "_law_by_numbers" 2, S "_law_by_numbers" 3, S "_law_by_numbers" 4] _ = _
  exact seq_next e0 (seq_next e1 (seq_next e2 (seq_next (e3.trans e4) (seq_ret (by kernel_rfl)))))
end Mine

-- PS
set_option maxRecDepth 10000
namespace Mine
set_option tactic.hygienic false

noncomputable abbrev scP : Nm := scOf "_law_people"
noncomputable abbrev XSP : Xs := xsEnum (evF F0) scP
noncomputable abbrev kP (n : Nat) : Blk := blk XSP (evF F0) 1000 ["numbers"] scP n
noncomputable abbrev fP (n : Nat) : Stmt → SS → Res := stepX XSP (evF F0) (kP n) 1000 ["numbers"] scP
noncomputable def five (a b c d e : Int) : V := .lst [.int a, .int b, .int c, .int d, .int e]
noncomputable def cP (i : Nat) (x : Int) (nums : V) (s : V) : SS := ⟨["numbers"], [("x", .int x), ("k", natV i), ("numbers", nums), ("script", s)]⟩
noncomputable def dP (i : Nat) (x : Int) (nums : V) (s : V) : SS := ⟨["numbers"], [("numbers", nums), ("x", .int x), ("k", natV i), ("script", s)]⟩
noncomputable abbrev sP : Stmt := (forB (S "_law_people" 1)).getD 0 default
theorem people_turn (i : Nat) (x : Int) (s : V) (a b c d e : Int) : ∃ a' b' c' d' e', kP 19 (forB (S "_law_people" 1)) (cP i x (five a b c d e) s) = some (dP i x (five a' b' c' d' e') s, none) := by
  have key : fP 18 sP (cP i x (five a b c d e) s) = (match itemV (five a b c d e) (.int ((i : Int).fmod 5)) with
      | some v => (match iop .Add v (.int x) with
        | some v => (setI "numbers" (.int ((i : Int).fmod 5)) v (cP i x (five a b c d e) s)).map (·, none)
        | none => none)
      | none => none) := by kernel_rfl
  have hb : kP 19 (forB (S "_law_people" 1)) (cP i x (five a b c d e) s) = seqB (fP 18) [sP] (cP i x (five a b c d e) s) := by kernel_rfl
  have hm : (i : Int).fmod 5 = 0 ∨ (i : Int).fmod 5 = 1 ∨ (i : Int).fmod 5 = 2 ∨ (i : Int).fmod 5 = 3 ∨ (i : Int).fmod 5 = 4 := by
    have h1 := Int.fmod_nonneg_of_pos (i : Int) (show (0 : Int) < 5 by decide)
    have h2 := Int.fmod_lt_of_pos (i : Int) (show (0 : Int) < 5 by decide)
    grind
  rcases hm with hm | hm | hm | hm | hm <;> rw [hm] at key
  · refine ⟨a + x, b, c, d, e, hb.trans (seq_next (key.trans ?_) rfl)⟩
    kernel_rfl
  · refine ⟨a, b + x, c, d, e, hb.trans (seq_next (key.trans ?_) rfl)⟩
    kernel_rfl
  · refine ⟨a, b, c + x, d, e, hb.trans (seq_next (key.trans ?_) rfl)⟩
    kernel_rfl
  · refine ⟨a, b, c, d + x, e, hb.trans (seq_next (key.trans ?_) rfl)⟩
    kernel_rfl
  · refine ⟨a, b, c, d, e + x, hb.trans (seq_next (key.trans ?_) rfl)⟩
    kernel_rfl
noncomputable def tlP (s : V) : Option (Int × Nat) → Rho
  | none => [("script", s)]
  | some (x, i) => [("x", .int x), ("k", natV i), ("script", s)]
theorem people_loop (s : V) : ∀ (l : List Int) (i : Nat) (st : SS) (a b c d e : Int), (∀ i' x, storeAll scP ["k", "x"] [.int (i' : Nat), .int x] st = some (cP i' x (five a b c d e) s)) → (∃ tl, st = ⟨["numbers"], ("numbers", five a b c d e) :: tlP s tl⟩) →
    ∃ tl a' b' c' d' e', enumL scP "k" "x" (kP 19 (forB (S "_law_people" 1))) i (l.map V.int) st = some (⟨["numbers"], ("numbers", five a' b' c' d' e') :: tlP s tl⟩, none)
  | [], i, st, a, b, c, d, e, _, ⟨tl, h⟩ => ⟨tl, a, b, c, d, e, by rw [h]; rfl⟩
  | x :: l, i, st, a, b, c, d, e, h, _ => by
    obtain ⟨a1, b1, c1, d1, e1, ht⟩ := people_turn i x s a b c d e
    obtain ⟨tl, a2, b2, c2, d2, e2, h2⟩ := people_loop s l (i + 1) (dP i x (five a1 b1 c1 d1 e1) s) a1 b1 c1 d1 e1 (fun i' x' => by kernel_rfl) ⟨some (x, i), rfl⟩
    refine ⟨tl, a2, b2, c2, d2, e2, ?_⟩
    rw [List.map_cons, enumL, h, ]
    show (match kP 19 (forB (S "_law_people" 1)) (cP i x (five a b c d e) s) with
      | some (st', none) => enumL scP "k" "x" (kP 19 (forB (S "_law_people" 1))) (i + 1) (l.map V.int) st'
      | o => o) = _
    rw [ht]
    exact h2
noncomputable def perOf (n : Nat) (x : Int) : P3 := ⟨(if (x.fdiv 18).fmod 8 = 0 then x.fmod (n + 1 : Nat) else 1 + x.fmod (n - 1 : Nat)).toNat, (1 + (x.fdiv 6).fmod 3).toNat, 1⟩
noncomputable def ifX (n : Int) (x : Int) : Option V := match truth (.bool ((x.fdiv 18).fmod 8 == 0)) with
  | some true => some (.int (x.fmod (n + 1)))
  | some false => some (.int (1 + x.fmod (n - 1)))
  | none => none
theorem per_ok {n : Nat} (hn : n = 4 ∨ n = 5) (x : Int) : (match mapO id [ifX n x, some (.int (1 + (x.fdiv 6).fmod 3))] with
    | some ds => mkL ds
    | none => none) = some (perV (perOf n x)) ∧ (perOf n x).w ≤ n ∧ 1 ≤ (perOf n x).d ∧ (perOf n x).d ≤ 3 := by
  have d1 := Int.fmod_nonneg_of_pos (x.fdiv 6) (show (0 : Int) < 3 by decide)
  have d2 := Int.fmod_lt_of_pos (x.fdiv 6) (show (0 : Int) < 3 by decide)
  have a1 := Int.fmod_nonneg_of_pos x (show (0 : Int) < ((n + 1 : Nat) : Int) by omega)
  have a2 := Int.fmod_lt_of_pos x (show (0 : Int) < ((n + 1 : Nat) : Int) by omega)
  have b1 := Int.fmod_nonneg_of_pos x (show (0 : Int) < ((n - 1 : Nat) : Int) by omega)
  have b2 := Int.fmod_lt_of_pos x (show (0 : Int) < ((n - 1 : Nat) : Int) by omega)
  have e1 : (n : Int) + 1 = ((n + 1 : Nat) : Int) := by grind
  have e2 : (n : Int) - 1 = ((n - 1 : Nat) : Int) := by omega
  have hd : V.int (1 + (x.fdiv 6).fmod 3) = .int ((perOf n x).d : Nat) := by
    exact congrArg V.int (Int.toNat_of_nonneg (Int.add_nonneg (by decide) d1)).symm
  have hw : ifX n x = some (.int ((perOf n x).w : Nat)) := by
    unfold ifX
    rw [e1, e2]
    by_cases q : (x.fdiv 18).fmod 8 = 0
    · have : ((x.fdiv 18).fmod 8 == 0) = true := by simpa using q
      rw [this]
      show some (V.int _) = _
      unfold perOf
      rw [if_pos q]
      exact congrArg (fun i => some (V.int i)) (Int.toNat_of_nonneg a1).symm
    · have : ((x.fdiv 18).fmod 8 == 0) = false := by simpa using q
      rw [this]
      show some (V.int _) = _
      unfold perOf
      rw [if_neg q]
      exact congrArg (fun i => some (V.int i)) (Int.toNat_of_nonneg (Int.add_nonneg (by decide) b1)).symm
  refine ⟨?_, ?_, ?_, ?_⟩
  · rw [hd, hw]; rfl
  · unfold perOf; simp only; split <;> omega
  · unfold perOf; simp only; omega
  · unfold perOf; simp only; omega
noncomputable def eP : Expr := rhs (S "_law_people" 3)
theorem people_ret4 {s : V} {tl : Option (Int × Nat)} {a b c d e : Int} : fP 19 (S "_law_people" 3) ⟨["numbers"], ("count", .int 4) :: ("numbers", five a b c d e) :: tlP s tl⟩ = some (⟨["numbers"], ("count", .int 4) :: ("numbers", five a b c d e) :: tlP s tl⟩, some (.lst ([a, b, c, d].map fun x => perV (perOf 4 x)))) := by
  have key : fP 19 (S "_law_people" 3) ⟨["numbers"], ("count", .int 4) :: ("numbers", five a b c d e) :: tlP s tl⟩ = (match (match overE (compT 39 F0 scP ["numbers"] (("count", .int 4) :: ("numbers", five a b c d e) :: tlP s tl) eP) ([a, b, c, d].map V.int) with
      | some ds => mkL ds
      | none => none) with
    | some v => some (⟨["numbers"], ("count", .int 4) :: ("numbers", five a b c d e) :: tlP s tl⟩, some v)
    | none => none) := by cases tl <;> kernel_rfl
  have e2 : overE (compT 39 F0 scP ["numbers"] (("count", .int 4) :: ("numbers", five a b c d e) :: tlP s tl) eP) ([a, b, c, d].map V.int) = some ([a, b, c, d].map fun x => perV (perOf 4 x)) := by
    refine overE_one fun x _ => ?_
    have e3 : compT 39 F0 scP ["numbers"] (("count", .int 4) :: ("numbers", five a b c d e) :: tlP s tl) eP (.int x) = (match (match mapO id [ifX (4 : Nat) x, some (.int (1 + (x.fdiv 6).fmod 3))] with
        | some ds => mkL ds
        | none => none) with
      | some v => some [v]
      | none => none) := by cases tl <;> kernel_rfl
    rw [e3, (per_ok (.inl rfl) x).1]
  rw [key, e2]
  rfl
theorem people_ret5 {s : V} {tl : Option (Int × Nat)} {a b c d e : Int} : fP 19 (S "_law_people" 3) ⟨["numbers"], ("count", .int 5) :: ("numbers", five a b c d e) :: tlP s tl⟩ = some (⟨["numbers"], ("count", .int 5) :: ("numbers", five a b c d e) :: tlP s tl⟩, some (.lst ([a, b, c, d, e].map fun x => perV (perOf 5 x)))) := by
  have key : fP 19 (S "_law_people" 3) ⟨["numbers"], ("count", .int 5) :: ("numbers", five a b c d e) :: tlP s tl⟩ = (match (match overE (compT 39 F0 scP ["numbers"] (("count", .int 5) :: ("numbers", five a b c d e) :: tlP s tl) eP) ([a, b, c, d, e].map V.int) with
      | some ds => mkL ds
      | none => none) with
    | some v => some (⟨["numbers"], ("count", .int 5) :: ("numbers", five a b c d e) :: tlP s tl⟩, some v)
    | none => none) := by cases tl <;> kernel_rfl
  have e2 : overE (compT 39 F0 scP ["numbers"] (("count", .int 5) :: ("numbers", five a b c d e) :: tlP s tl) eP) ([a, b, c, d, e].map V.int) = some ([a, b, c, d, e].map fun x => perV (perOf 5 x)) := by
    refine overE_one fun x _ => ?_
    have e3 : compT 39 F0 scP ["numbers"] (("count", .int 5) :: ("numbers", five a b c d e) :: tlP s tl) eP (.int x) = (match (match mapO id [ifX (5 : Nat) x, some (.int (1 + (x.fdiv 6).fmod 3))] with
        | some ds => mkL ds
        | none => none) with
      | some v => some [v]
      | none => none) := by cases tl <;> kernel_rfl
    rw [e3, (per_ok (.inr rfl) x).1]
  rw [key, e2]
  rfl
structure Folk (ps : List P3) : Prop where
  n : ps.length = 4 ∨ ps.length = 5
  w : ∀ p ∈ ps, p.w ≤ ps.length ∧ 1 ≤ p.d ∧ p.d ≤ 3 ∧ p.h = 1
theorem folk_of {n : Nat} (hn : n = 4 ∨ n = 5) {l : List Int} (hl : l.length = n) : Folk (l.map (perOf n)) where
  n := by rw [List.length_map, hl]; exact hn
  w := fun p hp => by
    obtain ⟨x, _, rfl⟩ := List.mem_map.mp hp
    rw [List.length_map, hl]
    obtain ⟨_, h2, h3, h4⟩ := per_ok hn x
    exact ⟨h2, h3, h4, rfl⟩
theorem people_ok (ns : List Int) (hns : ns.length ≤ 63) : ∃ ps, Folk ps ∧ fPeople [.lst (ns.map V.int)] = some (.lst (ps.map perV)) := by
  have e0 : fP 19 (S "_law_people" 0) ⟨[], [("script", .lst (ns.map V.int))]⟩ = some (⟨["numbers"], [("numbers", five 12 3 7 21 5), ("script", .lst (ns.map V.int))]⟩, none) := by kernel_rfl
  have key : fP 19 (S "_law_people" 1) ⟨["numbers"], [("numbers", five 12 3 7 21 5), ("script", .lst (ns.map V.int))]⟩ = (match sliceV none (some 63) (.lst (ns.map V.int)) with
    | some (.lst ds) => enumL scP "k" "x" (kP 19 (forB (S "_law_people" 1))) 0 ds ⟨["numbers"], [("numbers", five 12 3 7 21 5), ("script", .lst (ns.map V.int))]⟩
    | _ => none) := by kernel_rfl
  have hs : sliceV none (some 63) (.lst (ns.map V.int)) = some (.lst (ns.map V.int)) := by
    show (if (ns.map V.int).length ≤ 100000 then some (V.lst (((ns.map V.int).drop 0).take (clipAt (ns.map V.int).length 63 - 0))) else none) = _
    have h63 : (ns.map V.int).length ≤ 63 := by rw [List.length_map]; exact hns
    rw [if_pos (Nat.le_trans h63 (by decide)), List.drop_zero, show clipAt (ns.map V.int).length 63 = (ns.map V.int).length from (clip_nat (k := 63)).trans (Nat.min_eq_right h63), Nat.sub_zero, List.take_of_length_le (Nat.le_refl _)]
  obtain ⟨tl, a, b, c, d, e, e1⟩ := people_loop (.lst (ns.map V.int)) ns 0 ⟨["numbers"], [("numbers", five 12 3 7 21 5), ("script", .lst (ns.map V.int))]⟩ 12 3 7 21 5 (fun i' x => by kernel_rfl) ⟨none, rfl⟩
  rw [hs] at key
  have e2 : fP 19 (S "_law_people" 2) ⟨["numbers"], ("numbers", five a b c d e) :: tlP (.lst (ns.map V.int)) tl⟩ = some (⟨["numbers"], put "count" (.int (4 + ([a, b, c, d, e].sum).fmod 2)) (("numbers", five a b c d e) :: tlP (.lst (ns.map V.int)) tl)⟩, none) := by cases tl <;> kernel_rfl
  have h1 := Int.fmod_nonneg_of_pos ([a, b, c, d, e].sum) (show (0 : Int) < 2 by decide)
  have h2 := Int.fmod_lt_of_pos ([a, b, c, d, e].sum) (show (0 : Int) < 2 by decide)
  have hm : ([a, b, c, d, e].sum).fmod 2 = 0 ∨ ([a, b, c, d, e].sum).fmod 2 = 1 := by grind
  rcases hm with hm | hm
  · refine ⟨[a, b, c, d].map (perOf 4), folk_of (.inl rfl) rfl, ?_⟩
    rw [hm] at e2
    have hp : put "count" (.int (4 + 0)) (("numbers", five a b c d e) :: tlP (.lst (ns.map V.int)) tl) = (((("count" : Str), V.int 4) :: (("numbers" : Str), five a b c d e) :: tlP (.lst (ns.map V.int)) tl) : Rho) := by cases tl <;> kernel_rfl
    rw [hp] at e2
    refine run_eq (st' := ⟨["numbers"], ("count", .int 4) :: ("numbers", five a b c d e) :: tlP (.lst (ns.map V.int)) tl⟩) rfl ?_
    show seqB (fP 19) [S "_law_people" 0, S "_law_people" 1, S "_law_people" 2, S "_law_people" 3] _ = _
    refine seq_next e0 (seq_next (key.trans e1) (seq_next e2 (seq_ret ?_)))
    rw [List.map_map]
    exact people_ret4
  · refine ⟨[a, b, c, d, e].map (perOf 5), folk_of (.inr rfl) rfl, ?_⟩
    rw [hm] at e2
    have hp : put "count" (.int (4 + 1)) (("numbers", five a b c d e) :: tlP (.lst (ns.map V.int)) tl) = (((("count" : Str), V.int 5) :: (("numbers" : Str), five a b c d e) :: tlP (.lst (ns.map V.int)) tl) : Rho) := by cases tl <;> kernel_rfl
    rw [hp] at e2
    refine run_eq (st' := ⟨["numbers"], ("count", .int 5) :: ("numbers", five a b c d e) :: tlP (.lst (ns.map V.int)) tl⟩) rfl ?_
    show seqB (fP 19) [S "_law_people" 0, S "_law_people" 1, S "_law_people" 2, S "_law_people" 3] _ = _
    refine seq_next e0 (seq_next (key.trans e1) (seq_next e2 (seq_ret ?_)))
    rw [List.map_map]
    exact people_ret5
end Mine

-- PT
set_option maxRecDepth 10000
namespace Mine
set_option tactic.hygienic false

noncomputable def insD (a : Nat) : List Nat → List Nat
  | [] => [a]
  | b :: l => if b ≤ a then a :: b :: l else b :: insD a l
noncomputable def sortD : List Nat → List Nat
  | [] => []
  | a :: l => insD a (sortD l)
noncomputable def HH : Nat → List Nat → Bool
  | 0, _ => false
  | _ + 1, [] => true
  | m + 1, w :: r => if w = 0 then true else if (r.take w).length < w ∨ (r.take w).getLastD 0 = 0 then false else HH m (sortD ((r.take w).map (· - 1) ++ r.drop w))
theorem insD_perm (a : Nat) : ∀ l, (insD a l).Perm (a :: l)
  | [] => .refl _
  | b :: l => by
    unfold insD
    split
    · exact .refl _
    · exact ((insD_perm a l).cons b).trans (List.Perm.swap a b l)
theorem sortD_perm : ∀ l, (sortD l).Perm l
  | [] => .refl _
  | a :: l => (insD_perm a _).trans ((sortD_perm l).cons a)
noncomputable abbrev Desc (l : List Nat) : Prop := l.Pairwise fun a b => b ≤ a
theorem insD_desc (a : Nat) : ∀ {l}, Desc l → Desc (insD a l)
  | [], _ => by unfold insD; exact List.pairwise_singleton _ _
  | b :: l, h => by
    rw [Desc, List.pairwise_cons] at h
    unfold insD
    split
    · rename_i q
      refine List.pairwise_cons.mpr ⟨fun x hx => ?_, List.pairwise_cons.mpr h⟩
      rcases List.mem_cons.mp hx with e | hx
      · rw [e]; exact q
      · exact Nat.le_trans (h.1 x hx) q
    · rename_i q
      refine List.pairwise_cons.mpr ⟨fun x hx => ?_, insD_desc a h.2⟩
      rcases List.mem_cons.mp ((insD_perm a l).mem_iff.mp hx) with e | hx
      · rw [e]; grind
      · exact h.1 x hx
theorem sortD_desc : ∀ l, Desc (sortD l)
  | [] => .nil
  | a :: l => insD_desc a (sortD_desc l)
theorem desc_unique {a b : List Nat} (h1 : Desc a) (h2 : Desc b) (hp : a.Perm b) : a = b :=
  hp.eq_of_pairwise (fun x y _ _ u v => by grind) h1 h2
noncomputable def WL (qs : List P3) : List Nat := (ordA qs).1.map fun k => (at_ qs k).w
theorem WL_desc {qs : List P3} (g : Good qs) : Desc (WL qs) := by
  unfold WL Desc
  rw [List.pairwise_map]
  refine (ordA_lex qs).imp_of_mem fun {i j} hi hj hl => ?_
  have h1 := g.w _ (at_mem (mem_ordA.mp hi).1)
  have h2 := g.w _ (at_mem (mem_ordA.mp hj).1)
  unfold Lex mark at hl
  grind
theorem isIn_next {ps : List P3} {f : Nat} {os : List Nat} (g : Good (ps.map bump)) (G : Go (ps.map bump) f os) {k : Nat} (hk : k < (ps.map bump).length) :
    isIn ((nextP (ps.map bump) f os).map bump) k = (decide (k ≠ f) && isIn (ps.map bump) k) := by
  have hk2 : k < (nextP (ps.map bump) f os).length := by rw [nextP_len]; exact hk
  have b := bump_same (at_ (nextP (ps.map bump) f os) k)
  rw [Bool.eq_iff_iff, Bool.and_eq_true, decide_eq_true_iff, isIn_iff, isIn_iff, at_map hk2, b.1, b.2, at_next G.fl G.nd G.osl]
  by_cases h1 : k ∈ os
  · have hne : k ≠ f := fun e => (List.nodup_cons.mp G.nd).1 (by rw [← e]; exact h1)
    have hi := G.inn k (List.mem_cons_of_mem _ h1)
    have hh := here_of g hk (isIn_not.mp hi)
    rw [if_pos h1]
    unfold less1
    simp only [hh]
    grind
  · rw [if_neg h1]
    by_cases h2 : k = f
    · rw [if_pos h2]; simp [h2]
    · rw [if_neg h2]; simp [h2]
theorem free_next {ps : List P3} {f : Nat} {os : List Nat} (g : Good (ps.map bump)) (G : Go (ps.map bump) f os) :
    free ((nextP (ps.map bump) f os).map bump) = (free (ps.map bump)).filter fun k => decide (k ≠ f) := by
  unfold free
  rw [List.length_map, nextP_len, List.filter_filter]
  refine List.filter_congr fun k hk => ?_
  exact isIn_next g G (List.mem_range.mp hk)
theorem WL_next {t : Nat} {ps : List P3} {f : Nat} {r : List Nat} (gt : GoodT t ps) (ht : t < 4) (ho : (ordA (ps.map bump)).1 = f :: r) (G : Go (ps.map bump) f (r.take (at_ (ps.map bump) f).w)) :
    WL ((nextP (ps.map bump) f (r.take (at_ (ps.map bump) f).w)).map bump) = sortD (((r.map fun k => (at_ (ps.map bump) k).w).take (at_ (ps.map bump) f).w).map (· - 1) ++ (r.map fun k => (at_ (ps.map bump) k).w).drop (at_ (ps.map bump) f).w) := by
  have g := gt.bump (by grind)
  have g2 := (next_good gt G).bump (by grind)
  refine desc_unique (WL_desc g2) (sortD_desc _) ?_
  refine List.Perm.trans ?_ (sortD_perm _).symm
  unfold WL
  have hnd : (f :: r).Nodup := by rw [← ho]; exact ordA_nodup _
  have hn := List.nodup_cons.mp hnd
  have hp : (ordA ((nextP (ps.map bump) f (r.take (at_ (ps.map bump) f).w)).map bump)).1.Perm r := by
    refine (ordA_perm _).trans ?_
    rw [free_next g G]
    refine ((ordA_perm (ps.map bump)).symm.filter _).trans ?_
    rw [ho, List.filter_cons, if_neg (by simp)]
    have : r.filter (fun k => decide (k ≠ f)) = r := List.filter_eq_self.mpr fun k hk => by
      rw [decide_eq_true_iff]; intro e; exact hn.1 (by rw [← e]; exact hk)
    rw [this]
  refine (hp.map _).trans ?_
  have hin : ∀ k ∈ r, k < (ps.map bump).length := fun k hk => (mem_ordA.mp (by rw [ho]; exact List.mem_cons_of_mem _ hk : k ∈ (ordA (ps.map bump)).1)).1
  generalize hos : (at_ (ps.map bump) f).w = w at *
  rw [← List.map_take, ← List.map_drop, List.map_map]
  have hw : ∀ k ∈ r, (at_ ((nextP (ps.map bump) f (r.take w)).map bump) k).w = if k ∈ r.take w then (at_ (ps.map bump) k).w - 1 else (at_ (ps.map bump) k).w := fun k hk => by
    have hk2 : k < (nextP (ps.map bump) f (r.take w)).length := by rw [nextP_len]; exact hin k hk
    rw [at_map hk2, (bump_same _).1, at_next G.fl G.nd G.osl]
    split
    · rfl
    · rw [if_neg]
      intro e; exact hn.1 (by rw [← e]; exact hk)
  have hsplit : r.map (fun k => (at_ ((nextP (ps.map bump) f (r.take w)).map bump) k).w) = (r.take w).map (fun k => (at_ (ps.map bump) k).w - 1) ++ (r.drop w).map fun k => (at_ (ps.map bump) k).w := by
    conv => lhs; rw [← List.take_append_drop w r]
    rw [List.map_append]
    congr 1
    · refine List.map_congr_left fun k hk => ?_
      rw [List.take_append_drop, hw k (List.mem_of_mem_take hk), if_pos hk]
    · refine List.map_congr_left fun k hk => ?_
      rw [List.take_append_drop, hw k (List.mem_of_mem_drop hk), if_neg]
      intro hk2
      have hd := hn.2
      rw [← List.take_append_drop w r, List.nodup_append] at hd
      exact hd.2.2 k hk2 k hk rfl
  rw [hsplit]
  exact List.Perm.refl _
theorem good_HH : ∀ (m t : Nat) (ps : List P3), GoodT t ps → t + m ≤ 5 → (runA m ps).good = HH m (WL (ps.map bump))
  | 0, t, ps, _, _ => rfl
  | m + 1, t, ps, g, h5 => by
    have gq := g.bump (by grind)
    cases ho : (ordA (ps.map bump)).1 with
    | nil => rw [runA_nil ho]; unfold WL; rw [ho]; rfl
    | cons f r =>
      rw [runA_cons ho]
      have e : WL (ps.map bump) = (at_ (ps.map bump) f).w :: r.map fun k => (at_ (ps.map bump) k).w := by unfold WL; rw [ho]; rfl
      rw [e]
      unfold HH
      by_cases hw : (at_ (ps.map bump) f).w = 0
      · rw [if_pos hw, if_pos hw]
      · rw [if_neg hw, if_neg hw]
        have hiff : ((r.take (at_ (ps.map bump) f).w).length < (at_ (ps.map bump) f).w ∨ (at_ (ps.map bump) ((r.take (at_ (ps.map bump) f).w).getLastD 0)).w = 0) ↔ (((r.map fun k => (at_ (ps.map bump) k).w).take (at_ (ps.map bump) f).w).length < (at_ (ps.map bump) f).w ∨ ((r.map fun k => (at_ (ps.map bump) k).w).take (at_ (ps.map bump) f).w).getLastD 0 = 0) := by
          rw [← List.map_take, List.length_map]
          generalize r.take (at_ (ps.map bump) f).w = os
          by_cases q : os.length < (at_ (ps.map bump) f).w
          · simp [q]
          · have hne : os ≠ [] := fun e => by rw [e] at q; simp at q; grind
            have : (os.map fun k => (at_ (ps.map bump) k).w).getLastD 0 = (at_ (ps.map bump) (os.getLastD 0)).w := by
              rw [List.getLastD_eq_getLast?, List.getLastD_eq_getLast?, List.getLast?_map, List.getLast?_eq_some_getLast hne]
              rfl
            rw [this]
        by_cases hb : (r.take (at_ (ps.map bump) f).w).length < (at_ (ps.map bump) f).w ∨ (at_ (ps.map bump) ((r.take (at_ (ps.map bump) f).w).getLastD 0)).w = 0
        · rw [if_pos hb, if_pos (hiff.mp hb)]
        · rw [if_neg hb, if_neg (fun x => hb (hiff.mpr x))]
          have G := go_of gq ho hw hb
          show (runA m _).good = _
          cases m with
          | zero => rfl
          | succ m => rw [good_HH (m + 1) (t + 1) _ (next_good g G) (by grind), WL_next g (by grind) ho G]
end Mine

-- PU
set_option maxRecDepth 10000
namespace Mine
set_option tactic.hygienic false

noncomputable abbrev scC : Nm := scOf "_law_can_be"
noncomputable abbrev XSC : Xs := xsFor (evF F0) 1000 [] scC liveC
noncomputable abbrev kC (n : Nat) : Blk := blk XSC (evF F0) 1000 [] scC n
noncomputable abbrev fC (n : Nat) : Stmt → SS → Res := stepX XSC (evF F0) (kC n) 1000 [] scC
noncomputable def canR (R : List Nat) : Option V := match seqB (fC 19) [S "_law_can_be" 1, S "_law_can_be" 2] ⟨[], [("row", natsV R)]⟩ with
  | some (_, d) => d
  | none => none
theorem forL_same {sc : Nm} {x : Str} {live : List Str} {K : Blk} {b : List Stmt} {d : V} {r : List V} {s1 s2 : SS} (h : nrm live ⟨less x s1.own, put x d s1.ρ⟩ = nrm live ⟨less x s2.own, put x d s2.ρ⟩) :
    forL sc x (nrmK live K b) (d :: r) s1 = forL sc x (nrmK live K b) (d :: r) s2 := by
  rw [forL, forL]
  have : nrmK live K b ⟨less x s1.own, put x d s1.ρ⟩ = nrmK live K b ⟨less x s2.own, put x d s2.ρ⟩ := by unfold nrmK; rw [h]
  rw [this]
noncomputable abbrev cloop (l : List V) (st : SS) : Res := forL scC "k" (nrmK (liveC "k") (kC 19) (forB (S "_law_can_be" 1))) l st
theorem can_loop {R : List Nat} {wv : V} (h : R.length = 4 ∨ R.length = 5) : fC 19 (S "_law_can_be" 1) ⟨[], [("row", natsV R), ("wishes", wv)]⟩ = fC 19 (S "_law_can_be" 1) ⟨[], [("row", natsV R)]⟩ := by
  rcases h with h | h
  · obtain ⟨a, b, c, d, rfl⟩ := list4 h
    have e1 : fC 19 (S "_law_can_be" 1) ⟨[], [("row", natsV [a, b, c, d]), ("wishes", wv)]⟩ = cloop [.int (1 + (0 : Nat)), .int (1 + (1 : Nat)), .int (1 + (2 : Nat)), .int (1 + (3 : Nat))] ⟨[], [("row", natsV [a, b, c, d]), ("wishes", wv)]⟩ := by kernel_rfl
    have e2 : fC 19 (S "_law_can_be" 1) ⟨[], [("row", natsV [a, b, c, d])]⟩ = cloop [.int (1 + (0 : Nat)), .int (1 + (1 : Nat)), .int (1 + (2 : Nat)), .int (1 + (3 : Nat))] ⟨[], [("row", natsV [a, b, c, d])]⟩ := by kernel_rfl
    rw [e1, e2]
    exact forL_same (by kernel_rfl)
  · obtain ⟨a, b, c, d, e, rfl⟩ := list5 h
    have e1 : fC 19 (S "_law_can_be" 1) ⟨[], [("row", natsV [a, b, c, d, e]), ("wishes", wv)]⟩ = cloop [.int (1 + (0 : Nat)), .int (1 + (1 : Nat)), .int (1 + (2 : Nat)), .int (1 + (3 : Nat)), .int (1 + (4 : Nat))] ⟨[], [("row", natsV [a, b, c, d, e]), ("wishes", wv)]⟩ := by kernel_rfl
    have e2 : fC 19 (S "_law_can_be" 1) ⟨[], [("row", natsV [a, b, c, d, e])]⟩ = cloop [.int (1 + (0 : Nat)), .int (1 + (1 : Nat)), .int (1 + (2 : Nat)), .int (1 + (3 : Nat)), .int (1 + (4 : Nat))] ⟨[], [("row", natsV [a, b, c, d, e])]⟩ := by kernel_rfl
    rw [e1, e2]
    exact forL_same (by kernel_rfl)
noncomputable def wInts (ps : List P3) : List Int := ps.map fun p => (p.w : Int)
set_option tactic.hygienic true in
theorem canBe_R {ps : List P3} {R : List Nat} {d : V} (h : R.length = 4 ∨ R.length = 5) (hn : ps.length = 4 ∨ ps.length = 5) (hR : ((wInts ps).mergeSort fun a b => decide (b ≤ a)) = R.map fun n : Nat => (n : Int)) (hc : canR R = some d) :
    fCanBe [wishV ps] = some d := by
  have e0 : fC 19 (S "_law_can_be" 0) ⟨[], [("wishes", wishV ps)]⟩ = some (⟨[], [("row", intsV ((wInts ps).mergeSort fun a b => decide (b ≤ a))), ("wishes", wishV ps)]⟩, none) := by
    clear hR hc
    apply any_eq (ps := ps) hn <;> kernel_rfl
  have e1 : intsV ((wInts ps).mergeSort fun a b => decide (b ≤ a)) = natsV R := by
    rw [hR]; unfold intsV natsV; rw [List.map_map]; rfl
  rw [e1] at e0
  have key : ∀ wv : V, ∃ st', seqB (fC 19) [S "_law_can_be" 1, S "_law_can_be" 2] ⟨[], [("row", natsV R), ("wishes", wv)]⟩ = some (st', some d) := fun wv => by
    unfold canR at hc
    rw [seqB, can_loop h]
    rw [seqB] at hc
    split at hc
    · rename_i st' d' hh
      subst hc
      exact ⟨st', hh⟩
    · cases hc
  obtain ⟨st', hk⟩ := key (wishV ps)
  refine run_eq (st' := st') rfl ?_
  show seqB (fC 19) [S "_law_can_be" 0, S "_law_can_be" 1, S "_law_can_be" 2] _ = _
  exact seq_next e0 hk
noncomputable def descL : Nat → Nat → List (List Nat)
  | 0, _ => [[]]
  | n + 1, m => (List.range (m + 1)).flatMap fun a => (descL n a).map (a :: ·)
theorem mem_descL : ∀ {n m : Nat} {R : List Nat}, R.length = n → Desc R → (∀ x ∈ R, x ≤ m) → R ∈ descL n m
  | 0, m, [], _, _, _ => by simp [descL]
  | n + 1, m, a :: R, h1, h2, h3 => by
    rw [Desc, List.pairwise_cons] at h2
    unfold descL
    refine List.mem_flatMap.mpr ⟨a, List.mem_range.mpr (by have := h3 a List.mem_cons_self; omega), ?_⟩
    exact List.mem_map.mpr ⟨R, mem_descL (by simpa using h1) h2.2 h2.1, rfl⟩
  | 0, m, a :: R, h1, _, _ => by simp at h1
  | n + 1, m, [], h1, _, _ => by simp at h1
theorem can4 : ((descL 4 4).all fun R => beqO (canR R) (.bool (HH 4 R))) = true := by decide +kernel
theorem can5 : ((descL 5 5).all fun R => beqO (canR R) (.bool (HH 5 R))) = true := by decide +kernel
theorem canR_HH {R : List Nat} {n : Nat} (hn : n = 4 ∨ n = 5) (h1 : R.length = n) (h2 : Desc R) (h3 : ∀ x ∈ R, x ≤ n) : canR R = some (.bool (HH n R)) := by
  rcases hn with rfl | rfl
  · exact beqO_ok (List.all_eq_true.mp can4 R (mem_descL h1 h2 h3))
  · exact beqO_ok (List.all_eq_true.mp can5 R (mem_descL h1 h2 h3))
end Mine

-- PV
set_option maxRecDepth 10000
namespace Mine
set_option tactic.hygienic false

mutual
theorem eqv_refl : ∀ d : V, PyData.eqv d.toPy d.toPy = true
  | .none => by simp [V.toPy, PyData.eqv]
  | .bool b => by simp [V.toPy, PyData.eqv]
  | .int i => by simp [V.toPy, PyData.eqv]
  | .str l => by simp [V.toPy, PyData.eqv]
  | .tup ds => by simp only [V.toPy, PyData.eqv, eqvAll_refl ds]
  | .lst ds => by simp only [V.toPy, PyData.eqv, eqvAll_refl ds]
theorem eqvAll_refl : ∀ ds : List V, PyData.eqvAll (toPys ds) (toPys ds) = true
  | [] => by simp [toPys, PyData.eqvAll]
  | d :: ds => by simp only [toPys, PyData.eqvAll, eqv_refl d, eqvAll_refl ds, Bool.and_self]
end
theorem firstMet_nodup (val : Nat → Int) : ∀ i, ((List.range i).map val).Nodup → (firstMet val i).length = i
  | 0, _ => rfl
  | i + 1, h => by
    rw [List.range_succ, List.map_append, List.nodup_append] at h
    rw [firstMet_succ]
    unfold step_dedup
    have hany : (firstMet val i).any (· == val i) = false := by
      rw [firstMet_any, Bool.eq_false_iff]
      intro hc
      obtain ⟨x, hx, e⟩ := List.any_eq_true.mp hc
      exact h.2.2 x hx (val i) (by simp) (eq_of_beq e)
    rw [hany]
    simp [firstMet_nodup val i h.1]
theorem range_getD (ns : List Int) : (List.range ns.length).map (fun i => ns.getD i 0) = ns := by
  apply List.ext_getElem
  · simp
  · intro i h1 h2
    simp [List.getD_eq_getElem?_getD, List.getElem?_eq_getElem h2]

noncomputable def tie (f k : Nat) : Nat := 10 * min f k + max f k
noncomputable def tiesOf (P : List (Nat × List Nat)) : List Nat := P.flatMap fun x => x.2.map (tie x.1)
noncomputable def isTie (k : Nat) (x : Nat) : Bool := decide (x / 10 = k ∨ x % 10 = k)
theorem tie_digits {f k : Nat} (hf : f < 5) (hk : k < 5) : tie f k / 10 = min f k ∧ tie f k % 10 = max f k :=
  (by decide +kernel : ∀ f, f < 5 → ∀ k, k < 5 → tie f k / 10 = min f k ∧ tie f k % 10 = max f k) f hf k hk
theorem isTie_iff {f k j : Nat} (hf : f < 5) (hk : k < 5) : isTie j (tie f k) = true ↔ (j = f ∨ j = k) := by
  unfold isTie
  rw [decide_eq_true_iff, (tie_digits hf hk).1, (tie_digits hf hk).2]
  grind
theorem tie_inj {f k f' k' : Nat} (hf : f < 5) (hk : k < 5) (hf' : f' < 5) (hk' : k' < 5) (h : tie f k = tie f' k') : (f = f' ∧ k = k') ∨ (f = k' ∧ k = f') :=
  of_decide_eq_true (List.all_eq_true.mp (List.all_eq_true.mp (List.all_eq_true.mp (List.all_eq_true.mp (by decide +kernel : ((List.range 5).all fun f => (List.range 5).all fun k => (List.range 5).all fun f' => (List.range 5).all fun k' => decide (tie f k = tie f' k' → (f = f' ∧ k = k') ∨ (f = k' ∧ k = f'))) = true)
    f (List.mem_range.mpr hf)) k (List.mem_range.mpr hk)) f' (List.mem_range.mpr hf')) k' (List.mem_range.mpr hk')) h
structure TiesOk (ps : List P3) (P : List (Nat × List Nat)) (good : Bool) : Prop where
  mem : ∀ x ∈ tiesOf P, ∃ f k, x = tie f k ∧ f < 5 ∧ k < 5 ∧ isIn (ps.map bump) f = true ∧ isIn (ps.map bump) k = true ∧ f < ps.length ∧ k < ps.length
  nodup : (tiesOf P).Nodup
  had : good = true → ∀ k, k < ps.length → ((tiesOf P).filter (isTie k)).length = (at_ ps k).w
theorem count_one {f : Nat} (hf : f < 5) : ∀ (os : List Nat) (j : Nat), (∀ k ∈ os, k < 5) → f ∉ os → os.Nodup → ((os.map (tie f)).filter (isTie j)).length = if j = f then os.length else if j ∈ os then 1 else 0
  | [], j, _, _, _ => by simp
  | k :: os, j, h1, h2, h3 => by
    rw [List.nodup_cons] at h3
    have ih := count_one hf os j (fun x hx => h1 x (List.mem_cons_of_mem _ hx)) (fun hm => h2 (List.mem_cons_of_mem _ hm)) h3.2
    have hk := h1 k List.mem_cons_self
    have hfk : f ≠ k := fun e => h2 (by rw [e]; exact List.mem_cons_self)
    rw [List.map_cons, List.filter_cons]
    by_cases hj : j = f
    · rw [if_pos hj] at ih
      rw [if_pos ((isTie_iff hf hk).mpr (.inl hj)), if_pos hj, List.length_cons, List.length_cons, ih]
    · rw [if_neg hj] at ih
      by_cases hjk : j = k
      · have : j ∉ os := fun hm => h3.1 (by rw [← hjk]; exact hm)
        rw [if_neg this] at ih
        rw [if_pos ((isTie_iff hf hk).mpr (.inr hjk)), if_neg hj, List.length_cons, ih, if_pos (by rw [hjk]; exact List.mem_cons_self)]
      · rw [if_neg (fun q => by rcases (isTie_iff hf hk).mp q with e | e; exact hj e; exact hjk e), ih, if_neg hj]
        by_cases hm : j ∈ os
        · rw [if_pos hm, if_pos (List.mem_cons_of_mem _ hm)]
        · rw [if_neg hm, if_neg]
          intro q
          rcases List.mem_cons.mp q with e | e
          · exact hjk e
          · exact hm e
theorem ties_ok : ∀ (m t : Nat) (ps : List P3), GoodT t ps → t + m ≤ 5 → ps.length ≤ 5 → TiesOk ps (runA m ps).picks (runA m ps).good
  | 0, t, ps, g, _, _ => ⟨(fun x h => by cases h), List.nodup_nil, (fun h => by cases h)⟩
  | m + 1, t, ps, g, h5, hl => by
    have gq := g.bump (by grind)
    have zero : (∀ k, k < ps.length → (at_ ps k).w = 0) → TiesOk ps [] true := fun hz =>
      ⟨(fun x h => by cases h), List.nodup_nil, fun _ k hk => by rw [hz k hk]; rfl⟩
    have bmp : ∀ k, k < ps.length → (at_ (ps.map bump) k).w = (at_ ps k).w ∧ (at_ (ps.map bump) k).h = (at_ ps k).h := fun k hk => by rw [at_map hk]; exact bump_same _
    have notIn : ∀ k, k < ps.length → isIn (ps.map bump) k = false → (at_ ps k).w = 0 := fun k hk h => by
      have h' : ¬ isIn (ps.map bump) k = true := by rw [h]; simp
      rw [isIn_iff, (bmp k hk).1] at h'
      grind
    cases ho : (ordA (ps.map bump)).1 with
    | nil =>
      rw [runA_nil ho]
      refine zero fun k hk => ?_
      cases hi : isIn (ps.map bump) k with
      | false => exact notIn k hk hi
      | true =>
        have : k ∈ (ordA (ps.map bump)).1 := mem_ordA.mpr ⟨by rw [List.length_map]; exact hk, hi⟩
        rw [ho] at this; cases this
    | cons f r =>
      rw [runA_cons ho]
      by_cases hw : (at_ (ps.map bump) f).w = 0
      · rw [if_pos hw]
        refine zero fun k hk => ?_
        cases hi : isIn (ps.map bump) k with
        | false => exact notIn k hk hi
        | true =>
          have hm : k ∈ (ordA (ps.map bump)).1 := mem_ordA.mpr ⟨by rw [List.length_map]; exact hk, hi⟩
          have hd := WL_desc gq
          have e : WL (ps.map bump) = (at_ (ps.map bump) f).w :: r.map fun k => (at_ (ps.map bump) k).w := by unfold WL; rw [ho]; rfl
          rw [e, Desc, List.pairwise_cons] at hd
          rw [ho] at hm
          rw [← (bmp k hk).1]
          rcases List.mem_cons.mp hm with q | q
          · rw [q]; exact hw
          · have := hd.1 _ (List.mem_map.mpr ⟨k, q, rfl⟩)
            grind
      · rw [if_neg hw]
        by_cases hb : (r.take (at_ (ps.map bump) f).w).length < (at_ (ps.map bump) f).w ∨ (at_ (ps.map bump) ((r.take (at_ (ps.map bump) f).w).getLastD 0)).w = 0
        · rw [if_pos hb]
          exact ⟨(fun x h => by cases h), List.nodup_nil, (fun h => by cases h)⟩
        · rw [if_neg hb]
          have G := go_of gq ho hw hb
          generalize r.take (at_ (ps.map bump) f).w = os at *
          have nl : (nextP (ps.map bump) f os).length = ps.length := by rw [nextP_len, List.length_map]
          have ih := ties_ok m (t + 1) (nextP (ps.map bump) f os) (next_good g G) (by grind) (by grind)
          generalize runA m (nextP (ps.map bump) f os) = R at *
          have hfn := List.nodup_cons.mp G.nd
          have hfl : f < ps.length := by have := G.fl; rw [List.length_map] at this; exact this
          have hol : ∀ k ∈ os, k < ps.length := fun k hk => by have := G.osl k hk; rw [List.length_map] at this; exact this
          have hos5 : ∀ k ∈ os, k < 5 := fun k hk => by have := hol k hk; grind
          have eT : tiesOf ((f, os) :: R.picks) = os.map (tie f) ++ tiesOf R.picks := rfl
          have inN : ∀ k, k < ps.length → isIn ((nextP (ps.map bump) f os).map bump) k = true → k ≠ f ∧ isIn (ps.map bump) k = true := fun k hk h => by
            rw [isIn_next gq G (by rw [List.length_map]; exact hk), Bool.and_eq_true, decide_eq_true_iff] at h
            exact h
          have hmem : ∀ x ∈ tiesOf R.picks, ∃ f' k', x = tie f' k' ∧ f' < 5 ∧ k' < 5 ∧ f' ≠ f ∧ k' ≠ f ∧ isIn (ps.map bump) f' = true ∧ isIn (ps.map bump) k' = true ∧ f' < ps.length ∧ k' < ps.length := fun x hx => by
            refine ex2 (ih.mem x hx) fun f' k' q_137 => ?_
            have e := q_137.1
            have h1 := q_137.2.1
            have h2 := q_137.2.2.1
            have h3 := q_137.2.2.2.1
            have h4 := q_137.2.2.2.2.1
            have h5' := q_137.2.2.2.2.2.1
            have h6 := q_137.2.2.2.2.2.2
            rw [nl] at h5' h6
            have q_139 := inN f' h5' h3
            have a1 := q_139.1
            have a2 := q_139.2
            have q_140 := inN k' h6 h4
            have b1 := q_140.1
            have b2 := q_140.2
            exact ⟨f', k', e, h1, h2, a1, b1, a2, b2, h5', h6⟩
          refine ⟨fun x hx => ?_, ?_, fun hg k hk => ?_⟩
          · rw [eT] at hx
            rcases List.mem_append.mp hx with hx | hx
            · obtain ⟨k, hk, rfl⟩ := List.mem_map.mp hx
              exact ⟨f, k, rfl, by grind, hos5 k hk, G.inn f List.mem_cons_self, G.inn k (List.mem_cons_of_mem _ hk), hfl, hol k hk⟩
            · obtain ⟨f', k', e, h1, h2, _, _, h3, h4, h5', h6⟩ := hmem x hx
              exact ⟨f', k', e, h1, h2, h3, h4, h5', h6⟩
          · rw [eT, List.nodup_append]
            refine ⟨?_, ih.nodup, fun x hx y hy e => ?_⟩
            · refine List.pairwise_map.mpr (hfn.2.imp_of_mem fun {a b} ha hb' hab e => ?_)
              rcases tie_inj (by grind) (hos5 a ha) (by grind) (hos5 b hb') e with ⟨_, q⟩ | ⟨q, _⟩
              · exact hab q
              · exact hfn.1 (by rw [q]; exact hb')
            · obtain ⟨k, hk', rfl⟩ := List.mem_map.mp hx
              refine ex2 (hmem y hy) fun f' k' q_156 => ?_
              have e' := q_156.1
              have h1 := q_156.2.1
              have h2 := q_156.2.2.1
              have a1 := q_156.2.2.2.1
              have b1 := q_156.2.2.2.2.1
              rw [e'] at e
              rcases tie_inj (by grind) (hos5 k hk') h1 h2 e with ⟨q, _⟩ | ⟨q, _⟩
              · exact a1 q.symm
              · exact b1 q.symm
          · have hh := ih.had hg k (by rw [nl]; exact hk)
            rw [eT, List.filter_append, List.length_append, hh, count_one (by grind) os k hos5 hfn.1 hfn.2, at_next G.fl G.nd G.osl]
            rw [← (bmp k hk).1]
            by_cases h1 : k = f
            · have hn : k ∉ os := by rw [h1]; exact hfn.1
              rw [if_pos h1, if_neg hn, if_pos h1, G.len, h1]
              exact Nat.add_zero _
            · rw [if_neg h1]
              by_cases h2 : k ∈ os
              · have := G.w1 k h2
                rw [if_pos h2, if_pos h2]
                unfold less1; simp only; grind
              · rw [if_neg h2, if_neg h2, if_neg h1]; grind
end Mine

-- PW
set_option maxRecDepth 10000
namespace Mine
set_option tactic.hygienic false

noncomputable abbrev scL : Nm := scOf "law"
noncomputable abbrev kL (F : Str → List V → Option V) (n : Nat) : Blk := blk noX (evF F) 1000 [] scL n
noncomputable abbrev fL (F : Str → List V → Option V) (n : Nat) : Stmt → SS → Res := stepX noX (evF F) (kL F n) 1000 [] scL
noncomputable def gl (d : Option V) : Option V := match d with
  | some d => (if (false && !atomV d) = true then none else some d)
  | none => none
theorem gl_some (d : V) : gl (some d) = some d := rfl
noncomputable def co (op : CmpOp) (x y : Option V) : Option V := match x, y with
  | some a, some b => (match cmpop op a b with
    | some t => some (V.bool t)
    | none => none)
  | _, _ => none
section
variable {F : Str → List V → Option V} {sv pv : V}
theorem l0 (h : F "_law_people" [sv] = some pv) : fL F 19 (S "law" 0) ⟨[], [("script", sv)]⟩ = some (⟨[], [("people", pv), ("script", sv)]⟩, none) := by
  have key : fL F 19 (S "law" 0) ⟨[], [("script", sv)]⟩ = (match gl (F "_law_people" [sv]) with
    | some d => some (⟨[], put "people" d [("script", sv)]⟩, none)
    | none => none) := by kernel_rfl
  rw [key, h, gl_some]
  kernel_rfl
noncomputable def rL1 (told picks good pv sv : V) : Rho := [("good", good), ("picks", picks), ("told", told), ("people", pv), ("script", sv)]
theorem l1 {told picks good : V} (h : F "_law_by_mail" [pv] = some (.lst [told, picks, good])) : fL F 19 (S "law" 1) ⟨[], [("people", pv), ("script", sv)]⟩ = some (⟨[], rL1 told picks good pv sv⟩, none) := by
  have key : fL F 19 (S "law" 1) ⟨[], [("people", pv), ("script", sv)]⟩ = (match some [("told" : Str), "picks", "good"], gl (F "_law_by_mail" [pv]) with
    | some xs, some (.lst ds) => (match storeAll scL xs ds ⟨[], [("people", pv), ("script", sv)]⟩ with
      | some st' => some (st', none)
      | none => none)
    | _, _ => none) := by kernel_rfl
  rw [key, h, gl_some]
  kernel_rfl
theorem l2 {ps : List P3} {tl : List V} {picks : V} {g : Bool} (hn : ps.length = 4 ∨ ps.length = 5) (h1 : F "_law_by_numbers" [.lst (ps.map perV), picks] = some (.lst tl)) (h2 : F "_law_can_be" [wishV ps] = some (.bool g)) (hd : deps tl ≤ 50) :
    fL F 19 (S "law" 2) ⟨[], rL1 (.lst tl) picks (.bool g) (.lst (ps.map perV)) sv⟩ = some (⟨[], rL1 (.lst tl) picks (.bool g) (.lst (ps.map perV)) sv⟩, none) := by
  have key : fL F 19 (S "law" 2) ⟨[], rL1 (.lst tl) picks (.bool g) (.lst (ps.map perV)) sv⟩ = (match (match boolG .Or [co .NotEq (some (.lst tl)) (gl (F "_law_by_numbers" [.lst (ps.map perV), picks])), co .IsNot (some (.bool g)) (gl (F "_law_can_be" [wishV ps]))] with
      | some d => truth d
      | none => none) with
    | some true => kL F 19 (forB (S "law" 2)) ⟨[], rL1 (.lst tl) picks (.bool g) (.lst (ps.map perV)) sv⟩
    | some false => kL F 19 [] ⟨[], rL1 (.lst tl) picks (.bool g) (.lst (ps.map perV)) sv⟩
    | none => none) := by
    clear h1 h2
    apply any_eq (ps := ps) hn <;> kernel_rfl
  have e1 : co .NotEq (some (.lst tl)) (some (.lst tl)) = some (.bool false) := by
    show (match (if deps tl ≤ 50 then some (!PyData.eqvAll (toPys tl) (toPys tl)) else none) with
      | some t => some (V.bool t)
      | none => none) = _
    rw [if_pos hd, eqvAll_refl]; rfl
  have e2 : co .IsNot (some (.bool g)) (some (.bool g)) = some (.bool false) := by cases g <;> rfl
  rw [key, h1, h2, gl_some, gl_some, e1, e2]
  rfl
end
theorem dep_nats (l : List Nat) : (natsV l).dep = 1 := by show deps (l.map natV) + 1 = 1; rw [deps_nats]
theorem deps_le {m : Nat} : ∀ {l : List V}, (∀ d ∈ l, d.dep ≤ m) → deps l ≤ m
  | [], _ => Nat.zero_le _
  | d :: l, h => by
    show max d.dep (deps l) ≤ m
    exact Nat.max_le.mpr ⟨h d List.mem_cons_self, deps_le fun x hx => h x (List.mem_cons_of_mem _ hx)⟩
theorem deps_ints (l : List Int) : deps (l.map V.int) ≤ 0 := deps_le fun d hd => by
  obtain ⟨i, _, rfl⟩ := List.mem_map.mp hd
  exact Nat.le_refl 0
theorem dep_look (qs : List P3) : (lookV qs).dep ≤ 4 := by
  have h1 : deps (qs.map rowV) ≤ 0 := deps_le fun d hd => by
    obtain ⟨q, _, rfl⟩ := List.mem_map.mp hd
    exact Nat.le_refl 0
  have h2 : deps (qs.map numsV) ≤ 1 := deps_le fun d hd => by
    obtain ⟨q, _, rfl⟩ := List.mem_map.mp hd
    exact Nat.succ_le_succ (deps_ints _)
  have h3 : deps ((ordA qs).2.map intsV) ≤ 1 := deps_le fun d hd => by
    obtain ⟨q, _, rfl⟩ := List.mem_map.mp hd
    exact Nat.succ_le_succ (deps_ints _)
  have h4 := dep_nats (readyA qs)
  have h5 := dep_nats (ordA qs).1
  show max (deps (qs.map rowV) + 1) (max (deps (qs.map numsV) + 1) (max (natsV (readyA qs)).dep (max (natsV (ordA qs).1).dep (max (deps ((ordA qs).2.map intsV) + 1) 0)))) + 1 ≤ 4
  exact Nat.succ_le_succ (Nat.max_le.mpr ⟨Nat.succ_le_succ (Nat.le_trans h1 (by decide)), Nat.max_le.mpr ⟨Nat.succ_le_succ (Nat.le_trans h2 (by decide)), Nat.max_le.mpr ⟨Nat.le_trans (Nat.le_of_eq h4) (by decide), Nat.max_le.mpr ⟨Nat.le_trans (Nat.le_of_eq h5) (by decide), Nat.max_le.mpr ⟨Nat.succ_le_succ (Nat.le_trans h3 (by decide)), by decide⟩⟩⟩⟩⟩)
theorem dep_run : ∀ (m : Nat) (ps : List P3), ∀ d ∈ (runA m ps).looks, d.dep ≤ 4
  | 0, ps, d, h => by cases h
  | m + 1, ps, d, h => by
    have one : ∀ {d}, d ∈ [lookV (ps.map bump)] → d.dep ≤ 4 := fun h => by
      rw [List.mem_singleton.mp h]; exact dep_look _
    cases ho : (ordA (ps.map bump)).1 with
    | nil => rw [runA_nil ho] at h; exact one h
    | cons f r =>
      rw [runA_cons ho] at h
      split at h
      · exact one h
      · split at h
        · exact one h
        · rcases List.mem_cons.mp h with e | h
          · rw [e]; exact dep_look _
          · rcases List.mem_cons.mp h with e | h
            · rw [e]; exact Nat.zero_le _
            · exact dep_run m _ d h
set_option backward.match.sparseCases false in
noncomputable def comp2T (n : Nat) (F : Str → List V → Option V) (own : List Str) (ρ : Rho) (e : Expr) : V → Option (List V) := match e with
  | .ListComp elt (_ :: g :: gs) scope _ => turnE (ev (cx F) n) scope.names own elt g gs ρ
  | _ => fun _ => none
noncomputable def eTi : Expr := rhs (S "law" 3)
noncomputable def eHa : Expr := rhs (S "law" 4)
noncomputable def rL3 (tv told picks good pv sv : V) : Rho := ("ties", tv) :: rL1 told picks good pv sv
section
variable {F : Str → List V → Option V} {sv told good pv : V}
noncomputable def y5L {α : Type} (F : Nat → Nat → α) : List (List α) := [[F 0 0, F 0 1, F 0 2, F 0 3, F 0 4], [F 1 0, F 1 1, F 1 2, F 1 3, F 1 4], [F 2 0, F 2 1, F 2 2, F 2 3, F 2 4], [F 3 0, F 3 1, F 3 2, F 3 3, F 3 4], [F 4 0, F 4 1, F 4 2, F 4 3, F 4 4]]
noncomputable def y5R {α : Type} (F : Nat → Nat → α) : List (List α) := [[F 0 0, F 0 1, F 0 2, F 0 3, F 0 4], [F 1 0, F 1 1, F 1 2, F 1 3, F 1 4], [F 2 0, F 2 1, F 2 2, F 2 3, F 2 4], [F 3 0, F 3 1, F 3 2, F 3 3, F 3 4], [F 4 0, F 4 1, F 4 2, F 4 3, F 4 4]]
theorem at55 {α : Type} {F G : Nat → Nat → α} {k j : Nat} (hk : k < 5) (hj : j < 5) (e : y5L F = y5R G) : F k j = G k j :=
  at5 (f := F k) (g := G k) (at5 (f := fun k => [F k 0, F k 1, F k 2, F k 3, F k 4]) (g := fun k => [G k 0, G k 1, G k 2, G k 3, G k 4]) e hk) hj
theorem l3 {P : List (Nat × List Nat)} (hP : ∀ x ∈ P, x.1 < 5 ∧ ∀ k ∈ x.2, k < 5) (hl : (tiesOf P).length ≤ 1000) :
    fL F 19 (S "law" 3) ⟨[], rL1 told (.lst (P.map pickV)) good pv sv⟩ = some (⟨[], rL3 (natsV (tiesOf P)) told (.lst (P.map pickV)) good pv sv⟩, none) := by
  refine comp_set (c := compT 39 F scL [] (rL1 told (.lst (P.map pickV)) good pv sv) eTi) (items := P.map pickV) (r := (tiesOf P).map natV) (G := fun d => ⟨[], put "ties" d (rL1 told (.lst (P.map pickV)) good pv sv)⟩) ?_ ?_ ?_ ?_
  · kernel_rfl
  · have : (tiesOf P).map natV = P.flatMap fun x => x.2.map fun k => natV (tie x.1 k) := by
      unfold tiesOf
      rw [List.map_flatMap]
      refine congrArg (fun f => List.flatMap f P) (funext fun x => ?_)
      rw [List.map_map]; rfl
    rw [this]
    refine overE_at fun x hx => ?_
    obtain ⟨h1, h2⟩ := hP x hx
    have e : compT 39 F scL [] (rL1 told (.lst (P.map pickV)) good pv sv) eTi (pickV x) = overE (comp2T 39 F [] [("others", natsV x.2), ("first", natV x.1)] eTi) (x.2.map natV) := by kernel_rfl
    rw [e]
    refine overE_one fun k hk => ?_
    have hk' := h2 k hk
    obtain ⟨f, os⟩ := x
    simp only at h1 hk hk' ⊢
    apply at55 (k := k) (j := f) hk' h1 <;> kernel_rfl
  · rw [List.length_map]; omega
  · kernel_rfl
end
end Mine

-- PX
set_option maxRecDepth 10000
namespace Mine
set_option tactic.hygienic false

noncomputable def rL4 (hv tv told picks good pv sv : V) : Rho := ("had", hv) :: rL3 tv told picks good pv sv
noncomputable def hadV (TL : List Nat) (n : Nat) : V := .lst ((List.range n).map fun k => natV (TL.filter (isTie k)).length)
theorem isTie_any (k x : Nat) : ((toPys [V.int ((x : Int).fdiv 10), V.int ((x : Int).fmod 10)]).any fun y => PyData.eqv y (.int (k : Nat))) = isTie k x := by
  rw [Int.fdiv_eq_ediv_of_nonneg _ (by decide), Int.fmod_eq_emod_of_nonneg _ (by decide)]
  unfold isTie
  simp only [toPys, V.toPy, PyData.eqv, List.any_cons, List.any_nil, Bool.or_false]
  rw [Bool.eq_iff_iff]
  simp only [Bool.or_eq_true, beq_iff_eq, decide_eq_true_iff]
  grind
section
variable {F : Str → List V → Option V} {sv told picks good : V}
theorem l4 {ps : List P3} {TL : List Nat} (hn : ps.length = 4 ∨ ps.length = 5) (hl : TL.length ≤ 1000) :
    fL F 19 (S "law" 4) ⟨[], rL3 (natsV TL) told picks good (.lst (ps.map perV)) sv⟩ = some (⟨[], rL4 (hadV TL ps.length) (natsV TL) told picks good (.lst (ps.map perV)) sv⟩, none) := by
  refine comp_set (c := compT 39 F scL [] (rL3 (natsV TL) told picks good (.lst (ps.map perV)) sv) eHa) (items := (List.range ps.length).map natV) (r := (List.range ps.length).map fun k => natV (TL.filter (isTie k)).length) (G := fun d => ⟨[], put "had" d (rL3 (natsV TL) told picks good (.lst (ps.map perV)) sv)⟩) ?_ ?_ ?_ ?_
  · apply any_eq (ps := ps) hn <;> kernel_rfl
  · refine overE_one fun k hk => ?_
    have e : compT 39 F scL [] (rL3 (natsV TL) told picks good (.lst (ps.map perV)) sv) eHa (natV k) = (match (match mapO id [match overE (compT 37 F (scopeE eHa) [] [("k", natV k), ("ties", natsV TL)] (arg0 (eltOf eHa))) (TL.map natV) with
        | some ds => mkL ds
        | none => none] with
      | some ds => bLen ds
      | none => none) with
      | some d => some [d]
      | none => none) := by kernel_rfl
    have e2 : overE (compT 37 F (scopeE eHa) [] [("k", natV k), ("ties", natsV TL)] (arg0 (eltOf eHa))) (TL.map natV) = some ((TL.filter (isTie k)).map natV) := by
      refine overE_if fun x _ => ?_
      have e3 : compT 37 F (scopeE eHa) [] [("k", natV k), ("ties", natsV TL)] (arg0 (eltOf eHa)) (natV x) = (match (match some ((toPys [V.int ((x : Int).fdiv 10), V.int ((x : Int).fmod 10)]).any fun y => PyData.eqv y (.int (k : Nat))) with
        | some true => some true
        | some false => some false
        | none => none) with
        | some true => some [natV x]
        | some false => some []
        | none => none) := by kernel_rfl
      rw [e3, isTie_any]
      cases isTie k x <;> rfl
    have hle := List.length_filter_le (isTie k) TL
    rw [e, e2]
    show (match (match mapO id [mkL ((TL.filter (isTie k)).map natV)] with
      | some ds => bLen ds
      | none => none) with
      | some d => some [d]
      | none => none) = _
    rw [mkL_ok (by rw [List.length_map]; grind)]
    show (match bLen [.lst ((TL.filter (isTie k)).map natV)] with
      | some d => some [d]
      | none => none) = _
    rw [bLen_lst (by rw [List.length_map]; grind), List.length_map]
    rfl
  · rw [List.length_map, List.length_range]; grind
  · kernel_rfl
theorem l5_false {pv hv tv : V} : ∃ st, fL F 19 (S "law" 5) ⟨[], rL4 hv tv told picks (.bool false) pv sv⟩ = some (st, some (.bool true)) :=
  ⟨⟨[], rL4 hv tv told picks (.bool false) pv sv⟩, by kernel_rfl⟩
noncomputable def setX (ds : List V) : Option V := match intsO ds with
  | some ns => if ns.length ≤ 1000 then some (.int (firstMet (fun i => ns.getD i 0) ns.length).length) else none
  | none => none
theorem l5_true {ps : List P3} {TL : List Nat} (hn : ps.length = 4 ∨ ps.length = 5) (hl : TL.length ≤ 1000) (hnd : TL.Nodup) (hh : hadV TL ps.length = wishV ps) :
    ∃ st, fL F 19 (S "law" 5) ⟨[], rL4 (hadV TL ps.length) (natsV TL) told picks (.bool true) (.lst (ps.map perV)) sv⟩ = some (st, some (.bool true)) := by
  have key : ∀ hv, fL F 19 (S "law" 5) ⟨[], rL4 hv (natsV TL) told picks (.bool true) (.lst (ps.map perV)) sv⟩ = (match boolG .Or [some (.bool false), boolG .And [co .Eq (setX (TL.map natV)) (bLen [natsV TL]), co .Eq (some hv) (some (wishV ps))]] with
      | some d => some (⟨[], rL4 hv (natsV TL) told picks (.bool true) (.lst (ps.map perV)) sv⟩, some d)
      | none => none) := fun hv => by
    clear hh
    apply any_eq (ps := ps) hn <;> kernel_rfl
  have e1 : setX (TL.map natV) = some (natV TL.length) := by
    unfold setX
    rw [intsO_nats]
    simp only
    rw [if_pos (by rw [List.length_map]; grind), firstMet_nodup, List.length_map]
    · rfl
    · rw [range_getD]
      exact List.pairwise_map.mpr (hnd.imp fun {a b} hab e => hab (by grind))
  have e2 : co .Eq (some (natV TL.length)) (some (natV TL.length)) = some (.bool true) := by
    show some (V.bool (((TL.length : Nat) : Int) == ((TL.length : Nat) : Int))) = _
    rw [beq_self_eq_true]
  have e3 : co .Eq (some (wishV ps)) (some (wishV ps)) = some (.bool true) := by
    have hd : deps (ps.map fun p => natV p.w) ≤ 50 := Nat.le_trans (deps_le (m := 0) fun d hd => by
      obtain ⟨p, _, rfl⟩ := List.mem_map.mp hd
      exact Nat.le_refl 0) (by grind)
    show (match (if deps (ps.map fun p => natV p.w) ≤ 50 then some (PyData.eqvAll (toPys (ps.map fun p => natV p.w)) (toPys (ps.map fun p => natV p.w))) else none) with
      | some t => some (V.bool t)
      | none => none) = _
    rw [if_pos hd, eqvAll_refl]
  refine ⟨⟨[], rL4 (hadV TL ps.length) (natsV TL) told picks (.bool true) (.lst (ps.map perV)) sv⟩, ?_⟩
  have e4 : bLen [natsV TL] = some (natV TL.length) := by
    have := bLen_le (l := TL.map natV) (by rw [List.length_map]; grind)
    rw [List.length_map] at this
    exact this
  rw [key, hh, e1, e4, e2, e3]
  rfl
end
theorem F2_people : F2 lamPos "_law_people" = fPeople := by kernel_rfl
theorem F2_mail : F2 lamPos "_law_by_mail" = fByMail := by kernel_rfl
theorem F2_num : F2 lamPos "_law_by_numbers" = fByNumbers lamPos := by kernel_rfl
theorem F2_can : F2 lamPos "_law_can_be" = fCanBe := by kernel_rfl
section
variable {ps : List P3} (H : Folk ps)
include H
theorem folk_good : GoodT 0 ps where
  w := fun p hp => by have := H.w p hp; have := H.n; grind
  d1 := fun p hp => (H.w p hp).2.1
  gone := fun p hp h => by have := (H.w p hp).2.2.2; grind
theorem folk_cnt : cnt ps ≤ ps.length := by
  unfold cnt free
  have := List.length_filter_le (isIn (ps.map bump)) (List.range (ps.map bump).length)
  rw [List.length_range, List.length_map] at this
  rw [List.length_map]
  exact this
theorem folk_WL : (WL (ps.map bump)).Perm (ps.map (·.w)) := by
  unfold WL
  refine ((ordA_perm (ps.map bump)).map _).trans ?_
  have e1 : free (ps.map bump) = List.range (ps.map bump).length := by
    unfold free
    refine List.filter_eq_self.mpr fun k hk => ?_
    have hk := List.mem_range.mp hk
    rw [List.length_map] at hk
    rw [isIn_iff, at_map hk, (bump_same _).1, (bump_same _).2, (H.w _ (at_mem hk)).2.2.2]
    grind
  rw [e1, ← qs_map (qs := ps.map bump) (g := fun p => p.w), List.map_map]
  have : ps.map ((fun p => p.w) ∘ bump) = ps.map (·.w) := List.map_congr_left fun p _ => (bump_same p).1
  rw [this]
theorem folk_can : fCanBe [wishV ps] = some (.bool (runA ps.length ps).good) := by
  have hp := folk_WL H
  have gT := folk_good H
  have hn := H.n
  have hlen : (WL (ps.map bump)).length = ps.length := by rw [hp.length_eq, List.length_map]
  have hd := WL_desc (gT.bump (by grind))
  refine canBe_R (R := WL (ps.map bump)) (by rw [hlen]; exact hn) hn ?_ ?_
  · refine List.Perm.eq_of_pairwise (le := fun a b : Int => b ≤ a) (fun a b _ _ x y => by grind) ?_ ?_ ?_
    · have := List.pairwise_mergeSort (le := fun a b : Int => decide (b ≤ a)) (fun a b c x y => by simp only [decide_eq_true_iff] at *; grind) (fun a b => by simp only [Bool.or_eq_true, decide_eq_true_iff]; grind) (wInts ps)
      exact this.imp fun {a b} x => of_decide_eq_true x
    · exact List.pairwise_map.mpr (hd.imp fun {a b} x => by grind)
    · refine (List.mergeSort_perm _ _).trans ?_
      have := (hp.symm.map fun n : Nat => (n : Int))
      rw [List.map_map] at this
      exact this
  · rw [canR_HH (n := ps.length) hn hlen hd fun x hx => ?_, good_HH ps.length 0 ps gT (by grind)]
    obtain ⟨p, hp', e⟩ := List.mem_map.mp (hp.mem_iff.mp hx)
    rw [← e]
    exact (H.w p hp').1
end
theorem picks_lt {ps : List P3} : ∀ (m t : Nat) (ps : List P3), GoodT t ps → t + m ≤ 5 → ps.length ≤ 5 → ∀ x ∈ (runA m ps).picks, x.1 < 5 ∧ (∀ k ∈ x.2, k < 5) ∧ x.2.length ≤ 5
  | 0, _, _, _, _, _, x, h => by cases h
  | m + 1, t, ps, g, h5, hl, x, h => by
    cases hp : (runA (m + 1) ps).picks with
    | nil => rw [hp] at h; cases h
    | cons y P =>
      obtain ⟨G, hp', _, _, r, ho, hos, _⟩ := runA_next (g.bump (by grind)) hp
      have gq := g.bump (by grind)
      rw [hp] at h
      rcases List.mem_cons.mp h with e | h
      · rw [e]
        have h1 := G.fl
        rw [List.length_map] at h1
        refine ⟨by grind, fun k hk => by have := G.osl k hk; rw [List.length_map] at this; grind, ?_⟩
        rw [G.len]
        have := gq.w _ (at_mem G.fl)
        grind
      · rw [← hp'] at h
        exact picks_lt (ps := ps) m (t + 1) _ (next_good g G) (by grind) (by rw [nextP_len, List.length_map]; exact hl) x h
theorem ties_len : ∀ (P : List (Nat × List Nat)), (∀ x ∈ P, x.2.length ≤ 5) → (tiesOf P).length ≤ 5 * P.length
  | [], _ => Nat.zero_le _
  | x :: P, h => by
    have h1 := ties_len P fun y hy => h y (List.mem_cons_of_mem _ hy)
    have h2 := h x List.mem_cons_self
    have : tiesOf (x :: P) = x.2.map (tie x.1) ++ tiesOf P := rfl
    rw [this, List.length_append, List.length_map, List.length_cons]
    grind
theorem law_ok (ns : List Int) (hns : ns.length ≤ 63) : fLaw [.lst (ns.map V.int)] = some (.bool true) := by
  obtain ⟨ps, H, hp⟩ := people_ok ns hns
  have gT := folk_good H
  have hn := H.n
  have hc := folk_cnt H
  have h1 : ∀ p ∈ ps, p.h = 1 := fun p hp => (H.w p hp).2.2.2
  have em := byMail_ok hn gT h1 hc
  have en := byNumbers_ok hn gT h1 hc
  have ec := folk_can H
  have ht := ties_ok ps.length 0 ps gT (by grind) (by grind)
  have hpk := picks_lt (ps := ps) ps.length 0 ps gT (by grind) (by grind)
  have hpl := runA_picks (m := ps.length) (t := 0) gT (by grind)
  have hdep := dep_run ps.length ps
  generalize runA ps.length ps = R at *
  have htl : (tiesOf R.picks).length ≤ 1000 := Nat.le_trans (ties_len R.picks fun x hx => (hpk x hx).2.2) (by grind)
  have q0 := l0 (F := F2 lamPos) (sv := .lst (ns.map V.int)) (pv := .lst (ps.map perV)) (by rw [F2_people]; exact hp)
  have q1 := l1 (F := F2 lamPos) (sv := .lst (ns.map V.int)) (pv := .lst (ps.map perV)) (by rw [F2_mail]; exact em)
  have q2 := l2 (F := F2 lamPos) (sv := .lst (ns.map V.int)) (ps := ps) (tl := R.looks) (picks := .lst (R.picks.map pickV)) (g := R.good) hn (by rw [F2_num]; exact en) (by rw [F2_can]; exact ec) (Nat.le_trans (deps_le hdep) (by grind))
  have q3 := l3 (F := F2 lamPos) (sv := .lst (ns.map V.int)) (told := .lst R.looks) (good := .bool R.good) (pv := .lst (ps.map perV)) (P := R.picks) (fun x hx => ⟨(hpk x hx).1, (hpk x hx).2.1⟩) htl
  have q4 := l4 (F := F2 lamPos) (sv := .lst (ns.map V.int)) (told := .lst R.looks) (picks := .lst (R.picks.map pickV)) (good := .bool R.good) (ps := ps) hn htl
  have q5 : ∃ st, fL (F2 lamPos) 19 (S "law" 5) ⟨[], rL4 (hadV (tiesOf R.picks) ps.length) (natsV (tiesOf R.picks)) (.lst R.looks) (.lst (R.picks.map pickV)) (.bool R.good) (.lst (ps.map perV)) (.lst (ns.map V.int))⟩ = some (st, some (.bool true)) := by
    cases hg : R.good with
    | false => exact l5_false
    | true =>
      refine l5_true hn htl ht.nodup ?_
      unfold hadV wishV
      rw [qs_map (qs := ps)]
      congr 1
      refine List.map_congr_left fun k hk => ?_
      rw [ht.had hg k (List.mem_range.mp hk)]
  obtain ⟨st, q5⟩ := q5
  refine run_eq (st' := st) rfl ?_
  show seqB (fL (F2 lamPos) 19) [S "law" 0, S "law" 1, S "law" 2, S "law" 3, S "law" 4, S "law" 5] _ = _
  exact seq_next q0 (seq_next q1 (seq_next q2 (seq_next q3 (seq_next q4 (seq_ret q5)))))
end Mine

set_option maxRecDepth 100000
theorem PySem.Challenge.cw_sw0022_01_holds : PySem.Challenge.rw_sw0022_01.Holds := by
  exact Mine.fin Mine.law_ok
