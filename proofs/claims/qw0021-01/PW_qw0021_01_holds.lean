import PyProof.Rows.All
import Wide.All
import OpenK.AllK
import Wide.FinOn
import PySem.Challenge.RW_qw0021_01
set_option Elab.async false

section
open PySem PySem.W PyProof.Rows PySem.Calls
set_option Elab.async false
set_option maxRecDepth 100000
set_option linter.unusedVariables false
namespace Mine
abbrev pr : Program := PySem.Challenge.pw_qw0021_01
/-- a def of the text as the object that the top makes of it -/
abbrev fnO {name : Str} {args : Arguments} {body : List Stmt} {ret : Option Expr} {scope : Scope} {tscope : Option Scope} {bind : _} {pos : Pos} (i : Nat)
    (_ : pr.main.body[i]? = some (Stmt.FunctionDef name args body [] ret [] scope tscope bind pos)) (pm : Str) (pt : Nat) (code : Addr) : Obj :=
  { cls := .type "function", data := .func { name := name, qualname := name, params := args, body := .stmts body, scope := scope, globals := 3, closure := [], defaults := .none, kwdefaults := .none, pyModule := .str pm pt, code := .ref code } }
/-- the same as the recipe that its code object keeps -/
abbrev fnR {name : Str} {args : Arguments} {body : List Stmt} {ret : Option Expr} {scope : Scope} {tscope : Option Scope} {bind : _} {pos : Pos} (i : Nat)
    (_ : pr.main.body[i]? = some (Stmt.FunctionDef name args body [] ret [] scope tscope bind pos)) : Obj :=
  { cls := .none, data := .func { name := name, qualname := name, params := args, body := .stmts body, scope := scope, globals := 0, closure := [], defaults := .none, kwdefaults := .none } }
noncomputable def KK : Params → Frag := fun P => [
  (2, { cls := Value.none, data := Data.dict #[{ hash := PyData.keyHash P { cps := #[105, 109, 112, 111, 114, 116, 46, 108, 111, 97, 100, 101, 100, 46, 95, 115, 114, 101] }, key := Value.str { cps := #[105, 109, 112, 111, 114, 116, 46, 108, 111, 97, 100, 101, 100, 46, 95, 115, 114, 101] } 183, val := Value.bool true }, { hash := PyData.keyHash P { cps := #[99, 108, 97, 115, 115, 46, 95, 102, 114, 111, 122, 101, 110, 95, 105, 109, 112, 111, 114, 116, 108, 105, 98, 46, 66, 117, 105, 108, 116, 105, 110, 73, 109, 112, 111, 114, 116, 101, 114] }, key := Value.str { cps := #[99, 108, 97, 115, 115, 46, 95, 102, 114, 111, 122, 101, 110, 95, 105, 109, 112, 111, 114, 116, 108, 105, 98, 46, 66, 117, 105, 108, 116, 105, 110, 73, 109, 112, 111, 114, 116, 101, 114] } 185, val := Value.ref 14 }, { hash := PyData.keyHash P { cps := #[119, 97, 116, 99, 104, 101, 100, 46, 105, 109, 112, 111, 114, 116] }, key := Value.str { cps := #[119, 97, 116, 99, 104, 101, 100, 46, 105, 109, 112, 111, 114, 116] } 206, val := Value.ref 18 }, { hash := PyData.keyHash P { cps := #[99, 108, 97, 115, 115, 46, 95, 102, 114, 111, 122, 101, 110, 95, 105, 109, 112, 111, 114, 116, 108, 105, 98, 46, 77, 111, 100, 117, 108, 101, 83, 112, 101, 99] }, key := Value.str { cps := #[99, 108, 97, 115, 115, 46, 95, 102, 114, 111, 122, 101, 110, 95, 105, 109, 112, 111, 114, 116, 108, 105, 98, 46, 77, 111, 100, 117, 108, 101, 83, 112, 101, 99] } 216, val := Value.ref 22 }, { hash := PyData.keyHash P (Str.ofString "sys.modules.booked-epoch"), key := Value.str (Str.ofString "sys.modules.booked-epoch") 245, val := Value.int 3 0 }, { hash := PyData.keyHash P { cps := #[105, 109, 112, 111, 114, 116, 46, 108, 97, 116, 101, 114, 45, 108, 97, 105, 100, 46, 95, 115, 114, 101] }, key := Value.str { cps := #[105, 109, 112, 111, 114, 116, 46, 108, 97, 116, 101, 114, 45, 108, 97, 105, 100, 46, 95, 115, 114, 101] } 270, val := Value.bool true }, { hash := PyData.keyHash P (Str.ofString "watched.library"), key := Value.str (Str.ofString "watched.library") 272, val := Value.ref 27 }, { hash := PyData.keyHash P (Str.ofString "watched.library-objects"), key := Value.str (Str.ofString "watched.library-objects") 0, val := Value.str (Str.ofString "\x0c") 0 }, { hash := PyData.keyHash P (Str.ofString "watched.library-deep._sre"), key := Value.str (Str.ofString "watched.library-deep._sre") 273, val := Value.str (Str.ofString "\x04\x00\x00\x0b\x04\x00\x00\x0b\x04\x00\x00\x03\x04\x00\x00\x0b\x08\x04dict\x02") 0 }] 9 }),
  (3, { cls := Value.type "dict", data := Data.dict #[{ hash := PyData.keyHash P (Str.ofString "__name__"), key := Value.str (Str.ofString "__name__") 165, val := Value.str (Str.ofString "law_qw0021_01") 645 }, { hash := PyData.keyHash P (Str.ofString "__doc__"), key := Value.str (Str.ofString "__doc__") 166, val := Value.none }, { hash := PyData.keyHash P (Str.ofString "__package__"), key := Value.str (Str.ofString "__package__") 167, val := Value.none }, { hash := PyData.keyHash P (Str.ofString "__loader__"), key := Value.str (Str.ofString "__loader__") 168, val := Value.builtin "__main__.__loader__#opaque" }, { hash := PyData.keyHash P (Str.ofString "__spec__"), key := Value.str (Str.ofString "__spec__") 169, val := Value.none }, { hash := PyData.keyHash P (Str.ofString "__annotations__"), key := Value.str (Str.ofString "__annotations__") 170, val := Value.ref 6 }, { hash := PyData.keyHash P (Str.ofString "__builtins__"), key := Value.str (Str.ofString "__builtins__") 171, val := Value.ref 4 }, { hash := PyData.keyHash P (Str.ofString "__file__"), key := Value.str (Str.ofString "__file__") 173, val := Value.str (Str.ofString "/claim/cut.py") 172 }, { hash := PyData.keyHash P (Str.ofString "__cached__"), key := Value.str (Str.ofString "__cached__") 174, val := Value.none }, { hash := PyData.keyHash P (Str.ofString "_sre"), key := Value.str (Str.ofString "_sre") 275, val := Value.ref 12 }, { hash := PyData.keyHash P (Str.ofString "IPV4_RE"), key := Value.str (Str.ofString "IPV4_RE") 313, val := Value.ref 36 }, { hash := PyData.keyHash P (Str.ofString "is_HDN"), key := Value.str (Str.ofString "is_HDN") 320, val := Value.ref 43 }, { hash := PyData.keyHash P (Str.ofString "liberal_is_HDN"), key := Value.str (Str.ofString "liberal_is_HDN") 327, val := Value.ref 50 }, { hash := PyData.keyHash P (Str.ofString "user_domain_match"), key := Value.str (Str.ofString "user_domain_match") 336, val := Value.ref 57 }, { hash := PyData.keyHash P (Str.ofString "reach"), key := Value.str (Str.ofString "reach") 345, val := Value.ref 64 }, { hash := PyData.keyHash P (Str.ofString "_twin_re_1"), key := Value.str (Str.ofString "_twin_re_1") 383, val := Value.ref 69 }, { hash := PyData.keyHash P (Str.ofString "_special_chars_map"), key := Value.str (Str.ofString "_special_chars_map") 531, val := Value.ref 71 }, { hash := PyData.keyHash P (Str.ofString "escape"), key := Value.str (Str.ofString "escape") 538, val := Value.ref 81 }, { hash := PyData.keyHash P (Str.ofString "_translate"), key := Value.str (Str.ofString "_translate") 559, val := Value.ref 88 }, { hash := PyData.keyHash P (Str.ofString "S_IFMT"), key := Value.str (Str.ofString "S_IFMT") 568, val := Value.ref 95 }, { hash := PyData.keyHash P (Str.ofString "S_IFDIR"), key := Value.str (Str.ofString "S_IFDIR") 570, val := Value.int 16384 569 }, { hash := PyData.keyHash P (Str.ofString "S_IFCHR"), key := Value.str (Str.ofString "S_IFCHR") 572, val := Value.int 8192 571 }, { hash := PyData.keyHash P (Str.ofString "S_IFBLK"), key := Value.str (Str.ofString "S_IFBLK") 574, val := Value.int 24576 573 }, { hash := PyData.keyHash P (Str.ofString "S_IFREG"), key := Value.str (Str.ofString "S_IFREG") 576, val := Value.int 32768 575 }, { hash := PyData.keyHash P (Str.ofString "S_IFIFO"), key := Value.str (Str.ofString "S_IFIFO") 578, val := Value.int 4096 577 }, { hash := PyData.keyHash P (Str.ofString "S_IFLNK"), key := Value.str (Str.ofString "S_IFLNK") 580, val := Value.int 40960 579 }, { hash := PyData.keyHash P (Str.ofString "S_IFSOCK"), key := Value.str (Str.ofString "S_IFSOCK") 582, val := Value.int 49152 581 }, { hash := PyData.keyHash P (Str.ofString "S_ISUID"), key := Value.str (Str.ofString "S_ISUID") 584, val := Value.int 2048 583 }, { hash := PyData.keyHash P (Str.ofString "S_ISGID"), key := Value.str (Str.ofString "S_ISGID") 586, val := Value.int 1024 585 }, { hash := PyData.keyHash P (Str.ofString "S_ISVTX"), key := Value.str (Str.ofString "S_ISVTX") 588, val := Value.int 512 587 }, { hash := PyData.keyHash P (Str.ofString "S_IRUSR"), key := Value.str (Str.ofString "S_IRUSR") 590, val := Value.int 256 589 }, { hash := PyData.keyHash P (Str.ofString "S_IWUSR"), key := Value.str (Str.ofString "S_IWUSR") 592, val := Value.int 128 591 }, { hash := PyData.keyHash P (Str.ofString "S_IXUSR"), key := Value.str (Str.ofString "S_IXUSR") 594, val := Value.int 64 593 }, { hash := PyData.keyHash P (Str.ofString "S_IRGRP"), key := Value.str (Str.ofString "S_IRGRP") 596, val := Value.int 32 595 }, { hash := PyData.keyHash P (Str.ofString "S_IWGRP"), key := Value.str (Str.ofString "S_IWGRP") 598, val := Value.int 16 597 }, { hash := PyData.keyHash P (Str.ofString "S_IXGRP"), key := Value.str (Str.ofString "S_IXGRP") 600, val := Value.int 8 599 }, { hash := PyData.keyHash P (Str.ofString "S_IROTH"), key := Value.str (Str.ofString "S_IROTH") 602, val := Value.int 4 601 }, { hash := PyData.keyHash P (Str.ofString "S_IWOTH"), key := Value.str (Str.ofString "S_IWOTH") 604, val := Value.int 2 603 }, { hash := PyData.keyHash P (Str.ofString "S_IXOTH"), key := Value.str (Str.ofString "S_IXOTH") 606, val := Value.int 1 605 }, { hash := PyData.keyHash P (Str.ofString "_filemode_table"), key := Value.str (Str.ofString "_filemode_table") 632, val := Value.ref 128 }, { hash := PyData.keyHash P (Str.ofString "filemode"), key := Value.str (Str.ofString "filemode") 644, val := Value.ref 135 }, { hash := PyData.keyHash P (Str.ofString "_law_labels"), key := Value.str (Str.ofString "_law_labels") 652, val := Value.ref 140 }, { hash := PyData.keyHash P (Str.ofString "_law_reach"), key := Value.str (Str.ofString "_law_reach") 659, val := Value.ref 147 }, { hash := PyData.keyHash P (Str.ofString "_law_ends"), key := Value.str (Str.ofString "_law_ends") 669, val := Value.ref 154 }, { hash := PyData.keyHash P (Str.ofString "_law_takes"), key := Value.str (Str.ofString "_law_takes") 675, val := Value.ref 159 }, { hash := PyData.keyHash P (Str.ofString "_law_listed"), key := Value.str (Str.ofString "_law_listed") 687, val := Value.ref 166 }, { hash := PyData.keyHash P (Str.ofString "law"), key := Value.str (Str.ofString "law") 693, val := Value.ref 171 }] 47 }),
  (35, { cls := Value.type "tuple", data := Data.seq #[Value.int 14 0, Value.int 8 0, Value.int 1 0, Value.int 2 0, Value.int 4294967295 0, Value.int 1 0, Value.int 1 0, Value.int 46 0, Value.int 0 0, Value.int 16 0, Value.int 46 0, Value.int 24 0, Value.int 9 0, Value.int 1 0, Value.int 4294967295 0, Value.int 13 0, Value.int 4 0, Value.int 8 0, Value.int 0 0, Value.int 0 0, Value.int 1 0, Value.int 6 0, Value.int 5 0, Value.int 1 0] }),
  (36, { cls := Value.type "re.Pattern", data := Data.fields #[Value.str (Str.ofString "\\.\\d+$") 285, Value.int 256 312, Value.int 0 0, Value.none, Value.none, Value.ref 35, Value.int 0 0] }),
  (37, { cls := Value.type "tuple", data := Data.seq #[] }),
  (39, { cls := Value.type "tuple", data := Data.seq #[Value.str (Str.ofString "text") 317] }),
  (40, { cls := Value.type "tuple", data := Data.seq #[] }),
  (42, { cls := Value.type "code", data := Data.fields #[Value.str (Str.ofString "is_HDN") 314, Value.str (Str.ofString "is_HDN") 315, Value.str (Str.ofString "/claim/cut.py") 316, Value.int 4 0, Value.int 1 0, Value.int 0 0, Value.int 0 0, Value.int 3 0, Value.ref 37, Value.bool true, Value.int 276 0, Value.ref 38, Value.none, Value.ref 39, Value.ref 40, Value.ref 41, Value.int 318 0, Value.int 4 0, Value.str (Str.ofString "/claim/cut.py") 319] }),
  (43, fnO 3 rfl (Str.ofString "cpy313.http.cookiejar") 282 42),
  (44, { cls := Value.type "tuple", data := Data.seq #[] }),
  (46, { cls := Value.type "tuple", data := Data.seq #[Value.str (Str.ofString "text") 324] }),
  (47, { cls := Value.type "tuple", data := Data.seq #[] }),
  (49, { cls := Value.type "code", data := Data.fields #[Value.str (Str.ofString "liberal_is_HDN") 321, Value.str (Str.ofString "liberal_is_HDN") 322, Value.str (Str.ofString "/claim/cut.py") 323, Value.int 12 0, Value.int 1 0, Value.int 0 0, Value.int 0 0, Value.int 3 0, Value.ref 44, Value.bool true, Value.int 276 0, Value.ref 45, Value.none, Value.ref 46, Value.ref 47, Value.ref 48, Value.int 325 0, Value.int 12 0, Value.str (Str.ofString "/claim/cut.py") 326] }),
  (50, fnO 4 rfl (Str.ofString "cpy313.http.cookiejar") 282 49),
  (51, { cls := Value.type "tuple", data := Data.seq #[] }),
  (53, { cls := Value.type "tuple", data := Data.seq #[Value.str (Str.ofString "A") 331, Value.str (Str.ofString "B") 332, Value.str (Str.ofString "initial_dot") 333] }),
  (54, { cls := Value.type "tuple", data := Data.seq #[] }),
  (56, { cls := Value.type "code", data := Data.fields #[Value.str (Str.ofString "user_domain_match") 328, Value.str (Str.ofString "user_domain_match") 329, Value.str (Str.ofString "/claim/cut.py") 330, Value.int 16 0, Value.int 2 0, Value.int 0 0, Value.int 0 0, Value.int 3 0, Value.ref 51, Value.bool true, Value.int 276 0, Value.ref 52, Value.none, Value.ref 53, Value.ref 54, Value.ref 55, Value.int 334 0, Value.int 16 0, Value.str (Str.ofString "/claim/cut.py") 335] }),
  (57, fnO 5 rfl (Str.ofString "cpy313.http.cookiejar") 282 56),
  (58, { cls := Value.type "tuple", data := Data.seq #[] }),
  (60, { cls := Value.type "tuple", data := Data.seq #[Value.str (Str.ofString "h") 340, Value.str (Str.ofString "i") 341, Value.str (Str.ofString "b") 342] }),
  (61, { cls := Value.type "tuple", data := Data.seq #[] }),
  (63, { cls := Value.type "code", data := Data.fields #[Value.str (Str.ofString "reach") 337, Value.str (Str.ofString "reach") 338, Value.str (Str.ofString "/claim/cut.py") 339, Value.int 29 0, Value.int 1 0, Value.int 0 0, Value.int 0 0, Value.int 3 0, Value.ref 58, Value.bool true, Value.int 276 0, Value.ref 59, Value.none, Value.ref 60, Value.ref 61, Value.ref 62, Value.int 343 0, Value.int 29 0, Value.str (Str.ofString "/claim/cut.py") 344] }),
  (64, fnO 6 rfl (Str.ofString "cpy313.http.cookiejar") 282 63),
  (68, { cls := Value.type "tuple", data := Data.seq #[Value.int 14 0, Value.int 14 0, Value.int 4 0, Value.int 1 0, Value.int 1 0, Value.int 9 0, Value.int 0 0, Value.int 64 0, Value.int 0 0, Value.int 1342177280 0, Value.int 0 0, Value.int 0 0, Value.int 0 0, Value.int 0 0, Value.int 0 0, Value.int 17 0, Value.int 0 0, Value.int 13 0, Value.int 11 0, Value.int 9 0, Value.int 0 0, Value.int 64 0, Value.int 0 0, Value.int 1342177280 0, Value.int 0 0, Value.int 0 0, Value.int 0 0, Value.int 0 0, Value.int 0 0, Value.int 17 0, Value.int 1 0, Value.int 1 0] }),
  (69, { cls := Value.type "re.Pattern", data := Data.fields #[Value.str (Str.ofString "([&~|])") 347, Value.int 32 382, Value.int 1 0, Value.none, Value.none, Value.ref 68, Value.int 0 0] }),
  (71, { cls := Value.type "dict", data := Data.dict #[{ hash := 40, key := Value.int 40 387, val := Value.str (Str.ofString "\\(") 391 }, { hash := 41, key := Value.int 41 393, val := Value.str (Str.ofString "\\)") 397 }, { hash := 91, key := Value.int 91 399, val := Value.str (Str.ofString "\\[") 403 }, { hash := 93, key := Value.int 93 405, val := Value.str (Str.ofString "\\]") 409 }, { hash := 123, key := Value.int 123 411, val := Value.str (Str.ofString "\\{") 415 }, { hash := 125, key := Value.int 125 417, val := Value.str (Str.ofString "\\}") 421 }, { hash := 63, key := Value.int 63 423, val := Value.str (Str.ofString "\\?") 427 }, { hash := 42, key := Value.int 42 429, val := Value.str (Str.ofString "\\*") 433 }, { hash := 43, key := Value.int 43 435, val := Value.str (Str.ofString "\\+") 439 }, { hash := 45, key := Value.int 45 441, val := Value.str (Str.ofString "\\-") 445 }, { hash := 124, key := Value.int 124 447, val := Value.str (Str.ofString "\\|") 451 }, { hash := 94, key := Value.int 94 453, val := Value.str (Str.ofString "\\^") 457 }, { hash := 36, key := Value.int 36 459, val := Value.str (Str.ofString "\\$") 463 }, { hash := 92, key := Value.int 92 465, val := Value.str (Str.ofString "\\\\") 469 }, { hash := 46, key := Value.int 46 471, val := Value.str (Str.ofString "\\.") 475 }, { hash := 38, key := Value.int 38 477, val := Value.str (Str.ofString "\\&") 481 }, { hash := 126, key := Value.int 126 483, val := Value.str (Str.ofString "\\~") 487 }, { hash := 35, key := Value.int 35 489, val := Value.str (Str.ofString "\\#") 493 }, { hash := 32, key := Value.int 32 495, val := Value.str (Str.ofString "\\ ") 499 }, { hash := 9, key := Value.int 9 501, val := Value.str (Str.ofString "\\\t") 505 }, { hash := 10, key := Value.int 10 507, val := Value.str (Str.ofString "\\\n") 511 }, { hash := 13, key := Value.int 13 513, val := Value.str (Str.ofString "\\\x0d") 517 }, { hash := 11, key := Value.int 11 519, val := Value.str (Str.ofString "\\\x0b") 523 }, { hash := 12, key := Value.int 12 525, val := Value.str (Str.ofString "\\\x0c") 529 }] 24 }),
  (75, { cls := Value.type "tuple", data := Data.seq #[] }),
  (77, { cls := Value.type "tuple", data := Data.seq #[Value.str (Str.ofString "pattern") 535] }),
  (78, { cls := Value.type "tuple", data := Data.seq #[] }),
  (80, { cls := Value.type "code", data := Data.fields #[Value.str (Str.ofString "escape") 532, Value.str (Str.ofString "escape") 533, Value.str (Str.ofString "/claim/cut.py") 534, Value.int 40 0, Value.int 1 0, Value.int 0 0, Value.int 0 0, Value.int 3 0, Value.ref 75, Value.bool true, Value.int 276 0, Value.ref 76, Value.none, Value.ref 77, Value.ref 78, Value.ref 79, Value.int 536 0, Value.int 40 0, Value.str (Str.ofString "/claim/cut.py") 537] }),
  (81, fnO 10 rfl (Str.ofString "re") 384 80),
  (82, { cls := Value.type "tuple", data := Data.seq #[] }),
  (84, { cls := Value.type "tuple", data := Data.seq #[Value.str (Str.ofString "pat") 544, Value.str (Str.ofString "STAR") 545, Value.str (Str.ofString "QUESTION_MARK") 546, Value.str (Str.ofString "res") 547, Value.str (Str.ofString "add") 548, Value.str (Str.ofString "i") 549, Value.str (Str.ofString "n") 550, Value.str (Str.ofString "c") 551, Value.str (Str.ofString "j") 552, Value.str (Str.ofString "stuff") 553, Value.str (Str.ofString "chunks") 554, Value.str (Str.ofString "k") 555, Value.str (Str.ofString "chunk") 556] }),
  (85, { cls := Value.type "tuple", data := Data.seq #[] }),
  (87, { cls := Value.type "code", data := Data.fields #[Value.str (Str.ofString "_translate") 541, Value.str (Str.ofString "_translate") 542, Value.str (Str.ofString "/claim/cut.py") 543, Value.int 47 0, Value.int 3 0, Value.int 0 0, Value.int 0 0, Value.int 3 0, Value.ref 82, Value.bool true, Value.int 276 0, Value.ref 83, Value.none, Value.ref 84, Value.ref 85, Value.ref 86, Value.int 557 0, Value.int 47 0, Value.str (Str.ofString "/claim/cut.py") 558] }),
  (88, fnO 12 rfl (Str.ofString "cpy313.fnmatch") 539 87),
  (89, { cls := Value.type "tuple", data := Data.seq #[] }),
  (91, { cls := Value.type "tuple", data := Data.seq #[Value.str (Str.ofString "mode") 565] }),
  (92, { cls := Value.type "tuple", data := Data.seq #[] }),
  (94, { cls := Value.type "code", data := Data.fields #[Value.str (Str.ofString "S_IFMT") 562, Value.str (Str.ofString "S_IFMT") 563, Value.str (Str.ofString "/claim/cut.py") 564, Value.int 110 0, Value.int 1 0, Value.int 0 0, Value.int 0 0, Value.int 3 0, Value.ref 89, Value.bool true, Value.int 276 0, Value.ref 90, Value.none, Value.ref 91, Value.ref 92, Value.ref 93, Value.int 566 0, Value.int 110 0, Value.str (Str.ofString "/claim/cut.py") 567] }),
  (95, fnO 14 rfl (Str.ofString "cpy313.stat") 560 94),
  (96, { cls := Value.type "tuple", data := Data.seq #[Value.int 40960 579, Value.str (Str.ofString "l") 607] }),
  (97, { cls := Value.type "tuple", data := Data.seq #[Value.int 49152 581, Value.str (Str.ofString "s") 608] }),
  (98, { cls := Value.type "tuple", data := Data.seq #[Value.int 32768 575, Value.str (Str.ofString "-") 609] }),
  (99, { cls := Value.type "tuple", data := Data.seq #[Value.int 24576 573, Value.str (Str.ofString "b") 610] }),
  (100, { cls := Value.type "tuple", data := Data.seq #[Value.int 16384 569, Value.str (Str.ofString "d") 611] }),
  (101, { cls := Value.type "tuple", data := Data.seq #[Value.int 8192 571, Value.str (Str.ofString "c") 612] }),
  (102, { cls := Value.type "tuple", data := Data.seq #[Value.int 4096 577, Value.str (Str.ofString "p") 613] }),
  (103, { cls := Value.type "tuple", data := Data.seq #[Value.ref 96, Value.ref 97, Value.ref 98, Value.ref 99, Value.ref 100, Value.ref 101, Value.ref 102] }),
  (104, { cls := Value.type "tuple", data := Data.seq #[Value.int 256 589, Value.str (Str.ofString "r") 614] }),
  (105, { cls := Value.type "tuple", data := Data.seq #[Value.ref 104] }),
  (106, { cls := Value.type "tuple", data := Data.seq #[Value.int 128 591, Value.str (Str.ofString "w") 615] }),
  (107, { cls := Value.type "tuple", data := Data.seq #[Value.ref 106] }),
  (108, { cls := Value.type "tuple", data := Data.seq #[Value.int 2112 616, Value.str (Str.ofString "s") 617] }),
  (109, { cls := Value.type "tuple", data := Data.seq #[Value.int 2048 583, Value.str (Str.ofString "S") 618] }),
  (110, { cls := Value.type "tuple", data := Data.seq #[Value.int 64 593, Value.str (Str.ofString "x") 619] }),
  (111, { cls := Value.type "tuple", data := Data.seq #[Value.ref 108, Value.ref 109, Value.ref 110] }),
  (112, { cls := Value.type "tuple", data := Data.seq #[Value.int 32 595, Value.str (Str.ofString "r") 620] }),
  (113, { cls := Value.type "tuple", data := Data.seq #[Value.ref 112] }),
  (114, { cls := Value.type "tuple", data := Data.seq #[Value.int 16 597, Value.str (Str.ofString "w") 621] }),
  (115, { cls := Value.type "tuple", data := Data.seq #[Value.ref 114] }),
  (116, { cls := Value.type "tuple", data := Data.seq #[Value.int 1032 622, Value.str (Str.ofString "s") 623] }),
  (117, { cls := Value.type "tuple", data := Data.seq #[Value.int 1024 585, Value.str (Str.ofString "S") 624] }),
  (118, { cls := Value.type "tuple", data := Data.seq #[Value.int 8 599, Value.str (Str.ofString "x") 625] }),
  (119, { cls := Value.type "tuple", data := Data.seq #[Value.ref 116, Value.ref 117, Value.ref 118] }),
  (120, { cls := Value.type "tuple", data := Data.seq #[Value.int 4 601, Value.str (Str.ofString "r") 626] }),
  (121, { cls := Value.type "tuple", data := Data.seq #[Value.ref 120] }),
  (122, { cls := Value.type "tuple", data := Data.seq #[Value.int 2 603, Value.str (Str.ofString "w") 627] }),
  (123, { cls := Value.type "tuple", data := Data.seq #[Value.ref 122] }),
  (124, { cls := Value.type "tuple", data := Data.seq #[Value.int 513 628, Value.str (Str.ofString "t") 629] }),
  (125, { cls := Value.type "tuple", data := Data.seq #[Value.int 512 587, Value.str (Str.ofString "T") 630] }),
  (126, { cls := Value.type "tuple", data := Data.seq #[Value.int 1 605, Value.str (Str.ofString "x") 631] }),
  (127, { cls := Value.type "tuple", data := Data.seq #[Value.ref 124, Value.ref 125, Value.ref 126] }),
  (128, { cls := Value.type "tuple", data := Data.seq #[Value.ref 103, Value.ref 105, Value.ref 107, Value.ref 111, Value.ref 113, Value.ref 115, Value.ref 119, Value.ref 121, Value.ref 123, Value.ref 127] }),
  (129, { cls := Value.type "tuple", data := Data.seq #[] }),
  (131, { cls := Value.type "tuple", data := Data.seq #[Value.str (Str.ofString "mode") 636, Value.str (Str.ofString "perm") 637, Value.str (Str.ofString "index") 638, Value.str (Str.ofString "table") 639, Value.str (Str.ofString "bit") 640, Value.str (Str.ofString "char") 641] }),
  (132, { cls := Value.type "tuple", data := Data.seq #[] }),
  (134, { cls := Value.type "code", data := Data.fields #[Value.str (Str.ofString "filemode") 633, Value.str (Str.ofString "filemode") 634, Value.str (Str.ofString "/claim/cut.py") 635, Value.int 132 0, Value.int 1 0, Value.int 0 0, Value.int 0 0, Value.int 3 0, Value.ref 129, Value.bool true, Value.int 276 0, Value.ref 130, Value.none, Value.ref 131, Value.ref 132, Value.ref 133, Value.int 642 0, Value.int 132 0, Value.str (Str.ofString "/claim/cut.py") 643] }),
  (135, fnO 35 rfl (Str.ofString "cpy313.stat") 560 134),
  (136, { cls := Value.type "tuple", data := Data.seq #[] }),
  (139, { cls := Value.type "code", data := Data.fields #[Value.str (Str.ofString "_law_labels") 647, Value.str (Str.ofString "_law_labels") 648, Value.str (Str.ofString "/claim/cut.py") 649, Value.int 150 0, Value.int 1 0, Value.int 0 0, Value.int 0 0, Value.int 3 0, Value.ref 136, Value.bool true, Value.int 276 0, Value.ref 137, Value.none, Value.none, Value.none, Value.ref 138, Value.int 650 0, Value.int 150 0, Value.str (Str.ofString "/claim/cut.py") 651] }),
  (140, fnO 37 rfl (Str.ofString "law_qw0021_01") 645 139),
  (141, { cls := Value.type "tuple", data := Data.seq #[] }),
  (143, { cls := Value.type "tuple", data := Data.seq #[Value.str (Str.ofString "labels") 656] }),
  (144, { cls := Value.type "tuple", data := Data.seq #[] }),
  (146, { cls := Value.type "code", data := Data.fields #[Value.str (Str.ofString "_law_reach") 653, Value.str (Str.ofString "_law_reach") 654, Value.str (Str.ofString "/claim/cut.py") 655, Value.int 152 0, Value.int 1 0, Value.int 0 0, Value.int 0 0, Value.int 3 0, Value.ref 141, Value.bool true, Value.int 276 0, Value.ref 142, Value.none, Value.ref 143, Value.ref 144, Value.ref 145, Value.int 657 0, Value.int 152 0, Value.str (Str.ofString "/claim/cut.py") 658] }),
  (147, fnO 38 rfl (Str.ofString "law_qw0021_01") 645 146),
  (148, { cls := Value.type "tuple", data := Data.seq #[] }),
  (150, { cls := Value.type "tuple", data := Data.seq #[Value.str (Str.ofString "labels") 663, Value.str (Str.ofString "rule") 664, Value.str (Str.ofString "dot") 665, Value.str (Str.ofString "last") 666] }),
  (151, { cls := Value.type "tuple", data := Data.seq #[] }),
  (153, { cls := Value.type "code", data := Data.fields #[Value.str (Str.ofString "_law_ends") 660, Value.str (Str.ofString "_law_ends") 661, Value.str (Str.ofString "/claim/cut.py") 662, Value.int 156 0, Value.int 2 0, Value.int 0 0, Value.int 0 0, Value.int 3 0, Value.ref 148, Value.bool true, Value.int 276 0, Value.ref 149, Value.none, Value.ref 150, Value.ref 151, Value.ref 152, Value.int 667 0, Value.int 156 0, Value.str (Str.ofString "/claim/cut.py") 668] }),
  (154, fnO 39 rfl (Str.ofString "law_qw0021_01") 645 153),
  (155, { cls := Value.type "tuple", data := Data.seq #[] }),
  (158, { cls := Value.type "code", data := Data.fields #[Value.str (Str.ofString "_law_takes") 670, Value.str (Str.ofString "_law_takes") 671, Value.str (Str.ofString "/claim/cut.py") 672, Value.int 159 0, Value.int 2 0, Value.int 0 0, Value.int 0 0, Value.int 3 0, Value.ref 155, Value.bool true, Value.int 276 0, Value.ref 156, Value.none, Value.none, Value.none, Value.ref 157, Value.int 673 0, Value.int 159 0, Value.str (Str.ofString "/claim/cut.py") 674] }),
  (159, fnO 40 rfl (Str.ofString "law_qw0021_01") 645 158),
  (160, { cls := Value.type "tuple", data := Data.seq #[] }),
  (162, { cls := Value.type "tuple", data := Data.seq #[Value.str (Str.ofString "said") 679, Value.str (Str.ofString "rights") 680, Value.str (Str.ofString "listed") 681, Value.str (Str.ofString "row") 682, Value.str (Str.ofString "laid") 683, Value.str (Str.ofString "k") 684] }),
  (163, { cls := Value.type "tuple", data := Data.seq #[] }),
  (165, { cls := Value.type "code", data := Data.fields #[Value.str (Str.ofString "_law_listed") 676, Value.str (Str.ofString "_law_listed") 677, Value.str (Str.ofString "/claim/cut.py") 678, Value.int 164 0, Value.int 2 0, Value.int 0 0, Value.int 0 0, Value.int 3 0, Value.ref 160, Value.bool true, Value.int 276 0, Value.ref 161, Value.none, Value.ref 162, Value.ref 163, Value.ref 164, Value.int 685 0, Value.int 164 0, Value.str (Str.ofString "/claim/cut.py") 686] }),
  (166, fnO 41 rfl (Str.ofString "law_qw0021_01") 645 165),
  (167, { cls := Value.type "tuple", data := Data.seq #[] }),
  (170, { cls := Value.type "code", data := Data.fields #[Value.str (Str.ofString "law") 688, Value.str (Str.ofString "law") 689, Value.str (Str.ofString "/claim/cut.py") 690, Value.int 172 0, Value.int 1 0, Value.int 0 0, Value.int 0 0, Value.int 3 0, Value.ref 167, Value.bool true, Value.int 276 0, Value.ref 168, Value.none, Value.none, Value.none, Value.ref 169, Value.int 691 0, Value.int 172 0, Value.str (Str.ofString "/claim/cut.py") 692] }),
  (171, fnO 42 rfl (Str.ofString "law_qw0021_01") 645 170)]
abbrev KA : List Addr := [2, 3, 35, 36, 37, 39, 40, 42, 43, 44, 46, 47, 49, 50, 51, 53, 54, 56, 57, 58, 60, 61, 63, 64, 68, 69, 71, 75, 77, 78, 80, 81, 82, 84, 85, 87, 88, 89, 91, 92, 94, 95, 96, 97, 98, 99, 100, 101, 102, 103, 104, 105, 106, 107, 108, 109, 110, 111, 112, 113, 114, 115, 116, 117, 118, 119, 120, 121, 122, 123, 124, 125, 126, 127, 128, 129, 131, 132, 134, 135, 136, 139, 140, 141, 143, 144, 146, 147, 148, 150, 151, 153, 154, 155, 158, 159, 160, 162, 163, 165, 166, 167, 170, 171] 
namespace N
/-! the heap behind the opening (H0), the frame (Ha), the text before (H8) and behind (H9) its comprehension, the top (H1) -/
noncomputable def oo_1 (P : Params) : Obj := { cls := Value.type "dict", data := Data.dict #[{ hash := PyData.keyHash P (Str.ofString "builtins"), key := Value.str (Str.ofString "builtins") 162, val := Value.ref 4 }, { hash := PyData.keyHash P (Str.ofString "__main__"), key := Value.str (Str.ofString "__main__") 163, val := Value.ref 5 }, { hash := PyData.keyHash P (Str.ofString "_sre"), key := Value.str (Str.ofString "_sre") 244, val := Value.ref 12 }] 3 }
noncomputable def oo_2 (P : Params) : Obj := { cls := Value.none, data := Data.dict #[{ hash := PyData.keyHash P { cps := #[105, 109, 112, 111, 114, 116, 46, 108, 111, 97, 100, 101, 100, 46, 95, 115, 114, 101] }, key := Value.str { cps := #[105, 109, 112, 111, 114, 116, 46, 108, 111, 97, 100, 101, 100, 46, 95, 115, 114, 101] } 183, val := Value.bool true }, { hash := PyData.keyHash P { cps := #[99, 108, 97, 115, 115, 46, 95, 102, 114, 111, 122, 101, 110, 95, 105, 109, 112, 111, 114, 116, 108, 105, 98, 46, 66, 117, 105, 108, 116, 105, 110, 73, 109, 112, 111, 114, 116, 101, 114] }, key := Value.str { cps := #[99, 108, 97, 115, 115, 46, 95, 102, 114, 111, 122, 101, 110, 95, 105, 109, 112, 111, 114, 116, 108, 105, 98, 46, 66, 117, 105, 108, 116, 105, 110, 73, 109, 112, 111, 114, 116, 101, 114] } 185, val := Value.ref 14 }, { hash := PyData.keyHash P { cps := #[119, 97, 116, 99, 104, 101, 100, 46, 105, 109, 112, 111, 114, 116] }, key := Value.str { cps := #[119, 97, 116, 99, 104, 101, 100, 46, 105, 109, 112, 111, 114, 116] } 206, val := Value.ref 18 }, { hash := PyData.keyHash P { cps := #[99, 108, 97, 115, 115, 46, 95, 102, 114, 111, 122, 101, 110, 95, 105, 109, 112, 111, 114, 116, 108, 105, 98, 46, 77, 111, 100, 117, 108, 101, 83, 112, 101, 99] }, key := Value.str { cps := #[99, 108, 97, 115, 115, 46, 95, 102, 114, 111, 122, 101, 110, 95, 105, 109, 112, 111, 114, 116, 108, 105, 98, 46, 77, 111, 100, 117, 108, 101, 83, 112, 101, 99] } 216, val := Value.ref 22 }, { hash := PyData.keyHash P (Str.ofString "sys.modules.booked-epoch"), key := Value.str (Str.ofString "sys.modules.booked-epoch") 245, val := Value.int 3 0 }, { hash := PyData.keyHash P { cps := #[105, 109, 112, 111, 114, 116, 46, 108, 97, 116, 101, 114, 45, 108, 97, 105, 100, 46, 95, 115, 114, 101] }, key := Value.str { cps := #[105, 109, 112, 111, 114, 116, 46, 108, 97, 116, 101, 114, 45, 108, 97, 105, 100, 46, 95, 115, 114, 101] } 270, val := Value.bool true }, { hash := PyData.keyHash P (Str.ofString "watched.library"), key := Value.str (Str.ofString "watched.library") 272, val := Value.ref 27 }, { hash := PyData.keyHash P (Str.ofString "watched.library-objects"), key := Value.str (Str.ofString "watched.library-objects") 0, val := Value.str (Str.ofString "\x0c") 0 }, { hash := PyData.keyHash P (Str.ofString "watched.library-deep._sre"), key := Value.str (Str.ofString "watched.library-deep._sre") 273, val := Value.str (Str.ofString "\x04\x00\x00\x0b\x04\x00\x00\x0b\x04\x00\x00\x03\x04\x00\x00\x0b\x08\x04dict\x02") 0 }] 9 }
noncomputable def oo_3 (P : Params) : Obj := { cls := Value.type "dict", data := Data.dict #[{ hash := PyData.keyHash P (Str.ofString "__name__"), key := Value.str (Str.ofString "__name__") 165, val := Value.str (Str.ofString "__main__") 164 }, { hash := PyData.keyHash P (Str.ofString "__doc__"), key := Value.str (Str.ofString "__doc__") 166, val := Value.none }, { hash := PyData.keyHash P (Str.ofString "__package__"), key := Value.str (Str.ofString "__package__") 167, val := Value.none }, { hash := PyData.keyHash P (Str.ofString "__loader__"), key := Value.str (Str.ofString "__loader__") 168, val := Value.builtin "__main__.__loader__#opaque" }, { hash := PyData.keyHash P (Str.ofString "__spec__"), key := Value.str (Str.ofString "__spec__") 169, val := Value.none }, { hash := PyData.keyHash P (Str.ofString "__annotations__"), key := Value.str (Str.ofString "__annotations__") 170, val := Value.ref 6 }, { hash := PyData.keyHash P (Str.ofString "__builtins__"), key := Value.str (Str.ofString "__builtins__") 171, val := Value.ref 4 }, { hash := PyData.keyHash P (Str.ofString "__file__"), key := Value.str (Str.ofString "__file__") 173, val := Value.str (Str.ofString "/claim/cut.py") 172 }, { hash := PyData.keyHash P (Str.ofString "__cached__"), key := Value.str (Str.ofString "__cached__") 174, val := Value.none }, { hash := PyData.keyHash P (Str.ofString "_sre"), key := Value.str (Str.ofString "_sre") 275, val := Value.ref 12 }] 10 }
noncomputable def oo_11 (P : Params) : Obj := { cls := Value.type "dict", data := Data.dict #[{ hash := PyData.keyHash P (Str.ofString "__name__"), key := Value.str (Str.ofString "__name__") 247, val := Value.str (Str.ofString "_sre") 246 }, { hash := PyData.keyHash P (Str.ofString "__doc__"), key := Value.str (Str.ofString "__doc__") 248, val := Value.none }, { hash := PyData.keyHash P (Str.ofString "__package__"), key := Value.str (Str.ofString "__package__") 250, val := Value.str (Str.ofString "") 249 }, { hash := PyData.keyHash P (Str.ofString "__loader__"), key := Value.str (Str.ofString "__loader__") 251, val := Value.builtin "off-the-table:_sre.__loader__:shared#opaque" }, { hash := PyData.keyHash P (Str.ofString "__spec__"), key := Value.str (Str.ofString "__spec__") 252, val := Value.builtin "off-the-table:_sre.__spec__:shared#opaque" }, { hash := PyData.keyHash P (Str.ofString "compile"), key := Value.str (Str.ofString "compile") 253, val := Value.builtin "_sre.compile" }, { hash := PyData.keyHash P (Str.ofString "template"), key := Value.str (Str.ofString "template") 254, val := Value.builtin "off-the-table:_sre.template:shared#opaque" }, { hash := PyData.keyHash P (Str.ofString "getcodesize"), key := Value.str (Str.ofString "getcodesize") 255, val := Value.builtin "off-the-table:_sre.getcodesize:shared#opaque" }, { hash := PyData.keyHash P (Str.ofString "ascii_iscased"), key := Value.str (Str.ofString "ascii_iscased") 256, val := Value.builtin "off-the-table:_sre.ascii_iscased:shared#opaque" }, { hash := PyData.keyHash P (Str.ofString "unicode_iscased"), key := Value.str (Str.ofString "unicode_iscased") 257, val := Value.builtin "off-the-table:_sre.unicode_iscased:shared#opaque" }, { hash := PyData.keyHash P (Str.ofString "ascii_tolower"), key := Value.str (Str.ofString "ascii_tolower") 258, val := Value.builtin "off-the-table:_sre.ascii_tolower:shared#opaque" }, { hash := PyData.keyHash P (Str.ofString "unicode_tolower"), key := Value.str (Str.ofString "unicode_tolower") 259, val := Value.builtin "off-the-table:_sre.unicode_tolower:shared#opaque" }, { hash := PyData.keyHash P (Str.ofString "MAGIC"), key := Value.str (Str.ofString "MAGIC") 261, val := Value.int 20230612 260 }, { hash := PyData.keyHash P (Str.ofString "CODESIZE"), key := Value.str (Str.ofString "CODESIZE") 263, val := Value.int 4 262 }, { hash := PyData.keyHash P (Str.ofString "MAXREPEAT"), key := Value.str (Str.ofString "MAXREPEAT") 265, val := Value.int 4294967295 264 }, { hash := PyData.keyHash P (Str.ofString "MAXGROUPS"), key := Value.str (Str.ofString "MAXGROUPS") 267, val := Value.int 1073741823 266 }, { hash := PyData.keyHash P (Str.ofString "copyright"), key := Value.str (Str.ofString "copyright") 269, val := Value.str (Str.ofString " SRE 2.2.2 Copyright (c) 1997-2002 by Secret Labs AB ") 268 }] 17 }
noncomputable def oo_12 (P : Params) : Obj := { cls := Value.type "module", dict := some 11 }
noncomputable def oo_13 (P : Params) : Obj := { cls := Value.type "dict", data := Data.dict #[{ hash := PyData.keyHash P (Str.ofString "__module__"), key := Value.str (Str.ofString "__module__") 189, val := Value.str { cps := #[95, 102, 114, 111, 122, 101, 110, 95, 105, 109, 112, 111, 114, 116, 108, 105, 98] } 186 }, { hash := PyData.keyHash P (Str.ofString "__firstlineno__"), key := Value.str (Str.ofString "__firstlineno__") 190, val := Value.int 971 187 }, { hash := PyData.keyHash P (Str.ofString "__doc__"), key := Value.str (Str.ofString "__doc__") 191, val := Value.builtin "_frozen_importlib.BuiltinImporter.__doc__:str#opaque" }, { hash := PyData.keyHash P (Str.ofString "_ORIGIN"), key := Value.str (Str.ofString "_ORIGIN") 192, val := Value.str (Str.ofString "built-in") 188 }, { hash := PyData.keyHash P (Str.ofString "find_spec"), key := Value.str (Str.ofString "find_spec") 193, val := Value.builtin "_frozen_importlib.BuiltinImporter.find_spec#opaque" }, { hash := PyData.keyHash P (Str.ofString "create_module"), key := Value.str (Str.ofString "create_module") 194, val := Value.builtin "_frozen_importlib.BuiltinImporter.create_module#opaque" }, { hash := PyData.keyHash P (Str.ofString "exec_module"), key := Value.str (Str.ofString "exec_module") 195, val := Value.builtin "_frozen_importlib.BuiltinImporter.exec_module#opaque" }, { hash := PyData.keyHash P (Str.ofString "get_code"), key := Value.str (Str.ofString "get_code") 196, val := Value.builtin "_frozen_importlib.BuiltinImporter.get_code#opaque" }, { hash := PyData.keyHash P (Str.ofString "get_source"), key := Value.str (Str.ofString "get_source") 197, val := Value.builtin "_frozen_importlib.BuiltinImporter.get_source#opaque" }, { hash := PyData.keyHash P (Str.ofString "is_package"), key := Value.str (Str.ofString "is_package") 198, val := Value.builtin "_frozen_importlib.BuiltinImporter.is_package#opaque" }, { hash := PyData.keyHash P (Str.ofString "load_module"), key := Value.str (Str.ofString "load_module") 199, val := Value.builtin "_frozen_importlib.BuiltinImporter.load_module#opaque" }, { hash := PyData.keyHash P (Str.ofString "__static_attributes__"), key := Value.str (Str.ofString "__static_attributes__") 200, val := Value.ref 15 }, { hash := PyData.keyHash P (Str.ofString "__dict__"), key := Value.str (Str.ofString "__dict__") 202, val := Value.ref 16 }, { hash := PyData.keyHash P (Str.ofString "__weakref__"), key := Value.str (Str.ofString "__weakref__") 204, val := Value.ref 17 }] 14 }
noncomputable def oo_14 (P : Params) : Obj := { cls := Value.type "type", data := Data.cls { name := Str.ofString "BuiltinImporter", bases := [Value.type "object"], mro := [Value.ref 14, Value.type "object"], ns := 13, qualname := Str.ofString "BuiltinImporter" } }
noncomputable def oo_15 (P : Params) : Obj := { cls := Value.type "tuple", data := Data.seq #[] }
noncomputable def oo_16 (P : Params) : Obj := { cls := Value.type "getset_descriptor", data := Data.fields #[Value.str (Str.ofString "__dict__") 201, Value.ref 14, Value.builtin "function.__dict__", Value.builtin "function.__dict__#set"] }
noncomputable def oo_17 (P : Params) : Obj := { cls := Value.type "getset_descriptor", data := Data.fields #[Value.str (Str.ofString "__weakref__") 203, Value.ref 14, Value.builtin "ExceptionGroup.__weakref__", Value.none] }
noncomputable def oo_18 (P : Params) : Obj := { cls := Value.none, data := Data.seq #[Value.int 13 0, Value.str { cps := #[6, 189, 10, 95, 95, 109, 111, 100, 117, 108, 101, 95, 95, 6, 186, 17, 95, 102, 114, 111, 122, 101, 110, 95, 105, 109, 112, 111, 114, 116, 108, 105, 98, 6, 190, 15, 95, 95, 102, 105, 114, 115, 116, 108, 105, 110, 101, 110, 111, 95, 95, 4, 187, 0, 971, 6, 191, 7, 95, 95, 100, 111, 99, 95, 95, 9, 52, 95, 102, 114, 111, 122, 101, 110, 95, 105, 109, 112, 111, 114, 116, 108, 105, 98, 46, 66, 117, 105, 108, 116, 105, 110, 73, 109, 112, 111, 114, 116, 101, 114, 46, 95, 95, 100, 111, 99, 95, 95, 58, 115, 116, 114, 35, 111, 112, 97, 113, 117, 101, 6, 192, 7, 95, 79, 82, 73, 71, 73, 78, 6, 188, 8, 98, 117, 105, 108, 116, 45, 105, 110, 6, 193, 9, 102, 105, 110, 100, 95, 115, 112, 101, 99, 9, 50, 95, 102, 114, 111, 122, 101, 110, 95, 105, 109, 112, 111, 114, 116, 108, 105, 98, 46, 66, 117, 105, 108, 116, 105, 110, 73, 109, 112, 111, 114, 116, 101, 114, 46, 102, 105, 110, 100, 95, 115, 112, 101, 99, 35, 111, 112, 97, 113, 117, 101, 6, 194, 13, 99, 114, 101, 97, 116, 101, 95, 109, 111, 100, 117, 108, 101, 9, 54, 95, 102, 114, 111, 122, 101, 110, 95, 105, 109, 112, 111, 114, 116, 108, 105, 98, 46, 66, 117, 105, 108, 116, 105, 110, 73, 109, 112, 111, 114, 116, 101, 114, 46, 99, 114, 101, 97, 116, 101, 95, 109, 111, 100, 117, 108, 101, 35, 111, 112, 97, 113, 117, 101, 6, 195, 11, 101, 120, 101, 99, 95, 109, 111, 100, 117, 108, 101, 9, 52, 95, 102, 114, 111, 122, 101, 110, 95, 105, 109, 112, 111, 114, 116, 108, 105, 98, 46, 66, 117, 105, 108, 116, 105, 110, 73, 109, 112, 111, 114, 116, 101, 114, 46, 101, 120, 101, 99, 95, 109, 111, 100, 117, 108, 101, 35, 111, 112, 97, 113, 117, 101, 6, 196, 8, 103, 101, 116, 95, 99, 111, 100, 101, 9, 49, 95, 102, 114, 111, 122, 101, 110, 95, 105, 109, 112, 111, 114, 116, 108, 105, 98, 46, 66, 117, 105, 108, 116, 105, 110, 73, 109, 112, 111, 114, 116, 101, 114, 46, 103, 101, 116, 95, 99, 111, 100, 101, 35, 111, 112, 97, 113, 117, 101, 6, 197, 10, 103, 101, 116, 95, 115, 111, 117, 114, 99, 101, 9, 51, 95, 102, 114, 111, 122, 101, 110, 95, 105, 109, 112, 111, 114, 116, 108, 105, 98, 46, 66, 117, 105, 108, 116, 105, 110, 73, 109, 112, 111, 114, 116, 101, 114, 46, 103, 101, 116, 95, 115, 111, 117, 114, 99, 101, 35, 111, 112, 97, 113, 117, 101, 6, 198, 10, 105, 115, 95, 112, 97, 99, 107, 97, 103, 101, 9, 51, 95, 102, 114, 111, 122, 101, 110, 95, 105, 109, 112, 111, 114, 116, 108, 105, 98, 46, 66, 117, 105, 108, 116, 105, 110, 73, 109, 112, 111, 114, 116, 101, 114, 46, 105, 115, 95, 112, 97, 99, 107, 97, 103, 101, 35, 111, 112, 97, 113, 117, 101, 6, 199, 11, 108, 111, 97, 100, 95, 109, 111, 100, 117, 108, 101, 9, 52, 95, 102, 114, 111, 122, 101, 110, 95, 105, 109, 112, 111, 114, 116, 108, 105, 98, 46, 66, 117, 105, 108, 116, 105, 110, 73, 109, 112, 111, 114, 116, 101, 114, 46, 108, 111, 97, 100, 95, 109, 111, 100, 117, 108, 101, 35, 111, 112, 97, 113, 117, 101, 6, 200, 21, 95, 95, 115, 116, 97, 116, 105, 99, 95, 97, 116, 116, 114, 105, 98, 117, 116, 101, 115, 95, 95, 4, 0, 0, 15, 6, 202, 8, 95, 95, 100, 105, 99, 116, 95, 95, 4, 0, 0, 16, 6, 204, 11, 95, 95, 119, 101, 97, 107, 114, 101, 102, 95, 95, 4, 0, 0, 17] } 0, Value.bool true, Value.bool true, Value.str (Str.ofString "") 205, Value.int 21 0, Value.str { cps := #[6, 227, 10, 95, 95, 109, 111, 100, 117, 108, 101, 95, 95, 6, 217, 17, 95, 102, 114, 111, 122, 101, 110, 95, 105, 109, 112, 111, 114, 116, 108, 105, 98, 6, 228, 15, 95, 95, 102, 105, 114, 115, 116, 108, 105, 110, 101, 110, 111, 95, 95, 4, 218, 0, 562, 6, 229, 7, 95, 95, 100, 111, 99, 95, 95, 9, 47, 95, 102, 114, 111, 122, 101, 110, 95, 105, 109, 112, 111, 114, 116, 108, 105, 98, 46, 77, 111, 100, 117, 108, 101, 83, 112, 101, 99, 46, 95, 95, 100, 111, 99, 95, 95, 58, 115, 116, 114, 35, 111, 112, 97, 113, 117, 101, 6, 230, 8, 95, 95, 105, 110, 105, 116, 95, 95, 9, 44, 95, 102, 114, 111, 122, 101, 110, 95, 105, 109, 112, 111, 114, 116, 108, 105, 98, 46, 77, 111, 100, 117, 108, 101, 83, 112, 101, 99, 46, 95, 95, 105, 110, 105, 116, 95, 95, 35, 111, 112, 97, 113, 117, 101, 6, 231, 8, 95, 95, 114, 101, 112, 114, 95, 95, 9, 44, 95, 102, 114, 111, 122, 101, 110, 95, 105, 109, 112, 111, 114, 116, 108, 105, 98, 46, 77, 111, 100, 117, 108, 101, 83, 112, 101, 99, 46, 95, 95, 114, 101, 112, 114, 95, 95, 35, 111, 112, 97, 113, 117, 101, 6, 232, 6, 95, 95, 101, 113, 95, 95, 9, 42, 95, 102, 114, 111, 122, 101, 110, 95, 105, 109, 112, 111, 114, 116, 108, 105, 98, 46, 77, 111, 100, 117, 108, 101, 83, 112, 101, 99, 46, 95, 95, 101, 113, 95, 95, 35, 111, 112, 97, 113, 117, 101, 6, 233, 6, 99, 97, 99, 104, 101, 100, 9, 42, 95, 102, 114, 111, 122, 101, 110, 95, 105, 109, 112, 111, 114, 116, 108, 105, 98, 46, 77, 111, 100, 117, 108, 101, 83, 112, 101, 99, 46, 99, 97, 99, 104, 101, 100, 35, 111, 112, 97, 113, 117, 101, 6, 234, 6, 112, 97, 114, 101, 110, 116, 9, 42, 95, 102, 114, 111, 122, 101, 110, 95, 105, 109, 112, 111, 114, 116, 108, 105, 98, 46, 77, 111, 100, 117, 108, 101, 83, 112, 101, 99, 46, 112, 97, 114, 101, 110, 116, 35, 111, 112, 97, 113, 117, 101, 6, 235, 12, 104, 97, 115, 95, 108, 111, 99, 97, 116, 105, 111, 110, 9, 48, 95, 102, 114, 111, 122, 101, 110, 95, 105, 109, 112, 111, 114, 116, 108, 105, 98, 46, 77, 111, 100, 117, 108, 101, 83, 112, 101, 99, 46, 104, 97, 115, 95, 108, 111, 99, 97, 116, 105, 111, 110, 35, 111, 112, 97, 113, 117, 101, 6, 236, 21, 95, 95, 115, 116, 97, 116, 105, 99, 95, 97, 116, 116, 114, 105, 98, 117, 116, 101, 115, 95, 95, 4, 0, 0, 23, 6, 238, 8, 95, 95, 100, 105, 99, 116, 95, 95, 4, 0, 0, 24, 6, 240, 11, 95, 95, 119, 101, 97, 107, 114, 101, 102, 95, 95, 4, 0, 0, 25, 6, 241, 8, 95, 95, 104, 97, 115, 104, 95, 95, 0] } 0, Value.bool true, Value.bool true, Value.str (Str.ofString "") 242] 1 }
noncomputable def oo_19 (P : Params) : Obj := { cls := Value.type "list", data := Data.seq #[] }
noncomputable def oo_20 (P : Params) : Obj := { cls := Value.type "dict", data := Data.dict #[{ hash := PyData.keyHash P (Str.ofString "name"), key := Value.str (Str.ofString "name") 208, val := Value.str (Str.ofString "_sre") 207 }, { hash := PyData.keyHash P (Str.ofString "loader"), key := Value.str (Str.ofString "loader") 209, val := Value.ref 14 }, { hash := PyData.keyHash P (Str.ofString "origin"), key := Value.str (Str.ofString "origin") 210, val := Value.str (Str.ofString "built-in") 184 }, { hash := PyData.keyHash P (Str.ofString "loader_state"), key := Value.str (Str.ofString "loader_state") 211, val := Value.none }, { hash := PyData.keyHash P (Str.ofString "submodule_search_locations"), key := Value.str (Str.ofString "submodule_search_locations") 212, val := Value.none }, { hash := PyData.keyHash P (Str.ofString "_uninitialized_submodules"), key := Value.str (Str.ofString "_uninitialized_submodules") 213, val := Value.ref 19 }, { hash := PyData.keyHash P (Str.ofString "_set_fileattr"), key := Value.str (Str.ofString "_set_fileattr") 214, val := Value.bool false }, { hash := PyData.keyHash P (Str.ofString "_cached"), key := Value.str (Str.ofString "_cached") 215, val := Value.none }, { hash := PyData.keyHash P (Str.ofString "_initializing"), key := Value.str (Str.ofString "_initializing") 243, val := Value.bool false }] 9 }
noncomputable def oo_21 (P : Params) : Obj := { cls := Value.type "dict", data := Data.dict #[{ hash := PyData.keyHash P (Str.ofString "__module__"), key := Value.str (Str.ofString "__module__") 227, val := Value.str { cps := #[95, 102, 114, 111, 122, 101, 110, 95, 105, 109, 112, 111, 114, 116, 108, 105, 98] } 217 }, { hash := PyData.keyHash P (Str.ofString "__firstlineno__"), key := Value.str (Str.ofString "__firstlineno__") 228, val := Value.int 562 218 }, { hash := PyData.keyHash P (Str.ofString "__doc__"), key := Value.str (Str.ofString "__doc__") 229, val := Value.builtin "_frozen_importlib.ModuleSpec.__doc__:str#opaque" }, { hash := PyData.keyHash P (Str.ofString "__init__"), key := Value.str (Str.ofString "__init__") 230, val := Value.builtin "_frozen_importlib.ModuleSpec.__init__#opaque" }, { hash := PyData.keyHash P (Str.ofString "__repr__"), key := Value.str (Str.ofString "__repr__") 231, val := Value.builtin "_frozen_importlib.ModuleSpec.__repr__#opaque" }, { hash := PyData.keyHash P (Str.ofString "__eq__"), key := Value.str (Str.ofString "__eq__") 232, val := Value.builtin "_frozen_importlib.ModuleSpec.__eq__#opaque" }, { hash := PyData.keyHash P (Str.ofString "cached"), key := Value.str (Str.ofString "cached") 233, val := Value.builtin "_frozen_importlib.ModuleSpec.cached#opaque" }, { hash := PyData.keyHash P (Str.ofString "parent"), key := Value.str (Str.ofString "parent") 234, val := Value.builtin "_frozen_importlib.ModuleSpec.parent#opaque" }, { hash := PyData.keyHash P (Str.ofString "has_location"), key := Value.str (Str.ofString "has_location") 235, val := Value.builtin "_frozen_importlib.ModuleSpec.has_location#opaque" }, { hash := PyData.keyHash P (Str.ofString "__static_attributes__"), key := Value.str (Str.ofString "__static_attributes__") 236, val := Value.ref 23 }, { hash := PyData.keyHash P (Str.ofString "__dict__"), key := Value.str (Str.ofString "__dict__") 238, val := Value.ref 24 }, { hash := PyData.keyHash P (Str.ofString "__weakref__"), key := Value.str (Str.ofString "__weakref__") 240, val := Value.ref 25 }, { hash := PyData.keyHash P (Str.ofString "__hash__"), key := Value.str (Str.ofString "__hash__") 241, val := Value.none }] 13 }
noncomputable def oo_22 (P : Params) : Obj := { cls := Value.type "type", data := Data.cls { name := Str.ofString "ModuleSpec", bases := [Value.type "object"], mro := [Value.ref 22, Value.type "object"], ns := 21, qualname := Str.ofString "ModuleSpec" } }
noncomputable def oo_23 (P : Params) : Obj := { cls := Value.type "tuple", data := Data.seq #[Value.str (Str.ofString "_cached") 219, Value.str (Str.ofString "_set_fileattr") 220, Value.str (Str.ofString "_uninitialized_submodules") 221, Value.str (Str.ofString "loader") 222, Value.str (Str.ofString "loader_state") 223, Value.str (Str.ofString "name") 224, Value.str (Str.ofString "origin") 225, Value.str (Str.ofString "submodule_search_locations") 226] }
noncomputable def oo_24 (P : Params) : Obj := { cls := Value.type "getset_descriptor", data := Data.fields #[Value.str (Str.ofString "__dict__") 237, Value.ref 22, Value.builtin "function.__dict__", Value.builtin "function.__dict__#set"] }
noncomputable def oo_25 (P : Params) : Obj := { cls := Value.type "getset_descriptor", data := Data.fields #[Value.str (Str.ofString "__weakref__") 239, Value.ref 22, Value.builtin "ExceptionGroup.__weakref__", Value.none] }
noncomputable def oo_26 (P : Params) : Obj := { cls := Value.ref 22, dict := some 20 }
noncomputable def oo_27 (P : Params) : Obj := { cls := Value.none, data := Data.seq #[Value.int 11 0, Value.str { cps := #[6, 247, 8, 95, 95, 110, 97, 109, 101, 95, 95, 6, 246, 4, 95, 115, 114, 101, 6, 248, 7, 95, 95, 100, 111, 99, 95, 95, 0, 6, 250, 11, 95, 95, 112, 97, 99, 107, 97, 103, 101, 95, 95, 6, 249, 0, 6, 251, 10, 95, 95, 108, 111, 97, 100, 101, 114, 95, 95, 4, 0, 0, 14, 6, 252, 8, 95, 95, 115, 112, 101, 99, 95, 95, 4, 0, 0, 26, 6, 253, 7, 99, 111, 109, 112, 105, 108, 101, 9, 12, 95, 115, 114, 101, 46, 99, 111, 109, 112, 105, 108, 101, 6, 254, 8, 116, 101, 109, 112, 108, 97, 116, 101, 9, 13, 95, 115, 114, 101, 46, 116, 101, 109, 112, 108, 97, 116, 101, 6, 255, 11, 103, 101, 116, 99, 111, 100, 101, 115, 105, 122, 101, 9, 16, 95, 115, 114, 101, 46, 103, 101, 116, 99, 111, 100, 101, 115, 105, 122, 101, 6, 256, 13, 97, 115, 99, 105, 105, 95, 105, 115, 99, 97, 115, 101, 100, 9, 18, 95, 115, 114, 101, 46, 97, 115, 99, 105, 105, 95, 105, 115, 99, 97, 115, 101, 100, 6, 257, 15, 117, 110, 105, 99, 111, 100, 101, 95, 105, 115, 99, 97, 115, 101, 100, 9, 20, 95, 115, 114, 101, 46, 117, 110, 105, 99, 111, 100, 101, 95, 105, 115, 99, 97, 115, 101, 100, 6, 258, 13, 97, 115, 99, 105, 105, 95, 116, 111, 108, 111, 119, 101, 114, 9, 18, 95, 115, 114, 101, 46, 97, 115, 99, 105, 105, 95, 116, 111, 108, 111, 119, 101, 114, 6, 259, 15, 117, 110, 105, 99, 111, 100, 101, 95, 116, 111, 108, 111, 119, 101, 114, 9, 20, 95, 115, 114, 101, 46, 117, 110, 105, 99, 111, 100, 101, 95, 116, 111, 108, 111, 119, 101, 114, 6, 261, 5, 77, 65, 71, 73, 67, 4, 260, 0, 20230612, 6, 263, 8, 67, 79, 68, 69, 83, 73, 90, 69, 4, 262, 0, 4, 6, 265, 9, 77, 65, 88, 82, 69, 80, 69, 65, 84, 4, 264, 0, 4294967295, 6, 267, 9, 77, 65, 88, 71, 82, 79, 85, 80, 83, 4, 266, 0, 1073741823, 6, 269, 9, 99, 111, 112, 121, 114, 105, 103, 104, 116, 6, 268, 53, 32, 83, 82, 69, 32, 50, 46, 50, 46, 50, 32, 67, 111, 112, 121, 114, 105, 103, 104, 116, 32, 40, 99, 41, 32, 49, 57, 57, 55, 45, 50, 48, 48, 50, 32, 98, 121, 32, 83, 101, 99, 114, 101, 116, 32, 76, 97, 98, 115, 32, 65, 66, 32] } 0, Value.bool true, Value.bool false, Value.str (Str.ofString "_sre") 271] }
noncomputable def oo_28 (P : Params) : Obj := { cls := Value.type "tuple", data := Data.seq #[] }
noncomputable def oo_29 (P : Params) : Obj := { cls := Value.none, data := Data.fields #[] }
noncomputable def oo_30 (P : Params) : Obj := { cls := Value.type "code", data := Data.fields #[Value.str (Str.ofString "<module>") 277, Value.str (Str.ofString "<module>") 278, Value.str (Str.ofString "/claim/cut.py") 279, Value.int 1 0, Value.int 0 0, Value.int 0 0, Value.int 0 0, Value.int 0 0, Value.ref 28, Value.bool false, Value.int 276 0, Value.ref 29, Value.none, Value.none, Value.none, Value.none, Value.int 280 0, Value.int 1 0, Value.str (Str.ofString "/claim/cut.py") 281] }
noncomputable def oo_31 (P : Params) : Obj := { cls := Value.type "frame", slots := #[some (Value.ref 30), some (Value.ref 3), some (Value.ref 3), none, some (Value.str (Str.ofString "__main__") 164), none, some (Value.ref 0)] }
noncomputable def oo_3v1 (P : Params) : Obj := { cls := Value.type "dict", data := Data.dict #[{ hash := PyData.keyHash P (Str.ofString "__name__"), key := Value.str (Str.ofString "__name__") 165, val := Value.str (Str.ofString "re") 384 }, { hash := PyData.keyHash P (Str.ofString "__doc__"), key := Value.str (Str.ofString "__doc__") 166, val := Value.none }, { hash := PyData.keyHash P (Str.ofString "__package__"), key := Value.str (Str.ofString "__package__") 167, val := Value.none }, { hash := PyData.keyHash P (Str.ofString "__loader__"), key := Value.str (Str.ofString "__loader__") 168, val := Value.builtin "__main__.__loader__#opaque" }, { hash := PyData.keyHash P (Str.ofString "__spec__"), key := Value.str (Str.ofString "__spec__") 169, val := Value.none }, { hash := PyData.keyHash P (Str.ofString "__annotations__"), key := Value.str (Str.ofString "__annotations__") 170, val := Value.ref 6 }, { hash := PyData.keyHash P (Str.ofString "__builtins__"), key := Value.str (Str.ofString "__builtins__") 171, val := Value.ref 4 }, { hash := PyData.keyHash P (Str.ofString "__file__"), key := Value.str (Str.ofString "__file__") 173, val := Value.str (Str.ofString "/claim/cut.py") 172 }, { hash := PyData.keyHash P (Str.ofString "__cached__"), key := Value.str (Str.ofString "__cached__") 174, val := Value.none }, { hash := PyData.keyHash P (Str.ofString "_sre"), key := Value.str (Str.ofString "_sre") 275, val := Value.ref 12 }, { hash := PyData.keyHash P (Str.ofString "IPV4_RE"), key := Value.str (Str.ofString "IPV4_RE") 313, val := Value.ref 36 }, { hash := PyData.keyHash P (Str.ofString "is_HDN"), key := Value.str (Str.ofString "is_HDN") 320, val := Value.ref 43 }, { hash := PyData.keyHash P (Str.ofString "liberal_is_HDN"), key := Value.str (Str.ofString "liberal_is_HDN") 327, val := Value.ref 50 }, { hash := PyData.keyHash P (Str.ofString "user_domain_match"), key := Value.str (Str.ofString "user_domain_match") 336, val := Value.ref 57 }, { hash := PyData.keyHash P (Str.ofString "reach"), key := Value.str (Str.ofString "reach") 345, val := Value.ref 64 }, { hash := PyData.keyHash P (Str.ofString "_twin_re_1"), key := Value.str (Str.ofString "_twin_re_1") 383, val := Value.ref 69 }] 16 }
noncomputable def oo_29v1 (P : Params) : Obj := { cls := Value.none, data := Data.fields #[Value.int 4 0, Value.int 0 0, Value.ref 42, Value.int 12 0, Value.int 0 0, Value.ref 49, Value.int 16 0, Value.int 0 0, Value.ref 56, Value.int 29 0, Value.int 0 0, Value.ref 63] }
noncomputable def oo_32 (P : Params) : Obj := { cls := Value.type "list", data := Data.seq #[Value.int 14 287, Value.int 8 288, Value.int 1 289, Value.int 2 290, Value.int 4294967295 291, Value.int 1 292, Value.int 1 293, Value.int 46 294, Value.int 0 295, Value.int 16 296, Value.int 46 297, Value.int 24 298, Value.int 9 299, Value.int 1 300, Value.int 4294967295 301, Value.int 13 302, Value.int 4 303, Value.int 8 304, Value.int 0 305, Value.int 0 306, Value.int 1 307, Value.int 6 308, Value.int 5 309, Value.int 1 310] }
noncomputable def oo_33 (P : Params) : Obj := { cls := Value.type "dict", data := Data.dict #[] }
noncomputable def oo_34 (P : Params) : Obj := { cls := Value.type "tuple", data := Data.seq #[Value.none] }
noncomputable def oo_35 (P : Params) : Obj := { cls := Value.type "tuple", data := Data.seq #[Value.int 14 0, Value.int 8 0, Value.int 1 0, Value.int 2 0, Value.int 4294967295 0, Value.int 1 0, Value.int 1 0, Value.int 46 0, Value.int 0 0, Value.int 16 0, Value.int 46 0, Value.int 24 0, Value.int 9 0, Value.int 1 0, Value.int 4294967295 0, Value.int 13 0, Value.int 4 0, Value.int 8 0, Value.int 0 0, Value.int 0 0, Value.int 1 0, Value.int 6 0, Value.int 5 0, Value.int 1 0] }
noncomputable def oo_36 (P : Params) : Obj := { cls := Value.type "re.Pattern", data := Data.fields #[Value.str (Str.ofString "\\.\\d+$") 285, Value.int 256 312, Value.int 0 0, Value.none, Value.none, Value.ref 35, Value.int 0 0] }
noncomputable def oo_37 (P : Params) : Obj := { cls := Value.type "tuple", data := Data.seq #[] }
noncomputable def oo_38 (P : Params) : Obj := { cls := Value.none, data := Data.fields #[] }
noncomputable def oo_39 (P : Params) : Obj := { cls := Value.type "tuple", data := Data.seq #[Value.str (Str.ofString "text") 317] }
noncomputable def oo_40 (P : Params) : Obj := { cls := Value.type "tuple", data := Data.seq #[] }
noncomputable def oo_41 (P : Params) : Obj := fnR 3 rfl
noncomputable def oo_42 (P : Params) : Obj := { cls := Value.type "code", data := Data.fields #[Value.str (Str.ofString "is_HDN") 314, Value.str (Str.ofString "is_HDN") 315, Value.str (Str.ofString "/claim/cut.py") 316, Value.int 4 0, Value.int 1 0, Value.int 0 0, Value.int 0 0, Value.int 3 0, Value.ref 37, Value.bool true, Value.int 276 0, Value.ref 38, Value.none, Value.ref 39, Value.ref 40, Value.ref 41, Value.int 318 0, Value.int 4 0, Value.str (Str.ofString "/claim/cut.py") 319] }
noncomputable def oo_43 (P : Params) : Obj := fnO 3 rfl (Str.ofString "cpy313.http.cookiejar") 282 42
noncomputable def oo_44 (P : Params) : Obj := { cls := Value.type "tuple", data := Data.seq #[] }
noncomputable def oo_45 (P : Params) : Obj := { cls := Value.none, data := Data.fields #[] }
noncomputable def oo_46 (P : Params) : Obj := { cls := Value.type "tuple", data := Data.seq #[Value.str (Str.ofString "text") 324] }
noncomputable def oo_47 (P : Params) : Obj := { cls := Value.type "tuple", data := Data.seq #[] }
noncomputable def oo_48 (P : Params) : Obj := fnR 4 rfl
noncomputable def oo_49 (P : Params) : Obj := { cls := Value.type "code", data := Data.fields #[Value.str (Str.ofString "liberal_is_HDN") 321, Value.str (Str.ofString "liberal_is_HDN") 322, Value.str (Str.ofString "/claim/cut.py") 323, Value.int 12 0, Value.int 1 0, Value.int 0 0, Value.int 0 0, Value.int 3 0, Value.ref 44, Value.bool true, Value.int 276 0, Value.ref 45, Value.none, Value.ref 46, Value.ref 47, Value.ref 48, Value.int 325 0, Value.int 12 0, Value.str (Str.ofString "/claim/cut.py") 326] }
noncomputable def oo_50 (P : Params) : Obj := fnO 4 rfl (Str.ofString "cpy313.http.cookiejar") 282 49
noncomputable def oo_51 (P : Params) : Obj := { cls := Value.type "tuple", data := Data.seq #[] }
noncomputable def oo_52 (P : Params) : Obj := { cls := Value.none, data := Data.fields #[] }
noncomputable def oo_53 (P : Params) : Obj := { cls := Value.type "tuple", data := Data.seq #[Value.str (Str.ofString "A") 331, Value.str (Str.ofString "B") 332, Value.str (Str.ofString "initial_dot") 333] }
noncomputable def oo_54 (P : Params) : Obj := { cls := Value.type "tuple", data := Data.seq #[] }
noncomputable def oo_55 (P : Params) : Obj := fnR 5 rfl
noncomputable def oo_56 (P : Params) : Obj := { cls := Value.type "code", data := Data.fields #[Value.str (Str.ofString "user_domain_match") 328, Value.str (Str.ofString "user_domain_match") 329, Value.str (Str.ofString "/claim/cut.py") 330, Value.int 16 0, Value.int 2 0, Value.int 0 0, Value.int 0 0, Value.int 3 0, Value.ref 51, Value.bool true, Value.int 276 0, Value.ref 52, Value.none, Value.ref 53, Value.ref 54, Value.ref 55, Value.int 334 0, Value.int 16 0, Value.str (Str.ofString "/claim/cut.py") 335] }
noncomputable def oo_57 (P : Params) : Obj := fnO 5 rfl (Str.ofString "cpy313.http.cookiejar") 282 56
noncomputable def oo_58 (P : Params) : Obj := { cls := Value.type "tuple", data := Data.seq #[] }
noncomputable def oo_59 (P : Params) : Obj := { cls := Value.none, data := Data.fields #[] }
noncomputable def oo_60 (P : Params) : Obj := { cls := Value.type "tuple", data := Data.seq #[Value.str (Str.ofString "h") 340, Value.str (Str.ofString "i") 341, Value.str (Str.ofString "b") 342] }
noncomputable def oo_61 (P : Params) : Obj := { cls := Value.type "tuple", data := Data.seq #[] }
noncomputable def oo_62 (P : Params) : Obj := fnR 6 rfl
noncomputable def oo_63 (P : Params) : Obj := { cls := Value.type "code", data := Data.fields #[Value.str (Str.ofString "reach") 337, Value.str (Str.ofString "reach") 338, Value.str (Str.ofString "/claim/cut.py") 339, Value.int 29 0, Value.int 1 0, Value.int 0 0, Value.int 0 0, Value.int 3 0, Value.ref 58, Value.bool true, Value.int 276 0, Value.ref 59, Value.none, Value.ref 60, Value.ref 61, Value.ref 62, Value.int 343 0, Value.int 29 0, Value.str (Str.ofString "/claim/cut.py") 344] }
noncomputable def oo_64 (P : Params) : Obj := fnO 6 rfl (Str.ofString "cpy313.http.cookiejar") 282 63
noncomputable def oo_65 (P : Params) : Obj := { cls := Value.type "list", data := Data.seq #[Value.int 14 349, Value.int 14 350, Value.int 4 351, Value.int 1 352, Value.int 1 353, Value.int 9 354, Value.int 0 355, Value.int 64 356, Value.int 0 357, Value.int 1342177280 358, Value.int 0 359, Value.int 0 360, Value.int 0 361, Value.int 0 362, Value.int 0 363, Value.int 17 364, Value.int 0 365, Value.int 13 366, Value.int 11 367, Value.int 9 368, Value.int 0 369, Value.int 64 370, Value.int 0 371, Value.int 1342177280 372, Value.int 0 373, Value.int 0 374, Value.int 0 375, Value.int 0 376, Value.int 0 377, Value.int 17 378, Value.int 1 379, Value.int 1 380] }
noncomputable def oo_66 (P : Params) : Obj := { cls := Value.type "dict", data := Data.dict #[] }
noncomputable def oo_67 (P : Params) : Obj := { cls := Value.type "tuple", data := Data.seq #[Value.none, Value.none] }
noncomputable def oo_68 (P : Params) : Obj := { cls := Value.type "tuple", data := Data.seq #[Value.int 14 0, Value.int 14 0, Value.int 4 0, Value.int 1 0, Value.int 1 0, Value.int 9 0, Value.int 0 0, Value.int 64 0, Value.int 0 0, Value.int 1342177280 0, Value.int 0 0, Value.int 0 0, Value.int 0 0, Value.int 0 0, Value.int 0 0, Value.int 17 0, Value.int 0 0, Value.int 13 0, Value.int 11 0, Value.int 9 0, Value.int 0 0, Value.int 64 0, Value.int 0 0, Value.int 1342177280 0, Value.int 0 0, Value.int 0 0, Value.int 0 0, Value.int 0 0, Value.int 0 0, Value.int 17 0, Value.int 1 0, Value.int 1 0] }
noncomputable def oo_69 (P : Params) : Obj := { cls := Value.type "re.Pattern", data := Data.fields #[Value.str (Str.ofString "([&~|])") 347, Value.int 32 382, Value.int 1 0, Value.none, Value.none, Value.ref 68, Value.int 0 0] }
noncomputable def oo_3v2 (P : Params) : Obj := { cls := Value.type "dict", data := Data.dict #[{ hash := PyData.keyHash P (Str.ofString "__name__"), key := Value.str (Str.ofString "__name__") 165, val := Value.str (Str.ofString "re") 384 }, { hash := PyData.keyHash P (Str.ofString "__doc__"), key := Value.str (Str.ofString "__doc__") 166, val := Value.none }, { hash := PyData.keyHash P (Str.ofString "__package__"), key := Value.str (Str.ofString "__package__") 167, val := Value.none }, { hash := PyData.keyHash P (Str.ofString "__loader__"), key := Value.str (Str.ofString "__loader__") 168, val := Value.builtin "__main__.__loader__#opaque" }, { hash := PyData.keyHash P (Str.ofString "__spec__"), key := Value.str (Str.ofString "__spec__") 169, val := Value.none }, { hash := PyData.keyHash P (Str.ofString "__annotations__"), key := Value.str (Str.ofString "__annotations__") 170, val := Value.ref 6 }, { hash := PyData.keyHash P (Str.ofString "__builtins__"), key := Value.str (Str.ofString "__builtins__") 171, val := Value.ref 4 }, { hash := PyData.keyHash P (Str.ofString "__file__"), key := Value.str (Str.ofString "__file__") 173, val := Value.str (Str.ofString "/claim/cut.py") 172 }, { hash := PyData.keyHash P (Str.ofString "__cached__"), key := Value.str (Str.ofString "__cached__") 174, val := Value.none }, { hash := PyData.keyHash P (Str.ofString "_sre"), key := Value.str (Str.ofString "_sre") 275, val := Value.ref 12 }, { hash := PyData.keyHash P (Str.ofString "IPV4_RE"), key := Value.str (Str.ofString "IPV4_RE") 313, val := Value.ref 36 }, { hash := PyData.keyHash P (Str.ofString "is_HDN"), key := Value.str (Str.ofString "is_HDN") 320, val := Value.ref 43 }, { hash := PyData.keyHash P (Str.ofString "liberal_is_HDN"), key := Value.str (Str.ofString "liberal_is_HDN") 327, val := Value.ref 50 }, { hash := PyData.keyHash P (Str.ofString "user_domain_match"), key := Value.str (Str.ofString "user_domain_match") 336, val := Value.ref 57 }, { hash := PyData.keyHash P (Str.ofString "reach"), key := Value.str (Str.ofString "reach") 345, val := Value.ref 64 }, { hash := PyData.keyHash P (Str.ofString "_twin_re_1"), key := Value.str (Str.ofString "_twin_re_1") 383, val := Value.ref 69 }, { hash := PyData.keyHash P (Str.ofString "_special_chars_map"), key := Value.str (Str.ofString "_special_chars_map") 531, val := Value.ref 71 }] 17 }
noncomputable def oo_70 (P : Params) : Obj := { cls := Value.type "bytes_iterator", data := Data.fields #[Value.none, Value.int 24 0] }
noncomputable def oo_71 (P : Params) : Obj := { cls := Value.type "dict", data := Data.dict #[{ hash := 40, key := Value.int 40 387, val := Value.str (Str.ofString "\\(") 391 }, { hash := 41, key := Value.int 41 393, val := Value.str (Str.ofString "\\)") 397 }, { hash := 91, key := Value.int 91 399, val := Value.str (Str.ofString "\\[") 403 }, { hash := 93, key := Value.int 93 405, val := Value.str (Str.ofString "\\]") 409 }, { hash := 123, key := Value.int 123 411, val := Value.str (Str.ofString "\\{") 415 }, { hash := 125, key := Value.int 125 417, val := Value.str (Str.ofString "\\}") 421 }, { hash := 63, key := Value.int 63 423, val := Value.str (Str.ofString "\\?") 427 }, { hash := 42, key := Value.int 42 429, val := Value.str (Str.ofString "\\*") 433 }, { hash := 43, key := Value.int 43 435, val := Value.str (Str.ofString "\\+") 439 }, { hash := 45, key := Value.int 45 441, val := Value.str (Str.ofString "\\-") 445 }, { hash := 124, key := Value.int 124 447, val := Value.str (Str.ofString "\\|") 451 }, { hash := 94, key := Value.int 94 453, val := Value.str (Str.ofString "\\^") 457 }, { hash := 36, key := Value.int 36 459, val := Value.str (Str.ofString "\\$") 463 }, { hash := 92, key := Value.int 92 465, val := Value.str (Str.ofString "\\\\") 469 }, { hash := 46, key := Value.int 46 471, val := Value.str (Str.ofString "\\.") 475 }, { hash := 38, key := Value.int 38 477, val := Value.str (Str.ofString "\\&") 481 }, { hash := 126, key := Value.int 126 483, val := Value.str (Str.ofString "\\~") 487 }, { hash := 35, key := Value.int 35 489, val := Value.str (Str.ofString "\\#") 493 }, { hash := 32, key := Value.int 32 495, val := Value.str (Str.ofString "\\ ") 499 }, { hash := 9, key := Value.int 9 501, val := Value.str (Str.ofString "\\\t") 505 }, { hash := 10, key := Value.int 10 507, val := Value.str (Str.ofString "\\\n") 511 }, { hash := 13, key := Value.int 13 513, val := Value.str (Str.ofString "\\\x0d") 517 }, { hash := 11, key := Value.int 11 519, val := Value.str (Str.ofString "\\\x0b") 523 }, { hash := 12, key := Value.int 12 525, val := Value.str (Str.ofString "\\\x0c") 529 }] 24 }
noncomputable def oo_72 (P : Params) : Obj := { cls := Value.type "dict", data := Data.dict #[] 2 }
noncomputable def oo_73 (P : Params) : Obj := { cls := Value.type "tuple", data := Data.seq #[] }
noncomputable def oo_74 (P : Params) : Obj := { cls := Value.type "StopIteration", data := Data.fields #[Value.ref 73, Value.none, Value.none, Value.none, Value.bool false, Value.none] }
noncomputable def oo_3v3 (P : Params) : Obj := { cls := Value.type "dict", data := Data.dict #[{ hash := PyData.keyHash P (Str.ofString "__name__"), key := Value.str (Str.ofString "__name__") 165, val := Value.str (Str.ofString "law_qw0021_01") 645 }, { hash := PyData.keyHash P (Str.ofString "__doc__"), key := Value.str (Str.ofString "__doc__") 166, val := Value.none }, { hash := PyData.keyHash P (Str.ofString "__package__"), key := Value.str (Str.ofString "__package__") 167, val := Value.none }, { hash := PyData.keyHash P (Str.ofString "__loader__"), key := Value.str (Str.ofString "__loader__") 168, val := Value.builtin "__main__.__loader__#opaque" }, { hash := PyData.keyHash P (Str.ofString "__spec__"), key := Value.str (Str.ofString "__spec__") 169, val := Value.none }, { hash := PyData.keyHash P (Str.ofString "__annotations__"), key := Value.str (Str.ofString "__annotations__") 170, val := Value.ref 6 }, { hash := PyData.keyHash P (Str.ofString "__builtins__"), key := Value.str (Str.ofString "__builtins__") 171, val := Value.ref 4 }, { hash := PyData.keyHash P (Str.ofString "__file__"), key := Value.str (Str.ofString "__file__") 173, val := Value.str (Str.ofString "/claim/cut.py") 172 }, { hash := PyData.keyHash P (Str.ofString "__cached__"), key := Value.str (Str.ofString "__cached__") 174, val := Value.none }, { hash := PyData.keyHash P (Str.ofString "_sre"), key := Value.str (Str.ofString "_sre") 275, val := Value.ref 12 }, { hash := PyData.keyHash P (Str.ofString "IPV4_RE"), key := Value.str (Str.ofString "IPV4_RE") 313, val := Value.ref 36 }, { hash := PyData.keyHash P (Str.ofString "is_HDN"), key := Value.str (Str.ofString "is_HDN") 320, val := Value.ref 43 }, { hash := PyData.keyHash P (Str.ofString "liberal_is_HDN"), key := Value.str (Str.ofString "liberal_is_HDN") 327, val := Value.ref 50 }, { hash := PyData.keyHash P (Str.ofString "user_domain_match"), key := Value.str (Str.ofString "user_domain_match") 336, val := Value.ref 57 }, { hash := PyData.keyHash P (Str.ofString "reach"), key := Value.str (Str.ofString "reach") 345, val := Value.ref 64 }, { hash := PyData.keyHash P (Str.ofString "_twin_re_1"), key := Value.str (Str.ofString "_twin_re_1") 383, val := Value.ref 69 }, { hash := PyData.keyHash P (Str.ofString "_special_chars_map"), key := Value.str (Str.ofString "_special_chars_map") 531, val := Value.ref 71 }, { hash := PyData.keyHash P (Str.ofString "escape"), key := Value.str (Str.ofString "escape") 538, val := Value.ref 81 }, { hash := PyData.keyHash P (Str.ofString "_translate"), key := Value.str (Str.ofString "_translate") 559, val := Value.ref 88 }, { hash := PyData.keyHash P (Str.ofString "S_IFMT"), key := Value.str (Str.ofString "S_IFMT") 568, val := Value.ref 95 }, { hash := PyData.keyHash P (Str.ofString "S_IFDIR"), key := Value.str (Str.ofString "S_IFDIR") 570, val := Value.int 16384 569 }, { hash := PyData.keyHash P (Str.ofString "S_IFCHR"), key := Value.str (Str.ofString "S_IFCHR") 572, val := Value.int 8192 571 }, { hash := PyData.keyHash P (Str.ofString "S_IFBLK"), key := Value.str (Str.ofString "S_IFBLK") 574, val := Value.int 24576 573 }, { hash := PyData.keyHash P (Str.ofString "S_IFREG"), key := Value.str (Str.ofString "S_IFREG") 576, val := Value.int 32768 575 }, { hash := PyData.keyHash P (Str.ofString "S_IFIFO"), key := Value.str (Str.ofString "S_IFIFO") 578, val := Value.int 4096 577 }, { hash := PyData.keyHash P (Str.ofString "S_IFLNK"), key := Value.str (Str.ofString "S_IFLNK") 580, val := Value.int 40960 579 }, { hash := PyData.keyHash P (Str.ofString "S_IFSOCK"), key := Value.str (Str.ofString "S_IFSOCK") 582, val := Value.int 49152 581 }, { hash := PyData.keyHash P (Str.ofString "S_ISUID"), key := Value.str (Str.ofString "S_ISUID") 584, val := Value.int 2048 583 }, { hash := PyData.keyHash P (Str.ofString "S_ISGID"), key := Value.str (Str.ofString "S_ISGID") 586, val := Value.int 1024 585 }, { hash := PyData.keyHash P (Str.ofString "S_ISVTX"), key := Value.str (Str.ofString "S_ISVTX") 588, val := Value.int 512 587 }, { hash := PyData.keyHash P (Str.ofString "S_IRUSR"), key := Value.str (Str.ofString "S_IRUSR") 590, val := Value.int 256 589 }, { hash := PyData.keyHash P (Str.ofString "S_IWUSR"), key := Value.str (Str.ofString "S_IWUSR") 592, val := Value.int 128 591 }, { hash := PyData.keyHash P (Str.ofString "S_IXUSR"), key := Value.str (Str.ofString "S_IXUSR") 594, val := Value.int 64 593 }, { hash := PyData.keyHash P (Str.ofString "S_IRGRP"), key := Value.str (Str.ofString "S_IRGRP") 596, val := Value.int 32 595 }, { hash := PyData.keyHash P (Str.ofString "S_IWGRP"), key := Value.str (Str.ofString "S_IWGRP") 598, val := Value.int 16 597 }, { hash := PyData.keyHash P (Str.ofString "S_IXGRP"), key := Value.str (Str.ofString "S_IXGRP") 600, val := Value.int 8 599 }, { hash := PyData.keyHash P (Str.ofString "S_IROTH"), key := Value.str (Str.ofString "S_IROTH") 602, val := Value.int 4 601 }, { hash := PyData.keyHash P (Str.ofString "S_IWOTH"), key := Value.str (Str.ofString "S_IWOTH") 604, val := Value.int 2 603 }, { hash := PyData.keyHash P (Str.ofString "S_IXOTH"), key := Value.str (Str.ofString "S_IXOTH") 606, val := Value.int 1 605 }, { hash := PyData.keyHash P (Str.ofString "_filemode_table"), key := Value.str (Str.ofString "_filemode_table") 632, val := Value.ref 128 }, { hash := PyData.keyHash P (Str.ofString "filemode"), key := Value.str (Str.ofString "filemode") 644, val := Value.ref 135 }, { hash := PyData.keyHash P (Str.ofString "_law_labels"), key := Value.str (Str.ofString "_law_labels") 652, val := Value.ref 140 }, { hash := PyData.keyHash P (Str.ofString "_law_reach"), key := Value.str (Str.ofString "_law_reach") 659, val := Value.ref 147 }, { hash := PyData.keyHash P (Str.ofString "_law_ends"), key := Value.str (Str.ofString "_law_ends") 669, val := Value.ref 154 }, { hash := PyData.keyHash P (Str.ofString "_law_takes"), key := Value.str (Str.ofString "_law_takes") 675, val := Value.ref 159 }, { hash := PyData.keyHash P (Str.ofString "_law_listed"), key := Value.str (Str.ofString "_law_listed") 687, val := Value.ref 166 }, { hash := PyData.keyHash P (Str.ofString "law"), key := Value.str (Str.ofString "law") 693, val := Value.ref 171 }] 47 }
noncomputable def oo_29v2 (P : Params) : Obj := { cls := Value.none, data := Data.fields #[Value.int 4 0, Value.int 0 0, Value.ref 42, Value.int 12 0, Value.int 0 0, Value.ref 49, Value.int 16 0, Value.int 0 0, Value.ref 56, Value.int 29 0, Value.int 0 0, Value.ref 63, Value.int 40 0, Value.int 0 0, Value.ref 80, Value.int 47 0, Value.int 0 0, Value.ref 87, Value.int 110 0, Value.int 0 0, Value.ref 94, Value.int 132 0, Value.int 0 0, Value.ref 134, Value.int 150 0, Value.int 0 0, Value.ref 139, Value.int 152 0, Value.int 0 0, Value.ref 146, Value.int 156 0, Value.int 0 0, Value.ref 153, Value.int 159 0, Value.int 0 0, Value.ref 158, Value.int 164 0, Value.int 0 0, Value.ref 165, Value.int 172 0, Value.int 0 0, Value.ref 170] }
noncomputable def oo_75 (P : Params) : Obj := { cls := Value.type "tuple", data := Data.seq #[] }
noncomputable def oo_76 (P : Params) : Obj := { cls := Value.none, data := Data.fields #[] }
noncomputable def oo_77 (P : Params) : Obj := { cls := Value.type "tuple", data := Data.seq #[Value.str (Str.ofString "pattern") 535] }
noncomputable def oo_78 (P : Params) : Obj := { cls := Value.type "tuple", data := Data.seq #[] }
noncomputable def oo_79 (P : Params) : Obj := fnR 10 rfl
noncomputable def oo_80 (P : Params) : Obj := { cls := Value.type "code", data := Data.fields #[Value.str (Str.ofString "escape") 532, Value.str (Str.ofString "escape") 533, Value.str (Str.ofString "/claim/cut.py") 534, Value.int 40 0, Value.int 1 0, Value.int 0 0, Value.int 0 0, Value.int 3 0, Value.ref 75, Value.bool true, Value.int 276 0, Value.ref 76, Value.none, Value.ref 77, Value.ref 78, Value.ref 79, Value.int 536 0, Value.int 40 0, Value.str (Str.ofString "/claim/cut.py") 537] }
noncomputable def oo_81 (P : Params) : Obj := fnO 10 rfl (Str.ofString "re") 384 80
noncomputable def oo_82 (P : Params) : Obj := { cls := Value.type "tuple", data := Data.seq #[] }
noncomputable def oo_83 (P : Params) : Obj := { cls := Value.none, data := Data.fields #[] }
noncomputable def oo_84 (P : Params) : Obj := { cls := Value.type "tuple", data := Data.seq #[Value.str (Str.ofString "pat") 544, Value.str (Str.ofString "STAR") 545, Value.str (Str.ofString "QUESTION_MARK") 546, Value.str (Str.ofString "res") 547, Value.str (Str.ofString "add") 548, Value.str (Str.ofString "i") 549, Value.str (Str.ofString "n") 550, Value.str (Str.ofString "c") 551, Value.str (Str.ofString "j") 552, Value.str (Str.ofString "stuff") 553, Value.str (Str.ofString "chunks") 554, Value.str (Str.ofString "k") 555, Value.str (Str.ofString "chunk") 556] }
noncomputable def oo_85 (P : Params) : Obj := { cls := Value.type "tuple", data := Data.seq #[] }
noncomputable def oo_86 (P : Params) : Obj := fnR 12 rfl
noncomputable def oo_87 (P : Params) : Obj := { cls := Value.type "code", data := Data.fields #[Value.str (Str.ofString "_translate") 541, Value.str (Str.ofString "_translate") 542, Value.str (Str.ofString "/claim/cut.py") 543, Value.int 47 0, Value.int 3 0, Value.int 0 0, Value.int 0 0, Value.int 3 0, Value.ref 82, Value.bool true, Value.int 276 0, Value.ref 83, Value.none, Value.ref 84, Value.ref 85, Value.ref 86, Value.int 557 0, Value.int 47 0, Value.str (Str.ofString "/claim/cut.py") 558] }
noncomputable def oo_88 (P : Params) : Obj := fnO 12 rfl (Str.ofString "cpy313.fnmatch") 539 87
noncomputable def oo_89 (P : Params) : Obj := { cls := Value.type "tuple", data := Data.seq #[] }
noncomputable def oo_90 (P : Params) : Obj := { cls := Value.none, data := Data.fields #[] }
noncomputable def oo_91 (P : Params) : Obj := { cls := Value.type "tuple", data := Data.seq #[Value.str (Str.ofString "mode") 565] }
noncomputable def oo_92 (P : Params) : Obj := { cls := Value.type "tuple", data := Data.seq #[] }
noncomputable def oo_93 (P : Params) : Obj := fnR 14 rfl
noncomputable def oo_94 (P : Params) : Obj := { cls := Value.type "code", data := Data.fields #[Value.str (Str.ofString "S_IFMT") 562, Value.str (Str.ofString "S_IFMT") 563, Value.str (Str.ofString "/claim/cut.py") 564, Value.int 110 0, Value.int 1 0, Value.int 0 0, Value.int 0 0, Value.int 3 0, Value.ref 89, Value.bool true, Value.int 276 0, Value.ref 90, Value.none, Value.ref 91, Value.ref 92, Value.ref 93, Value.int 566 0, Value.int 110 0, Value.str (Str.ofString "/claim/cut.py") 567] }
noncomputable def oo_95 (P : Params) : Obj := fnO 14 rfl (Str.ofString "cpy313.stat") 560 94
noncomputable def oo_96 (P : Params) : Obj := { cls := Value.type "tuple", data := Data.seq #[Value.int 40960 579, Value.str (Str.ofString "l") 607] }
noncomputable def oo_97 (P : Params) : Obj := { cls := Value.type "tuple", data := Data.seq #[Value.int 49152 581, Value.str (Str.ofString "s") 608] }
noncomputable def oo_98 (P : Params) : Obj := { cls := Value.type "tuple", data := Data.seq #[Value.int 32768 575, Value.str (Str.ofString "-") 609] }
noncomputable def oo_99 (P : Params) : Obj := { cls := Value.type "tuple", data := Data.seq #[Value.int 24576 573, Value.str (Str.ofString "b") 610] }
noncomputable def oo_100 (P : Params) : Obj := { cls := Value.type "tuple", data := Data.seq #[Value.int 16384 569, Value.str (Str.ofString "d") 611] }
noncomputable def oo_101 (P : Params) : Obj := { cls := Value.type "tuple", data := Data.seq #[Value.int 8192 571, Value.str (Str.ofString "c") 612] }
noncomputable def oo_102 (P : Params) : Obj := { cls := Value.type "tuple", data := Data.seq #[Value.int 4096 577, Value.str (Str.ofString "p") 613] }
noncomputable def oo_103 (P : Params) : Obj := { cls := Value.type "tuple", data := Data.seq #[Value.ref 96, Value.ref 97, Value.ref 98, Value.ref 99, Value.ref 100, Value.ref 101, Value.ref 102] }
noncomputable def oo_104 (P : Params) : Obj := { cls := Value.type "tuple", data := Data.seq #[Value.int 256 589, Value.str (Str.ofString "r") 614] }
noncomputable def oo_105 (P : Params) : Obj := { cls := Value.type "tuple", data := Data.seq #[Value.ref 104] }
noncomputable def oo_106 (P : Params) : Obj := { cls := Value.type "tuple", data := Data.seq #[Value.int 128 591, Value.str (Str.ofString "w") 615] }
noncomputable def oo_107 (P : Params) : Obj := { cls := Value.type "tuple", data := Data.seq #[Value.ref 106] }
noncomputable def oo_108 (P : Params) : Obj := { cls := Value.type "tuple", data := Data.seq #[Value.int 2112 616, Value.str (Str.ofString "s") 617] }
noncomputable def oo_109 (P : Params) : Obj := { cls := Value.type "tuple", data := Data.seq #[Value.int 2048 583, Value.str (Str.ofString "S") 618] }
noncomputable def oo_110 (P : Params) : Obj := { cls := Value.type "tuple", data := Data.seq #[Value.int 64 593, Value.str (Str.ofString "x") 619] }
noncomputable def oo_111 (P : Params) : Obj := { cls := Value.type "tuple", data := Data.seq #[Value.ref 108, Value.ref 109, Value.ref 110] }
noncomputable def oo_112 (P : Params) : Obj := { cls := Value.type "tuple", data := Data.seq #[Value.int 32 595, Value.str (Str.ofString "r") 620] }
noncomputable def oo_113 (P : Params) : Obj := { cls := Value.type "tuple", data := Data.seq #[Value.ref 112] }
noncomputable def oo_114 (P : Params) : Obj := { cls := Value.type "tuple", data := Data.seq #[Value.int 16 597, Value.str (Str.ofString "w") 621] }
noncomputable def oo_115 (P : Params) : Obj := { cls := Value.type "tuple", data := Data.seq #[Value.ref 114] }
noncomputable def oo_116 (P : Params) : Obj := { cls := Value.type "tuple", data := Data.seq #[Value.int 1032 622, Value.str (Str.ofString "s") 623] }
noncomputable def oo_117 (P : Params) : Obj := { cls := Value.type "tuple", data := Data.seq #[Value.int 1024 585, Value.str (Str.ofString "S") 624] }
noncomputable def oo_118 (P : Params) : Obj := { cls := Value.type "tuple", data := Data.seq #[Value.int 8 599, Value.str (Str.ofString "x") 625] }
noncomputable def oo_119 (P : Params) : Obj := { cls := Value.type "tuple", data := Data.seq #[Value.ref 116, Value.ref 117, Value.ref 118] }
noncomputable def oo_120 (P : Params) : Obj := { cls := Value.type "tuple", data := Data.seq #[Value.int 4 601, Value.str (Str.ofString "r") 626] }
noncomputable def oo_121 (P : Params) : Obj := { cls := Value.type "tuple", data := Data.seq #[Value.ref 120] }
noncomputable def oo_122 (P : Params) : Obj := { cls := Value.type "tuple", data := Data.seq #[Value.int 2 603, Value.str (Str.ofString "w") 627] }
noncomputable def oo_123 (P : Params) : Obj := { cls := Value.type "tuple", data := Data.seq #[Value.ref 122] }
noncomputable def oo_124 (P : Params) : Obj := { cls := Value.type "tuple", data := Data.seq #[Value.int 513 628, Value.str (Str.ofString "t") 629] }
noncomputable def oo_125 (P : Params) : Obj := { cls := Value.type "tuple", data := Data.seq #[Value.int 512 587, Value.str (Str.ofString "T") 630] }
noncomputable def oo_126 (P : Params) : Obj := { cls := Value.type "tuple", data := Data.seq #[Value.int 1 605, Value.str (Str.ofString "x") 631] }
noncomputable def oo_127 (P : Params) : Obj := { cls := Value.type "tuple", data := Data.seq #[Value.ref 124, Value.ref 125, Value.ref 126] }
noncomputable def oo_128 (P : Params) : Obj := { cls := Value.type "tuple", data := Data.seq #[Value.ref 103, Value.ref 105, Value.ref 107, Value.ref 111, Value.ref 113, Value.ref 115, Value.ref 119, Value.ref 121, Value.ref 123, Value.ref 127] }
noncomputable def oo_129 (P : Params) : Obj := { cls := Value.type "tuple", data := Data.seq #[] }
noncomputable def oo_130 (P : Params) : Obj := { cls := Value.none, data := Data.fields #[] }
noncomputable def oo_131 (P : Params) : Obj := { cls := Value.type "tuple", data := Data.seq #[Value.str (Str.ofString "mode") 636, Value.str (Str.ofString "perm") 637, Value.str (Str.ofString "index") 638, Value.str (Str.ofString "table") 639, Value.str (Str.ofString "bit") 640, Value.str (Str.ofString "char") 641] }
noncomputable def oo_132 (P : Params) : Obj := { cls := Value.type "tuple", data := Data.seq #[] }
noncomputable def oo_133 (P : Params) : Obj := fnR 35 rfl
noncomputable def oo_134 (P : Params) : Obj := { cls := Value.type "code", data := Data.fields #[Value.str (Str.ofString "filemode") 633, Value.str (Str.ofString "filemode") 634, Value.str (Str.ofString "/claim/cut.py") 635, Value.int 132 0, Value.int 1 0, Value.int 0 0, Value.int 0 0, Value.int 3 0, Value.ref 129, Value.bool true, Value.int 276 0, Value.ref 130, Value.none, Value.ref 131, Value.ref 132, Value.ref 133, Value.int 642 0, Value.int 132 0, Value.str (Str.ofString "/claim/cut.py") 643] }
noncomputable def oo_135 (P : Params) : Obj := fnO 35 rfl (Str.ofString "cpy313.stat") 560 134
noncomputable def oo_136 (P : Params) : Obj := { cls := Value.type "tuple", data := Data.seq #[] }
noncomputable def oo_137 (P : Params) : Obj := { cls := Value.none, data := Data.fields #[] }
noncomputable def oo_138 (P : Params) : Obj := fnR 37 rfl
noncomputable def oo_139 (P : Params) : Obj := { cls := Value.type "code", data := Data.fields #[Value.str (Str.ofString "_law_labels") 647, Value.str (Str.ofString "_law_labels") 648, Value.str (Str.ofString "/claim/cut.py") 649, Value.int 150 0, Value.int 1 0, Value.int 0 0, Value.int 0 0, Value.int 3 0, Value.ref 136, Value.bool true, Value.int 276 0, Value.ref 137, Value.none, Value.none, Value.none, Value.ref 138, Value.int 650 0, Value.int 150 0, Value.str (Str.ofString "/claim/cut.py") 651] }
noncomputable def oo_140 (P : Params) : Obj := fnO 37 rfl (Str.ofString "law_qw0021_01") 645 139
noncomputable def oo_141 (P : Params) : Obj := { cls := Value.type "tuple", data := Data.seq #[] }
noncomputable def oo_142 (P : Params) : Obj := { cls := Value.none, data := Data.fields #[] }
noncomputable def oo_143 (P : Params) : Obj := { cls := Value.type "tuple", data := Data.seq #[Value.str (Str.ofString "labels") 656] }
noncomputable def oo_144 (P : Params) : Obj := { cls := Value.type "tuple", data := Data.seq #[] }
noncomputable def oo_145 (P : Params) : Obj := fnR 38 rfl
noncomputable def oo_146 (P : Params) : Obj := { cls := Value.type "code", data := Data.fields #[Value.str (Str.ofString "_law_reach") 653, Value.str (Str.ofString "_law_reach") 654, Value.str (Str.ofString "/claim/cut.py") 655, Value.int 152 0, Value.int 1 0, Value.int 0 0, Value.int 0 0, Value.int 3 0, Value.ref 141, Value.bool true, Value.int 276 0, Value.ref 142, Value.none, Value.ref 143, Value.ref 144, Value.ref 145, Value.int 657 0, Value.int 152 0, Value.str (Str.ofString "/claim/cut.py") 658] }
noncomputable def oo_147 (P : Params) : Obj := fnO 38 rfl (Str.ofString "law_qw0021_01") 645 146
noncomputable def oo_148 (P : Params) : Obj := { cls := Value.type "tuple", data := Data.seq #[] }
noncomputable def oo_149 (P : Params) : Obj := { cls := Value.none, data := Data.fields #[] }
noncomputable def oo_150 (P : Params) : Obj := { cls := Value.type "tuple", data := Data.seq #[Value.str (Str.ofString "labels") 663, Value.str (Str.ofString "rule") 664, Value.str (Str.ofString "dot") 665, Value.str (Str.ofString "last") 666] }
noncomputable def oo_151 (P : Params) : Obj := { cls := Value.type "tuple", data := Data.seq #[] }
noncomputable def oo_152 (P : Params) : Obj := fnR 39 rfl
noncomputable def oo_153 (P : Params) : Obj := { cls := Value.type "code", data := Data.fields #[Value.str (Str.ofString "_law_ends") 660, Value.str (Str.ofString "_law_ends") 661, Value.str (Str.ofString "/claim/cut.py") 662, Value.int 156 0, Value.int 2 0, Value.int 0 0, Value.int 0 0, Value.int 3 0, Value.ref 148, Value.bool true, Value.int 276 0, Value.ref 149, Value.none, Value.ref 150, Value.ref 151, Value.ref 152, Value.int 667 0, Value.int 156 0, Value.str (Str.ofString "/claim/cut.py") 668] }
noncomputable def oo_154 (P : Params) : Obj := fnO 39 rfl (Str.ofString "law_qw0021_01") 645 153
noncomputable def oo_155 (P : Params) : Obj := { cls := Value.type "tuple", data := Data.seq #[] }
noncomputable def oo_156 (P : Params) : Obj := { cls := Value.none, data := Data.fields #[] }
noncomputable def oo_157 (P : Params) : Obj := fnR 40 rfl
noncomputable def oo_158 (P : Params) : Obj := { cls := Value.type "code", data := Data.fields #[Value.str (Str.ofString "_law_takes") 670, Value.str (Str.ofString "_law_takes") 671, Value.str (Str.ofString "/claim/cut.py") 672, Value.int 159 0, Value.int 2 0, Value.int 0 0, Value.int 0 0, Value.int 3 0, Value.ref 155, Value.bool true, Value.int 276 0, Value.ref 156, Value.none, Value.none, Value.none, Value.ref 157, Value.int 673 0, Value.int 159 0, Value.str (Str.ofString "/claim/cut.py") 674] }
noncomputable def oo_159 (P : Params) : Obj := fnO 40 rfl (Str.ofString "law_qw0021_01") 645 158
noncomputable def oo_160 (P : Params) : Obj := { cls := Value.type "tuple", data := Data.seq #[] }
noncomputable def oo_161 (P : Params) : Obj := { cls := Value.none, data := Data.fields #[] }
noncomputable def oo_162 (P : Params) : Obj := { cls := Value.type "tuple", data := Data.seq #[Value.str (Str.ofString "said") 679, Value.str (Str.ofString "rights") 680, Value.str (Str.ofString "listed") 681, Value.str (Str.ofString "row") 682, Value.str (Str.ofString "laid") 683, Value.str (Str.ofString "k") 684] }
noncomputable def oo_163 (P : Params) : Obj := { cls := Value.type "tuple", data := Data.seq #[] }
noncomputable def oo_164 (P : Params) : Obj := fnR 41 rfl
noncomputable def oo_165 (P : Params) : Obj := { cls := Value.type "code", data := Data.fields #[Value.str (Str.ofString "_law_listed") 676, Value.str (Str.ofString "_law_listed") 677, Value.str (Str.ofString "/claim/cut.py") 678, Value.int 164 0, Value.int 2 0, Value.int 0 0, Value.int 0 0, Value.int 3 0, Value.ref 160, Value.bool true, Value.int 276 0, Value.ref 161, Value.none, Value.ref 162, Value.ref 163, Value.ref 164, Value.int 685 0, Value.int 164 0, Value.str (Str.ofString "/claim/cut.py") 686] }
noncomputable def oo_166 (P : Params) : Obj := fnO 41 rfl (Str.ofString "law_qw0021_01") 645 165
noncomputable def oo_167 (P : Params) : Obj := { cls := Value.type "tuple", data := Data.seq #[] }
noncomputable def oo_168 (P : Params) : Obj := { cls := Value.none, data := Data.fields #[] }
noncomputable def oo_169 (P : Params) : Obj := fnR 42 rfl
noncomputable def oo_170 (P : Params) : Obj := { cls := Value.type "code", data := Data.fields #[Value.str (Str.ofString "law") 688, Value.str (Str.ofString "law") 689, Value.str (Str.ofString "/claim/cut.py") 690, Value.int 172 0, Value.int 1 0, Value.int 0 0, Value.int 0 0, Value.int 3 0, Value.ref 167, Value.bool true, Value.int 276 0, Value.ref 168, Value.none, Value.none, Value.none, Value.ref 169, Value.int 691 0, Value.int 172 0, Value.str (Str.ofString "/claim/cut.py") 692] }
noncomputable def oo_171 (P : Params) : Obj := fnO 42 rfl (Str.ofString "law_qw0021_01") 645 170
noncomputable def H0 (P : Params) : Heap := ⟨⟨[boot_o_0 P, oo_1 P, oo_2 P, oo_3 P, boot_o_4 P, boot_o_5 P, boot_o_6 P, boot_o_7 P, boot_o_8 P, boot_o_9 P, boot_o_10 P, oo_11 P, oo_12 P, oo_13 P, oo_14 P, oo_15 P, oo_16 P, oo_17 P, oo_18 P, oo_19 P, oo_20 P, oo_21 P, oo_22 P, oo_23 P, oo_24 P, oo_25 P, oo_26 P, oo_27 P]⟩, {}⟩
noncomputable def Ha (P : Params) : Heap := ⟨⟨[boot_o_0 P, oo_1 P, oo_2 P, oo_3 P, boot_o_4 P, boot_o_5 P, boot_o_6 P, boot_o_7 P, boot_o_8 P, boot_o_9 P, boot_o_10 P, oo_11 P, oo_12 P, oo_13 P, oo_14 P, oo_15 P, oo_16 P, oo_17 P, oo_18 P, oo_19 P, oo_20 P, oo_21 P, oo_22 P, oo_23 P, oo_24 P, oo_25 P, oo_26 P, oo_27 P, oo_28 P, oo_29 P, oo_30 P, oo_31 P]⟩, {}⟩
noncomputable def H8 (P : Params) : Heap := ⟨⟨[boot_o_0 P, oo_1 P, oo_2 P, oo_3v1 P, boot_o_4 P, boot_o_5 P, boot_o_6 P, boot_o_7 P, boot_o_8 P, boot_o_9 P, boot_o_10 P, oo_11 P, oo_12 P, oo_13 P, oo_14 P, oo_15 P, oo_16 P, oo_17 P, oo_18 P, oo_19 P, oo_20 P, oo_21 P, oo_22 P, oo_23 P, oo_24 P, oo_25 P, oo_26 P, oo_27 P, oo_28 P, oo_29v1 P, oo_30 P, oo_31 P, oo_32 P, oo_33 P, oo_34 P, oo_35 P, oo_36 P, oo_37 P, oo_38 P, oo_39 P, oo_40 P, oo_41 P, oo_42 P, oo_43 P, oo_44 P, oo_45 P, oo_46 P, oo_47 P, oo_48 P, oo_49 P, oo_50 P, oo_51 P, oo_52 P, oo_53 P, oo_54 P, oo_55 P, oo_56 P, oo_57 P, oo_58 P, oo_59 P, oo_60 P, oo_61 P, oo_62 P, oo_63 P, oo_64 P, oo_65 P, oo_66 P, oo_67 P, oo_68 P, oo_69 P]⟩, {}⟩
noncomputable def H9 (P : Params) : Heap := ⟨⟨[boot_o_0 P, oo_1 P, oo_2 P, oo_3v2 P, boot_o_4 P, boot_o_5 P, boot_o_6 P, boot_o_7 P, boot_o_8 P, boot_o_9 P, boot_o_10 P, oo_11 P, oo_12 P, oo_13 P, oo_14 P, oo_15 P, oo_16 P, oo_17 P, oo_18 P, oo_19 P, oo_20 P, oo_21 P, oo_22 P, oo_23 P, oo_24 P, oo_25 P, oo_26 P, oo_27 P, oo_28 P, oo_29v1 P, oo_30 P, oo_31 P, oo_32 P, oo_33 P, oo_34 P, oo_35 P, oo_36 P, oo_37 P, oo_38 P, oo_39 P, oo_40 P, oo_41 P, oo_42 P, oo_43 P, oo_44 P, oo_45 P, oo_46 P, oo_47 P, oo_48 P, oo_49 P, oo_50 P, oo_51 P, oo_52 P, oo_53 P, oo_54 P, oo_55 P, oo_56 P, oo_57 P, oo_58 P, oo_59 P, oo_60 P, oo_61 P, oo_62 P, oo_63 P, oo_64 P, oo_65 P, oo_66 P, oo_67 P, oo_68 P, oo_69 P, oo_70 P, oo_71 P, oo_72 P, oo_73 P, oo_74 P]⟩, {}⟩
noncomputable def H1 (P : Params) : Heap := ⟨⟨[boot_o_0 P, oo_1 P, oo_2 P, oo_3v3 P, boot_o_4 P, boot_o_5 P, boot_o_6 P, boot_o_7 P, boot_o_8 P, boot_o_9 P, boot_o_10 P, oo_11 P, oo_12 P, oo_13 P, oo_14 P, oo_15 P, oo_16 P, oo_17 P, oo_18 P, oo_19 P, oo_20 P, oo_21 P, oo_22 P, oo_23 P, oo_24 P, oo_25 P, oo_26 P, oo_27 P, oo_28 P, oo_29v2 P, oo_30 P, oo_31 P, oo_32 P, oo_33 P, oo_34 P, oo_35 P, oo_36 P, oo_37 P, oo_38 P, oo_39 P, oo_40 P, oo_41 P, oo_42 P, oo_43 P, oo_44 P, oo_45 P, oo_46 P, oo_47 P, oo_48 P, oo_49 P, oo_50 P, oo_51 P, oo_52 P, oo_53 P, oo_54 P, oo_55 P, oo_56 P, oo_57 P, oo_58 P, oo_59 P, oo_60 P, oo_61 P, oo_62 P, oo_63 P, oo_64 P, oo_65 P, oo_66 P, oo_67 P, oo_68 P, oo_69 P, oo_70 P, oo_71 P, oo_72 P, oo_73 P, oo_74 P, oo_75 P, oo_76 P, oo_77 P, oo_78 P, oo_79 P, oo_80 P, oo_81 P, oo_82 P, oo_83 P, oo_84 P, oo_85 P, oo_86 P, oo_87 P, oo_88 P, oo_89 P, oo_90 P, oo_91 P, oo_92 P, oo_93 P, oo_94 P, oo_95 P, oo_96 P, oo_97 P, oo_98 P, oo_99 P, oo_100 P, oo_101 P, oo_102 P, oo_103 P, oo_104 P, oo_105 P, oo_106 P, oo_107 P, oo_108 P, oo_109 P, oo_110 P, oo_111 P, oo_112 P, oo_113 P, oo_114 P, oo_115 P, oo_116 P, oo_117 P, oo_118 P, oo_119 P, oo_120 P, oo_121 P, oo_122 P, oo_123 P, oo_124 P, oo_125 P, oo_126 P, oo_127 P, oo_128 P, oo_129 P, oo_130 P, oo_131 P, oo_132 P, oo_133 P, oo_134 P, oo_135 P, oo_136 P, oo_137 P, oo_138 P, oo_139 P, oo_140 P, oo_141 P, oo_142 P, oo_143 P, oo_144 P, oo_145 P, oo_146 P, oo_147 P, oo_148 P, oo_149 P, oo_150 P, oo_151 P, oo_152 P, oo_153 P, oo_154 P, oo_155 P, oo_156 P, oo_157 P, oo_158 P, oo_159 P, oo_160 P, oo_161 P, oo_162 P, oo_163 P, oo_164 P, oo_165 P, oo_166 P, oo_167 P, oo_168 P, oo_169 P, oo_170 P, oo_171 P]⟩, {}⟩ 
end N
end Mine
end

section
open PySem PySem.W PyProof.Rows PySem.Calls
set_option Elab.async false
set_option maxRecDepth 100000
namespace Mine.N
/-- what the opening leaves -/
theorem op (w : World) : (fencedOpening treeTable pr w 4600).map (fun s => (s.heap, s.gens, s.drawn, s.toks)) = some (H0 w.params, #[], {}, 276) := by
  show ((importEnds treeTable (opening pr) w 4600 (start (opening pr)).1 (start (opening pr)).2).bind (fenceModules? pr)).map _ = _
  rw [PySem.W.Fast.te10274390034422433532, PySem.W.Fast.te14289696077712309145, PySem.W.Fast.te1435165496053646825, PySem.W.Fast.te14364793385576792824]
  kernel_rfl
end Mine.N
end

section
open PySem PySem.W PyProof.Rows PySem.Calls
set_option Elab.async false
set_option maxRecDepth 100000
namespace Mine
/-- the law's view: the module's row and the law's own def -/
noncomputable abbrev vw : Program := view pr [0, 42]
/-- the names that the view leaves loose -/
abbrev lo : List Str := ["IPV4_RE", "is_HDN", "liberal_is_HDN", "user_domain_match", "reach", "_twin_re_1", "_special_chars_map", "escape", "_translate", "S_IFMT", "S_IFDIR", "S_IFCHR", "S_IFBLK", "S_IFREG", "S_IFIFO", "S_IFLNK", "S_IFSOCK", "S_ISUID", "S_ISGID", "S_ISVTX", "S_IRUSR", "S_IWUSR", "S_IXUSR", "S_IRGRP", "S_IWGRP", "S_IXGRP", "S_IROTH", "S_IWOTH", "S_IXOTH", "_filemode_table", "filemode", "_law_labels", "_law_reach", "_law_ends", "_law_takes", "_law_listed"].map Str.ofString
noncomputable abbrev hk : Hook := kHook KK KA (fun _ => rfl)
end Mine
end

section
open PySem PySem.W PyProof.Rows PySem.Calls
set_option Elab.async false
set_option maxRecDepth 100000
namespace Mine.N
/-! the run of the top, cut where its comprehension stands -/
noncomputable abbrev bE : List Stmt := behindTheImports pr
abbrev q0 : Pos := ⟨0, 0, 0, 0⟩
abbrev q8 : Pos := { line := 38, col := 0, endLine := 38, endCol := 8 }
abbrev q9 : Pos := { line := 39, col := 0, endLine := 39, endCol := 18 }
abbrev qm : Pos := { line := 172, col := 0, endLine := 186, endCol := 130 }
noncomputable abbrev ev : Env := { scope := pr.main.scope, locals := mainNs, globals := mainNs, cells := [], code := .ref 30, frame := some 31 }
noncomputable abbrev cE : Code := .body bE ev
abbrev an : Option Value := some (.ref 6)
noncomputable abbrev sh (H : Params → Heap) (k : Nat) (w : World) (os : OsState) : Shared := ⟨H w.params, #[], {}, k, os⟩
theorem r0 (w : World) (os : OsState) : topGo treeTable pr w 28 an 12 (sh H0 276 w os) (topStub pr) = some (sh Ha 282 w os, ⟨denote treeTable cE, cE, q0, [topFrame q0]⟩) := by
  rw [PySem.W.Fast.te15667345088766844465, PySem.W.Fast.te14364793385576792824, PySem.W.Fast.te11892475500146522536]
  kernel_rfl
theorem rb (w : World) (os : OsState) : segRun treeTable pr w 28 an 1 1 (sh Ha 282 w os) (blockOf bE ev cE q0 [topFrame q0]) = some (.next, sh Ha 282 w os, cE, q0) := by
  rw [PySem.W.Fast.te14374325043358763698]
  kernel_rfl
theorem r1 (w : World) (os : OsState) : segRun treeTable pr w 28 an 1 293 (sh Ha 282 w os) (piecesOf (bE.take 8) ev cE q0 [topFrame q0]) = some (.next, sh H8 386 w os, cE, q8) := by
  unfold piecesOf
  rw [PySem.W.Fast.te14374325043358763698, PySem.W.Fast.te14364793385576792824, PySem.W.Fast.te12563942051412417395]
  kernel_rfl
theorem r3 (w : World) (os : OsState) : segRun treeTable pr w 28 an 1 666 (sh H9 532 w os) (piecesOf (bE.drop 9) ev cE q9 [topFrame q0]) = some (.next, sh H1 694 w os, cE, qm) := by
  unfold piecesOf
  rw [PySem.W.Fast.te14374325043358763698, PySem.W.Fast.te14364793385576792824, PySem.W.Fast.te12563942051412417395]
  kernel_rfl
theorem rf (w : World) (os : OsState) : topRun treeTable pr w 28 an 2 (sh H1 694 w os) ⟨doneF .next, cE, qm, [topFrame q0]⟩ = some (sh H1 694 w os) := by
  rw [PySem.W.Fast.te14082659384304107361, PySem.W.Fast.te14364793385576792824]
  kernel_rfl
end Mine.N
end

section
open PySem PySem.W PyProof.Rows PySem.Calls
set_option Elab.async false
set_option maxRecDepth 100000
namespace Mine.N
/-! the comprehension, in each of the four ways of the world's two rows -/
abbrev two (w : World) : Prop := (fun os => segRun treeTable pr w 28 an 1 1600 (sh H8 386 w os) (piecesOf ((bE.drop 8).take 1) ev cE q8 [topFrame q0])) = fun os => some (.next, sh H9 532 w os, cE, q9)
theorem two_ff (w : World) : two ((w.withFollow "special-get-raises" false).withFollow "comprehension-iter-twice" false) := by
  unfold two piecesOf
  rw [PySem.W.Fast.te14374325043358763698, PySem.W.Fast.te14364793385576792824, PySem.W.Fast.te12563942051412417395]
  kernel_rfl
theorem two_ft (w : World) : two ((w.withFollow "special-get-raises" false).withFollow "comprehension-iter-twice" true) := by
  unfold two piecesOf
  rw [PySem.W.Fast.te14374325043358763698, PySem.W.Fast.te14364793385576792824, PySem.W.Fast.te12563942051412417395]
  kernel_rfl
theorem two_tf (w : World) : two ((w.withFollow "special-get-raises" true).withFollow "comprehension-iter-twice" false) := by
  unfold two piecesOf
  rw [PySem.W.Fast.te14374325043358763698, PySem.W.Fast.te14364793385576792824, PySem.W.Fast.te12563942051412417395]
  kernel_rfl
theorem two_tt (w : World) : two ((w.withFollow "special-get-raises" true).withFollow "comprehension-iter-twice" true) := by
  unfold two piecesOf
  rw [PySem.W.Fast.te14374325043358763698, PySem.W.Fast.te14364793385576792824, PySem.W.Fast.te12563942051412417395]
  kernel_rfl
theorem two_all (w : World) : two w := byRow2 "comprehension-iter-twice" (byRow2 "special-get-raises" two_ff two_tf) (byRow2 "special-get-raises" two_ft two_tt) w
end Mine.N
end

section
open PySem PySem.W PyProof.Rows PySem.Calls
set_option Elab.async false
set_option maxRecDepth 100000
namespace Mine.N
theorem cut (l : List Stmt) : l = l.take 8 ++ ((l.drop 8).take 1 ++ (l.drop 9 ++ [])) := by
  rw [List.append_nil, show l.drop 9 = (l.drop 8).drop 1 by rw [List.drop_drop], List.take_append_drop, List.take_append_drop]
theorem run (w : World) (os : OsState) : topRun treeTable pr w 28 an (12 + (1 + (293 + (1600 + (666 + 2))))) (sh H0 276 w os) (topStub pr) = some (sh H1 694 w os) := by
  refine go_top (r0 w os) (piece_block (rb w os) ?_)
  rw [cut bE]
  exact piece_app (r1 w os) (piece_app (congrFun (two_all w) os) (piece_app (r3 w os) (piece_nil (rf w os))))
theorem size (w : World) : ((H0 w.params).isNs mainGlobals && (#[] : Array GenState).size == 0, (H0 w.params).objs.size, (H0 w.params).nsMap mainGlobals "__annotations__") = (true, 28, an) := by
  kernel_rfl
theorem l1 (w : World) (os : OsState) : (staticsOk (importedModules pr.main.body) (H0 w.params) (H1 w.params) && namesBound pr (H1 w.params) && gensDone (sh H1 694 w os) && laidKept (H0 w.params) (H1 w.params)) = true := by
  kernel_rfl
theorem l2 (w : World) (os : OsState) : openSeen vw lo (importedModules pr.main.body) (fun s => xlAt vw [] s && recOk [] s) true (sh H1 694 w os) = openGood vw lo := by
  rw [PySem.W.Fast.te4187177175401517315]
  kernel_rfl
theorem l3 (w : World) (os : OsState) : hk.obs (sh H1 694 w os) = hk.val w := by
  kernel_rfl
theorem hl : LeftO pr vw lo (fun s => xlAt vw [] s && recOk [] s) hk.obs hk.val 4600 :=
  LeftO.of_pieces (H₀ := H0) (H₁ := H1) (gs₀ := #[]) (gs₁ := #[]) (d₀ := {}) (d₁ := {}) (k₀ := 276) (k₁ := 694) (m₀ := 28) (ann := an) op size run (by decide)
    fun w => funext fun os => Prod.ext (l1 w os) (Prod.ext (l2 w os) (l3 w os))
end Mine.N
end

section
open PySem PySem.W PyProof.Rows PySem.Calls
set_option Elab.async false
set_option maxRecDepth 100000
namespace Mine
theorem hd {d : DefRec} {kwd : List (Str × PySem.Expr)} (hdef : defOf vw (Str.ofString "law") = some (d, kwd)) (hp : pr.theDef (Str.ofString "law") = some (d.params, d.body, d.scope)) (hk' : kwWritten? d.params.kwonlyargs d.params.kw_defaults = some kwd)
    (walk : WalkO vw lo (XL vw []) hk.says PySem.Challenge.rw_qw0021_01.row.toRowW d kwd fun f vs => PySem.call f vs) : PySem.Challenge.rw_qw0021_01.Holds := by
  w_on
  o_law
  refine holds_open (q := vw) (loose := lo) (Xt := fun s => xlAt vw [] s && recOk [] s) (XP := XL vw []) (Yf := hk.obs) (Ya := hk.val) (YP := hk.says) (N := 4600) N.hl hk.of hk.keeps (fun s e => xl_of s (Bool.and_eq_true_iff.mp e).1) XL.keeps hdef hp hk'
    (fun s e => recFacts_of (Bool.and_eq_true_iff.mp e).2) rfl (by first | assumption | decide +kernel) (by decide +kernel) ⟨rfl, rfl, rfl, rfl, rfl, by decide +kernel⟩ ?hw walk
  case hw => w_witness2
end Mine
end

section
open PySem PySem.W PyProof.Rows PySem.Calls PySem.Spec
set_option Elab.async false
namespace Mine

/-! ## the visible part of the heap, and data read in it -/
abbrev G := Addr → Option Obj
def Sub (g : G) (h : Heap) : Prop := ∀ a o, g a = some o → h.get? a = some o
abbrev Ext (h h' : Heap) : Prop := ∀ b o, h.get? b = some o → h'.get? b = some o

structure Grow (g : G) (h : Heap) (g' : G) (h' : Heap) : Prop where
  le : ∀ a o, g a = some o → g' a = some o
  sub : Sub g' h'
  new : ∀ a o, g' a = some o → g a = some o ∨ h.get? a = none
  keep : Ext h h'

theorem Grow.refl {g : G} {h : Heap} (s : Sub g h) : Grow g h g h := ⟨fun _ _ e => e, s, fun _ _ e => .inl e, fun _ _ e => e⟩
theorem Grow.heap {g : G} {h h' : Heap} (s : Sub g h) (k : Ext h h') : Grow g h g h' := ⟨fun _ _ e => e, fun a o e => k a o (s a o e), fun _ _ e => .inl e, k⟩
theorem Grow.trans {g g' g'' : G} {h h' h'' : Heap} (a : Grow g h g' h') (b : Grow g' h' g'' h'') : Grow g h g'' h'' where
  le := fun x o e => b.le x o (a.le x o e)
  sub := b.sub
  new := fun x o e => (b.new x o e).elim (fun q => a.new x o q) fun q => .inr (by
    cases r : h.get? x with
    | none => rfl
    | some o' => rw [a.keep x o' r] at q; cases q)
  keep := fun x o e => b.keep x o (a.keep x o e)
theorem Grow.hid {g g' : G} {h h' : Heap} (a : Grow g h g' h') {x : Addr} {o : Obj} (hx : h.get? x = some o) (hg : g x = none) : g' x = none := by
  cases q : g' x with
  | none => rfl
  | some o' => rcases a.new x o' q with r | r
               · rw [hg] at r; cases r
               · rw [hx] at r; cases r

/-- one more object is shown -/
def put (g : G) (x : Addr) (o : Obj) : G := fun a => if a = x then some o else g a
theorem put_self {g : G} {x : Addr} {o : Obj} : put g x o x = some o := by simp [put]
theorem put_ne {g : G} {x a : Addr} {o : Obj} (h : a ≠ x) : put g x o a = g a := by simp [put, h]
theorem Grow.put {g : G} {h h' : Heap} {x : Addr} {o : Obj} (s : Sub g h) (k : Ext h h') (hn : h.get? x = none) (hx : h'.get? x = some o) : Grow g h (put g x o) h' where
  le := fun a o' e => by
    have : a ≠ x := fun q => by rw [q] at e; rw [s x o' e] at hn; cases hn
    rw [put_ne this]; exact e
  sub := fun a o' e => by
    by_cases q : a = x
    · subst q; rw [put_self] at e; cases e; exact hx
    · rw [put_ne q] at e; exact k a o' (s a o' e)
  new := fun a o' e => by
    by_cases q : a = x
    · subst q; exact .inr hn
    · rw [put_ne q] at e; exact .inl e
  keep := k

mutual
inductive R (g : G) : Value → PyData → Prop
  | none : R g .none .none
  | bool (b) : R g (.bool b) (.bool b)
  | int (i t) : R g (.int i t) (.int i)
  | str (x t) : R g (.str x t) (.str x)
  | list {a vs n ds} : g a = some { cls := .type "list", data := .seq vs n } → RL g vs.toList ds → R g (.ref a) (.list ds)
inductive RL (g : G) : List Value → List PyData → Prop
  | nil : RL g [] []
  | cons {v vs d ds} : R g v d → RL g vs ds → RL g (v :: vs) (d :: ds)
end
mutual
theorem R.mono {g g' : G} (le : ∀ a o, g a = some o → g' a = some o) : ∀ {v d}, R g v d → R g' v d
  | _, _, .none => .none
  | _, _, .bool b => .bool b
  | _, _, .int i t => .int i t
  | _, _, .str x t => .str x t
  | _, _, .list h l => .list (le _ _ h) (RL.mono le l)
theorem RL.mono {g g' : G} (le : ∀ a o, g a = some o → g' a = some o) : ∀ {vs ds}, RL g vs ds → RL g' vs ds
  | _, _, .nil => .nil
  | _, _, .cons a b => .cons (R.mono le a) (RL.mono le b)
end
mutual
theorem R.reads {g : G} {h : Heap} (s : Sub g h) : ∀ {v d}, R g v d → ∃ as, Reads h v d as
  | _, _, .none => ⟨_, .none⟩
  | _, _, .bool b => ⟨_, .bool b⟩
  | _, _, .int i t => ⟨_, .int i t⟩
  | _, _, .str x t => ⟨_, .str x t⟩
  | _, _, .list e l => let ⟨_, r⟩ := RL.reads s l; ⟨_, .list (s _ _ e) rfl rfl r⟩
theorem RL.reads {g : G} {h : Heap} (s : Sub g h) : ∀ {vs ds}, RL g vs ds → ∃ as, ReadsAll h vs ds as
  | _, _, .nil => ⟨_, .nil⟩
  | _, _, .cons a b => let ⟨_, r⟩ := R.reads s a; let ⟨_, q⟩ := RL.reads s b; ⟨_, .cons r q⟩
end
theorem R.up {g g' : G} {h h' : Heap} {v : Value} {d : PyData} (r : R g v d) (w : Grow g h g' h') : R g' v d := r.mono w.le
theorem RL.up {g g' : G} {h h' : Heap} {v : List Value} {d : List PyData} (r : RL g v d) (w : Grow g h g' h') : RL g' v d := r.mono w.le
theorem RL.length {g : G} : ∀ {vs : List Value} {ds : List PyData}, RL g vs ds → vs.length = ds.length
  | _, _, .nil => rfl
  | _, _, .cons _ b => by simp [RL.length b]
theorem RL.append {g : G} : ∀ {vs ws : List Value} {ds es : List PyData}, RL g vs ds → RL g ws es → RL g (vs ++ ws) (ds ++ es)
  | _, _, _, _, .nil, y => y
  | _, _, _, _, .cons a b, y => .cons a (RL.append b y)
theorem RL.take {g : G} : ∀ (n : Nat) {vs : List Value} {ds : List PyData}, RL g vs ds → RL g (vs.take n) (ds.take n)
  | 0, _, _, _ => by simpa using RL.nil
  | _ + 1, _, _, .nil => by simpa using RL.nil
  | n + 1, _, _, .cons a b => by simpa using RL.cons a (RL.take n b)
theorem RL.drop {g : G} : ∀ (n : Nat) {vs : List Value} {ds : List PyData}, RL g vs ds → RL g (vs.drop n) (ds.drop n)
  | 0, _, _, x => by simpa using x
  | _ + 1, _, _, .nil => by simpa using RL.nil
  | n + 1, _, _, .cons _ b => by simpa using RL.drop n b
theorem RL.get {g : G} : ∀ {vs : List Value} {ds : List PyData}, RL g vs ds → ∀ {i : Nat} {v : Value}, vs[i]? = some v → ∃ d, ds[i]? = some d ∧ R g v d
  | _, _, .nil, _, _, e => by simp at e
  | _, _, .cons a b, 0, _, e => by simp at e; subst e; exact ⟨_, rfl, a⟩
  | _, _, .cons _ b, i + 1, _, e => by simpa using RL.get b (i := i) (by simpa using e)
theorem RL.at {g : G} : ∀ {vs : List Value} {ds : List PyData}, RL g vs ds → ∀ {i : Nat} {d : PyData}, ds[i]? = some d → ∃ v, vs[i]? = some v ∧ R g v d
  | _, _, .nil, _, _, e => by simp at e
  | _, _, .cons a b, 0, _, e => by simp at e; subst e; exact ⟨_, rfl, a⟩
  | _, _, .cons _ b, i + 1, _, e => by simpa using RL.at b (i := i) (by simpa using e)
theorem R.lst {g : G} {v : Value} {ds : List PyData} (r : R g v (.list ds)) : ∃ a vs n, v = .ref a ∧ RL g vs ds ∧ g a = some { cls := .type "list", data := .seq vs.toArray n } := by
  cases r with
  | list e l => exact ⟨_, _, _, rfl, l, by rw [Array.toArray_toList]; exact e⟩
theorem R.isList {g : G} {h : Heap} {v : Value} {ds : List PyData} (r : R g v (.list ds)) (s : Sub g h) : ∃ a vs, v = .ref a ∧ RL g vs ds ∧ h.IsList a vs.toArray := by
  obtain ⟨a, vs, n, e, l, h1⟩ := r.lst
  exact ⟨a, vs, e, l, _, s _ _ h1, rfl, n, rfl⟩
theorem R.int_inv {g : G} {v : Value} {i : Int} (r : R g v (.int i)) : ∃ t, v = .int i t := by cases r; exact ⟨_, rfl⟩
theorem R.str_inv {g : G} {v : Value} {x : Str} (r : R g v (.str x)) : ∃ t, v = .str x t := by cases r; exact ⟨_, rfl⟩
theorem R.bool_inv {g : G} {v : Value} {b : Bool} (r : R g v (.bool b)) : v = .bool b := by cases r; rfl
theorem R.none_inv {g : G} {v : Value} (r : R g v .none) : v = .none := by cases r; rfl

/-! ## judgements -/
structure TopOk (K : Frag) (h : Heap) : Prop where
  k : K.In h
  t : ∃ p loose mean mg mb, Top p loose mean mg mb h
theorem TopOk.up {K : Frag} {h h' : Heap} (t : TopOk K h) (e : Ext h h') : TopOk K h' :=
  ⟨fun a o q => e a o (t.k a o q), let ⟨p, l, m, mg, mb, T⟩ := t.t; ⟨p, l, m, mg, mb, T.keeps e⟩⟩

def Good (n : Nat) (A : Around) : Prop := A.handled = none ∧ A.depth + n < 900 ∧ A.units + 3 * n < 9000
theorem Good.deeper {n : Nat} {A : Around} (g : Good (n + 1) A) (env : Env) : Good n (A.deeper env) :=
  ⟨g.1, by have := g.2.1; show A.depth + 1 + n < 900; omega, by have := g.2.2; show A.units + 3 + 3 * n < 9000; omega⟩

theorem keeps_refl (s : Shared) : Keeps s s := ⟨s.heap, s.toks, rfl, fun _ _ e => e⟩
theorem keeps_tok (s : Shared) (t : Nat) : Keeps s { s with toks := t } := ⟨s.heap, t, rfl, fun _ _ e => e⟩
theorem keeps_trans {a b c : Shared} (x : Keeps a b) (y : Keeps b c) : Keeps a c := by
  obtain ⟨h, t, rfl, k⟩ := x
  obtain ⟨h', t', rfl, k'⟩ := y
  exact ⟨h', t', rfl, fun p o e => k' p o (k p o e)⟩
theorem keeps_ext {a b : Shared} (x : Keeps a b) : Ext a.heap b.heap := by
  obtain ⟨h, t, rfl, k⟩ := x
  exact k

/-- the tree ends in a value that reads as d; the heap has only grown -/
def Ev (prog : Program) (w : World) (A : Around) (s : Shared) (g : G) (t : Sem Value) (P : Value → G → Prop) (E : Value → Shared → Prop) : Prop :=
  wpAny (model prog w) A t (fun v s' => Keeps s s' ∧ ∃ g', Grow g s.heap g' s'.heap ∧ P v g') E s
/-- where Γ is so, e has the data d -/
def EvD (prog : Program) (w : World) (Γ : G → Heap → Prop) (n : Nat) (env : Env) (e : Expr) (d : PyData) : Prop :=
  ∀ A s g E, Good n A → Sub g s.heap → Γ g s.heap → Ev prog w A s g (eval e env) (fun v g' => R g' v d) E
/-- where Γ is so, e tests as b -/
def TsD (prog : Program) (w : World) (Γ : G → Heap → Prop) (n : Nat) (env : Env) (e : Expr) (b : Bool) : Prop :=
  ∀ A s g E, Good n A → Sub g s.heap → Γ g s.heap → wpAny (model prog w) A (isTrue e env (eval e env)) (fun v s' => v = b ∧ Keeps s s' ∧ ∃ g', Grow g s.heap g' s'.heap) E s
/-- the def at f hands back d for ds -/
def FnD (prog : Program) (w : World) (K : Frag) (n : Nat) (f : Addr) (ds : List PyData) (d : PyData) : Prop :=
  ∀ A s g vs E, Good n A → Sub g s.heap → TopOk K s.heap → RL g vs ds → Ev prog w A s g (call (.ref f) vs) (fun v g' => R g' v d) E
structure Mono (Γ : G → Heap → Prop) : Prop where
  up : ∀ {g h g' h'}, Grow g h g' h' → Γ g h → Γ g' h'

section
variable {prog : Program} {w : World} {A : Around} {s : Shared} {g : G} {E : Value → Shared → Prop}
theorem Ev.mono {t : Sem Value} {P P' : Value → G → Prop} (h : Ev prog w A s g t P E) (hp : ∀ v g', P v g' → P' v g') : Ev prog w A s g t P' E :=
  wpAny_mono h (fun _ _ ⟨a, g', b, c⟩ => ⟨a, g', b, hp _ _ c⟩) fun _ _ e => e
theorem Ev.pure {v : Value} {P : Value → G → Prop} (hs : Sub g s.heap) (h : P v g) : Ev prog w A s g (pure v) P E := wpAny_pure ⟨keeps_refl s, g, Grow.refl hs, h⟩
/-- first t, then what follows, from where t ends -/
theorem Ev.then {α : Type} {t : Sem Value} {P : Value → G → Prop} {Q : α → Shared → Prop} {f : Value → Sem α} (h : Ev prog w A s g t P E)
    (k : ∀ v s' g', Keeps s s' → Grow g s.heap g' s'.heap → P v g' → wpAny (model prog w) A (f v) Q E s') : wpAny (model prog w) A t (fun v s' => wpAny (model prog w) A (f v) Q E s') E s :=
  wpAny_mono h (fun v s' ⟨a, g', b, c⟩ => k v s' g' a b c) fun _ _ e => e
theorem Ev.from {s₀ : Shared} {g₀ : G} {t : Sem Value} {P : Value → G → Prop} (hk : Keeps s₀ s) (hg : Grow g₀ s₀.heap g s.heap) (h : Ev prog w A s g t P E) :
    wpAny (model prog w) A t (fun v s' => Keeps s₀ s' ∧ ∃ g', Grow g₀ s₀.heap g' s'.heap ∧ P v g') E s :=
  wpAny_mono h (fun _ _ ⟨a, g', b, c⟩ => ⟨keeps_trans hk a, g', hg.trans b, c⟩) fun _ _ e => e
end
end Mine
end

section
open PySem PySem.W PyProof.Rows PySem.Calls PySem.Spec
set_option Elab.async false
namespace Mine

structure Cx (K : Frag) (Γ : G → Heap → Prop) : Prop where
  up : ∀ {g h g' h'}, Grow g h g' h' → Γ g h → Γ g' h'
  top : ∀ {g h}, Γ g h → TopOk K h

theorem none_at_size (h : Heap) : h.get? h.objs.size = none := by
  cases e : h.get? h.objs.size with
  | none => rfl
  | some o => exact absurd (Heap.lt_size e) (Nat.lt_irrefl _)
theorem ext_push (h : Heap) (o : Obj) : Ext h (h.push o) := fun _ _ e => Heap.get?_push_of_some _ e

def BinD (prog : Program) (w : World) (n : Nat) (op : Operator) (d1 d2 d : PyData) : Prop :=
  ∀ A s g v1 v2 E, Good n A → Sub g s.heap → R g v1 d1 → R g v2 d2 → Ev prog w A s g (binaryOp op v1 v2) (fun v g' => R g' v d) E
def CmpD (prog : Program) (w : World) (n : Nat) (op : CmpOp) (d1 d2 : PyData) (b : Bool) : Prop :=
  ∀ A s g v1 v2 E, Good n A → Sub g s.heap → R g v1 d1 → R g v2 d2 → Ev prog w A s g (compareOp op v1 v2) (fun v _ => v = .bool b) E
def EvsD (prog : Program) (w : World) (Γ : G → Heap → Prop) (n : Nat) (env : Env) (es : List Expr) (ds : List PyData) : Prop :=
  ∀ A s g E pos, Good n A → Sub g s.heap → Γ g s.heap →
    wpAny (model prog w) A (spliced (backTo pos (starEach es env))) (fun vs s' => Keeps s s' ∧ ∃ g', Grow g s.heap g' s'.heap ∧ RL g' vs ds) E s
def TruthD (prog : Program) (w : World) (n : Nat) (d : PyData) (b : Bool) : Prop :=
  ∀ A s g v E, Good n A → Sub g s.heap → R g v d → wpAny (model prog w) A (truthy v) (fun c s' => c = b ∧ Keeps s s' ∧ ∃ g', Grow g s.heap g' s'.heap) E s

section
variable {prog : Program} {w : World} {K : Frag} {Γ : G → Heap → Prop} {n : Nat} {env : Env}

/-! variables -/
def VarIs (env : Env) (h : Heap) (x : Str) (v : Value) : Prop :=
  env.scope.kind = .function ∧ (x == ("__debug__" : Str)) = false ∧
  ((env.kindOf x = some .local ∧ ∃ m, h.Ns env.locals m ∧ m x = some v) ∨ (env.kindOf x = some .cell ∧ ∃ c, env.cells.lookup x = some c ∧ h.IsCell c (some v)))
theorem VarIs.up {h h' : Heap} {x : Str} {v : Value} (i : VarIs env h x v) (e : Ext h h') : VarIs env h' x v :=
  ⟨i.1, i.2.1, i.2.2.imp (fun ⟨a, m, b, c⟩ => ⟨a, m, b.keeps e, c⟩) fun ⟨a, c, b, d⟩ => ⟨a, c, b, d.keeps e⟩⟩
theorem ev_name {M : Model} {A : Around} {s : Shared} {E : Value → Shared → Prop} {x : Str} {pos : Pos} {v : Value} {Q : Value → Shared → Prop} (i : VarIs env s.heap x v) (h : Q v s) : wpAny M A (eval (.Name x pos) env) Q E s := by
  obtain ⟨hk, hd, ⟨hl, m, hn, hv⟩ | ⟨hl, c, hc, hv⟩⟩ := i
  · exact wpAny_Name (wpAny_loadName_local hk hl hn hv h) hd
  · exact wpAny_Name (wpAny_loadName_cell hk hl hc hv h) hd
/-- a name of the block's own holds d -/
def VD (Γ : G → Heap → Prop) (env : Env) (x : Str) (d : PyData) : Prop := ∀ g h, Γ g h → ∃ v, VarIs env h x v ∧ R g v d
theorem EvD.name {x : Str} {pos : Pos} {d : PyData} (i : VD Γ env x d) : EvD prog w Γ n env (.Name x pos) d := fun A s g E _ hs hΓ =>
  let ⟨_, a, b⟩ := i g s.heap hΓ
  ev_name a ⟨keeps_refl s, g, Grow.refl hs, b⟩
theorem EvD.int {i : Int} {k : Nat} {pos : Pos} : EvD prog w Γ n env (.Constant (.int i) k pos) (.int i) := fun _ s g _ _ hs _ =>
  wpAny_Constant_int ⟨keeps_tok s _, g, Grow.refl hs, .int _ _⟩
theorem EvD.str {x : Str} {k : Nat} {pos : Pos} : EvD prog w Γ n env (.Constant (.str x) k pos) (.str x) := fun _ s g _ _ hs _ =>
  wpAny_Constant_str ⟨keeps_tok s _, g, Grow.refl hs, .str _ _⟩
theorem EvD.cnone {k : Nat} {pos : Pos} : EvD prog w Γ n env (.Constant .none k pos) .none := fun _ s g _ _ hs _ =>
  wpAny_Constant_none ⟨keeps_refl s, g, Grow.refl hs, .none⟩
theorem EvD.bool {b : Bool} {k : Nat} {pos : Pos} : EvD prog w Γ n env (.Constant (.bool b) k pos) (.bool b) := fun _ s g _ _ hs _ =>
  wpAny_Constant_bool ⟨keeps_refl s, g, Grow.refl hs, .bool b⟩

/-! two parts, one behind the other -/
theorem two {A : Around} {s : Shared} {g : G} {E : Value → Shared → Prop} {l r : Expr} {d1 d2 : PyData} {α : Type} {Q : α → Shared → Prop} {f : Value → Value → Sem α} (cx : Cx K Γ)
    (h1 : EvD prog w Γ n env l d1) (h2 : EvD prog w Γ n env r d2) (hA : Good n A) (hs : Sub g s.heap) (hΓ : Γ g s.heap)
    (h : ∀ v1 v2 s' g', Keeps s s' → Grow g s.heap g' s'.heap → R g' v1 d1 → R g' v2 d2 → wpAny (model prog w) A (f v1 v2) Q E s') :
    wpAny (model prog w) A (eval l env) (fun a s₁ => wpAny (model prog w) A (eval r env) (fun b s₂ => wpAny (model prog w) A (f a b) Q E s₂) E s₁) E s :=
  wpAny_mono (h1 A s g E hA hs hΓ) (fun v1 s₁ ⟨k1, g1, w1, r1⟩ => wpAny_mono (h2 A s₁ g1 E hA w1.sub (cx.up w1 hΓ)) (fun v2 s₂ ⟨k2, g2, w2, r2⟩ =>
    h v1 v2 s₂ g2 (keeps_trans k1 k2) (w1.trans w2) (r1.up w2) r2) fun _ _ e => e) fun _ _ e => e
theorem EvD.bin {l r : Expr} {op : Operator} {pos : Pos} {d1 d2 d : PyData} (cx : Cx K Γ) (h1 : EvD prog w Γ n env l d1) (h2 : EvD prog w Γ n env r d2) (h : BinD prog w n op d1 d2 d) :
    EvD prog w Γ n env (.BinOp l op r pos) d := fun A s g E hA hs hΓ =>
  wpAny_BinOp (two cx h1 h2 hA hs hΓ fun v1 v2 s' g' hk hg r1 r2 => (h A s' g' v1 v2 E hA hg.sub r1 r2).from hk hg)
theorem EvD.cmp {l r : Expr} {op : CmpOp} {pos : Pos} {d1 d2 : PyData} {b : Bool} (cx : Cx K Γ) (h1 : EvD prog w Γ n env l d1) (h2 : EvD prog w Γ n env r d2) (h : CmpD prog w n op d1 d2 b)
    (hm : behindInMarks op r = false) : EvD prog w Γ n env (.Compare l [op] [r] pos) (.bool b) := fun A s g E hA hs hΓ =>
  wpAny_Compare1 (two cx h1 h2 hA hs hΓ fun v1 v2 s' g' hk hg r1 r2 => ((h A s' g' v1 v2 E hA hg.sub r1 r2).mono fun v g' e => by rw [e]; exact R.bool b).from hk hg) hm
theorem TsD.cmp {l r : Expr} {op : CmpOp} {pos : Pos} {d1 d2 : PyData} {b : Bool} (cx : Cx K Γ) (h1 : EvD prog w Γ n env l d1) (h2 : EvD prog w Γ n env r d2) (h : CmpD prog w n op d1 d2 b)
    (hm : behindInMarks op r = false) : TsD prog w Γ n env (.Compare l [op] [r] pos) b := fun A s g E hA hs hΓ =>
  wpAny_isTrue_Compare1 (two cx h1 h2 hA hs hΓ fun v1 v2 s' g' hk hg r1 r2 => wpAny_mono (h A s' g' v1 v2 E hA hg.sub r1 r2) (fun v s₂ ⟨k2, g2, w2, e⟩ => by
    subst e; exact wpAny_truthy_bool ⟨rfl, keeps_trans hk k2, g2, hg.trans w2⟩) fun _ _ e => e) hm
theorem TsD.value {e : Expr} {d : PyData} {b : Bool} (h1 : EvD prog w Γ n env e d) (h : TruthD prog w n d b)
    (he : isTrue e env (eval e env) = (do let v ← eval e env; standAt e.pos; holding [v] (truthy v))) : TsD prog w Γ n env e b := fun A s g E hA hs hΓ =>
  wpAny_isTrue_value (wpAny_mono (h1 A s g E hA hs hΓ) (fun v s₁ ⟨k1, g1, w1, r1⟩ => wpAny_mono (h A s₁ g1 v E hA w1.sub r1) (fun _ _ ⟨e, k2, g2, w2⟩ => ⟨e, keeps_trans k1 k2, g2, w1.trans w2⟩) fun _ _ e => e) fun _ _ e => e) he
theorem TsD.not {e : Expr} {pos : Pos} {b : Bool} (h : TsD prog w Γ n env e b) : TsD prog w Γ n env (.UnaryOp .Not e pos) (!b) := fun A s g E hA hs hΓ =>
  wpAny_isTrue_Not (wpAny_mono (h A s g E hA hs hΓ) (fun _ _ ⟨e, k, g', w⟩ => ⟨by rw [e], k, g', w⟩) fun _ _ e => e)
def AllT (prog : Program) (w : World) (Γ : G → Heap → Prop) (n : Nat) (env : Env) (op : BoolOp) (es : List Expr) (b : Bool) : Prop :=
  ∀ A s g E, Good n A → Sub g s.heap → Γ g s.heap → wpAny (model prog w) A (allTrue op es env) (fun v s' => v = b ∧ Keeps s s' ∧ ∃ g', Grow g s.heap g' s'.heap) E s
theorem TsD.boolop {op : BoolOp} {es : List Expr} {pos : Pos} {b : Bool} (h : AllT prog w Γ n env op es b) : TsD prog w Γ n env (.BoolOp op es pos) b := fun A s g E hA hs hΓ => wpAny_isTrue_BoolOp (h A s g E hA hs hΓ)
theorem AllT.andNil : AllT prog w Γ n env .And [] true := fun _ s g _ _ hs _ => wpAny_allTrue_And_nil ⟨rfl, keeps_refl s, g, Grow.refl hs⟩
theorem AllT.orNil : AllT prog w Γ n env .Or [] false := fun _ s g _ _ hs _ => wpAny_allTrue_Or_nil ⟨rfl, keeps_refl s, g, Grow.refl hs⟩
theorem AllT.and {e : Expr} {es : List Expr} {b c : Bool} (cx : Cx K Γ) (h1 : TsD prog w Γ n env e b) (h2 : b = true → AllT prog w Γ n env .And es c) : AllT prog w Γ n env .And (e :: es) (b && c) := fun A s g E hA hs hΓ =>
  wpAny_allTrue_And_cons (wpAny_mono (h1 A s g E hA hs hΓ) (fun v s₁ ⟨e, k, g', w⟩ => by
    subst e
    cases v with
    | true => exact wpAny_mono (h2 rfl A s₁ g' E hA w.sub (cx.up w hΓ)) (fun _ _ ⟨e2, k2, g2, w2⟩ => ⟨by rw [e2]; rfl, keeps_trans k k2, g2, w.trans w2⟩) fun _ _ e => e
    | false => exact ⟨rfl, k, g', w⟩) fun _ _ e => e)
theorem AllT.or {e : Expr} {es : List Expr} {b c : Bool} (cx : Cx K Γ) (h1 : TsD prog w Γ n env e b) (h2 : b = false → AllT prog w Γ n env .Or es c) : AllT prog w Γ n env .Or (e :: es) (b || c) := fun A s g E hA hs hΓ =>
  wpAny_allTrue_Or_cons (wpAny_mono (h1 A s g E hA hs hΓ) (fun v s₁ ⟨e, k, g', w⟩ => by
    subst e
    cases v with
    | false => exact wpAny_mono (h2 rfl A s₁ g' E hA w.sub (cx.up w hΓ)) (fun _ _ ⟨e2, k2, g2, w2⟩ => ⟨by rw [e2]; rfl, keeps_trans k k2, g2, w.trans w2⟩) fun _ _ e => e
    | true => exact ⟨rfl, k, g', w⟩) fun _ _ e => e)
theorem EvD.and {x y : Expr} {pos : Pos} {b c : Bool} (cx : Cx K Γ) (h1 : EvD prog w Γ n env x (.bool b)) (h2 : b = true → EvD prog w Γ n env y (.bool c)) : EvD prog w Γ n env (.BoolOp .And [x, y] pos) (.bool (b && c)) := fun A s g E hA hs hΓ =>
  wpAny_And2 (wpAny_mono (h1 A s g E hA hs hΓ) (fun v s₁ ⟨k, g', w, r⟩ => by
    cases r.bool_inv
    refine wpAny_truthy_bool ?_
    cases b with
    | true => exact (h2 rfl A s₁ g' E hA w.sub (cx.up w hΓ)).from k w
    | false => exact ⟨k, g', w, .bool false⟩) fun _ _ e => e)
theorem EvD.or {x y : Expr} {pos : Pos} {b c : Bool} (cx : Cx K Γ) (h1 : EvD prog w Γ n env x (.bool b)) (h2 : b = false → EvD prog w Γ n env y (.bool c)) : EvD prog w Γ n env (.BoolOp .Or [x, y] pos) (.bool (b || c)) := fun A s g E hA hs hΓ =>
  wpAny_Or2 (wpAny_mono (h1 A s g E hA hs hΓ) (fun v s₁ ⟨k, g', w, r⟩ => by
    cases r.bool_inv
    refine wpAny_truthy_bool ?_
    cases b with
    | false => exact (h2 rfl A s₁ g' E hA w.sub (cx.up w hΓ)).from k w
    | true => exact ⟨k, g', w, .bool true⟩) fun _ _ e => e)
theorem EvD.ite {t x y : Expr} {pos : Pos} {b : Bool} {d1 d2 : PyData} (cx : Cx K Γ) (ht : TsD prog w Γ n env t b) (h1 : b = true → EvD prog w Γ n env x d1) (h2 : b = false → EvD prog w Γ n env y d2) :
    EvD prog w Γ n env (.IfExp t x y pos) (if b then d1 else d2) := fun A s g E hA hs hΓ =>
  wpAny_IfExp (wpAny_mono (ht A s g E hA hs hΓ) (fun v s₁ ⟨e, k, g', w⟩ => by
    subst e
    cases v with
    | true => exact (h1 rfl A s₁ g' E hA w.sub (cx.up w hΓ)).from k w
    | false => exact (h2 rfl A s₁ g' E hA w.sub (cx.up w hΓ)).from k w) fun _ _ e => e)

/-! lists and arguments -/
theorem EvsD.nil : EvsD prog w Γ n env [] [] := fun _ s g _ _ _ hs _ => wpAny_items_nil ⟨keeps_refl s, g, Grow.refl hs, .nil⟩
theorem EvsD.cons {e : Expr} {es : List Expr} {d : PyData} {ds : List PyData} (cx : Cx K Γ) (h1 : EvD prog w Γ n env e d) (h2 : EvsD prog w Γ n env es ds)
    (he : starEach (e :: es) env = (false, eval e env) :: starEach es env) : EvsD prog w Γ n env (e :: es) (d :: ds) := fun A s g E pos hA hs hΓ =>
  wpAny_items_cons (wpAny_mono (h1 A s g E hA hs hΓ) (fun v s₁ ⟨k1, g1, w1, r1⟩ => wpAny_mono (h2 A s₁ g1 E pos hA w1.sub (cx.up w1 hΓ)) (fun vs s₂ ⟨k2, g2, w2, r2⟩ =>
    ⟨keeps_trans k1 k2, g2, w1.trans w2, .cons (r1.up w2) r2⟩) fun _ _ e => e) fun _ _ e => e) he
theorem ev_newList {A : Around} {s : Shared} {g : G} {E : Value → Shared → Prop} {vs : List Value} {ds : List PyData} (hs : Sub g s.heap) (r : RL g vs ds) (hl : ds.length ≤ sizeLine) :
    Keeps s { s with heap := s.heap.push { cls := .type "list", data := .seq vs.toArray } } ∧ ∃ g', Grow g s.heap g' (s.heap.push { cls := .type "list", data := .seq vs.toArray }) ∧ R g' (.ref s.heap.objs.size) (.list ds) := by
  have gr := Grow.put (h' := s.heap.push { cls := .type "list", data := .seq vs.toArray }) hs (ext_push _ _) (none_at_size _) (Heap.get?_push_size _ rfl)
  exact ⟨⟨_, s.toks, rfl, ext_push _ _⟩, _, gr, .list put_self (r.up gr)⟩
theorem EvD.list {es : List Expr} {pos : Pos} {ds : List PyData} (h : EvsD prog w Γ n env es ds) (hl : ds.length ≤ sizeLine) : EvD prog w Γ n env (.List es pos) (.list ds) := fun A s g E hA hs hΓ =>
  wpAny_List (wpAny_mono (h A s g E pos hA hs hΓ) (fun vs s₁ ⟨k, g', w', r⟩ => ⟨by rw [r.length]; exact hl, by
    obtain ⟨a, g2, b, c⟩ := ev_newList (A := A) (E := E) w'.sub r hl
    exact ⟨keeps_trans k a, g2, w'.trans b, c⟩⟩) fun _ _ e => e)

/-! ints -/
theorem BinD.add {a b : Int} : BinD prog w n .Add (.int a) (.int b) (.int (a + b)) := fun A s g v1 v2 E _ hs r1 r2 => by
  obtain ⟨t, rfl⟩ := r1.int_inv; obtain ⟨u, rfl⟩ := r2.int_inv
  exact PyProof.Rows.add_int ⟨keeps_tok s _, g, Grow.refl hs, .int _ _⟩
theorem BinD.sub {a b : Int} : BinD prog w n .Sub (.int a) (.int b) (.int (a - b)) := fun A s g v1 v2 E _ hs r1 r2 => by
  obtain ⟨t, rfl⟩ := r1.int_inv; obtain ⟨u, rfl⟩ := r2.int_inv
  exact PyProof.Rows.sub_int ⟨keeps_tok s _, g, Grow.refl hs, .int _ _⟩
theorem BinD.mod {a b : Int} (hb : b ≠ 0) : BinD prog w n .Mod (.int a) (.int b) (.int (a.fmod b)) := fun A s g v1 v2 E _ hs r1 r2 => by
  obtain ⟨t, rfl⟩ := r1.int_inv; obtain ⟨u, rfl⟩ := r2.int_inv
  exact PyProof.Rows.mod_int hb ⟨keeps_tok s _, g, Grow.refl hs, .int _ _⟩
theorem BinD.floordiv {a b : Int} (hb : b ≠ 0) (hs : b.natAbs < 1073741824) : BinD prog w n .FloorDiv (.int a) (.int b) (.int (a.fdiv b)) := fun A s g v1 v2 E _ hs' r1 r2 => by
  obtain ⟨t, rfl⟩ := r1.int_inv; obtain ⟨u, rfl⟩ := r2.int_inv
  exact PyProof.Rows.floordiv_int hb ⟨keeps_tok s _, g, Grow.refl hs', .int _ _⟩ (.inl (PyProof.noPylong_small hs))
theorem BinD.pow {a b : Int} (h0 : 0 ≤ b) (h1 : b ≤ 1000000) (h2 : a.natAbs < 2 ^ 64) : BinD prog w n .Pow (.int a) (.int b) (.int (a ^ b.toNat)) := fun A s g v1 v2 E _ hs r1 r2 => by
  obtain ⟨t, rfl⟩ := r1.int_inv; obtain ⟨u, rfl⟩ := r2.int_inv
  exact PyProof.Rows.pow_int_small h0 h1 h2 ⟨keeps_tok s _, g, Grow.refl hs, .int _ _⟩
theorem BinD.bor {a b : Int} : BinD prog w n .BitOr (.int a) (.int b) (.int (Builtin.bitOr a b)) := fun A s g v1 v2 E _ hs r1 r2 => by
  obtain ⟨t, rfl⟩ := r1.int_inv; obtain ⟨u, rfl⟩ := r2.int_inv
  exact PyProof.Rows.or_int ⟨keeps_tok s _, g, Grow.refl hs, .int _ _⟩
theorem BinD.band {a b : Int} : BinD prog w n .BitAnd (.int a) (.int b) (.int (Builtin.bitAnd a b)) := fun A s g v1 v2 E _ hs r1 r2 => by
  obtain ⟨t, rfl⟩ := r1.int_inv; obtain ⟨u, rfl⟩ := r2.int_inv
  exact PyProof.Rows.and_int ⟨keeps_tok s _, g, Grow.refl hs, .int _ _⟩
theorem CmpD.gt {a b : Int} : CmpD prog w n .Gt (.int a) (.int b) (decide (a > b)) := fun A s g v1 v2 E _ hs r1 r2 => by
  obtain ⟨t, rfl⟩ := r1.int_inv; obtain ⟨u, rfl⟩ := r2.int_inv
  exact PySem.P.gt_int ⟨keeps_refl s, g, Grow.refl hs, rfl⟩
theorem CmpD.ge {a b : Int} : CmpD prog w n .GtE (.int a) (.int b) (decide (a ≥ b)) := fun A s g v1 v2 E _ hs r1 r2 => by
  obtain ⟨t, rfl⟩ := r1.int_inv; obtain ⟨u, rfl⟩ := r2.int_inv
  exact PySem.P.ge_int ⟨keeps_refl s, g, Grow.refl hs, rfl⟩
theorem CmpD.lt {a b : Int} : CmpD prog w n .Lt (.int a) (.int b) (decide (a < b)) := fun A s g v1 v2 E _ hs r1 r2 => by
  obtain ⟨t, rfl⟩ := r1.int_inv; obtain ⟨u, rfl⟩ := r2.int_inv
  exact PySem.P.lt_int ⟨keeps_refl s, g, Grow.refl hs, rfl⟩
/-! == of any data -/
theorem CmpD.eq {d1 d2 : PyData} (h1 : SeqAt.shaped d1 = true) (h2 : SeqAt.shaped d2 = true) : CmpD prog w n .Eq d1 d2 (PyData.eqv d1 d2) := fun A s g v1 v2 E hA hs r1 r2 => by
  obtain ⟨as, q1⟩ := r1.reads hs
  obtain ⟨bs, q2⟩ := r2.reads hs
  exact SeqAt.compareEq_shaped q1 q2 h1 h2 (by have := hA.2.2; show A.units + 64 < 9900; omega) ⟨keeps_refl s, g, Grow.refl hs, rfl⟩
theorem CmpD.ne {d1 d2 : PyData} (h1 : SeqAt.shaped d1 = true) (h2 : SeqAt.shaped d2 = true) : CmpD prog w n .NotEq d1 d2 (!PyData.eqv d1 d2) := fun A s g v1 v2 E hA hs r1 r2 => by
  obtain ⟨as, q1⟩ := r1.reads hs
  obtain ⟨bs, q2⟩ := r2.reads hs
  exact SeqAt.compareNe_shaped q1 q2 h1 h2 (by have := hA.2.2; show A.units + 64 < 9900; omega) ⟨keeps_refl s, g, Grow.refl hs, rfl⟩
/-! texts and lists glued -/
theorem BinD.cat {x y : Str} (h : x.length + y.length ≤ sizeLine) : BinD prog w n .Add (.str x) (.str y) (.str (x ++ y)) := fun A s g v1 v2 E _ hs r1 r2 => by
  obtain ⟨t, rfl⟩ := r1.str_inv; obtain ⟨u, rfl⟩ := r2.str_inv
  exact PyProof.Rows.add_str (fun t' tk => ⟨keeps_tok s _, g, Grow.refl hs, .str _ _⟩) h
theorem BinD.lists {ds es : List PyData} (h : ds.length + es.length ≤ sizeLine) : BinD prog w n .Add (.list ds) (.list es) (.list (ds ++ es)) := fun A s g v1 v2 E _ hs r1 r2 => by
  obtain ⟨a, vs, m, rfl, l1, e1⟩ := r1.lst
  obtain ⟨b, ws, k, rfl, l2, e2⟩ := r2.lst
  refine PySem.P.add_list (hs _ _ e1) (hs _ _ e2) ?_ (by simp only [List.size_toArray]; rw [l1.length, l2.length]; exact h)
  rw [List.append_toArray]
  exact ev_newList (A := A) (E := E) hs (l1.append l2) (by rw [List.length_append]; exact h)
/-! truth -/
theorem TruthD.bool {b : Bool} : TruthD prog w n (.bool b) b := fun A s g v E _ hs r => by
  cases r.bool_inv
  exact wpAny_truthy_bool ⟨rfl, keeps_refl s, g, Grow.refl hs⟩
end
end Mine
end

section
open PySem PySem.W PyProof.Rows PySem.Calls PySem.Spec
set_option Elab.async false
set_option maxRecDepth 100000
namespace Mine

structure Fe (env : Env) : Prop where
  kind : env.scope.kind = .function
  glob : env.globals = mainGlobals
  blt : env.builtins = builtinsNs
def FnB (prog : Program) (w : World) (n : Nat) (f : Value) (ds : List PyData) (d : PyData) : Prop :=
  ∀ A s g vs E, Good n A → Sub g s.heap → RL g vs ds → Ev prog w A s g (call f vs) (fun v g' => R g' v d) E

section
variable {prog : Program} {w : World} {K : Frag} {Γ : G → Heap → Prop} {n : Nat} {env : Env}

theorem ev_global {M : Model} {A : Around} {s : Shared} {E : Value → Shared → Prop} {x : Str} {pos : Pos} {v : Value} {Q : Value → Shared → Prop} (t : TopOk K s.heap) (fe : Fe env) (hx : env.kindOf x = some .globalImplicit)
    (e : nsIn K mainGlobals x = some (some v)) (hd : (x == ("__debug__" : Str)) = false) (h : Q v s) : wpAny M A (eval (.Name x pos) env) Q E s := by
  obtain ⟨p, l, m, mg, mb, T⟩ := t.t
  exact Name_function_global fe.kind hx (loadGlobal_global (by rw [fe.glob]; exact T.g) (mg_of t.k T.g e) h) hd
theorem ev_builtin {M : Model} {A : Around} {s : Shared} {E : Value → Shared → Prop} {x : Str} {pos : Pos} {v : Value} {Q : Value → Shared → Prop} (t : TopOk K s.heap) (fe : Fe env) (hx : env.kindOf x = some .globalImplicit)
    (e : nsIn K mainGlobals x = some none) (hv : bootBuiltins x = some v) (hn : x ≠ "__name__") (hd : (x == ("__debug__" : Str)) = false) (h : Q v s) : wpAny M A (eval (.Name x pos) env) Q E s := by
  obtain ⟨p, l, m, mg, mb, T⟩ := t.t
  exact Name_function_global fe.kind hx (loadGlobal_builtin (by rw [fe.glob]; exact T.g) (mg_none_of t.k T.g e) (by rw [fe.blt]; exact T.b) (by rw [T.builtins x hn]; exact hv) h) hd

def IsDef (K : Frag) (a : Addr) : Prop := ∃ o fd, K.lookup a = some o ∧ o.data = .func fd
/-- a def of the text, by its contract -/
theorem EvD.call {f : Str} {np pos : Pos} {e : Expr} {es : List Expr} {a : Addr} {ds : List PyData} {d : PyData} (cx : Cx K Γ) (fe : Fe env) (hx : env.kindOf f = some .globalImplicit)
    (hn : nsIn K mainGlobals f = some (some (.ref a))) (hi : IsDef K a) (hd : (f == ("__debug__" : Str)) = false)
    (h : EvsD prog w Γ n env (e :: es) ds) (c : FnD prog w K n a ds d) (he : starEach (e :: es) env = (false, eval e env) :: starEach es env) :
    EvD prog w Γ n env (.Call (.Name f np) (e :: es) [] pos) d := fun A s g E hA hs hΓ =>
  let ⟨_, _, ho, hf⟩ := hi
  Call_ (ev_global (cx.top hΓ) fe hx hn hd (callWith_def hf (wpAny_mono (h A s g E pos hA hs hΓ) (fun vs s₁ ⟨k1, g1, w1, r1⟩ =>
    ⟨(cx.top (cx.up w1 hΓ)).k _ _ ho, (c A s₁ g1 vs E hA w1.sub (cx.top (cx.up w1 hΓ)) r1).from k1 w1⟩) fun _ _ e => e) he))
theorem EvD.callB {x : Str} {np pos : Pos} {e : Expr} {es : List Expr} {id : String} {ds : List PyData} {d : PyData} (cx : Cx K Γ) (fe : Fe env) (hx : env.kindOf x = some .globalImplicit)
    (hn : nsIn K mainGlobals x = some none) (hv : bootBuiltins x = some (.builtin id)) (hne : x ≠ "__name__") (hd : (x == ("__debug__" : Str)) = false)
    (h : EvsD prog w Γ n env (e :: es) ds) (c : FnB prog w n (.builtin id) ds d) (he : starEach (e :: es) env = (false, eval e env) :: starEach es env) (hp : ∀ pos, (backTo pos (starEach es env)).any (·.1) = false) :
    EvD prog w Γ n env (.Call (.Name x np) (e :: es) [] pos) d := fun A s g E hA hs hΓ =>
  Call_ (ev_builtin (cx.top hΓ) fe hx hn hv hne hd (callWith_builtin1 (wpAny_mono (h A s g E pos hA hs hΓ) (fun vs s₁ ⟨k1, g1, w1, r1⟩ =>
    (c A s₁ g1 vs E hA w1.sub r1).from k1 w1) fun _ _ e => e) he (hp pos)))
/-- a method of a text -/
theorem EvD.meth {o e : Expr} {es : List Expr} {name : Str} {apos pos : Pos} {x : Str} {ds : List PyData} {d : PyData} {id : String} {pl : Sem Bool} (cx : Cx K Γ) (h0 : EvD prog w Γ n env o (.str x))
    (hget : ∀ (A : Around) (s : Shared) (t : Tok) (Q : Value × List Value → Shared → Prop) (E : Value → Shared → Prop), Q (.builtin id, [.str x t]) s → wpAny (model prog w) A (getMethod (.str x t) name pl) Q E s)
    (h : EvsD prog w Γ n env (e :: es) ds) (c : FnB prog w n (.builtin id) (.str x :: ds) d)
    (he : eval (.Call (.Attribute o name apos) (e :: es) [] pos) env = (do
      let ov ← eval o env
      standAt apos.atName
      let (f, first) ← holding [ov] (getMethod ov name pl)
      callWith pos f first (backTo pos (starEach (e :: es) env)) []))
    (hs1 : starEach (e :: es) env = (false, eval e env) :: starEach es env) (hp : ∀ pos, (backTo pos (starEach es env)).any (·.1) = false) :
    EvD prog w Γ n env (.Call (.Attribute o name apos) (e :: es) [] pos) d := fun A s g E hA hs hΓ =>
  MethodCall_ (wpAny_mono (h0 A s g E hA hs hΓ) (fun ov s₁ ⟨k1, g1, w1, r1⟩ => by
    obtain ⟨t, rfl⟩ := r1.str_inv
    refine hget A s₁ t _ E ?_
    refine callWith_method1 (wpAny_mono (h A s₁ g1 E pos hA w1.sub (cx.up w1 hΓ)) (fun vs s₂ ⟨k2, g2, w2, r2⟩ => ?_) fun _ _ e => e) hs1 (hp pos)
    exact (c A s₂ g2 _ E hA w2.sub (.cons (r1.up w2) r2)).from (keeps_trans k1 k2) (w1.trans w2)) fun _ _ e => e) he
theorem EvD.meth0 {o : Expr} {name : Str} {apos pos : Pos} {x : Str} {d : PyData} {id : String} {pl : Sem Bool} (h0 : EvD prog w Γ n env o (.str x))
    (hget : ∀ (A : Around) (s : Shared) (t : Tok) (Q : Value × List Value → Shared → Prop) (E : Value → Shared → Prop), Q (.builtin id, [.str x t]) s → wpAny (model prog w) A (getMethod (.str x t) name pl) Q E s)
    (c : FnB prog w n (.builtin id) [.str x] d)
    (he : eval (.Call (.Attribute o name apos) [] [] pos) env = (do
      let ov ← eval o env
      standAt apos.atName
      let (f, first) ← holding [ov] (getMethod ov name pl)
      callWith pos f first (backTo pos (starEach [] env)) [])) :
    EvD prog w Γ n env (.Call (.Attribute o name apos) [] [] pos) d := fun A s g E hA hs hΓ =>
  MethodCall_ (wpAny_mono (h0 A s g E hA hs hΓ) (fun ov s₁ ⟨k1, g1, w1, r1⟩ => by
    obtain ⟨t, rfl⟩ := r1.str_inv
    refine hget A s₁ t _ E ?_
    exact callWith_method0 ((c A s₁ g1 _ E hA w1.sub (.cons r1 .nil)).from k1 w1)) fun _ _ e => e) he

theorem strsAre {g : G} : ∀ {vs : List Value} {ys : List Str}, RL g vs (ys.map PyData.str) → StrsAre vs ys
  | _, [], h => by cases h; exact .nil
  | _, y :: ys, h => by
    cases h with
    | cons a b => obtain ⟨t, rfl⟩ := a.str_inv; exact .cons y t (strsAre b)
theorem FnB.join {x : Str} {ys : List Str} (hok : (ys.map (·.length)).sum + ys.length * x.length ≤ 16777216) : FnB prog w n (.builtin "str.join") [.str x, .list (ys.map PyData.str)] (.str (Txt.join x ys)) := fun A s g vs E _ hs r => by
  cases r with
  | cons a b => cases b with
    | cons b c =>
      cases c
      obtain ⟨t, rfl⟩ := a.str_inv
      obtain ⟨D, vs, rfl, l, hl⟩ := b.isList hs
      exact PyProof.Rows.join_list hl (by simpa using strsAre l) hok fun t' k => ⟨keeps_tok s _, g, Grow.refl hs, .str _ _⟩
theorem FnB.lenL {ds : List PyData} (h : ds.length < 2 ^ 62) : FnB prog w n (.builtin "len") [.list ds] (.int ds.length) := fun A s g vs E _ hs r => by
  cases r with
  | cons b c =>
    cases c
    obtain ⟨D, vs, rfl, l, hl⟩ := b.isList hs
    refine call_len_list hl (by rw [List.size_toArray, l.length]; omega) ?_
    rw [List.size_toArray, l.length]
    exact ⟨keeps_tok s _, g, Grow.refl hs, .int _ _⟩
theorem FnB.lenS {x : Str} (h : x.length < 2 ^ 62) : FnB prog w n (.builtin "len") [.str x] (.int x.length) := fun A s g vs E _ hs r => by
  cases r with
  | cons b c =>
    cases c
    obtain ⟨t, rfl⟩ := b.str_inv
    exact PySem.P.len_str (by omega) ⟨keeps_tok s _, g, Grow.refl hs, .int _ _⟩
theorem FnB.startswith {x y : Str} : FnB prog w n (.builtin "str.startswith") [.str x, .str y] (.bool (Txt.startswith x y)) := fun A s g vs E _ hs r => by
  cases r with
  | cons a b => cases b with
    | cons b c =>
      cases c
      obtain ⟨t, rfl⟩ := a.str_inv
      obtain ⟨u, rfl⟩ := b.str_inv
      exact PySem.SC.startswith ⟨keeps_refl s, g, Grow.refl hs, .bool _⟩
theorem FnB.endswith {x y : Str} : FnB prog w n (.builtin "str.endswith") [.str x, .str y] (.bool (Txt.endswith x y)) := fun A s g vs E _ hs r => by
  cases r with
  | cons a b => cases b with
    | cons b c =>
      cases c
      obtain ⟨t, rfl⟩ := a.str_inv
      obtain ⟨u, rfl⟩ := b.str_inv
      exact PySem.SC.endswith ⟨keeps_refl s, g, Grow.refl hs, .bool _⟩
theorem FnB.find {x y : Str} : FnB prog w n (.builtin "str.find") [.str x, .str y] (.int (Txt.find x y)) := fun A s g vs E _ hs r => by
  cases r with
  | cons a b => cases b with
    | cons b c =>
      cases c
      obtain ⟨t, rfl⟩ := a.str_inv
      obtain ⟨u, rfl⟩ := b.str_inv
      exact PySem.SC.find ⟨keeps_tok s _, g, Grow.refl hs, .int _ _⟩
theorem FnB.lower {x y : Str} (h1 : Txt.lower x = y) (h2 : Builtin.Str.tooLong (Txt.lower x).length = false) : FnB prog w n (.builtin "str.lower") [.str x] (.str y) := fun A s g vs E _ hs r => by
  cases r with
  | cons a b =>
    cases b
    obtain ⟨t, rfl⟩ := a.str_inv
    exact PySem.SC.lower h2 (by rw [h1]; exact ⟨keeps_tok s _, g, Grow.refl hs, .str _ _⟩)

theorem str_beq (x y : Str) : (x.cps.toList == y.cps.toList) = decide (x = y) := by
  rw [Bool.eq_iff_iff]
  simp only [beq_iff_eq, decide_eq_true_eq]
  exact ⟨fun h => by cases x; cases y; simp at h; rw [h], fun h => by rw [h]⟩
theorem CmpD.eqS {x y : Str} : CmpD prog w n .Eq (.str x) (.str y) (decide (x = y)) := fun A s g v1 v2 E _ hs r1 r2 => by
  obtain ⟨t, rfl⟩ := r1.str_inv; obtain ⟨u, rfl⟩ := r2.str_inv
  exact PySem.P.eq_str ⟨keeps_refl s, g, Grow.refl hs, by rw [str_beq]⟩
theorem CmpD.neS {x y : Str} : CmpD prog w n .NotEq (.str x) (.str y) (!decide (x = y)) := fun A s g v1 v2 E _ hs r1 r2 => by
  obtain ⟨t, rfl⟩ := r1.str_inv; obtain ⟨u, rfl⟩ := r2.str_inv
  exact PySem.P.ne_str ⟨keeps_refl s, g, Grow.refl hs, by rw [bne, str_beq]⟩
theorem CmpD.eqI {x y : Int} : CmpD prog w n .Eq (.int x) (.int y) (x == y) := fun A s g v1 v2 E _ hs r1 r2 => by
  obtain ⟨t, rfl⟩ := r1.int_inv; obtain ⟨u, rfl⟩ := r2.int_inv
  exact PySem.P.eq_int ⟨keeps_refl s, g, Grow.refl hs, rfl⟩
theorem EvD.neg {e : Expr} {pos : Pos} {k : Int} (h : EvD prog w Γ n env e (.int k)) : EvD prog w Γ n env (.UnaryOp .USub e pos) (.int (-k)) := fun A s g E hA hs hΓ =>
  wpAny_UnaryOp (wpAny_mono (h A s g E hA hs hΓ) (fun v s₁ ⟨k1, g1, w1, r1⟩ => by
    obtain ⟨t, rfl⟩ := r1.int_inv
    exact PySem.P.neg_int ⟨keeps_trans k1 (keeps_tok s₁ _), g1, w1, .int _ _⟩) fun _ _ e => e)
/-! items and cuts -/
theorem EvD.item {v i : Expr} {pos : Pos} {ds : List PyData} {k : Int} {d : PyData} (cx : Cx K Γ) (h1 : EvD prog w Γ n env v (.list ds)) (h2 : EvD prog w Γ n env i (.int k)) (h0 : 0 ≤ k) (h3 : k < 2 ^ 62) (hd : ds[k.toNat]? = some d)
    (hs1 : ∀ o x, subscripted i false o x = operate [o, x] (getItem o x)) : EvD prog w Γ n env (.Subscript v i pos) d := fun A s g E hA hs hΓ =>
  Subscript_ (two cx h1 h2 hA hs hΓ fun v1 v2 s' g' hk hg r1 r2 => by
    obtain ⟨t, rfl⟩ := r2.int_inv
    obtain ⟨D, vs, rfl, l, hl⟩ := r1.isList hg.sub
    obtain ⟨x, e, r⟩ := l.at hd
    exact tail_any hl.typeIs slot_list_getitem.lookup (wpAny_getItem_list hl h0 (by omega) (by simpa using e) ⟨hk, g', hg, r⟩) (hs1 _ _))
theorem EvD.itemNeg {v i : Expr} {pos : Pos} {ds : List PyData} {k : Int} {d : PyData} (cx : Cx K Γ) (h1 : EvD prog w Γ n env v (.list ds)) (h2 : EvD prog w Γ n env i (.int k)) (h0 : k < 0) (h3 : -(ds.length : Int) ≤ k) (h4 : -(2 ^ 63) ≤ k)
    (hd : ds[(k + ds.length).toNat]? = some d) (hs1 : ∀ o x, subscripted i false o x = operate [o, x] (getItem o x)) : EvD prog w Γ n env (.Subscript v i pos) d := fun A s g E hA hs hΓ =>
  Subscript_ (two cx h1 h2 hA hs hΓ fun v1 v2 s' g' hk hg r1 r2 => by
    obtain ⟨t, rfl⟩ := r2.int_inv
    obtain ⟨D, vs, rfl, l, hl⟩ := r1.isList hg.sub
    obtain ⟨x, e, r⟩ := l.at hd
    have hl' := l.length
    exact tail_any hl.typeIs slot_list_getitem.lookup (wpAny_getItem_list_neg hl h0 (by simp only [List.size_toArray]; omega) h4 (by simp only [List.size_toArray]; rw [hl']; simpa using e) ⟨hk, g', hg, r⟩) (hs1 _ _))
theorem EvD.itemS {v i : Expr} {pos : Pos} {x : Str} {k : Int} {c : Nat} (cx : Cx K Γ) (h1 : EvD prog w Γ n env v (.str x)) (h2 : EvD prog w Γ n env i (.int k)) (h0 : -(2 ^ 63) ≤ k) (h3 : k < 2 ^ 63)
    (hc : (seqIndex? k x.length).bind (x.cps[·]?) = some c) (hs1 : ∀ o x, subscripted i false o x = operate [o, x] (getItem o x)) : EvD prog w Γ n env (.Subscript v i pos) (.str ⟨#[c]⟩) := fun A s g E hA hs hΓ =>
  Subscript_ (two cx h1 h2 hA hs hΓ fun v1 v2 s' g' hk hg r1 r2 => by
    obtain ⟨t, rfl⟩ := r2.int_inv
    obtain ⟨u, rfl⟩ := r1.str_inv
    exact tail_any (typeIs_str s' x u) F.slot_str_getitem.lookup (PyProof.Rows.getItem_str (by simp only [Bool.or_eq_false_iff, decide_eq_false_iff_not]; constructor <;> omega) hc ⟨keeps_trans hk (keeps_tok s' _), g', hg, .str _ _⟩) (hs1 _ _))

def PartD (prog : Program) (w : World) (Γ : G → Heap → Prop) (n : Nat) (env : Env) (e : Option Expr) (k : Option Int) : Prop :=
  ∀ A s g E, Good n A → Sub g s.heap → Γ g s.heap → Ev prog w A s g (evalPart e env) (fun v _ => ∃ t, v = partValue (k.map (·, t))) E
theorem PartD.off : PartD prog w Γ n env none none := fun _ s g _ _ hs _ => wpAny_pure ⟨keeps_refl s, g, Grow.refl hs, 0, rfl⟩
theorem PartD.on {e : Expr} {k : Int} (h : EvD prog w Γ n env e (.int k)) : PartD prog w Γ n env (some e) (some k) := fun A s g E hA hs hΓ =>
  (h A s g E hA hs hΓ).mono fun v g' r => by obtain ⟨t, rfl⟩ := r.int_inv; exact ⟨t, rfl⟩
theorem isPart {k : Option Int} {t : Tok} : IsPart (partValue (k.map (·, t))) k := by
  cases k with
  | none => exact .none
  | some i => exact .int i t
def cut (ds : List PyData) (lo hi : Option Int) : List PyData := (ds.drop (lo.elim 0 (clipAt ds.length))).take (hi.elim ds.length (clipAt ds.length) - lo.elim 0 (clipAt ds.length))
theorem EvD.cutL {v : Expr} {lo hi : Option Expr} {p pos : Pos} {ds : List PyData} {a b : Option Int} (cx : Cx K Γ) (h1 : EvD prog w Γ n env v (.list ds)) (h2 : PartD prog w Γ n env lo a) (h3 : PartD prog w Γ n env hi b) (hsz : ds.length ≤ sizeLine)
    (ht : ∀ o r, letTemporaryGo v o r = pure ()) : EvD prog w Γ n env (.Subscript v (.Slice lo hi none p) pos) (.list (cut ds a b)) := fun A s g E hA hs hΓ =>
  wpAny_Subscript_list_slice (wpAny_mono (h1 A s g E hA hs hΓ) (fun v1 s₁ ⟨k1, g1, w1, r1⟩ => wpAny_mono (h2 A s₁ g1 E hA w1.sub (cx.up w1 hΓ)) (fun v2 s₂ ⟨k2, g2, w2, t2, r2⟩ =>
    wpAny_mono (h3 A s₂ g2 E hA w2.sub (cx.up w2 (cx.up w1 hΓ))) (fun v3 s₃ ⟨k3, g3, w3, t3, r3⟩ => by
      obtain ⟨D, vs, rfl, l, hl⟩ := ((r1.up w2).up w3).isList w3.sub
      subst r2 r3
      refine ⟨D, _, a, b, rfl, hl, by rw [List.size_toArray, l.length]; exact hsz, isPart, isPart, ?_⟩
      have hk := keeps_trans (keeps_trans k1 k2) k3
      have hg := (w1.trans w2).trans w3
      have gs := Grow.heap w3.sub (ext_push s₃.heap { cls := .type "slice", data := .fields #[partValue (a.map (·, t2)), partValue (b.map (·, t3)), .none] })
      have lc : RL g3 (((vs.drop (a.elim 0 (clipAt vs.length))).take (b.elim vs.length (clipAt vs.length) - a.elim 0 (clipAt vs.length)))) (cut ds a b) := by
        unfold cut; rw [← l.length]; exact RL.take _ (RL.drop _ l)
      have := ev_newList (s := { s₃ with heap := s₃.heap.push { cls := .type "slice", data := .fields #[partValue (a.map (·, t2)), partValue (b.map (·, t3)), .none] } }) (A := A) (E := E) gs.sub lc
        (by unfold cut; rw [List.length_take, List.length_drop]; omega)
      obtain ⟨q1, g4, q2, q3⟩ := this
      rw [slicePick_plain]
      simp only [List.size_toArray, Heap.size_push] at q1 q2 q3 ⊢
      exact ⟨keeps_trans hk (keeps_trans ⟨_, s₃.toks, rfl, gs.keep⟩ q1), g4, (hg.trans gs).trans q2, q3⟩) fun _ _ e => e) fun _ _ e => e) fun _ _ e => e) ht
theorem EvD.cutS {v : Expr} {lo hi : Option Expr} {p pos : Pos} {x : Str} {a b : Option Int} (cx : Cx K Γ) (h1 : EvD prog w Γ n env v (.str x)) (h2 : PartD prog w Γ n env lo a) (h3 : PartD prog w Γ n env hi b)
    (hsz : x.length ≤ sizeLine) (ht : ∀ o r, letTemporaryGo v o r = pure ()) : EvD prog w Γ n env (.Subscript v (.Slice lo hi none p) pos) (.str (StrLaws.sliceText x a b)) := fun A s g E hA hs hΓ =>
  wpAny_Subscript_str_slice (wpAny_mono (h1 A s g E hA hs hΓ) (fun v1 s₁ ⟨k1, g1, w1, r1⟩ => wpAny_mono (h2 A s₁ g1 E hA w1.sub (cx.up w1 hΓ)) (fun v2 s₂ ⟨k2, g2, w2, t2, r2⟩ =>
    wpAny_mono (h3 A s₂ g2 E hA w2.sub (cx.up w2 (cx.up w1 hΓ))) (fun v3 s₃ ⟨k3, g3, w3, t3, r3⟩ => by
      obtain ⟨t, rfl⟩ := r1.str_inv
      refine ⟨x, t, a.map (·, t2), b.map (·, t3), rfl, r2, r3, ?_⟩
      subst r2 r3
      have hk := keeps_trans (keeps_trans k1 k2) k3
      have hg := (w1.trans w2).trans w3
      have gs := Grow.heap w3.sub (ext_push s₃.heap { cls := .type "slice", data := .fields #[partValue (a.map (·, t2)), partValue (b.map (·, t3)), .none] })
      have e1 : (a.map (·, t2)).map (·.1) = a := by cases a <;> rfl
      have e2 : (b.map (·, t3)).map (·.1) = b := by cases b <;> rfl
      unfold sliceMade slicePicked StrLaws.sliceText
      rw [e1, e2]
      simp only [Option.map_none, Option.getD_none]
      split
      · exact ⟨keeps_trans hk ⟨_, s₃.toks, rfl, gs.keep⟩, g3, hg.trans gs, .str _ _⟩
      · refine ⟨?_, keeps_trans hk ⟨_, _, rfl, gs.keep⟩, g3, hg.trans gs, .str _ _⟩
        refine Nat.le_trans ?_ hsz
        show (List.filterMap _ _).toArray.size ≤ _
        rw [List.size_toArray]
        exact Nat.le_trans (List.length_filterMap_le ..) (sliceIndices_le a b x.length)) fun _ _ e => e) fun _ _ e => e) fun _ _ e => e) ht
end
end Mine
end

section
open PySem PySem.W PyProof.Rows PySem.Calls PySem.Spec
set_option Elab.async false
set_option maxRecDepth 100000
namespace Mine

theorem Grow.shift {g g' : G} {h H h2 : Heap} (a : Grow g h g' H) (e : Ext h h2) (s : Sub g' h2) : Grow g h g' h2 := ⟨a.le, s, a.new, e⟩
def Tests (env : Env) (ifs : List Expr) : Sem Bool := forIn ifs true fun c r => if r = true then do let ok ← isTrue c env (eval c env); pure (ForInStep.yield ok) else pure (ForInStep.yield r)
def TestsD (prog : Program) (w : World) (Γ : G → Heap → Prop) (n : Nat) (env : Env) (ifs : List Expr) (b : Bool) : Prop :=
  ∀ A s g E, Good n A → Sub g s.heap → Γ g s.heap → wpAny (model prog w) A (Tests env ifs) (fun v s' => v = b ∧ Keeps s s' ∧ ∃ g', Grow g s.heap g' s'.heap) E s

section
variable {prog : Program} {w : World} {K : Frag} {Γ : G → Heap → Prop} {n : Nat} {env : Env}
theorem TestsD.nil : TestsD prog w Γ n env [] true := fun _ s g _ _ hs _ => wpAny_tests_nil ⟨rfl, keeps_refl s, g, Grow.refl hs⟩
theorem TestsD.one {c : Expr} {b : Bool} (h : TsD prog w Γ n env c b) : TestsD prog w Γ n env [c] b := fun A s g E hA hs hΓ => wpAny_tests_one (h A s g E hA hs hΓ)

theorem comp_loop {A : Around} {R : Result → Shared → Prop} {s : Shared} {elt target iter : Expr} {ifs : List Expr} {scope : Scope} {pos : Pos} {it acc : Value} {env : Env} (I : Nat → Shared → Prop)
    (turn : ∀ n s, I n s → wpAny (model prog w) A (pyNext it) (fun r s₁ => match r with
      | none => R (.ok .next) s₁
      | some v => wpAny (model prog w) A (letOwnedTupleGo target it v) (fun _ s₁' => wpAny (model prog w) A (assign target env v) (fun _ s₂ =>
          wpAny (model prog w) A (Tests env ifs) (fun ok s₃ =>
            if ok = true then wpAny (model prog w) A (eval elt env) (fun x s₄ =>
              wpAny (model prog w) A (call (.builtin "list.append") [acc, x]) (fun _ s₅ => ∃ m, m < n ∧ I m s₅) (notedBy (model prog w) A env fun e s' => R (.error e) s') s₄) (notedBy (model prog w) A env fun e s' => R (.error e) s') s₃
            else ∃ m, m < n ∧ I m s₃) (notedBy (model prog w) A env fun e s' => R (.error e) s') s₂) (notedBy (model prog w) A env fun e s' => R (.error e) s') s₁')
          (notedBy (model prog w) A env fun e s' => R (.error e) s') s₁) (notedBy (model prog w) A env fun e s' => R (.error e) s') s)
    (n : Nat) (h : I n s) : codeAny (model prog w) A (.compLoop (.ListComp elt [⟨target, iter, ifs, 0⟩] scope pos) 0 it acc env) R s := by
  refine codeAny_loop rfl I (fun n s hI => ?_) n h
  show wpAny _ A ((compTurn (.ListComp elt [⟨target, iter, ifs, 0⟩] scope pos) 0 it acc env).onRaise (fun x => do noteFrame x env; theTreesLotGoes x)) _ _ s
  refine wpAny_noted ?_
  rw [compTurn_list]
  refine wpAny_bind (wpAny_standAt (wpAny_bind (wpAny_mono (turn n s hI) (fun r s₁ h₁ => ?_) fun _ _ h' => h')))
  cases r with
  | none => exact wpAny_pure h₁
  | some v =>
    refine wpAny_bind (wpAny_mono h₁ (fun _ s₁' h₁' => ?_) fun _ _ h' => h')
    refine wpAny_bind (wpAny_mono h₁' (fun _ s₂ h₂ => wpAny_bind (wpAny_mono h₂ (fun ok s₃ h₃ => ?_) fun _ _ h' => h')) fun _ _ h' => h')
    cases ok with
    | false => exact wpAny_pure ⟨rfl, h₃⟩
    | true => exact wpAny_bind (wpAny_bind (wpAny_mono h₃ (fun x s₄ h₄ => wpAny_bind (wpAny_mono h₄ (fun _ s₅ h₅ => wpAny_pure (wpAny_pure ⟨rfl, h₅⟩)) fun _ _ h' => h')) fun _ _ h' => h'))

/-- what a turn may write: the block's own objects -/
structure Own (own : List Addr) (OwnOk : Heap → Prop) : Prop where
  live : ∀ h, OwnOk h → ∀ b ∈ own, ∃ o, h.get? b = some o
  keep : ∀ h h', OwnOk h → (∀ b ∈ own, ∀ o, h.get? b = some o → h'.get? b = some o) → OwnOk h'

theorem comp_turns {δ : Type} {A : Around} {R : Result → Shared → Prop} {s : Shared} {g₁ : G} {h₁ : Heap} {elt target iter : Expr} {ifs : List Expr} {scope : Scope} {pos : Pos} {cenv : Env} {D I : Addr} {own fp wr : List Addr} {N : Nat}
    {St : Nat → Heap → Prop} {OwnOk : Heap → Prop} {Bd : δ → G → Heap → Prop} {p : δ → Bool} {f : δ → PyData} {items : List δ} (cx : Cx K Γ)
    (wsub : ∀ b ∈ wr, b ∈ fp) (wframe : ∀ i h h', St i h → (∀ b ∈ fp, ∀ o, h.get? b = some o → h'.get? b = some o) → St i h')
    (wdone : ∀ (s : Shared) (Q : Option Value → Shared → Prop) (E : Value → Shared → Prop), St N s.heap → (∀ h' tk, (∀ b o, b ∉ wr → s.heap.get? b = some o → h'.get? b = some o) → Q none { s with heap := h', toks := tk }) → wpAny (model prog w) A (pyNext (.ref I)) Q E s) (O : Own own OwnOk) (hA : Good n A) (hsz : N ≤ sizeLine) (hN : items.length = N)
    (hst : St 0 s.heap) (hacc : s.heap.PlainList D #[]) (hown : OwnOk s.heap) (hg : Grow g₁ h₁ g₁ s.heap) (hs₁ : Sub g₁ h₁) (hΓ : Γ g₁ h₁)
    (hDo : D ∉ own) (hDf : D ∉ fp) (hof : ∀ b ∈ own, b ∉ fp) (h1D : h₁.get? D = none) (h1o : ∀ b ∈ own, h₁.get? b = none) (h1w : ∀ b ∈ wr, h₁.get? b = none)
    (live : ∀ i h, St i h → ∀ b ∈ wr, ∃ o, h.get? b = some o)
    (bup : ∀ d g h g' h', Grow g h g' h' → Bd d g h → Bd d g' h')
    (adv : ∀ i d (s : Shared) g (Q : Shared → Prop) E, i < N → items[i]? = some d → (∀ a o, g₁ a = some o → g a = some o) → Sub g s.heap → (∀ b ∈ own, g b = none) → (∀ b ∈ wr, g b = none) → St i s.heap → OwnOk s.heap →
      (∀ h' tk, (∀ b o, b ∉ own → b ∉ wr → s.heap.get? b = some o → h'.get? b = some o) → St (i + 1) h' → OwnOk h' → Bd d g h' → Q { s with heap := h', toks := tk }) →
      wpAny (model prog w) A (pyNext (.ref I)) (fun r s₁ => ∃ v, r = some v ∧ wpAny (model prog w) A (letOwnedTupleGo target (.ref I) v) (fun _ s₂ => wpAny (model prog w) A (assign target cenv v) (fun _ => Q) E s₂) E s₁) E s)
    (tests : ∀ d ∈ items, TestsD prog w (fun g h => Γ g h ∧ Bd d g h) n cenv ifs (p d))
    (helt : ∀ d ∈ items, p d = true → EvD prog w (fun g h => Γ g h ∧ Bd d g h) n cenv elt (f d))
    (hR : ∀ h' tk ys g', h'.PlainList D ys → RL g' ys.toList ((items.filter p).map f) → Grow g₁ h₁ g' h' → g' D = none → (∀ b ∈ own, g' b = none) → OwnOk h' → R (.ok .next) { s with heap := h', toks := tk }) :
    codeAny (model prog w) A (.compLoop (.ListComp elt [⟨target, iter, ifs, 0⟩] scope pos) 0 (.ref I) (.ref D) cenv) R s := by
  have hid : ∀ {a}, h₁.get? a = none → g₁ a = none := fun {a} e => by
    cases q : g₁ a with
    | none => rfl
    | some o => rw [hs₁ a o q] at e; cases e
  refine comp_loop (fun k s' => ∃ h' tk ys g' i, s' = { s with heap := h', toks := tk } ∧ St i h' ∧ h'.PlainList D ys ∧ OwnOk h' ∧ Grow g₁ h₁ g' h' ∧ g' D = none ∧ (∀ b ∈ own, g' b = none) ∧ (∀ b ∈ wr, g' b = none) ∧
    RL g' ys.toList (((items.take i).filter p).map f) ∧ i ≤ N ∧ k = N + 1 - i) ?_ (N + 1)
    ⟨s.heap, s.toks, #[], g₁, 0, rfl, hst, hacc, hown, hg, hid h1D, fun b hb => hid (h1o b hb), fun b hb => hid (h1w b hb), by simpa using RL.nil, Nat.zero_le _, rfl⟩
  rintro k s' ⟨H, tk, ys, g', i, rfl, hst', hacc', hown', hgr, gD, go, gw, hl, hi, rfl⟩
  have hDw : D ∉ wr := fun h => hDf (wsub _ h)
  have how : ∀ b ∈ own, b ∉ wr := fun b hb h => hof b hb (wsub _ h)
  have nw : ∀ b o, h₁.get? b = some o → b ∉ wr := fun b o e hb => by rw [h1w b hb] at e; cases e
  have no : ∀ b o, h₁.get? b = some o → b ∉ own := fun b o e hb => by rw [h1o b hb] at e; cases e
  have nD : ∀ b o, h₁.get? b = some o → b ≠ D := fun b o e hb => by rw [hb, h1D] at e; cases e
  by_cases hlt : i < N
  · obtain ⟨d, hd⟩ : ∃ d, items[i]? = some d := ⟨items[i], by simp [hN, hlt]⟩
    have hdm : d ∈ items := List.mem_of_getElem? hd
    refine wpAny_mono (adv i d _ g' ?Q _ hlt hd hgr.le hgr.sub go gw hst' hown' ?h) (fun r s₁ h => ?c) fun _ _ e => e
    case c =>
      obtain ⟨v, rfl, h⟩ := h
      exact h
    intro hb tkb hkb stb hob hbd
    have sb : Sub g' hb := fun a o e => hkb a o (fun q => by rw [go a q] at e; cases e) (fun q => by rw [gw a q] at e; cases e) (hgr.sub a o e)
    have xb : Ext h₁ hb := fun a o e => hkb a o (no a o e) (nw a o e) (hgr.keep a o e)
    have gb : Grow g₁ h₁ g' hb := hgr.shift xb sb
    have accb : hb.PlainList D ys := hacc'.at fun o e => hkb D o hDo hDw e
    have Γb : Γ g' hb := cx.up gb hΓ
    refine wpAny_mono (tests d hdm A { s with heap := hb, toks := tkb } g' _ hA sb ⟨Γb, hbd⟩) (fun ok sc hc => ?_) fun _ _ e => e
    obtain ⟨rfl, ⟨hc, tkc, rfl, kc⟩, gc, grc⟩ := hc
    have Γc : Γ gc hc := cx.up grc Γb
    have bdc : Bd d gc hc := bup d _ _ _ _ grc hbd
    have gcc : Grow g₁ h₁ gc hc := gb.trans grc
    have hidc : ∀ {a o}, hb.get? a = some o → g' a = none → gc a = none := fun e q => grc.hid e q
    have oc : OwnOk hc := O.keep _ _ hob fun b _ o e => kc b o e
    have stc : St (i + 1) hc := wframe _ _ _ stb fun b _ o e => kc b o e
    have accc : hc.PlainList D ys := accb.at fun o e => kc D o e
    have gDc : gc D = none := let ⟨_, q⟩ := accb; hidc q gD
    have goc : ∀ b ∈ own, gc b = none := fun b hbo => let ⟨_, q⟩ := O.live _ hob b hbo; hidc q (go b hbo)
    have gwc : ∀ b ∈ wr, gc b = none := fun b hbw => let ⟨_, q⟩ := live _ _ stb b hbw; hidc q (gw b hbw)
    have tk1 : items.take (i + 1) = items.take i ++ [d] := by rw [List.take_add_one, hd]; rfl
    cases hpd : p d with
    | false =>
      simp only [Bool.false_eq_true, if_false]
      refine ⟨N + 1 - (i + 1), by omega, hc, tkc, ys, gc, i + 1, rfl, stc, accc, oc, gcc, gDc, goc, gwc, ?_, hlt, rfl⟩
      rw [tk1, List.filter_append]; simpa [hpd] using hl.up grc
    | true =>
      simp only [if_true]
      refine wpAny_mono (helt d hdm hpd A { s with heap := hc, toks := tkc } gc _ hA grc.sub ⟨Γc, bdc⟩) (fun y se he => ?_) fun _ _ e => e
      obtain ⟨⟨he, tke, rfl, ke⟩, ge, gre, re⟩ := he
      have hide : ∀ {a o}, hc.get? a = some o → gc a = none → ge a = none := fun e q => gre.hid e q
      have gDe : ge D = none := let ⟨_, q⟩ := accc; hide q gDc
      have goe : ∀ b ∈ own, ge b = none := fun b hbo => let ⟨_, q⟩ := O.live _ oc b hbo; hide q (goc b hbo)
      have gwe : ∀ b ∈ wr, ge b = none := fun b hbw => let ⟨_, q⟩ := live _ _ stc b hbw; hide q (gwc b hbw)
      have hys : ys.size ≤ sizeLine := by
        have e1 := hl.length
        have e2 : (List.filter p (items.take i)).length ≤ (items.take i).length := List.length_filter_le _ _
        have e3 : (items.take i).length ≤ i := by rw [List.length_take]; omega
        rw [List.length_map] at e1
        have e4 : ys.toList.length = ys.size := by simp
        omega
      refine wpAny_list_append_plain (hsz := hys) (accc.at fun o e => ke D o e) fun hf plf hsf => ?_
      have sf : Sub ge hf := fun a o e => hsf.extBut a o (fun q => by rw [q, gDe] at e; cases e) (gre.sub a o e)
      have gee : Grow g₁ h₁ ge he := gcc.trans gre
      have xf : Ext h₁ hf := fun a o e => hsf.extBut a o (nD a o e) (gee.keep a o e)
      refine ⟨N + 1 - (i + 1), by omega, hf, tke, ys.push y, ge, i + 1, rfl, ?_, plf, ?_, gee.shift xf sf, gDe, goe, gwe, ?_, hlt, rfl⟩
      · exact wframe _ _ _ stc fun b hbf o e => hsf.extBut b o (fun q => hDf (q ▸ hbf)) (ke b o e)
      · exact O.keep _ _ oc fun b hbo o e => hsf.extBut b o (fun q => hDo (q ▸ hbo)) (ke b o e)
      · rw [tk1, List.filter_append, List.map_append]
        simpa [hpd] using (((hl.up grc).up gre).append (.cons re .nil))
  · have hin : i = N := by omega
    subst hin
    refine wdone _ _ _ hst' fun ha tka hka => ?_
    have sa : Sub g' ha := fun a o e => hka a o (fun hb => by rw [gw a hb] at e; cases e) (hgr.sub a o e)
    have xa : Ext h₁ ha := fun a o e => hka a o (nw a o e) (hgr.keep a o e)
    refine hR ha tka ys g' (hacc'.at fun o e => hka D o hDw e) ?_ (hgr.shift xa sa) gD go (O.keep _ _ hown' fun b hb o e => hka b o (how b hb) e)
    rwa [List.take_of_length_le (by omega)] at hl
end
end Mine
end

section
open PySem PySem.W PyProof.Rows PySem.Calls PySem.Spec
set_option Elab.async false
set_option maxRecDepth 100000
namespace Mine

section
variable {prog : Program} {w : World} {K : Frag} {Γ : G → Heap → Prop} {n : Nat} {env : Env}

theorem newEnv_cells {M : Model} {A : Around} {E : Value → Shared → Prop} {s : Shared} {scope : Scope} {cl : List (Str × Addr)} {Q : Env → Shared → Prop}
    (h : Q (newEnv scope s.heap.objs.size env.globals (cellsFrom (s.heap.objs.size + 1) scope.names cl) env.qual none .none (some env) builtinsNs) { s with heap := pushCells (s.heap.push { cls := .type "dict", data := .dict #[] }) scope.names }) :
    wpAny M A (newFunctionEnv scope env.globals cl [] env.qual none .none (some env)) Q E s := by
  simp only [newFunctionEnv, Option.isSome_some, if_true]
  refine wpAny_bind (wpAny_alloc ?_)
  refine wpAny_bind (wpAny_layCells _ (fun name kind cells => by cases hkc : kind == NameKind.cell <;> simp) _ _ _ _ ?_)
  rw [show ({ s with heap := s.heap.push { cls := .type "dict", data := .dict #[] } } : Shared).heap.objs.size = s.heap.objs.size + 1 from Heap.size_push ..]
  exact wpAny_bind (wpAny_pure (wpAny_pure h))

/-- what the block iterates -/
def SrcD {δ : Type} (prog : Program) (w : World) (Γ : G → Heap → Prop) (n : Nat) (env : Env) (iter : Expr) (tup : Bool) (items : List δ) (Iv : G → δ → Value → Prop) : Prop :=
  ∀ A s g E, Good n A → Sub g s.heap → Γ g s.heap → wpAny (model prog w) A (eval iter env) (fun xv s₁ => wpAny (model prog w) A (pyIter xv) (fun it s₂ =>
    Keeps s s₂ ∧ ∃ (g₁ : G) (h₁ : Heap) (I : Addr) (fp wr : List Addr) (P : Nat → Value → Prop) (St : Nat → Heap → Prop), it = .ref I ∧ Walks prog w A I fp wr items.length P St ∧ St 0 s₂.heap ∧ Grow g s.heap g₁ h₁ ∧ Ext h₁ s₂.heap ∧
      (∀ b ∈ wr, h₁.get? b = none) ∧ (∀ b ∈ fp, b < s₂.heap.objs.size) ∧ (∀ i h, St i h → ∀ b ∈ wr, ∃ o, h.get? b = some o) ∧
      (tup = true → ∀ i (s : Shared) v elts x1 tp (Q : Unit → Shared → Prop) E, St i s.heap → Q () s → wpAny (model prog w) A (letOwnedTupleGo (.Tuple elts x1 tp) (.ref I) v) Q E s) ∧
      (∀ i v d, P i v → items[i]? = some d → Iv g₁ d v)) E s₁) E s

/-- the block's target -/
structure Tgt {δ : Type} (prog : Program) (w : World) (env : Env) (scope : Scope) (cl : List (Str × Addr)) (n : Nat) (target : Expr) (tup : Bool) (own : Addr → List Addr) (OwnOk : Addr → Heap → Prop) (Iv : G → δ → Value → Prop) (Bd : Env → δ → G → Heap → Prop) : Prop where
  O : ∀ C, Own (own C) (OwnOk C)
  atC : ∀ C, ∀ b ∈ own C, C ≤ b
  hasC : ∀ C, C ∈ own C
  start : ∀ h : Heap, OwnOk h.objs.size (pushCells (h.push { cls := .type "dict", data := .dict #[] }) scope.names)
  ns : ∀ C h, OwnOk C h → ∃ m, h.Ns C m
  bup : ∀ cenv d g h g' h', Grow g h g' h' → Bd cenv d g h → Bd cenv d g' h'
  ivup : ∀ d v g g', (∀ a o, g a = some o → g' a = some o) → Iv g d v → Iv g' d v
  asg : ∀ A C it v d (s : Shared) g (Q : Unit → Shared → Prop) E, Good n A →
    (tup = true → ∀ (s' : Shared) elts x1 tp (Q : Unit → Shared → Prop) E, s'.heap = s.heap → Q () s' → wpAny (model prog w) A (letOwnedTupleGo (.Tuple elts x1 tp) it v) Q E s') →
    Iv g d v → Sub g s.heap → (∀ b ∈ own C, g b = none) → OwnOk C s.heap →
    (∀ h' tk, (∀ b o, b ∉ own C → s.heap.get? b = some o → h'.get? b = some o) → OwnOk C h' → Bd (compEnvC scope (cellsFrom (C + 1) scope.names cl) C env) d g h' → Q () { s with heap := h', toks := tk }) →
    wpAny (model prog w) A (letOwnedTupleGo target it v) (fun _ s₁ => wpAny (model prog w) A (assign target (compEnvC scope (cellsFrom (C + 1) scope.names cl) C env) v) Q E s₁) E s

/-- source and target as one -/
def SrcT {δ : Type} (prog : Program) (w : World) (Γ : G → Heap → Prop) (n : Nat) (env : Env) (scope : Scope) (cl : List (Str × Addr)) (iter target : Expr) (items : List δ) (own : Addr → List Addr) (OwnOk : Addr → Heap → Prop) (Bd : Env → δ → G → Heap → Prop) : Prop :=
  ∀ A s g E, Good n A → Sub g s.heap → Γ g s.heap → wpAny (model prog w) A (eval iter env) (fun xv s₁ => wpAny (model prog w) A (pyIter xv) (fun it s₂ =>
    Keeps s s₂ ∧ ∃ (g₁ : G) (h₁ : Heap) (I : Addr) (fp wr : List Addr) (St : Nat → Heap → Prop), it = .ref I ∧ (∀ b ∈ wr, b ∈ fp) ∧ (∀ i h h', St i h → (∀ b ∈ fp, ∀ o, h.get? b = some o → h'.get? b = some o) → St i h') ∧
      (∀ (s : Shared) (Q : Option Value → Shared → Prop) (E : Value → Shared → Prop), St items.length s.heap → (∀ h' tk, (∀ b o, b ∉ wr → s.heap.get? b = some o → h'.get? b = some o) → Q none { s with heap := h', toks := tk }) → wpAny (model prog w) A (pyNext (.ref I)) Q E s) ∧
      (∀ i (s : Shared) (Q : Value → Shared → Prop) (E : Value → Shared → Prop), St i s.heap → Q (.ref I) s → wpAny (model prog w) A (pyIter (.ref I)) Q E s) ∧
      St 0 s₂.heap ∧ Grow g s.heap g₁ h₁ ∧ Ext h₁ s₂.heap ∧ (∀ b ∈ wr, h₁.get? b = none) ∧ (∀ b ∈ fp, b < s₂.heap.objs.size) ∧ (∀ i h, St i h → ∀ b ∈ wr, ∃ o, h.get? b = some o) ∧
      (∀ C i d (s : Shared) g (Q : Shared → Prop) E, (∀ b ∈ own C, b ∉ fp) → i < items.length → items[i]? = some d → (∀ a o, g₁ a = some o → g a = some o) → Sub g s.heap → (∀ b ∈ own C, g b = none) → (∀ b ∈ wr, g b = none) → St i s.heap → OwnOk C s.heap →
        (∀ h' tk, (∀ b o, b ∉ own C → b ∉ wr → s.heap.get? b = some o → h'.get? b = some o) → St (i + 1) h' → OwnOk C h' → Bd (compEnvC scope (cellsFrom (C + 1) scope.names cl) C env) d g h' → Q { s with heap := h', toks := tk }) →
        wpAny (model prog w) A (pyNext (.ref I)) (fun r s₁ => ∃ v, r = some v ∧ wpAny (model prog w) A (letOwnedTupleGo target (.ref I) v) (fun _ s₂ => wpAny (model prog w) A (assign target (compEnvC scope (cellsFrom (C + 1) scope.names cl) C env) v) (fun _ => Q) E s₂) E s₁) E s)) E s₁) E s

/-- what the block's own objects are -/
structure Tg {δ : Type} (env : Env) (scope : Scope) (own : Addr → List Addr) (OwnOk : Addr → Heap → Prop) (Bd : Env → δ → G → Heap → Prop) : Prop where
  O : ∀ C, Own (own C) (OwnOk C)
  atC : ∀ C, ∀ b ∈ own C, C ≤ b
  hasC : ∀ C, C ∈ own C
  start : ∀ h : Heap, OwnOk h.objs.size (pushCells (h.push { cls := .type "dict", data := .dict #[] }) scope.names)
  ns : ∀ C h, OwnOk C h → ∃ m, h.Ns C m
  bup : ∀ cenv d g h g' h', Grow g h g' h' → Bd cenv d g h → Bd cenv d g' h'
theorem Tgt.tg {δ : Type} {target : Expr} {scope : Scope} {cl : List (Str × Addr)} {tup : Bool} {own : Addr → List Addr} {OwnOk : Addr → Heap → Prop} {Iv : G → δ → Value → Prop} {Bd : Env → δ → G → Heap → Prop} (T : Tgt prog w env scope cl n target tup own OwnOk Iv Bd) :
    Tg env scope own OwnOk Bd := ⟨T.O, T.atC, T.hasC, T.start, T.ns, T.bup⟩
theorem SrcD.join {δ : Type} {iter target : Expr} {scope : Scope} {cl : List (Str × Addr)} {tup : Bool} {own : Addr → List Addr} {OwnOk : Addr → Heap → Prop} {Iv : G → δ → Value → Prop} {Bd : Env → δ → G → Heap → Prop} {items : List δ}
    (src : SrcD prog w Γ n env iter tup items Iv) (T : Tgt prog w env scope cl n target tup own OwnOk Iv Bd) : SrcT prog w Γ n env scope cl iter target items own OwnOk Bd := fun A s g E hA hs hΓ =>
  wpAny_mono (src A s g E hA hs hΓ) (fun xv s₁ h₁ => wpAny_mono h₁ (fun it s₂ h₂ => by
    obtain ⟨k, g₁, h₁, I, fp, wr, P, St, rfl, W, hst, gr, x1, h1w, hfp, live, lo, hP⟩ := h₂
    refine ⟨k, g₁, h₁, I, fp, wr, St, rfl, W.sub, W.frame, W.done, W.self, hst, gr, x1, h1w, hfp, live, ?_⟩
    intro C i d sx gx Q E hof hi hd hle hsx hgo hgw hstx hox k
    refine W.item i _ _ _ hi hstx fun v ha tka hPv hsta hka => ⟨v, rfl, ?_⟩
    have how : ∀ b ∈ own C, b ∉ wr := fun b hb h => hof b hb (W.sub _ h)
    have sa : Sub gx ha := fun a o e => hka a o (fun hb => by rw [hgw a hb] at e; cases e) (hsx a o e)
    refine T.asg A _ _ v d { sx with heap := ha, toks := tka } gx _ _ hA (fun ht s' elts x1 tp Q' E' hh hq => lo ht (i + 1) s' v elts x1 tp Q' E' (hh ▸ hsta) hq) (T.ivup d v _ _ hle (hP i v d hPv hd)) sa hgo ((T.O C).keep _ _ hox fun b hb o e => hka b o (how b hb) e) fun hb tkb hkb hob hbd => ?_
    exact k hb tkb (fun b o h1 h2 e => hkb b o h1 (hka b o h2 e)) (W.frame _ _ _ hsta fun b hbf o e => hkb b o (fun q => hof b q hbf) e) hob hbd) fun _ _ e => e) fun _ _ e => e

theorem comp_treeT {δ : Type} {A : Around} {s : Shared} {g : G} {E : Value → Shared → Prop} {elt target iter : Expr} {ifs : List Expr} {scope : Scope} {pos p' : Pos} {cl : List (Str × Addr)}
    {own : Addr → List Addr} {OwnOk : Addr → Heap → Prop} {Bd : Env → δ → G → Heap → Prop} {p : δ → Bool} {f : δ → PyData} {items : List δ} {use : Option (Value → Sem Unit)} {Q : Value → Shared → Prop} (cx : Cx K Γ)
    (src : SrcT prog w Γ n env scope cl iter target items own OwnOk Bd) (T : Tg env scope own OwnOk Bd)
    (hsz : items.length ≤ sizeLine) (hclos : closureFor scope env = pure cl) (hkind : scope.kind = .function) (hnames : ∀ y ∈ scope.names, y.2 = .local → scope.names.lookup y.1 = some .local)
    (hfs : ∀ x, foldedSetIterable iter env x = pure x)
    (tests : ∀ C, ∀ d ∈ items, TestsD prog w (fun g h => Γ g h ∧ Bd (compEnvC scope (cellsFrom (C + 1) scope.names cl) C env) d g h) n (compEnvC scope (cellsFrom (C + 1) scope.names cl) C env) ifs (p d))
    (helt : ∀ C, ∀ d ∈ items, p d = true → EvD prog w (fun g h => Γ g h ∧ Bd (compEnvC scope (cellsFrom (C + 1) scope.names cl) C env) d g h) n (compEnvC scope (cellsFrom (C + 1) scope.names cl) C env) elt (f d))
    (hA : Good n A) (hs : Sub g s.heap) (hΓ : Γ g s.heap)
    (hQ : ∀ D C s' g', Keeps s s' → (∃ m, s'.heap.Ns C m) → s.heap.get? C = none → g' C = none → Grow g s.heap g' s'.heap → R g' (.ref D) (.list ((items.filter p).map f)) → compPost (model prog w) A E use Q (.ref D) C (.ok .next) s') :
    wpAny (model prog w) A (comprehension (.ListComp elt [⟨target, iter, ifs, 0⟩] scope pos) scope env p' (newList []) false (eval iter env) use) Q E s := by
  refine wpAny_comprehension_free rfl hfs hclos hkind hnames (wpAny_mono (src A s g E hA hs hΓ) (fun xv s₁ h₁ => wpAny_mono h₁ (fun it s₂ h₂ => ?_) fun _ _ e => e) fun _ _ e => e)
  obtain ⟨⟨H2, tk2, rfl, k2⟩, g₁, h₁, I, fp, wr, St, rfl, wsub, wframe, wdone, wself, hst, gr, x1, h1w, hfp, live, adv⟩ := h₂
  refine wpAny_newObj_type (newEnv_cells ?_)
  dsimp only
  have hC : (H2.push { cls := .type "list", dict := none, data := .seq ([] : List Value).toArray }).objs.size = H2.objs.size + 1 := Heap.size_push ..
  generalize hH3 : H2.push { cls := .type "list", dict := none, data := .seq ([] : List Value).toArray } = H3 at hC ⊢
  have e3 : Ext H2 H3 := hH3 ▸ ext_push _ _
  have D3 : H3.get? H2.objs.size = some { cls := .type "list", data := .seq #[] } := hH3 ▸ Heap.get?_push_size _ rfl
  have start := T.start H3
  have e4 : Ext H3 (pushCells (H3.push { cls := .type "dict", data := .dict #[] }) scope.names) := fun b o e => pushCells_keeps _ _ b o (Heap.get?_push_of_some _ e)
  generalize hH4 : pushCells (H3.push { cls := .type "dict", data := .dict #[] }) scope.names = H4 at start e4 ⊢
  have none1 : ∀ a, H2.objs.size ≤ a → h₁.get? a = none := fun a ha => by
    cases e : h₁.get? a with
    | none => rfl
    | some o => exact absurd (Heap.lt_size (x1 a o e)) (Nat.not_lt.mpr ha)
  have none0 : ∀ a, h₁.get? a = none → s.heap.get? a = none := fun a e => by
    cases q : s.heap.get? a with
    | none => rfl
    | some o => rw [gr.keep a o q] at e; cases e
  have hDC : ∀ b ∈ own H3.objs.size, H2.objs.size < b := fun b hb => Nat.lt_of_lt_of_le (by rw [hC]; exact Nat.lt_succ_self _) (T.atC _ b hb)
  have x4 : Ext h₁ H4 := fun b o e => e4 b o (e3 b o (x1 b o e))
  have loop : ∀ tk, codeAny (model prog w) A (.compLoop (.ListComp elt [⟨target, iter, ifs, 0⟩] scope pos) 0 (.ref I) (.ref H2.objs.size) (compEnvC scope (cellsFrom (H3.objs.size + 1) scope.names cl) H3.objs.size env))
      (compPost (model prog w) A E use Q (.ref H2.objs.size) H3.objs.size) { s with heap := H4, toks := tk } := by
    intro tk
    refine comp_turns (own := own H3.objs.size) (OwnOk := OwnOk H3.objs.size) (g₁ := g₁) (h₁ := h₁) (items := items) (p := p) (f := f) (Bd := Bd (compEnvC scope (cellsFrom (H3.objs.size + 1) scope.names cl) H3.objs.size env)) cx wsub wframe wdone (T.O _) hA hsz rfl
      (wframe _ _ _ hst fun b _ o e => e4 b o (e3 b o e)) ⟨0, e4 _ _ D3⟩ start ((Grow.refl gr.sub).shift x4 fun a o e => x4 a o (gr.sub a o e)) gr.sub (cx.up gr hΓ)
      (fun hm => Nat.lt_irrefl _ (hDC _ hm)) (fun hm => Nat.lt_irrefl _ (hfp _ hm)) (fun b hb hf => absurd (hfp b hf) (Nat.not_lt.mpr (Nat.le_of_lt (hDC b hb)))) (none1 _ (Nat.le_refl _)) (fun b hb => none1 b (Nat.le_of_lt (hDC b hb))) h1w live
      (fun d g h g' h' => T.bup _ d g h g' h') ?_ (tests _) (helt _) ?_
    · intro i d sx gx Qx Ex hi hd hle hsx hgo hgw hstx hox k
      exact adv _ i d sx gx Qx Ex (fun b hb hf => absurd (hfp b hf) (Nat.not_lt.mpr (Nat.le_of_lt (hDC b hb)))) hi hd hle hsx hgo hgw hstx hox k
    · intro h' tk' ys g' hpl hrl hgr hgD hgo hok
      obtain ⟨nn, hpl'⟩ := hpl
      have gq : Grow g₁ h₁ (put g' H2.objs.size { cls := .type "list", data := .seq ys nn }) h' := by
        refine ⟨fun a o e => ?_, fun a o e => ?_, fun a o e => ?_, hgr.keep⟩
        · by_cases q : a = H2.objs.size
          · subst q; rw [hgr.le _ _ e] at hgD; cases hgD
          · rw [put_ne q]; exact hgr.le a o e
        · by_cases q : a = H2.objs.size
          · subst q; rw [put_self] at e; cases e; exact hpl'
          · rw [put_ne q] at e; exact hgr.sub a o e
        · by_cases q : a = H2.objs.size
          · subst q; exact .inr (none1 _ (Nat.le_refl _))
          · rw [put_ne q] at e; exact hgr.new a o e
      have hC' : H3.objs.size ≠ H2.objs.size := by rw [hC]; exact Nat.succ_ne_self _
      refine hQ _ _ { s with heap := h', toks := tk' } _ ⟨h', tk', rfl, fun b o e => hgr.keep b o (gr.keep b o e)⟩ (T.ns _ _ hok) (none0 _ (none1 _ (by rw [hC]; exact Nat.le_succ _))) (by rw [put_ne hC']; exact hgo _ (T.hasC _)) (gr.trans gq) (.list put_self (hrl.mono fun a o e => ?_))
      by_cases q : a = H2.objs.size
      · subst q; rw [hgD] at e; cases e
      · rw [put_ne q]; exact e
  exact codeAny_compStart_list (loop _) (wself 0 _ _ _ (wframe _ _ _ hst fun b _ o e => e4 b o (e3 b o e)) (loop _))

theorem comp_tree {δ : Type} {A : Around} {s : Shared} {g : G} {E : Value → Shared → Prop} {elt target iter : Expr} {ifs : List Expr} {scope : Scope} {pos p' : Pos} {cl : List (Str × Addr)} {tup : Bool}
    {own : Addr → List Addr} {OwnOk : Addr → Heap → Prop} {Iv : G → δ → Value → Prop} {Bd : Env → δ → G → Heap → Prop} {p : δ → Bool} {f : δ → PyData} {items : List δ} {use : Option (Value → Sem Unit)} {Q : Value → Shared → Prop} (cx : Cx K Γ)
    (src : SrcD prog w Γ n env iter tup items Iv) (T : Tgt prog w env scope cl n target tup own OwnOk Iv Bd)
    (hsz : items.length ≤ sizeLine) (hclos : closureFor scope env = pure cl) (hkind : scope.kind = .function) (hnames : ∀ y ∈ scope.names, y.2 = .local → scope.names.lookup y.1 = some .local)
    (hfs : ∀ x, foldedSetIterable iter env x = pure x)
    (tests : ∀ C, ∀ d ∈ items, TestsD prog w (fun g h => Γ g h ∧ Bd (compEnvC scope (cellsFrom (C + 1) scope.names cl) C env) d g h) n (compEnvC scope (cellsFrom (C + 1) scope.names cl) C env) ifs (p d))
    (helt : ∀ C, ∀ d ∈ items, p d = true → EvD prog w (fun g h => Γ g h ∧ Bd (compEnvC scope (cellsFrom (C + 1) scope.names cl) C env) d g h) n (compEnvC scope (cellsFrom (C + 1) scope.names cl) C env) elt (f d))
    (hA : Good n A) (hs : Sub g s.heap) (hΓ : Γ g s.heap)
    (hQ : ∀ D C s' g', Keeps s s' → (∃ m, s'.heap.Ns C m) → s.heap.get? C = none → g' C = none → Grow g s.heap g' s'.heap → R g' (.ref D) (.list ((items.filter p).map f)) → compPost (model prog w) A E use Q (.ref D) C (.ok .next) s') :
    wpAny (model prog w) A (comprehension (.ListComp elt [⟨target, iter, ifs, 0⟩] scope pos) scope env p' (newList []) false (eval iter env) use) Q E s :=
  comp_treeT cx (src.join T) T.tg hsz hclos hkind hnames hfs tests helt hA hs hΓ hQ

/-! the targets -/
abbrev Wth (Γ : G → Heap → Prop) (env : Env) (x : Str) (d : PyData) : G → Heap → Prop := fun g h => Γ g h ∧ ∃ v, VarIs env h x v ∧ R g v d
theorem Cx.wth (cx : Cx K Γ) {x : Str} {d : PyData} : Cx K (Wth Γ env x d) := ⟨fun w' ⟨a, v, b, c⟩ => ⟨cx.up w' a, v, b.up w'.keep, c.up w'⟩, fun h => cx.top h.1⟩
theorem compEnvC_kind {scope : Scope} {cs : List (Str × Addr)} {C : Addr} : (compEnvC scope cs C env).scope.kind = scope.kind := rfl
theorem Tgt.local {x : Str} {px : Pos} {scope : Scope} {cl : List (Str × Addr)} (hkind : scope.kind = .function) (hx : scope.names.lookup x = some .local) (hd : (x == ("__debug__" : Str)) = false) (hp : ∀ h : Heap, pushCells h scope.names = h) :
    Tgt prog w env scope cl n (.Name x px) false (fun C => [C]) (fun C h => ∃ m, h.Ns C m) (fun g (d : PyData) v => R g v d) (fun cenv d g h => ∃ v, VarIs cenv h x v ∧ R g v d) where
  O := fun C => ⟨fun h ⟨m, o, _, _, e, _⟩ b hb => by rw [List.mem_singleton.mp hb]; exact ⟨o, e⟩, fun h h' ⟨m, hn⟩ k => ⟨m, hn.at' fun o e => k C (List.mem_singleton.mpr rfl) o e⟩⟩
  atC := fun C b hb => by rw [List.mem_singleton.mp hb]; exact Nat.le_refl _
  hasC := fun C => List.mem_singleton.mpr rfl
  start := fun h => by rw [hp]; exact ⟨_, Heap.Ns.new h (.type "dict")⟩
  ns := fun C h x => x
  bup := fun cenv d g h g' h' w' ⟨v, a, b⟩ => ⟨v, a.up w'.keep, b.up w'⟩
  ivup := fun d v g g' le r => r.mono le
  asg := fun A C it v d s g Q E hA lo r hs hgo ⟨m, hn⟩ k => by
    refine wpAny_pure (wpAny_assign_Name (wpAny_storeName_local (lookup_relabel_local hx) hn (fun h' hn' hs' => ?_) (by show (scope.kind == .class || (scope.kind == .module && _)) = false; rw [hkind]; rfl)))
    exact k h' _ (fun b o hb e => hs'.extBut b o (fun q => hb (List.mem_singleton.mpr q)) e) ⟨_, hn'⟩ ⟨v, ⟨hkind, hd, .inl ⟨lookup_relabel_local hx, _, hn', by simp⟩⟩, r⟩
theorem Tgt.cell {x : Str} {px : Pos} {scope : Scope} {cl : List (Str × Addr)} (hkind : scope.kind = .function) (hx : ∀ C cs, (compEnvC scope cs C env).kindOf x = some .cell) (hd : (x == ("__debug__" : Str)) = false)
    (hp : ∀ h : Heap, pushCells h scope.names = h.push { cls := .type "cell", data := .cell none }) (hc : ∀ C, (cellsFrom (C + 1) scope.names cl).lookup x = some (C + 1)) :
    Tgt prog w env scope cl n (.Name x px) false (fun C => [C, C + 1]) (fun C h => (∃ m, h.Ns C m) ∧ ∃ v, h.IsCell (C + 1) v) (fun g (d : PyData) v => R g v d) (fun cenv d g h => ∃ v, VarIs cenv h x v ∧ R g v d) where
  O := fun C => ⟨fun h ⟨⟨m, o, _, _, e, _⟩, v, o', e', _⟩ b hb => by
      rcases List.mem_cons.mp hb with rfl | hb
      · exact ⟨o, e⟩
      · rw [List.mem_singleton.mp hb]; exact ⟨o', e'⟩, fun h h' ⟨⟨m, hn⟩, v, o', e', q⟩ k => ⟨⟨m, hn.at' fun o e => k C (.head _) o e⟩, v, o', k _ (.tail _ (.head _)) o' e', q⟩⟩
  atC := fun C b hb => by
    rcases List.mem_cons.mp hb with rfl | hb
    · exact Nat.le_refl _
    · rw [List.mem_singleton.mp hb]; exact Nat.le_succ _
  hasC := fun C => .head _
  start := fun h => by
    rw [hp]
    refine ⟨⟨_, (Heap.Ns.new h (.type "dict")).keeps (ext_push _ _)⟩, none, ?_⟩
    have e := Heap.get?_push_size (h.push { cls := .type "dict", data := .dict #[] }) (o := { cls := .type "cell", data := .cell none }) rfl
    rw [Heap.size_push] at e
    exact ⟨_, e, rfl⟩
  ns := fun C h x => x.1
  bup := fun cenv d g h g' h' w' ⟨v, a, b⟩ => ⟨v, a.up w'.keep, b.up w'⟩
  ivup := fun d v g g' le r => r.mono le
  asg := fun A C it v d s g Q E hA lo r hs hgo ⟨⟨m, hn⟩, v₀, hv⟩ k => by
    refine wpAny_pure (wpAny_assign_Name (wpAny_storeName_cell hkind (hx _ _) (hc C) hv fun h' hv' hs' => ?_))
    exact k h' s.toks (fun b o hb e => hs'.extBut b o (fun q => hb (by rw [q]; exact .tail _ (.head _))) e) ⟨⟨m, hn.sameBut hs' (Nat.ne_of_lt (Nat.lt_succ_self _))⟩, _, hv'⟩ ⟨v, ⟨hkind, hd, .inr ⟨hx _ _, C + 1, hc C, hv'⟩⟩, r⟩

/-! the sources -/
theorem SrcD.list {iter : Expr} {ds : List PyData} (h : EvD prog w Γ n env iter (.list ds)) : SrcD prog w Γ n env iter true ds (fun g d v => R g v d) := fun A s g E hA hs hΓ =>
  wpAny_mono (h A s g E hA hs hΓ) (fun xv s₁ ⟨k1, g1, w1, r1⟩ => by
    obtain ⟨ax, vs, rfl, l, hl⟩ := r1.isList w1.sub
    have hlt : ax < s₁.heap.objs.size := let ⟨_, e, _⟩ := hl; Heap.lt_size e
    refine wpAny_pyIter_list hl ⟨?_, g1, s₁.heap, s₁.heap.objs.size, [s₁.heap.objs.size, ax], [s₁.heap.objs.size], (fun i v => vs.toArray[i]? = some v), (fun i h => h.IsListIter s₁.heap.objs.size ax i ∧ h.IsList ax vs.toArray), rfl, ?_, ⟨⟨_, Heap.get?_push_size _ rfl, rfl, rfl⟩, hl.push _⟩, w1, ext_push _ _, ?_, ?_, ?_, ?_, ?_⟩
    · exact keeps_trans k1 ⟨_, s₁.toks, rfl, ext_push _ _⟩
    · have := Walks.list (prog := prog) (w := w) hA.1 s₁.heap.objs.size ax (Nat.ne_of_lt hlt) vs.toArray
      rwa [show vs.toArray.size = ds.length from (List.size_toArray ..).trans l.length] at this
    · intro b hb; rw [List.mem_singleton.mp hb]; exact none_at_size _
    · intro b hb
      show b < (s₁.heap.push _).objs.size
      rw [Heap.size_push]
      rcases List.mem_cons.mp hb with rfl | hb
      · exact Nat.lt_succ_self _
      · rw [List.mem_singleton.mp hb]; exact Nat.lt_succ_of_lt hlt
    · intro i h st b hb
      rw [List.mem_singleton.mp hb]
      obtain ⟨⟨o, e, _⟩, _⟩ := st
      exact ⟨o, e⟩
    · intro _ i s' v elts x1 tp Q' E' st q
      have : ∃ T, v = .ref T ∨ ∀ T, v ≠ .ref T := by cases v <;> first | exact ⟨_, .inl rfl⟩ | exact ⟨0, .inr fun _ e => nomatch e⟩
      obtain ⟨T, rfl | hne⟩ := this
      · exact wpAny_letOwnedTupleGo_listiter st.1 q
      · cases v <;> first | exact absurd rfl (hne _) | exact wpAny_pure q
    · intro i v d hP hd
      obtain ⟨d', e, r⟩ := l.get (i := i) (v := v) (by simpa using hP)
      rw [hd] at e
      cases e
      exact r) fun _ _ e => e

/-! a block as a value -/
theorem EvD.comp {δ : Type} {elt target iter : Expr} {ifs : List Expr} {scope : Scope} {pos : Pos} {cl : List (Str × Addr)} {tup : Bool}
    {own : Addr → List Addr} {OwnOk : Addr → Heap → Prop} {Iv : G → δ → Value → Prop} {Bd : Env → δ → G → Heap → Prop} {p : δ → Bool} {f : δ → PyData} {items : List δ} (cx : Cx K Γ)
    (src : SrcD prog w Γ n env iter tup items Iv) (T : Tgt prog w env scope cl n target tup own OwnOk Iv Bd)
    (hsz : items.length ≤ sizeLine) (hclos : closureFor scope env = pure cl) (hkind : scope.kind = .function) (hnames : ∀ y ∈ scope.names, y.2 = .local → scope.names.lookup y.1 = some .local)
    (hfs : ∀ x, foldedSetIterable iter env x = pure x)
    (tests : ∀ C, ∀ d ∈ items, TestsD prog w (fun g h => Γ g h ∧ Bd (compEnvC scope (cellsFrom (C + 1) scope.names cl) C env) d g h) n (compEnvC scope (cellsFrom (C + 1) scope.names cl) C env) ifs (p d))
    (helt : ∀ C, ∀ d ∈ items, p d = true → EvD prog w (fun g h => Γ g h ∧ Bd (compEnvC scope (cellsFrom (C + 1) scope.names cl) C env) d g h) n (compEnvC scope (cellsFrom (C + 1) scope.names cl) C env) elt (f d)) :
    EvD prog w Γ n env (.ListComp elt [⟨target, iter, ifs, 0⟩] scope pos) (.list ((items.filter p).map f)) := fun A s g E hA hs hΓ => by
  show wpAny _ _ (eval _ _) _ _ _
  rw [eval_ListComp]
  refine comp_tree (use := none) cx src T hsz hclos hkind hnames hfs tests helt hA hs hΓ fun D C s' g' hk hn hC gC gr r => ?_
  obtain ⟨m, hn⟩ := hn
  obtain ⟨h', tk, rfl, k⟩ := hk
  refine ⟨m, hn, fun h'' hs'' => ?_⟩
  have x' : Ext s.heap h'' := fun b o e => hs''.extBut b o (fun q => by rw [q, hC] at e; cases e) (gr.keep b o e)
  exact ⟨⟨h'', tk, rfl, x'⟩, g', gr.shift x' fun a o e => hs''.extBut a o (fun q => by rw [q, gC] at e; cases e) (gr.sub a o e), r⟩
end
end Mine
end

section
open PySem PySem.W PyProof.Rows PySem.Calls PySem.Spec
set_option Elab.async false
set_option maxRecDepth 100000
namespace Mine

abbrev Loc := List (Str × PyData)
/-- name x of the frame holds v -/
def Holds (env : Env) (m cm : Str → Option Value) (x : Str) (v : Value) : Prop :=
  (x == ("__debug__" : Str)) = false ∧ ((env.kindOf x = some .local ∧ m x = some v) ∨ (env.kindOf x = some .cell ∧ (∃ c, env.cells.lookup x = some c) ∧ cm x = some v))
abbrev bmObj (a : Addr) : Obj := { cls := .type "builtin_function_or_method", data := .fields #[.builtin "list.append", .ref a] }
/-- a list of the call's own that still grows: its name, the name of its bound append, its items -/
structure ML where
  x : Str
  ad : Option Str
  ys : List PyData
structure Hid (s₀ : Shared) (env : Env) (g : G) (a : Addr) : Prop where
  g : g a = none
  old : s₀.heap.get? a = none
  loc : a ≠ env.locals
  cel : ∀ n c, env.cells.lookup n = some c → a ≠ c
def MlIs (s₀ : Shared) (env : Env) (g : G) (h : Heap) (m cm : Str → Option Value) (M : ML) : Prop :=
  ∃ D vs, Holds env m cm M.x (.ref D) ∧ h.PlainList D vs ∧ RL g vs.toList M.ys ∧ Hid s₀ env g D ∧ ∀ y, M.ad = some y → ∃ q, Holds env m cm y (.ref q) ∧ h.get? q = some (bmObj D) ∧ Hid s₀ env g q ∧ q ≠ D
/-- a call's frame: what its names hold -/
structure Fm (s₀ : Shared) (g₀ : G) (env : Env) (ρ : Loc) (ml : Option ML) (g : G) (s : Shared) : Prop where
  inc : ∃ m cm, InCallC s₀ env.locals m env.cells cm s ∧ (∀ x d, ρ.lookup x = some d → ∃ v, Holds env m cm x v ∧ R g v d) ∧ (∀ M, ml = some M → MlIs s₀ env g s.heap m cm M)
  kind : env.scope.kind = .function
  grow : Grow g₀ s₀.heap g s.heap
  hidL : g env.locals = none
  hidC : ∀ n c, env.cells.lookup n = some c → g c = none

def ΓF (K : Frag) (env : Env) (ρ : Loc) : G → Heap → Prop := fun g h => TopOk K h ∧ ∀ x d, ρ.lookup x = some d → ∃ v, VarIs env h x v ∧ R g v d
theorem cxF {K : Frag} {env : Env} {ρ : Loc} : Cx K (ΓF K env ρ) := ⟨fun w' ⟨a, b⟩ => ⟨a.up w'.keep, fun x d e => let ⟨v, c, r⟩ := b x d e; ⟨v, c.up w'.keep, r.up w'⟩⟩, fun h => h.1⟩
theorem vdF {K : Frag} {env : Env} {ρ : Loc} {x : Str} {d : PyData} (e : ρ.lookup x = some d) : VD (ΓF K env ρ) env x d := fun _ _ h => h.2 x d e

section
variable {s₀ s : Shared} {g₀ g : G} {env : Env} {ρ : Loc} {ml : Option ML} {K : Frag}
theorem Fm.var (F : Fm s₀ g₀ env ρ ml g s) {x : Str} {d : PyData} (e : ρ.lookup x = some d) : ∃ v, VarIs env s.heap x v ∧ R g v d := by
  obtain ⟨m, cm, I, hv, _⟩ := F.inc
  obtain ⟨v, ⟨hd, h⟩, r⟩ := hv x d e
  refine ⟨v, ⟨F.kind, hd, ?_⟩, r⟩
  rcases h with ⟨a, b⟩ | ⟨a, ⟨c, b⟩, q⟩
  · exact .inl ⟨a, m, I.toInCall.ns, b⟩
  · exact .inr ⟨a, c, b, q ▸ I.cell x c b⟩
theorem Fm.Γ (F : Fm s₀ g₀ env ρ ml g s) (t : TopOk K s₀.heap) : ΓF K env ρ g s.heap := ⟨t.up F.grow.keep, fun _ _ e => F.var e⟩
theorem Fm.up (F : Fm s₀ g₀ env ρ ml g s) {s' : Shared} {g' : G} (hk : Keeps s s') (gr : Grow g s.heap g' s'.heap) : Fm s₀ g₀ env ρ ml g' s' := by
  obtain ⟨m, cm, I, hv, hl⟩ := F.inc
  obtain ⟨h', tk, rfl, k⟩ := hk
  obtain ⟨H, t0, e0⟩ := I.toInCall.same
  refine ⟨⟨m, cm, ⟨⟨⟨h', tk, by rw [e0]⟩, I.toInCall.ns.keeps k, fun b o e => k b o (I.toInCall.keep b o e), I.toInCall.fresh⟩, fun n c q => (I.cell n c q).keeps k, I.apart, I.above⟩, fun x d e => let ⟨v, a, r⟩ := hv x d e; ⟨v, a, r.up gr⟩, fun M e => ?_⟩, F.kind, F.grow.trans gr, ?_, fun n c q => ?_⟩
  · obtain ⟨D, vs, a, b, c, d, f⟩ := hl M e
    exact ⟨D, vs, a, b.at fun o e => k D o e, c.up gr, let ⟨_, q⟩ := b; ⟨gr.hid q d.g, d.old, d.loc, d.cel⟩, fun y hy => let ⟨q, q1, q2, q3, q4⟩ := f y hy; ⟨q, q1, k _ _ q2, ⟨gr.hid q2 q3.g, q3.old, q3.loc, q3.cel⟩, q4⟩⟩
  · obtain ⟨o, _, _, q, _⟩ := I.toInCall.ns
    exact gr.hid q F.hidL
  · obtain ⟨o, q', _⟩ := I.cell n c q
    exact gr.hid q' (F.hidC n c q)
theorem Fm.weaken (F : Fm s₀ g₀ env ρ ml g s) {ρ' : Loc} (h : ∀ x d, ρ'.lookup x = some d → ρ.lookup x = some d) : Fm s₀ g₀ env ρ' ml g s := by
  obtain ⟨m, cm, I, hv, hl⟩ := F.inc
  exact ⟨⟨m, cm, I, fun x d e => hv x d (h x d e), hl⟩, F.kind, F.grow, F.hidL, F.hidC⟩
/-- a heap that differs only at an address that the frame does not know -/
theorem Fm.other (F : Fm s₀ g₀ env ρ ml g s) {C : Addr} {h' : Heap} {tk : Nat} (hs : Heap.SameBut C s.heap h') (hC : s₀.heap.get? C = none) (gC : g C = none) (hL : env.locals ≠ C) (hc : ∀ n c, env.cells.lookup n = some c → c ≠ C)
    (hD : ml = none) : Fm s₀ g₀ env ρ ml g { s with heap := h', toks := tk } := by
  obtain ⟨m, cm, I, hv, hl⟩ := F.inc
  obtain ⟨H, t0, e0⟩ := I.toInCall.same
  have x' : Ext s₀.heap h' := fun b o e => hs.extBut b o (fun q => by rw [q, hC] at e; cases e) (I.toInCall.keep b o e)
  refine ⟨⟨m, cm, ⟨⟨⟨h', tk, by rw [e0]⟩, I.toInCall.ns.sameBut hs hL, x', I.toInCall.fresh⟩, fun n c q => (I.cell n c q).sameBut hs (hc n c q), I.apart, I.above⟩, hv, fun M e => ?_⟩, F.kind, F.grow.shift x' fun a o e => hs.extBut a o (fun q => by rw [q, gC] at e; cases e) (F.grow.sub a o e), F.hidL, F.hidC⟩
  rw [hD] at e
  cases e
theorem lookup_cons_ne {x y : Str} {d : PyData} (h : y ≠ x) : ((x, d) :: ρ).lookup y = ρ.lookup y := by
  rw [List.lookup_cons]
  have : (y == x) = false := by simpa using h
  rw [this]
theorem lookup_cons_eq {x : Str} {d : PyData} : ((x, d) :: ρ).lookup x = some d := by rw [List.lookup_cons]; simp
theorem cell_apart {cs : List (Str × Addr)} (hp : cs.Pairwise fun x y => x.2 ≠ y.2) {n n' : Str} {c : Addr} (h : cs.lookup n = some c) (h' : cs.lookup n' = some c) : n = n' := name_of_addr hp (mem_of_lookup h) (mem_of_lookup h')
/-- a store -/
theorem Fm.store {M : Model} {A : Around} {E : Value → Shared → Prop} {Q : Unit → Shared → Prop} (F : Fm s₀ g₀ env ρ ml g s) {x : Str} {d : PyData} {v : Value} (hd : (x == ("__debug__" : Str)) = false)
    (hx : env.kindOf x = some .local ∨ (env.kindOf x = some .cell ∧ ∃ c, env.cells.lookup x = some c)) (r : R g v d) (hm : ∀ M, ml = some M → M.x ≠ x ∧ M.ad ≠ some x)
    (k : ∀ s', Keeps s₀ s' → Fm s₀ g₀ env ((x, d) :: ρ) ml g s' → (∀ b o, b ≠ env.locals → (∀ n c, env.cells.lookup n = some c → b ≠ c) → s.heap.get? b = some o → s'.heap.get? b = some o) → Q () s') : wpAny M A (storeName env x v) Q E s := by
  obtain ⟨m, cm, I, hv, hl⟩ := F.inc
  obtain ⟨H, t0, e0⟩ := I.toInCall.same
  rcases hx with hx | ⟨hx, c, hc⟩
  · refine wpAny_storeName_local hx I.toInCall.ns (fun h' hn' hs' => ?_) (by rw [F.kind]; rfl)
    have x' : Ext s₀.heap h' := fun b o e => hs'.extBut b o (Nat.ne_of_lt (Nat.lt_of_lt_of_le (Heap.lt_size e) I.toInCall.fresh)) (I.toInCall.keep b o e)
    refine k _ ⟨h', _, by rw [e0], x'⟩ ⟨⟨_, cm, ⟨⟨⟨h', _, by rw [e0]⟩, hn', x', I.toInCall.fresh⟩, fun n c q => (I.cell n c q).sameBut hs' (Nat.ne_of_gt (I.above n c (mem_of_lookup q))), I.apart, I.above⟩, fun y e q => ?_, fun M q => ?_⟩, F.kind,
      F.grow.shift x' fun a o e => hs'.extBut a o (fun q => by rw [q, F.hidL] at e; cases e) (F.grow.sub a o e), F.hidL, F.hidC⟩ (fun b o hb _ e => hs'.extBut b o hb e)
    · by_cases hy : y = x
      · subst hy
        rw [lookup_cons_eq] at q
        cases q
        exact ⟨v, ⟨hd, .inl ⟨hx, by simp⟩⟩, r⟩
      · rw [lookup_cons_ne hy] at q
        obtain ⟨u, ⟨hd', h⟩, r'⟩ := hv y e q
        exact ⟨u, ⟨hd', h.imp (fun ⟨a, b⟩ => ⟨a, (if_neg hy).trans b⟩) id⟩, r'⟩
    · obtain ⟨D, vs, ⟨hd', h⟩, b, z1, z2, z3⟩ := hl M q
      have hy := hm M q
      refine ⟨D, vs, ⟨hd', h.imp (fun ⟨a, b⟩ => ⟨a, (if_neg hy.1).trans b⟩) id⟩, b.at fun o e => hs'.extBut D o z2.loc e, z1, z2, fun y ey => ?_⟩
      obtain ⟨q, ⟨qd, q1⟩, q2, q3, q4⟩ := z3 y ey
      have hy' : y ≠ x := fun z => hy.2 (by rw [ey, z])
      exact ⟨q, ⟨qd, q1.imp (fun ⟨a, b⟩ => ⟨a, (if_neg hy').trans b⟩) id⟩, hs'.extBut q _ q3.loc q2, q3, q4⟩
  · have hLc := I.above x c (mem_of_lookup hc)
    refine wpAny_storeName_cell F.kind hx hc (I.cell x c hc) fun h' hc' hs' => ?_
    have x' : Ext s₀.heap h' := fun b o e => hs'.extBut b o (Nat.ne_of_lt (Nat.lt_trans (Nat.lt_of_lt_of_le (Heap.lt_size e) I.toInCall.fresh) hLc)) (I.toInCall.keep b o e)
    refine k _ ⟨h', s.toks, by rw [e0], x'⟩ ⟨⟨m, (fun y => if y = x then some v else cm y), ⟨⟨⟨h', s.toks, by rw [e0]⟩, I.toInCall.ns.sameBut hs' (Nat.ne_of_lt hLc), x', I.toInCall.fresh⟩, fun n c' q => ?_, I.apart, I.above⟩, fun y e q => ?_, fun M q => ?_⟩, F.kind,
      F.grow.shift x' fun a o e => hs'.extBut a o (fun q => by rw [q, F.hidC x c hc] at e; cases e) (F.grow.sub a o e), F.hidL, F.hidC⟩ (fun b o _ hb e => hs'.extBut b o (hb x c hc) e)
    · by_cases hn : n = x
      · subst hn; rw [hc] at q; cases q; simpa using hc'
      · rw [if_neg hn]
        exact (I.cell n c' q).sameBut hs' fun z => hn (cell_apart I.apart (z ▸ q) hc)
    · by_cases hy : y = x
      · subst hy
        rw [lookup_cons_eq] at q
        cases q
        exact ⟨v, ⟨hd, .inr ⟨hx, ⟨c, hc⟩, by simp⟩⟩, r⟩
      · rw [lookup_cons_ne hy] at q
        obtain ⟨u, ⟨hd', h⟩, r'⟩ := hv y e q
        exact ⟨u, ⟨hd', h.imp id (fun ⟨a, b, z⟩ => ⟨a, b, (if_neg hy).trans z⟩)⟩, r'⟩
    · obtain ⟨D, vs, ⟨hd', h⟩, b, z1, z2, z3⟩ := hl M q
      have hy := hm M q
      refine ⟨D, vs, ⟨hd', h.imp id (fun ⟨a, b, z⟩ => ⟨a, b, (if_neg hy.1).trans z⟩)⟩, b.at fun o e => hs'.extBut D o (z2.cel x c hc) e, z1, z2, fun y ey => ?_⟩
      obtain ⟨q, ⟨qd, q1⟩, q2, q3, q4⟩ := z3 y ey
      have hy' : y ≠ x := fun z => hy.2 (by rw [ey, z])
      exact ⟨q, ⟨qd, q1.imp id (fun ⟨a, b, z⟩ => ⟨a, b, (if_neg hy').trans z⟩)⟩, hs'.extBut q _ (q3.cel x c hc) q2, q3, q4⟩
end

/-! ## statements -/
inductive Out where
  | next (ρ : Loc) (ml : Option ML)
  | brk (ρ : Loc) (ml : Option ML)
  | cont (ρ : Loc) (ml : Option ML)
  | ret (d : PyData)
def OutIs (s₀ : Shared) (g₀ : G) (env : Env) (s' : Shared) (fl : Flow) : Out → Prop
  | .next ρ ml => fl = .next ∧ ∃ g, Fm s₀ g₀ env ρ ml g s'
  | .brk ρ ml => fl = .brk ∧ ∃ g, Fm s₀ g₀ env ρ ml g s'
  | .cont ρ ml => fl = .cont ∧ ∃ g, Fm s₀ g₀ env ρ ml g s'
  | .ret d => ∃ v, fl = .ret v ∧ Keeps s₀ s' ∧ ∃ g', Grow g₀ s₀.heap g' s'.heap ∧ R g' v d
def ExS (prog : Program) (w : World) (K : Frag) (n : Nat) (env : Env) (ρ : Loc) (ml : Option ML) (st : Stmt) (o : Out) : Prop :=
  ∀ A s₀ g₀ g s E, Good n A → TopOk K s₀.heap → Fm s₀ g₀ env ρ ml g s → wpAny (model prog w) A (exec st env) (fun fl s' => OutIs s₀ g₀ env s' fl o) E s
def ExD (prog : Program) (w : World) (K : Frag) (n : Nat) (env : Env) (ρ : Loc) (ml : Option ML) (st : List Stmt) (o : Out) : Prop :=
  ∀ A s₀ g₀ g s E, Good n A → TopOk K s₀.heap → Fm s₀ g₀ env ρ ml g s → wpAny (model prog w) A (execs st env) (fun fl s' => OutIs s₀ g₀ env s' fl o) E s

section
variable {prog : Program} {w : World} {K : Frag} {n : Nat} {env : Env} {ρ ρ' : Loc} {ml ml' : Option ML}
theorem ExD.nil : ExD prog w K n env ρ ml [] (.next ρ ml) := fun _ _ _ g _ _ _ _ F => wpAny_execs_nil ⟨rfl, g, F⟩
theorem ExD.cons {st : Stmt} {rest : List Stmt} {o : Out} (h1 : ExS prog w K n env ρ ml st (.next ρ' ml')) (h2 : ExD prog w K n env ρ' ml' rest o) : ExD prog w K n env ρ ml (st :: rest) o := fun A s₀ g₀ g s E hA t F =>
  wpAny_execs_cons (wpAny_mono (h1 A s₀ g₀ g s E hA t F) (fun fl s' ⟨e, g', F'⟩ => by subst e; exact h2 A s₀ g₀ g' s' E hA t F') fun _ _ e => e)
theorem ExD.out {st : Stmt} {rest : List Stmt} {o : Out} (h1 : ExS prog w K n env ρ ml st o) (ho : ∀ ρ ml, o ≠ .next ρ ml) : ExD prog w K n env ρ ml (st :: rest) o := fun A s₀ g₀ g s E hA t F =>
  wpAny_execs_cons (wpAny_mono (h1 A s₀ g₀ g s E hA t F) (fun fl s' h => by
    cases o with
    | next ρ ml => exact absurd rfl (ho ρ ml)
    | brk ρ ml => obtain ⟨e, g', F'⟩ := h; subst e; exact ⟨rfl, g', F'⟩
    | cont ρ ml => obtain ⟨e, g', F'⟩ := h; subst e; exact ⟨rfl, g', F'⟩
    | ret d => obtain ⟨v, e, q⟩ := h; subst e; exact ⟨v, rfl, q⟩) fun _ _ e => e)
theorem ExD.ret {e : Expr} {pos : Pos} {rest : List Stmt} {d : PyData} (h : EvD prog w (ΓF K env ρ) n env e d) : ExD prog w K n env ρ ml (.Return (some e) pos :: rest) (.ret d) := fun A s₀ g₀ g s E hA t F =>
  wpAny_execs_cons (wpAny_Return_some (wpAny_mono (h A s g E hA F.grow.sub (F.Γ t)) (fun v s' ⟨k, g', gr, r⟩ => by
    have F' := F.up k gr
    obtain ⟨m, cm, I, _⟩ := F'.inc
    obtain ⟨h', tk, e, k'⟩ := I.toInCall.done
    exact ⟨v, rfl, ⟨h', tk, e, k'⟩, g', F'.grow, r⟩) fun _ _ e => e))
theorem ExD.weaken {st : List Stmt} {o : Out} (h : ExD prog w K n env ρ' ml st o) (hw : ∀ x d, ρ'.lookup x = some d → ρ.lookup x = some d) : ExD prog w K n env ρ ml st o := fun A s₀ g₀ g s E hA t F => h A s₀ g₀ g s E hA t (F.weaken hw)
theorem ExS.asg {x : Str} {px pos : Pos} {e : Expr} {d : PyData} (h : EvD prog w (ΓF K env ρ) n env e d) (hd : (x == ("__debug__" : Str)) = false) (hx : env.kindOf x = some .local ∨ (env.kindOf x = some .cell ∧ ∃ c, env.cells.lookup x = some c))
    (hs : swapsWith e (some (.Name x px)) pos.line env = pure false) (hm : ∀ M, ml = some M → M.x ≠ x ∧ M.ad ≠ some x) : ExS prog w K n env ρ ml (.Assign [.Name x px] e pos) (.next ((x, d) :: ρ) ml) := fun A s₀ g₀ g s E hA t F =>
  wpAny_Assign_Name (wpAny_mono (h A s g E hA F.grow.sub (F.Γ t)) (fun v s' ⟨k, g', gr, r⟩ => (F.up k gr).store hd hx r hm fun s'' _ F'' _ => ⟨rfl, g', F''⟩) fun _ _ e => e) hs
theorem ExS.ite {t : Expr} {pos : Pos} {b1 b2 : List Stmt} {b : Bool} {o : Out} (h : TsD prog w (ΓF K env ρ) n env t b) (h1 : b = true → ExD prog w K n env ρ ml b1 o) (h2 : b = false → ExD prog w K n env ρ ml b2 o) :
    ExS prog w K n env ρ ml (.If t b1 b2 pos) o := fun A s₀ g₀ g s E hA t F =>
  wpAny_If (wpAny_mono (h A s g E hA F.grow.sub (F.Γ t)) (fun v s' ⟨e, k, g', gr⟩ => by
    subst e
    cases v with
    | true => exact h1 rfl A s₀ g₀ g' s' E hA t (F.up k gr)
    | false => exact h2 rfl A s₀ g₀ g' s' E hA t (F.up k gr)) fun _ _ e => e)
/-- an if whose body hands back -/
theorem ExD.iteRet {t : Expr} {pos : Pos} {b1 rest : List Stmt} {b : Bool} {d1 d2 : PyData} (h : TsD prog w (ΓF K env ρ) n env t b) (h1 : b = true → ExD prog w K n env ρ ml b1 (.ret d1)) (h2 : b = false → ExD prog w K n env ρ ml rest (.ret d2)) :
    ExD prog w K n env ρ ml (.If t b1 [] pos :: rest) (.ret (if b then d1 else d2)) := by
  cases b with
  | true => exact ExD.out (ExS.ite h (fun _ => h1 rfl) nofun) (fun _ _ => nofun)
  | false => exact ExD.cons (ExS.ite h nofun fun _ => ExD.nil) (h2 rfl)

/-! a def of the text -/
theorem bindL_stay {kindOf : Str → Option NameKind} : ∀ (r : List (Str × Value)) (m : Str → Option Value) (x : Str), x ∉ r.map (·.1) → bindL kindOf r m x = m x
  | [], _, _, _ => rfl
  | (y, v) :: r, m, x, h => by
    unfold bindL
    rw [bindL_stay r _ x fun q => h (.tail _ q)]
    have : x ≠ y := fun q => h (by rw [q]; exact .head _)
    split <;> simp [this]
theorem bindC_stay {kindOf : Str → Option NameKind} : ∀ (r : List (Str × Value)) (m : Str → Option Value) (x : Str), x ∉ r.map (·.1) → bindC kindOf r m x = m x
  | [], _, _, _ => rfl
  | (y, v) :: r, m, x, h => by
    unfold bindC
    rw [bindC_stay r _ x fun q => h (.tail _ q)]
    have : x ≠ y := fun q => h (by rw [q]; exact .head _)
    split <;> simp [this]
theorem bindL_get {kindOf : Str → Option NameKind} : ∀ (r : List (Str × Value)) (m : Str → Option Value) (x : Str) (v : Value), (r.map (·.1)).Nodup → r.lookup x = some v → kindOf x = some .local → bindL kindOf r m x = some v
  | (y, u) :: r, m, x, v, hn, h, hk => by
    rw [List.lookup_cons] at h
    unfold bindL
    obtain ⟨h1, h2⟩ := List.nodup_cons.mp hn
    cases q : x == y with
    | true =>
      rw [q] at h
      have e : x = y := beq_iff_eq.mp q
      subst e
      cases h
      rw [bindL_stay r _ x h1, if_pos hk]
      simp
    | false => rw [q] at h; exact bindL_get r _ x v h2 h hk
theorem bindC_get {kindOf : Str → Option NameKind} : ∀ (r : List (Str × Value)) (m : Str → Option Value) (x : Str) (v : Value), (r.map (·.1)).Nodup → r.lookup x = some v → kindOf x = some .cell → bindC kindOf r m x = some v
  | (y, u) :: r, m, x, v, hn, h, hk => by
    rw [List.lookup_cons] at h
    unfold bindC
    obtain ⟨h1, h2⟩ := List.nodup_cons.mp hn
    cases q : x == y with
    | true =>
      rw [q] at h
      have e : x = y := beq_iff_eq.mp q
      subst e
      cases h
      rw [bindC_stay r _ x h1, if_neg (by rw [hk]; decide)]
      simp
    | false => rw [q] at h; exact bindC_get r _ x v h2 h hk
theorem zip_lookup {g : G} : ∀ {xs : List Str} {vs : List Value} {ds : List PyData}, RL g vs ds → ∀ {x : Str} {d : PyData}, (xs.zip ds).lookup x = some d → ∃ v, (xs.zip vs).lookup x = some v ∧ R g v d
  | [], _, _, _, _, _, e => by simp at e
  | _ :: _, _, _, .nil, _, _, e => by simp at e
  | y :: xs, _, _, .cons a b, x, d, e => by
    rw [List.zip_cons_cons, List.lookup_cons] at e ⊢
    cases q : x == y with
    | true => rw [q] at e; cases e; exact ⟨_, rfl, a⟩
    | false => rw [q] at e; exact zip_lookup b e
theorem FnD.intro {f : Addr} {o : Obj} {fd : FuncData} {body : List Stmt} {xs : List Str} {ds : List PyData} {d : PyData} (ho : K.lookup f = some o) (hf : o.data = .func fd) (hcd : codeIn K fd.code fd.qualname = true) (hb : fd.body = .stmts body)
    (hbind : ∀ vs : List Value, vs.length = ds.length → bindArgs fd ⟨vs, []⟩ = pure (xs.zip vs)) (hlen : xs.length = ds.length) (hclo : fd.closure = [])
    (hkind : ∀ L, ∀ x ∈ xs, fd.scope.names.lookup x = some .local ∨ (fd.scope.names.lookup x = some .cell ∧ ((cellsFrom (L + 1) fd.scope.names []).lookup x).isSome = true)) (hnd : xs.Nodup) (hdb : ∀ x ∈ xs, (x == ("__debug__" : Str)) = false)
    (hco : fd.scope.isCoroutine = false) (hgen : fd.scope.isGenerator = false) (hk : fd.scope.kind = .function)
    (h : ∀ L, ExD prog w K n (callEnvC fd L f) (xs.zip ds) none body (.ret d)) : FnD prog w K (n + 1) f ds d := fun A s g vs E hA hs t r => by
  obtain ⟨p, l, mean, mg, mb, T⟩ := t.t
  have hzn : ∀ (ws : List Value), ws.length = ds.length → (xs.zip ws).map (·.1) = xs := fun ws hw => by rw [List.map_fst_zip]; omega
  have hmem : ∀ x ∈ xs.zip vs, x.1 ∈ xs := fun x hx => by
    have := List.mem_map_of_mem (f := (·.1)) hx
    rwa [hzn vs r.length] at this
  refine wpAny_call (codeAny_call_cells (by have := hA.2.1; show A.depth < 1000; omega) (t.k _ _ ho) hf T.nolimit (codeRec_of t.k hcd) hb (hbind vs r.length) hclo (fun x hx => hkind _ x.1 (hmem x hx)) (fun s₁ x => ?_) hco hgen hk)
  obtain ⟨h', tk, e, k⟩ := x.done
  subst e
  have nh : ∀ a, s.heap.get? a = none → g a = none := fun a e => by
    cases q : g a with
    | none => rfl
    | some o' => rw [hs a o' q] at e; cases e
  have above : ∀ a, s.heap.objs.size ≤ a → s.heap.get? a = none := fun a ha => by
    cases q : s.heap.get? a with
    | none => rfl
    | some o' => exact absurd (Heap.lt_size q) (Nat.not_lt.mpr ha)
  refine wpAny_mono (h _ (A.deeper _) s g g _ _ (hA.deeper _) t ⟨⟨_, _, x, fun y e' q => ?_, fun M q => nomatch q⟩, hk, Grow.heap hs k, nh _ (above _ (Nat.le_refl _)), fun c a q => nh _ (above _ (Nat.le_of_lt (x.above c a (mem_of_lookup q))))⟩) (fun fl s' hq => ?_) fun _ _ z => z
  · obtain ⟨v, q1, q2⟩ := zip_lookup r q
    have hy : y ∈ xs := hmem (y, v) (mem_of_lookup q1)
    refine ⟨v, ⟨hdb y hy, ?_⟩, q2⟩
    rcases hkind s.heap.objs.size y hy with hl | ⟨hl, hc⟩
    · exact .inl ⟨hl, bindL_get _ _ _ _ (by rw [hzn vs r.length]; exact hnd) q1 hl⟩
    · exact .inr ⟨hl, Option.isSome_iff_exists.mp hc, bindC_get _ _ _ _ (by rw [hzn vs r.length]; exact hnd) q1 hl⟩
  · obtain ⟨v, rfl, z⟩ := hq
    exact z
end
end Mine
namespace Mine
section
variable {prog : Program} {w : World} {K : Frag} {n : Nat} {env : Env} {ρ ρ' : Loc} {ml ml' : Option ML} {Γ : G → Heap → Prop}
theorem ExD.eq {st : List Stmt} {d d' : PyData} (h : ExD prog w K n env ρ ml st (.ret d)) (e : d = d') : ExD prog w K n env ρ ml st (.ret d') := e ▸ h
theorem EvD.eq {e : Expr} {d d' : PyData} (h : EvD prog w Γ n env e d) (q : d = d') : EvD prog w Γ n env e d' := q ▸ h
theorem TsD.eq {e : Expr} {d d' : Bool} (h : TsD prog w Γ n env e d) (q : d = d') : TsD prog w Γ n env e d' := q ▸ h
end
end Mine
end

section
open PySem PySem.W PyProof.Rows PySem.Calls PySem.Spec
set_option Elab.async false
set_option maxRecDepth 100000
namespace Mine
/-! the top's own objects -/
section
variable {P : Params}
theorem d43 : IsDef (KK P) 43 := ⟨_, _, rfl, rfl⟩
theorem d50 : IsDef (KK P) 50 := ⟨_, _, rfl, rfl⟩
theorem d57 : IsDef (KK P) 57 := ⟨_, _, rfl, rfl⟩
theorem d64 : IsDef (KK P) 64 := ⟨_, _, rfl, rfl⟩
theorem d81 : IsDef (KK P) 81 := ⟨_, _, rfl, rfl⟩
theorem d88 : IsDef (KK P) 88 := ⟨_, _, rfl, rfl⟩
theorem d95 : IsDef (KK P) 95 := ⟨_, _, rfl, rfl⟩
theorem d135 : IsDef (KK P) 135 := ⟨_, _, rfl, rfl⟩
theorem d140 : IsDef (KK P) 140 := ⟨_, _, rfl, rfl⟩
theorem d147 : IsDef (KK P) 147 := ⟨_, _, rfl, rfl⟩
theorem d154 : IsDef (KK P) 154 := ⟨_, _, rfl, rfl⟩
theorem d159 : IsDef (KK P) 159 := ⟨_, _, rfl, rfl⟩
theorem d166 : IsDef (KK P) 166 := ⟨_, _, rfl, rfl⟩
theorem n43 : nsIn (KK P) mainGlobals (Str.ofString "is_HDN") = some (some (.ref 43)) := rfl
theorem n50 : nsIn (KK P) mainGlobals (Str.ofString "liberal_is_HDN") = some (some (.ref 50)) := rfl
theorem n57 : nsIn (KK P) mainGlobals (Str.ofString "user_domain_match") = some (some (.ref 57)) := rfl
theorem n64 : nsIn (KK P) mainGlobals (Str.ofString "reach") = some (some (.ref 64)) := rfl
theorem n81 : nsIn (KK P) mainGlobals (Str.ofString "escape") = some (some (.ref 81)) := rfl
theorem n88 : nsIn (KK P) mainGlobals (Str.ofString "_translate") = some (some (.ref 88)) := rfl
theorem n95 : nsIn (KK P) mainGlobals (Str.ofString "S_IFMT") = some (some (.ref 95)) := rfl
theorem n135 : nsIn (KK P) mainGlobals (Str.ofString "filemode") = some (some (.ref 135)) := rfl
theorem n140 : nsIn (KK P) mainGlobals (Str.ofString "_law_labels") = some (some (.ref 140)) := rfl
theorem n147 : nsIn (KK P) mainGlobals (Str.ofString "_law_reach") = some (some (.ref 147)) := rfl
theorem n154 : nsIn (KK P) mainGlobals (Str.ofString "_law_ends") = some (some (.ref 154)) := rfl
theorem n159 : nsIn (KK P) mainGlobals (Str.ofString "_law_takes") = some (some (.ref 159)) := rfl
theorem n166 : nsIn (KK P) mainGlobals (Str.ofString "_law_listed") = some (some (.ref 166)) := rfl
theorem nlen : nsIn (KK P) mainGlobals (Str.ofString "len") = some none := rfl
theorem nrange : nsIn (KK P) mainGlobals (Str.ofString "range") = some none := rfl
theorem nzip : nsIn (KK P) mainGlobals (Str.ofString "zip") = some none := rfl
theorem nenum : nsIn (KK P) mainGlobals (Str.ofString "enumerate") = some none := rfl
theorem nisinst : nsIn (KK P) mainGlobals (Str.ofString "isinstance") = some none := rfl
theorem nstr : nsIn (KK P) mainGlobals (Str.ofString "str") = some none := rfl
end
end Mine
end

section
open PySem PySem.W PyProof.Rows PySem.Calls PySem.Spec
open PySem.Builtin.Re
set_option Elab.async false
set_option maxRecDepth 100000
namespace Mine
/-! the pattern's search -/
def ipCode : Array Nat := #[14, 8, 1, 2, 4294967295, 1, 1, 46, 0, 16, 46, 24, 9, 1, 4294967295, 13, 4, 8, 0, 0, 1, 6, 5, 1]
def ipStart (x : Str) : Sre.M := Sre.forSearch ipCode x.cps 0 0 x.cps.size false
def ipRun (x : Str) : Option Bool := match ((ipStart x).runFor 80).outcome with
  | some .matched => some true
  | some .failed => some false
  | _ => none
theorem slot_search : Slot "re.Pattern" "search" "re.Pattern.search" :=
  .of (owner := "re.Pattern") (n := "search") (by rw [typeLookup_type, builtinLookup_eq_fast]; kernel_rfl) (by decide +kernel) (by decide +kernel) (by decide +kernel)
    (by first | exact .inl (by decide +kernel) | exact .inr (by decide +kernel)) (by rw [isSubtype_type]; kernel_rfl)
theorem type_search : typeOf (.builtin "re.Pattern.search") = pure (.type "method_descriptor") := by show builtinType _ = _; rw [builtinType_eq_fast]; kernel_rfl
theorem entry_search : entryFor table "re.Pattern.search" = some Builtin.«re.Pattern.search» := entryFor_of_tree (by kernel_rfl)
theorem args_search (a b : Value) : argsOk "re.Pattern.search" ⟨[a, b], []⟩ := by
  unfold argsOk; rw [signature?_of (id := "re.Pattern.search") (n := ['h', 'c', 'r', 'a', 'e', 's']) (o := ['n', 'r', 'e', 't', 't', 'a', 'P', '.', 'e', 'r']) (by kernel_rfl) (rows := Manifest.sig_re_Pattern) (by kernel_rfl)]; kernel_rfl
theorem plain_pattern : PlainAttrs "re.Pattern" :=
  ⟨⟨"object.__getattribute__", by rw [typeLookup_type, builtinLookup_eq_fast]; kernel_rfl, by decide +kernel⟩, by rw [typeLookup_type, builtinLookup_eq_fast]; kernel_rfl⟩
theorem match_noBool : typeLookup (.type "re.Match") "__bool__" = pure none := by rw [typeLookup_type, builtinLookup_eq_fast]; kernel_rfl
theorem match_noLen : typeLookup (.type "re.Match") "__len__" = pure none := by rw [typeLookup_type, builtinLookup_eq_fast]; kernel_rfl
theorem runFor_done : ∀ (k : Nat) (m : Sre.M), m.outcome.isSome = true → m.runFor k = m
  | 0, _, _ => rfl
  | k + 1, m, h => by unfold Sre.M.runFor; rw [if_pos h]
theorem runFor_add : ∀ (a b : Nat) (m : Sre.M), m.runFor (a + b) = (m.runFor a).runFor b
  | 0, b, m => by rw [Nat.zero_add]; rfl
  | a + 1, b, m => by
    rw [Nat.add_right_comm]
    conv => lhs; unfold Sre.M.runFor
    conv => rhs; arg 2; unfold Sre.M.runFor
    by_cases h : m.outcome.isSome = true
    · rw [if_pos h, if_pos h, runFor_done b m h]
    · rw [if_neg h, if_neg h, runFor_add a b]
section
variable {M : Model} {A : Around} {E : Value → Shared → Prop} {s : Shared}
theorem reDrive_succ (turns : Nat) (m : Sre.M) : reDrive (turns + 1) m = (if (m.runFor 4).outcome.isSome = true then pure (m.runFor 4) else do rule "sre.turn"; reDrive turns (m.runFor 4)) := rfl
theorem drive (k : Nat) : ∀ (turns : Nat) (m : Sre.M) (Q : Sre.M → Shared → Prop), k < turns → (m.runFor (4 + 4 * k)).outcome.isSome = true → Q (m.runFor (4 + 4 * k)) s → wpAny M A (reDrive turns m) Q E s := by
  induction k with
  | zero =>
    intro turns m Q hk h q
    obtain ⟨t, rfl⟩ : ∃ t, turns = t + 1 := ⟨turns - 1, by omega⟩
    rw [reDrive_succ]
    rw [Nat.mul_zero, Nat.add_zero] at h q
    rw [if_pos h]
    exact wpAny_pure q
  | succ k ih =>
    intro turns m Q hk h q
    obtain ⟨t, rfl⟩ : ∃ t, turns = t + 1 := ⟨turns - 1, by omega⟩
    rw [reDrive_succ]
    have e : 4 + 4 * (k + 1) = 4 + (4 + 4 * k) := by omega
    rw [e, runFor_add] at h q
    by_cases hd : (m.runFor 4).outcome.isSome = true
    · rw [if_pos hd]
      rw [runFor_done _ _ hd] at q
      exact wpAny_pure q
    · rw [if_neg hd]
      exact wpAny_bind (wpAny_rule (ih t _ Q (by omega) h q))
theorem runEnd {m : Sre.M} {b : Bool} {Q : Option Sre.M → Shared → Prop} (h : (m.runFor 80).outcome = some (if b then .matched else .failed)) (q : Q (if b then some (m.runFor 80) else none) s) : wpAny M A (reRunToEnd m) Q E s := by
  unfold reRunToEnd
  refine wpAny_bind (drive 19 _ m _ (by decide) (by rw [show 4 + 4 * 19 = 80 from rfl, h]; rfl) ?_)
  refine wpAny_bind (wpAny_forIn_list _ (fun _ _ s' => s' = s) _ ?_ ?_ _ _ rfl)
  · rintro i rest _ s' rfl
    split
    · exact wpAny_bind (wpAny_rule (wpAny_pure rfl))
    · exact wpAny_pure rfl
  · rintro _ s' rfl
    rw [show 4 + 4 * 19 = 80 from rfl, h]
    cases b with
    | true => exact wpAny_pure q
    | false => exact wpAny_pure q
end
section
variable {prog : Program} {w : World} {A : Around} {E : Value → Shared → Prop} {s : Shared}
theorem call_search {x : Str} {t : Tok} {b : Bool} {Q : Value → Shared → Prop} (h : (KK w.params).In s.heap) (hx : ipRun x = some b) (hlen : x.cps.size ≤ 100000)
    (q0 : b = false → Q .none s) (q1 : b = true → ∀ a h' k, Ext s.heap h' → (∃ o, h'.get? a = some o ∧ o.cls = .type "re.Match") → Q (.ref a) { s with heap := h', toks := k }) :
    wpAny (model prog w) A (call (.builtin "re.Pattern.search") [.ref 36, .str x t]) Q E s := by
  have h36 : s.heap.get? 36 = some { cls := .type "re.Pattern", data := .fields #[.str (Str.ofString "\\.\\d+$") 285, .int 256 312, .int 0 0, .none, .none, .ref 35, .int 0 0] } := h _ _ rfl
  have h35 : s.heap.get? 35 = some { cls := .type "tuple", data := .seq #[.int 14 0, .int 8 0, .int 1 0, .int 2 0, .int 4294967295 0, .int 1 0, .int 1 0, .int 46 0, .int 0 0, .int 16 0, .int 46 0, .int 24 0, .int 9 0, .int 1 0, .int 4294967295 0, .int 13 0, .int 4 0, .int 8 0, .int 0 0, .int 0 0, .int 1 0, .int 6 0, .int 5 0, .int 1 0] } := h _ _ rfl
  have ho : ((ipStart x).runFor 80).outcome = some (if b then .matched else .failed) := by
    unfold ipRun at hx
    split at hx
    · rename_i e; cases hx; exact e
    · rename_i e; cases hx; exact e
    · cases hx
  refine wpAny_call_entry slot_search ⟨_, h36, rfl⟩ entry_search ?_ (args_search _ _)
  show wpAny _ _ (do
    let t ← reTarget "re.Pattern.search" "search" ⟨[.ref 36, .str x t], []⟩
    reAnswer t (Sre.forSearch t.code t.text t.groups t.pos t.lim false)) _ _ s
  have target : ∀ (Q' : ReTarget → Shared → Prop), Q' { pattern := .ref 36, string := .str x t, code := ipCode, text := x.cps, kind := 0, groups := 0, pos := 0, lim := x.cps.size } s →
      wpAny (model prog w) A.in1 (reTarget "re.Pattern.search" "search" ⟨[.ref 36, .str x t], []⟩) Q' E s := fun Q' hq => by
    unfold reTarget
    have e1 : reNamed "re.Pattern.search" "search" ["string", "pos", "endpos"] 1 [.str x t] [] = pure [some (.str x t), none, none] := rfl
    refine wpAny_bind (wpAny_of_eq e1 ?_)
    refine wpAny_bind (wpAny_pure ?_)
    refine wpAny_bind (wpAny_pure ?_)
    refine wpAny_bind (wpAny_fieldsOf h36 rfl ?_)
    refine wpAny_bind (m := reTextOf _) (wpAny_of_eq (a := (x.cps, 0)) rfl ?_)
    refine wpAny_bind (m := reNoCollectionInside _ _) (wpAny_pure ?_)
    refine wpAny_bind (m := reRawItems _) ?_
    unfold reRawItems
    refine wpAny_bind (wpAny_seqItems h35 rfl (wpAny_pure ?_))
    refine wpAny_pure ((congrArg (fun T => Q' T s) (?_ : _ = _)).mpr hq)
    congr 1
    · decide +kernel
    · show min (9223372036854775807 : Nat) x.cps.size = x.cps.size
      omega
  refine wpAny_bind (target _ ?_)
  unfold reAnswer
  refine wpAny_bind (runEnd (b := b) ho ?_)
  cases b with
  | false => exact wpAny_pure ⟨_, rfl, q0 rfl⟩
  | true =>
    refine wpAny_bind ?_
    unfold reNewMatch
    simp only [List.range_zero, List.flatMap_nil, List.any_nil, Bool.false_eq_true, if_false]
    refine wpAny_bind (m := newTuple _) (wpAny_newObj_type ?_ ?_)
    · refine wpAny_newObj_type (wpAny_pure ⟨_, rfl, q1 rfl _ _ _ (fun b o e => Heap.get?_push_of_some _ (Heap.get?_push_of_some _ e)) ⟨_, Heap.get?_push_size _ rfl, rfl⟩⟩) ?_
      simp [sizeOk, sizeLine]
    · simp [sizeOk, sizeLine]
theorem truthy_match {a : Addr} {Q : Bool → Shared → Prop} (h : ∃ o, s.heap.get? a = some o ∧ o.cls = .type "re.Match") (q : Q true s) : wpAny (model prog w) A (truthy (.ref a)) Q E s := by
  have hT : s.TypeIs (.ref a) "re.Match" := h
  unfold truthy
  refine wpAny_bind (wpAny_callSpecial?_none (name := Str.ofString "__bool__") hT match_noBool ?_)
  refine wpAny_bind (wpAny_specialOf (name := Str.ofString "__len__") hT match_noLen ?_)
  exact wpAny_pure q
end
end Mine
end

section
open PySem PySem.W PyProof.Rows PySem.Calls PySem.Spec
set_option Elab.async false
set_option maxRecDepth 100000
namespace Mine
abbrev dot : Str := Str.ofString "."
def ipB (x : Str) : Bool := (ipRun x).getD false
structure Gd (x : Str) : Prop where
  low : Txt.lower x = x
  len : x.cps.size ≤ 100
  ok : PyData.strOk x = true
  ip : ipRun x = some (ipB x)
theorem Gd.fits {x : Str} (h : Gd x) : Builtin.Str.tooLong (Txt.lower x).length = false := by
  have := h.len
  rw [h.low]
  show decide (x.cps.size > sizeLine) = false
  exact decide_eq_false (by show ¬ _ > 16777216; omega)
theorem n36 {P : Params} : nsIn (KK P) mainGlobals (Str.ofString "IPV4_RE") = some (some (.ref 36)) := rfl
section
variable {prog : Program} {w : World} {Γ : G → Heap → Prop} {n : Nat} {env : Env}
theorem TsD.search {np apos pos : Pos} {e : Expr} {x : Str} {b : Bool} {pl : Sem Bool} (cx : Cx (KK w.params) Γ) (fe : Fe env) (hx : env.kindOf (Str.ofString "IPV4_RE") = some .globalImplicit) (h : EvD prog w Γ n env e (.str x)) (hb : ipRun x = some b) (hl : x.cps.size ≤ 100)
    (he : eval (.Call (.Attribute (.Name (Str.ofString "IPV4_RE") np) (Str.ofString "search") apos) [e] [] pos) env = (do
      let ov ← eval (.Name (Str.ofString "IPV4_RE") np) env
      standAt apos.atName
      let (f, first) ← holding [ov] (getMethod ov (Str.ofString "search") pl)
      callWith pos f first (backTo pos (starEach [e] env)) []))
    (hs1 : starEach [e] env = (false, eval e env) :: starEach [] env) :
    TsD prog w Γ n env (.Call (.Attribute (.Name (Str.ofString "IPV4_RE") np) (Str.ofString "search") apos) [e] [] pos) b := fun A s g E hA hs hΓ => by
  refine wpAny_isTrue_value ?_ rfl
  refine MethodCall_ (pl := pl) ?_ he
  have t := cx.top hΓ
  refine ev_global t fe hx n36 rfl ?_
  have h36 := t.k 36 _ rfl
  refine getMethod_builtin (T := "re.Pattern") ⟨_, h36, rfl⟩ plain_pattern slot_search type_search (fun a q => by cases q; exact ⟨_, h36, rfl⟩) ?_
  refine callWith_method1 (args_cons (wpAny_mono (h A s g E hA hs hΓ) (fun v s₁ ⟨k1, g1, w1, r1⟩ => args_nil ?_) fun _ _ q => q) hs1) hs1 rfl
  obtain ⟨t', rfl⟩ := r1.str_inv
  have t1 := cx.top (cx.up w1 hΓ)
  refine call_search t1.k hb (by omega) (fun hf => ?_) fun ht a h' k hk hm => ?_
  · subst hf
    exact truthy_none ⟨rfl, k1, g1, w1⟩
  · subst ht
    exact truthy_match hm ⟨rfl, keeps_trans k1 ⟨h', k, rfl, hk⟩, g1, w1.trans (Grow.heap w1.sub hk)⟩

set_option maxHeartbeats 1000000 in
theorem fn50 {x : Str} (hx : Gd x) : FnD prog w (KK w.params) (n + 1) 50 [.str x] (.bool (!ipB x)) := by
  refine FnD.intro (xs := [Str.ofString "text"]) rfl rfl rfl rfl (fun vs h => ?_) rfl rfl ?_ ?_ ?_ rfl rfl rfl ?_
  · match vs, h with
    | [a], _ => rfl
  · intro L x hx; left; revert x; decide
  · decide
  · decide
  · intro L
    refine ExD.eq (ExD.iteRet (TsD.search cxF ⟨rfl, rfl, rfl⟩ rfl (EvD.name (vdF rfl)) hx.ip hx.len rfl rfl) (fun _ => ExD.ret EvD.bool) (fun _ => ExD.ret EvD.bool)) ?_
    cases ipB x <;> rfl
/-- neither end is a dot -/
structure Bare (x : Str) : Prop where
  ne : x ≠ Str.ofString ""
  first : ∃ c, (seqIndex? 0 x.length).bind (x.cps[·]?) = some c ∧ (⟨#[c]⟩ : Str) ≠ dot
  last : ∃ c, (seqIndex? (-1) x.length).bind (x.cps[·]?) = some c ∧ (⟨#[c]⟩ : Str) ≠ dot
set_option maxHeartbeats 1000000 in
theorem fn43 {x : Str} (hx : Gd x) (hb : Bare x) : FnD prog w (KK w.params) (n + 1) 43 [.str x] (.bool (!ipB x)) := by
  obtain ⟨c, hc, nc⟩ := hb.first
  obtain ⟨e, he, ne⟩ := hb.last
  refine FnD.intro (xs := [Str.ofString "text"]) rfl rfl rfl rfl (fun vs h => ?_) rfl rfl ?_ ?_ ?_ rfl rfl rfl ?_
  · match vs, h with
    | [a], _ => rfl
  · intro L x hx; left; revert x; decide
  · decide
  · decide
  · intro L
    refine ExD.eq (ExD.iteRet (TsD.search cxF ⟨rfl, rfl, rfl⟩ rfl (EvD.name (vdF rfl)) hx.ip hx.len rfl rfl) (fun _ => ExD.ret EvD.bool)
      (fun _ => ExD.iteRet (TsD.cmp cxF (EvD.name (vdF rfl)) EvD.str CmpD.eqS rfl) (fun _ => ExD.ret EvD.bool)
        (fun _ => ExD.iteRet (TsD.boolop (AllT.or cxF (TsD.cmp cxF (EvD.itemS cxF (EvD.name (vdF rfl)) EvD.int (by decide) (by decide) hc (fun _ _ => rfl)) EvD.str CmpD.eqS rfl)
          fun _ => AllT.or cxF (TsD.cmp cxF (EvD.itemS cxF (EvD.name (vdF rfl)) (EvD.neg EvD.int) (by decide) (by decide) he (fun _ _ => rfl)) EvD.str CmpD.eqS rfl) fun _ => AllT.orNil)) (fun _ => ExD.ret EvD.bool) (fun _ => ExD.ret EvD.bool)))) ?_
    rw [decide_eq_false hb.ne, decide_eq_false nc, decide_eq_false ne]
    cases ipB x <;> rfl
def udm (a b : Str) : Bool := if (ipB a || ipB b) then decide (a = b) else if Txt.startswith b dot then Txt.endswith a b else decide (a = b)
set_option maxHeartbeats 1000000 in
theorem fn57 {a b : Str} (ha : Gd a) (hb : Gd b) : FnD prog w (KK w.params) (n + 2) 57 [.str a, .str b] (.bool (udm a b)) := by
  refine FnD.intro (xs := [Str.ofString "A", Str.ofString "B"]) rfl rfl rfl rfl (fun vs h => ?_) rfl rfl ?_ ?_ ?_ rfl rfl rfl ?_
  · match vs, h with
    | [a, b], _ => rfl
  · intro L x hx; left; revert x; decide
  · decide
  · decide
  · intro L
    refine ExD.cons (ExS.asg (EvD.meth0 (EvD.name (vdF rfl)) (fun A s t Q E h => GM.lower h) (FnB.lower ha.low ha.fits) rfl) rfl (.inl rfl) rfl nofun) ?_
    refine ExD.cons (ExS.asg (EvD.meth0 (EvD.name (vdF rfl)) (fun A s t Q E h => GM.lower h) (FnB.lower hb.low hb.fits) rfl) rfl (.inl rfl) rfl nofun) ?_
    refine ExD.eq (ExD.iteRet (TsD.not (TsD.boolop (AllT.and cxF (TsD.value (EvD.call cxF ⟨rfl, rfl, rfl⟩ rfl n50 d50 rfl (EvsD.cons cxF (EvD.name (vdF rfl)) EvsD.nil rfl) (fn50 ha) rfl) TruthD.bool rfl) fun _ =>
      AllT.and cxF (TsD.value (EvD.call cxF ⟨rfl, rfl, rfl⟩ rfl n50 d50 rfl (EvsD.cons cxF (EvD.name (vdF rfl)) EvsD.nil rfl) (fn50 hb) rfl) TruthD.bool rfl) fun _ => AllT.andNil)))
      (fun _ => ExD.iteRet (TsD.cmp cxF (EvD.name (vdF rfl)) (EvD.name (vdF rfl)) CmpD.eqS rfl) (fun _ => ExD.ret EvD.bool) (fun _ => ExD.ret EvD.bool))
      (fun _ => ExD.cons (ExS.asg (EvD.meth cxF (EvD.name (vdF rfl)) (fun A s t Q E h => GM.startswith h) (EvsD.cons cxF EvD.str EvsD.nil rfl) FnB.startswith rfl rfl (fun _ => rfl)) rfl (.inl rfl) rfl nofun)
        (ExD.iteRet (TsD.boolop (AllT.and cxF (TsD.value (EvD.name (vdF rfl)) TruthD.bool rfl) fun _ => AllT.and cxF (TsD.value (EvD.meth cxF (EvD.name (vdF rfl)) (fun A s t Q E h => GM.endswith h) (EvsD.cons cxF (EvD.name (vdF rfl)) EvsD.nil rfl) FnB.endswith rfl rfl (fun _ => rfl)) TruthD.bool rfl) fun _ => AllT.andNil))
          (fun _ => ExD.ret EvD.bool)
          (fun _ => ExD.iteRet (TsD.boolop (AllT.and cxF (TsD.not (TsD.value (EvD.name (vdF rfl)) TruthD.bool rfl)) fun _ => AllT.and cxF (TsD.cmp cxF (EvD.name (vdF rfl)) (EvD.name (vdF rfl)) CmpD.eqS rfl) fun _ => AllT.andNil))
            (fun _ => ExD.ret EvD.bool) (fun _ => ExD.ret EvD.bool))))) ?_
    unfold udm
    cases ipB a <;> cases ipB b <;> cases decide (a = b) <;> cases Txt.startswith b dot <;> cases Txt.endswith a b <;> rfl
def rch (h : Str) : Str :=
  if Txt.find h dot ≥ 0 then
    (let b := StrLaws.sliceText h (some (Txt.find h dot + 1)) none
     if !ipB h && (decide (Txt.find b dot ≥ 0) || decide (b = Str.ofString "local")) then dot ++ b else h) else h
theorem sliceText_le (x : Str) (a b : Option Int) : (StrLaws.sliceText x a b).length ≤ x.length := by
  unfold StrLaws.sliceText
  split
  · exact Nat.le_refl _
  · show (List.filterMap _ _).toArray.size ≤ _
    rw [List.size_toArray]
    exact Nat.le_trans (List.length_filterMap_le ..) (sliceIndices_le a b x.length)
set_option maxHeartbeats 1000000 in
theorem fn64 {h : Str} (hh : Gd h) (hb : Bare h) : FnD prog w (KK w.params) (n + 2) 64 [.str h] (.str (rch h)) := by
  refine FnD.intro (xs := [Str.ofString "h"]) rfl rfl rfl rfl (fun vs h => ?_) rfl rfl ?_ ?_ ?_ rfl rfl rfl ?_
  · match vs, h with
    | [a], _ => rfl
  · intro L x hx; left; revert x; decide
  · decide
  · decide
  · intro L
    have hl : h.length ≤ 100 := hh.len
    refine ExD.cons (ExS.asg (EvD.meth cxF (EvD.name (vdF rfl)) (fun A s t Q E h => GM.find h) (EvsD.cons cxF EvD.str EvsD.nil rfl) FnB.find rfl rfl (fun _ => rfl)) rfl (.inl rfl) rfl nofun) ?_
    have hbl : (StrLaws.sliceText h (some (Txt.find h dot + 1)) none).length ≤ 100 := Nat.le_trans (sliceText_le ..) hl
    by_cases hi : Txt.find h dot ≥ 0
    · have e1 := decide_eq_true hi
      by_cases hq : (!ipB h && ((decide (Txt.find (StrLaws.sliceText h (some (Txt.find h dot + 1)) none) dot ≥ 0) || (decide (StrLaws.sliceText h (some (Txt.find h dot + 1)) none = Str.ofString "local") || false)) && true)) = true
      · refine ExD.eq (ExD.out (ExS.ite (TsD.eq (TsD.cmp cxF (EvD.name (vdF rfl)) EvD.int CmpD.ge rfl) e1) (fun _ =>
          ExD.cons (ExS.asg (EvD.cutS cxF (EvD.name (vdF rfl)) (PartD.on (EvD.bin cxF (EvD.name (vdF rfl)) EvD.int BinD.add)) PartD.off (by show h.length ≤ 16777216; omega) (fun _ _ => rfl)) rfl (.inl rfl) rfl nofun)
          (ExD.cons (ExS.asg (EvD.meth cxF (EvD.name (vdF rfl)) (fun A s t Q E h => GM.find h) (EvsD.cons cxF EvD.str EvsD.nil rfl) FnB.find rfl rfl (fun _ => rfl)) rfl (.inl rfl) rfl nofun)
          (ExD.out (ExS.ite (TsD.eq (TsD.boolop (AllT.and cxF (TsD.value (EvD.call cxF ⟨rfl, rfl, rfl⟩ rfl n43 d43 rfl (EvsD.cons cxF (EvD.name (vdF rfl)) EvsD.nil rfl) (fn43 hh hb) rfl) TruthD.bool rfl) fun _ =>
            AllT.and cxF (TsD.boolop (AllT.or cxF (TsD.cmp cxF (EvD.name (vdF rfl)) EvD.int CmpD.ge rfl) fun _ => AllT.or cxF (TsD.cmp cxF (EvD.name (vdF rfl)) EvD.str CmpD.eqS rfl) fun _ => AllT.orNil)) fun _ => AllT.andNil)) hq)
            (fun _ => ExD.ret (EvD.bin cxF EvD.str (EvD.name (vdF rfl)) (BinD.cat (Nat.le_trans (Nat.add_le_add_left hbl _) (by decide +kernel))))) nofun) (fun _ _ => nofun)))) nofun) (fun _ _ => nofun)) ?_
        simp only [Bool.or_false, Bool.and_true] at hq
        unfold rch
        rw [if_pos hi]
        dsimp only
        rw [if_pos hq]
      · refine ExD.eq (ExD.cons (ExS.ite (TsD.eq (TsD.cmp cxF (EvD.name (vdF rfl)) EvD.int CmpD.ge rfl) e1) (fun _ =>
          ExD.cons (ExS.asg (EvD.cutS cxF (EvD.name (vdF rfl)) (PartD.on (EvD.bin cxF (EvD.name (vdF rfl)) EvD.int BinD.add)) PartD.off (by show h.length ≤ 16777216; omega) (fun _ _ => rfl)) rfl (.inl rfl) rfl nofun)
          (ExD.cons (ExS.asg (EvD.meth cxF (EvD.name (vdF rfl)) (fun A s t Q E h => GM.find h) (EvsD.cons cxF EvD.str EvsD.nil rfl) FnB.find rfl rfl (fun _ => rfl)) rfl (.inl rfl) rfl nofun)
          (ExD.cons (ExS.ite (TsD.eq (TsD.boolop (AllT.and cxF (TsD.value (EvD.call cxF ⟨rfl, rfl, rfl⟩ rfl n43 d43 rfl (EvsD.cons cxF (EvD.name (vdF rfl)) EvsD.nil rfl) (fn43 hh hb) rfl) TruthD.bool rfl) fun _ =>
            AllT.and cxF (TsD.boolop (AllT.or cxF (TsD.cmp cxF (EvD.name (vdF rfl)) EvD.int CmpD.ge rfl) fun _ => AllT.or cxF (TsD.cmp cxF (EvD.name (vdF rfl)) EvD.str CmpD.eqS rfl) fun _ => AllT.orNil)) fun _ => AllT.andNil)) (eq_false_of_ne_true hq))
            nofun (fun _ => ExD.nil)) ExD.nil))) nofun) (ExD.ret (EvD.name (vdF rfl)))) ?_
        simp only [Bool.or_false, Bool.and_true] at hq
        unfold rch
        rw [if_pos hi]
        dsimp only
        rw [if_neg hq]
    · refine ExD.eq (ExD.cons (ExS.ite (TsD.eq (TsD.cmp cxF (EvD.name (vdF rfl)) EvD.int CmpD.ge rfl) (decide_eq_false hi)) nofun (fun _ => ExD.nil)) (ExD.ret (EvD.name (vdF rfl)))) ?_
      unfold rch
      rw [if_neg hi]
end
end Mine
end

section
open PySem PySem.W PyProof.Rows PySem.Calls PySem.Spec
set_option Elab.async false
set_option maxRecDepth 100000
namespace Mine
section
variable {prog : Program} {w : World} {K : Frag} {Γ : G → Heap → Prop} {n : Nat} {env : Env}
theorem vdHd {x : Str} {d : PyData} : VD (Wth Γ env x d) env x d := fun _ _ h => h.2
theorem vdW {env' : Env} {x y : Str} {d e : PyData} (h : VD Γ env x d) : VD (Wth Γ env' y e) env x d := fun g hp q => h g hp q.1
theorem vdInto {cenv : Env} {x : Str} {d : PyData} (h : VD Γ env x d) (hk : cenv.scope.kind = .function) (k1 : env.kindOf x = some .cell) (k2 : cenv.kindOf x = some .cell) (hc : cenv.cells.lookup x = env.cells.lookup x) : VD Γ cenv x d := fun g hp q => by
  obtain ⟨v, ⟨_, hd, hv⟩, r⟩ := h g hp q
  rcases hv with ⟨a, _⟩ | ⟨_, c, b, i⟩
  · rw [k1] at a; cases a
  · exact ⟨v, ⟨hk, hd, .inr ⟨k2, c, by rw [hc]; exact b, i⟩⟩, r⟩
theorem filter_yes {α : Type} (l : List α) : l.filter (fun _ => true) = l := List.filter_eq_self.mpr fun _ _ => rfl
/-- a block over a name of its own -/
theorem EvD.compL {elt iter : Expr} {scope : Scope} {x : Str} {px pos : Pos} {cl : List (Str × Addr)} {tup : Bool} {items : List PyData} {f : PyData → PyData} (cx : Cx K Γ) (src : SrcD prog w Γ n env iter tup items (fun g d v => R g v d))
    (hx : scope.names.lookup x = some .local) (hd : (x == ("__debug__" : Str)) = false) (hp : ∀ h : Heap, pushCells h scope.names = h) (hsz : items.length ≤ sizeLine) (hclos : closureFor scope env = pure cl) (hkind : scope.kind = .function)
    (hnames : ∀ y ∈ scope.names, y.2 = .local → scope.names.lookup y.1 = some .local) (hfs : ∀ x, foldedSetIterable iter env x = pure x)
    (helt : ∀ C, ∀ d ∈ items, EvD prog w (Wth Γ (compEnvC scope (cellsFrom (C + 1) scope.names cl) C env) x d) n (compEnvC scope (cellsFrom (C + 1) scope.names cl) C env) elt (f d)) :
    EvD prog w Γ n env (.ListComp elt [⟨.Name x px, iter, [], 0⟩] scope pos) (.list (items.map f)) := by
  have T : Tgt prog w env scope cl n (.Name x px) tup (fun C => [C]) (fun C h => ∃ m, h.Ns C m) (fun g (d : PyData) v => R g v d) (fun cenv d g h => ∃ v, VarIs cenv h x v ∧ R g v d) := by
    have T := Tgt.local (prog := prog) (w := w) (env := env) (n := n) (px := px) (cl := cl) hkind hx hd hp
    exact ⟨T.O, T.atC, T.hasC, T.start, T.ns, T.bup, T.ivup, fun A C it v d s g Q E hA _ => T.asg A C it v d s g Q E hA (fun h => nomatch h)⟩
  have := EvD.comp (p := fun _ => true) (f := f) (pos := pos) cx src T hsz hclos hkind hnames hfs (fun C d _ => TestsD.nil) (fun C d hd _ => helt C d hd)
  rwa [filter_yes] at this
theorem EvD.compLT {elt iter c : Expr} {scope : Scope} {x : Str} {px pos : Pos} {cl : List (Str × Addr)} {tup : Bool} {items : List PyData} {f : PyData → PyData} {p : PyData → Bool} (cx : Cx K Γ) (src : SrcD prog w Γ n env iter tup items (fun g d v => R g v d))
    (hx : scope.names.lookup x = some .local) (hd : (x == ("__debug__" : Str)) = false) (hp : ∀ h : Heap, pushCells h scope.names = h) (hsz : items.length ≤ sizeLine) (hclos : closureFor scope env = pure cl) (hkind : scope.kind = .function)
    (hnames : ∀ y ∈ scope.names, y.2 = .local → scope.names.lookup y.1 = some .local) (hfs : ∀ x, foldedSetIterable iter env x = pure x)
    (test : ∀ C, ∀ d ∈ items, TsD prog w (Wth Γ (compEnvC scope (cellsFrom (C + 1) scope.names cl) C env) x d) n (compEnvC scope (cellsFrom (C + 1) scope.names cl) C env) c (p d))
    (helt : ∀ C, ∀ d ∈ items, p d = true → EvD prog w (Wth Γ (compEnvC scope (cellsFrom (C + 1) scope.names cl) C env) x d) n (compEnvC scope (cellsFrom (C + 1) scope.names cl) C env) elt (f d)) :
    EvD prog w Γ n env (.ListComp elt [⟨.Name x px, iter, [c], 0⟩] scope pos) (.list ((items.filter p).map f)) := by
  have T : Tgt prog w env scope cl n (.Name x px) tup (fun C => [C]) (fun C h => ∃ m, h.Ns C m) (fun g (d : PyData) v => R g v d) (fun cenv d g h => ∃ v, VarIs cenv h x v ∧ R g v d) := by
    have T := Tgt.local (prog := prog) (w := w) (env := env) (n := n) (px := px) (cl := cl) hkind hx hd hp
    exact ⟨T.O, T.atC, T.hasC, T.start, T.ns, T.bup, T.ivup, fun A C it v d s g Q E hA _ => T.asg A C it v d s g Q E hA (fun h => nomatch h)⟩
  exact EvD.comp (p := p) (f := f) (pos := pos) cx src T hsz hclos hkind hnames hfs (fun C d hd => TestsD.one (test C d hd)) helt
/-- the name is looked at from an inner block -/
theorem EvD.compC {elt iter : Expr} {scope : Scope} {x : Str} {px pos : Pos} {cl : List (Str × Addr)} {tup : Bool} {items : List PyData} {f : PyData → PyData} (cx : Cx K Γ) (src : SrcD prog w Γ n env iter tup items (fun g d v => R g v d))
    (hx : ∀ C cs, (compEnvC scope cs C env).kindOf x = some .cell) (hd : (x == ("__debug__" : Str)) = false) (hp : ∀ h : Heap, pushCells h scope.names = h.push { cls := .type "cell", data := .cell none })
    (hc : ∀ C, (cellsFrom (C + 1) scope.names cl).lookup x = some (C + 1)) (hsz : items.length ≤ sizeLine) (hclos : closureFor scope env = pure cl) (hkind : scope.kind = .function)
    (hnames : ∀ y ∈ scope.names, y.2 = .local → scope.names.lookup y.1 = some .local) (hfs : ∀ x, foldedSetIterable iter env x = pure x)
    (helt : ∀ C, ∀ d ∈ items, EvD prog w (Wth Γ (compEnvC scope (cellsFrom (C + 1) scope.names cl) C env) x d) n (compEnvC scope (cellsFrom (C + 1) scope.names cl) C env) elt (f d)) :
    EvD prog w Γ n env (.ListComp elt [⟨.Name x px, iter, [], 0⟩] scope pos) (.list (items.map f)) := by
  have T : Tgt prog w env scope cl n (.Name x px) tup (fun C => [C, C + 1]) (fun C h => (∃ m, h.Ns C m) ∧ ∃ v, h.IsCell (C + 1) v) (fun g (d : PyData) v => R g v d) (fun cenv d g h => ∃ v, VarIs cenv h x v ∧ R g v d) := by
    have T := Tgt.cell (prog := prog) (w := w) (env := env) (n := n) (px := px) (cl := cl) hkind hx hd hp hc
    exact ⟨T.O, T.atC, T.hasC, T.start, T.ns, T.bup, T.ivup, fun A C it v d s g Q E hA _ => T.asg A C it v d s g Q E hA (fun h => nomatch h)⟩
  have := EvD.comp (p := fun _ => true) (f := f) (pos := pos) cx src T hsz hclos hkind hnames hfs (fun C d _ => TestsD.nil) (fun C d hd _ => helt C d hd)
  rwa [filter_yes] at this

def rng (m : Int) : List PyData := (List.range m.toNat).map fun (i : Nat) => PyData.int i
theorem SrcD.range {np pos : Pos} {e : Expr} {m : Int} (cx : Cx K Γ) (fe : Fe env) (hx : env.kindOf (Str.ofString "range") = some .globalImplicit) (hn : nsIn K mainGlobals (Str.ofString "range") = some none) (h : EvD prog w Γ n env e (.int m)) (h0 : 0 ≤ m) (h1 : m < 1000000)
    (he : starEach [e] env = (false, eval e env) :: starEach [] env) : SrcD prog w Γ n env (.Call (.Name (Str.ofString "range") np) [e] [] pos) false (rng m) (fun g d v => R g v d) := fun A s g E hA hs hΓ =>
  Call_ (ev_builtin (cx.top hΓ) fe hx hn boot_range (by decide) rfl (PyProof.Rows.callWith_type1 (args_cons (wpAny_mono (h A s g E hA hs hΓ) (fun v s₁ ⟨k1, g1, w1, r1⟩ => args_nil (by
    obtain ⟨t, rfl⟩ := r1.int_inv
    refine call_range_1 ?_
    have x1 := ext_push s₁.heap { cls := .type "range", data := .fields #[.int 0 s₁.toks, .int m t, .int 1 (s₁.toks + 1)] }
    refine wpAny_pyIter_range (IsRange.new _ _ _ _ _ _ _) (small_one (by decide) (by decide) (by omega) (by omega)) ?_
    generalize s₁.heap.push { cls := .type "range", data := .fields #[.int 0 s₁.toks, .int m t, .int 1 (s₁.toks + 1)] } = H at x1 ⊢
    have hr : Builtin.Range.rangeSize 0 m 1 = (m.toNat : Int) := by rw [rangeSize_one]; split <;> omega
    rw [hr]
    refine ⟨keeps_trans k1 ⟨_, _, rfl, fun b o e => Heap.get?_push_of_some _ (x1 b o e)⟩, g1, H, H.objs.size, [H.objs.size], [H.objs.size], (fun i v => ∃ t, v = .int (0 + (i : Nat) * 1) t), (fun i h => IsRangeIter h H.objs.size (0 + (i : Nat) * 1) ((m.toNat : Int) - (i : Nat)) 1), rfl, ?_, ?_, w1.trans (Grow.heap w1.sub x1), ext_push _ _, ?_, ?_, ?_, nofun, ?_⟩
    · have := Walks.range (prog := prog) (w := w) hA.1 H.objs.size 0 1 m.toNat
      rwa [show (rng m).length = m.toNat by simp [rng]]
    · show IsRangeIter _ _ _ _ _
      have := Heap.get?_push_size H (o := { cls := .type "range_iterator", data := .fields #[rawInt 0, rawInt (m.toNat : Int), rawInt 1] }) rfl
      simpa using this
    · intro b hb; rw [List.mem_singleton.mp hb]; exact none_at_size _
    · intro b hb
      rw [List.mem_singleton.mp hb]
      show _ < (H.push _).objs.size
      rw [Heap.size_push]; exact Nat.lt_succ_self _
    · intro i h st b hb
      rw [List.mem_singleton.mp hb]
      exact ⟨_, st⟩
    · intro i v d hP hd
      obtain ⟨t', rfl⟩ := hP
      unfold rng at hd
      rw [List.getElem?_map] at hd
      obtain ⟨j, hj, rfl⟩ := Option.map_eq_some_iff.mp hd
      obtain ⟨hi, e⟩ := List.getElem?_eq_some_iff.mp hj
      have : j = i := by simpa using e.symm
      subst this
      simpa using R.int (g := g1) (j : Int) t')) fun _ _ q => q) he) he))
theorem SrcD.str {iter : Expr} {x : Str} (h : EvD prog w Γ n env iter (.str x)) (ha : x.cps.all (· < 128) = true) : SrcD prog w Γ n env iter false (x.cps.toList.map fun c => PyData.str ⟨#[c]⟩) (fun g d v => R g v d) := fun A s g E hA hs hΓ =>
  wpAny_mono (h A s g E hA hs hΓ) (fun v s₁ ⟨k1, g1, w1, r1⟩ => by
    obtain ⟨t, rfl⟩ := r1.str_inv
    refine wpAny_pyIter_ascii ha ⟨keeps_trans k1 ⟨_, s₁.toks, rfl, ext_push _ _⟩, g1, s₁.heap, s₁.heap.objs.size, [s₁.heap.objs.size], [s₁.heap.objs.size], SignAt x, (fun i h => h.IsStrIter s₁.heap.objs.size "str_ascii_iterator" x t i), rfl, ?_, ⟨_, Heap.get?_push_size _ rfl, rfl, rfl⟩, w1, ext_push _ _, ?_, ?_, ?_, nofun, ?_⟩
    · have := Walks.strAscii (prog := prog) (w := w) hA.1 s₁.heap.objs.size x t
      rwa [show (x.cps.toList.map fun c => PyData.str ⟨#[c]⟩).length = x.cps.size by simp]
    · intro b hb; rw [List.mem_singleton.mp hb]; exact none_at_size _
    · intro b hb
      rw [List.mem_singleton.mp hb]
      show _ < (s₁.heap.push _).objs.size
      rw [Heap.size_push]; exact Nat.lt_succ_self _
    · intro i h st b hb
      rw [List.mem_singleton.mp hb]
      obtain ⟨o, e, _⟩ := st
      exact ⟨o, e⟩
    · intro i v d hP hd
      obtain ⟨c, t', hc, rfl⟩ := hP
      have e : x.cps.toList[i]? = some c := by simpa using hc
      rw [List.getElem?_map, e] at hd
      cases hd
      exact .str _ _) fun _ _ q => q
end
end Mine
end

section
open PySem PySem.W PyProof.Rows PySem.Calls PySem.Spec
set_option Elab.async false
set_option maxRecDepth 100000
namespace Mine
/-- the four labels -/
def nm : Nat → Str
  | 0 => Str.ofString "a"
  | 1 => Str.ofString "b"
  | 2 => Str.ofString "local"
  | _ => Str.ofString "17"
/-- the labels' numbers -/
def lab (x : Int) : List Nat := (List.range (1 + (x.fdiv 32768).fmod 3).toNat).map fun (k : Nat) => ((x.fdiv (4 ^ k)).fmod 4).toNat
def txs (l : List Nat) : List Str := l.map nm
abbrev dS (l : List Str) : PyData := .list (l.map PyData.str)
section
variable {prog : Program} {w : World} {n : Nat}
set_option maxHeartbeats 1000000 in
theorem fn140 {x : Int} : FnD prog w (KK w.params) (n + 1) 140 [.int x] (dS (txs (lab x))) := by
  refine FnD.intro (xs := [Str.ofString "x"]) rfl rfl rfl rfl (fun vs h => ?_) rfl rfl ?_ ?_ ?_ rfl rfl rfl ?_
  · match vs, h with
    | [a], _ => rfl
  · intro L x hx
    right
    rw [List.mem_singleton.mp hx]
    exact ⟨rfl, rfl⟩
  · decide
  · decide
  · intro L
    have hm : 0 ≤ (x.fdiv 32768).fmod 3 ∧ (x.fdiv 32768).fmod 3 < 3 := ⟨Int.fmod_nonneg_of_pos _ (by decide), Int.fmod_lt_of_pos _ (by decide)⟩
    refine ExD.eq (ExD.ret (EvD.compL (items := rng (1 + (x.fdiv 32768).fmod 3)) (f := fun d => match d with | .int k => .str (nm ((x.fdiv (4 ^ k.toNat)).fmod 4).toNat) | _ => .none) cxF
      (SrcD.range cxF ⟨rfl, rfl, rfl⟩ rfl nrange (EvD.bin cxF EvD.int (EvD.bin cxF (EvD.bin cxF (EvD.name (vdF rfl)) EvD.int (BinD.floordiv (by decide) (by decide))) EvD.int (BinD.mod (by decide))) BinD.add) (by omega) (by omega) rfl)
      rfl rfl (fun _ => rfl) ?_ rfl rfl (by decide) (fun _ => rfl) ?_)) ?_
    · have : (rng (1 + (x.fdiv 32768).fmod 3)).length ≤ 3 := by simp [rng]; omega
      exact Nat.le_trans this (by decide)
    · intro C d hd
      obtain ⟨k, hk, rfl⟩ := List.mem_map.mp hd
      have hk3 : k < 3 := by have := List.mem_range.mp hk; omega
      have hq : 0 ≤ (x.fdiv (4 ^ k)).fmod 4 ∧ (x.fdiv (4 ^ k)).fmod 4 < 4 := ⟨Int.fmod_nonneg_of_pos _ (by decide), Int.fmod_lt_of_pos _ (by decide)⟩
      have hp : (4 : Int) ^ k ≠ 0 ∧ ((4 : Int) ^ k).natAbs < 1073741824 := by
        match k, hk3 with
        | 0, _ => decide
        | 1, _ => decide
        | 2, _ => decide
      refine EvD.item cxF.wth (EvD.list (EvsD.cons cxF.wth EvD.str (EvsD.cons cxF.wth EvD.str (EvsD.cons cxF.wth EvD.str (EvsD.cons cxF.wth EvD.str EvsD.nil rfl) rfl) rfl) rfl) (by decide))
        (EvD.bin cxF.wth (EvD.bin cxF.wth (EvD.name (vdInto (vdW (vdF rfl)) rfl rfl rfl rfl)) (EvD.bin cxF.wth EvD.int (EvD.name vdHd) (BinD.pow (by omega) (by omega) (by decide))) (BinD.floordiv hp.1 hp.2)) EvD.int (BinD.mod (by decide))) hq.1 (Int.lt_trans hq.2 (by decide)) ?_ (fun _ _ => rfl)
      show _ = some (PyData.str (nm ((x.fdiv (4 ^ k)).fmod 4).toNat))
      change _[((x.fdiv (4 ^ k)).fmod 4).toNat]? = _
      obtain ⟨q0, q4⟩ := hq
      generalize (x.fdiv (4 ^ k)).fmod 4 = q at q0 q4 ⊢
      obtain ⟨q, rfl⟩ := Int.eq_ofNat_of_zero_le q0
      have : q < 4 := by omega
      match q, this with
      | 0, _ => rfl
      | 1, _ => rfl
      | 2, _ => rfl
      | 3, _ => rfl
    · unfold rng lab txs dS
      simp only [List.map_map]
      rfl
end
end Mine
end

section
open PySem PySem.W PyProof.Rows PySem.Calls PySem.Spec
set_option Elab.async false
set_option maxRecDepth 100000
namespace Mine
section
variable {prog : Program} {w : World} {A : Around} {E : Value → Shared → Prop}
/-- a list of just as many items is taken apart -/
theorem draw_list {it l : Addr} {items : Array Value} (hne : l ≠ it) (k : Nat) : ∀ (i : Nat) (s : Shared) (Q : List Value → Shared → Prop), s.heap.IsListIter it l i → s.heap.IsList l items → i + k ≤ items.size →
    (∀ h', h'.IsListIter it l (i + k) → Heap.SameBut it s.heap h' → Q ((items.toList.drop i).take k) { s with heap := h' }) → wpAny (model prog w) A (draw (.ref it) k) Q E s := by
  induction k with
  | zero =>
    intro i s Q hit _ _ hQ
    exact wpAny_pure (by simpa using hQ s.heap hit (Heap.SameBut.refl ..))
  | succ k ih =>
    intro i s Q hit hl hle hQ
    have hlt : i < items.size := by omega
    show wpAny _ _ (pyNext (.ref it) >>= _) Q E s
    refine wpAny_bind (wpAny_pyNext_list_item hit hl (x := items[i]) (by simp [hlt]) fun h₁ hit₁ hs₁ => ?_)
    refine wpAny_bind (wpAny_holding (ih (i + 1) _ _ hit₁ (hl.extBut hs₁.extBut hne) (by omega) fun h₂ hit₂ hs₂ => wpAny_pure ?_))
    have hd : items.toList.drop i = items[i] :: items.toList.drop (i + 1) := by simp [List.drop_eq_getElem_cons, hlt]
    have := hQ h₂ (by rw [show i + (k + 1) = i + 1 + k by omega]; exact hit₂) (hs₁.trans hs₂)
    rw [hd, List.take_succ_cons] at this
    exact this
theorem apart_list {s : Shared} {l : Addr} {items : Array Value} {Q : List Value → Shared → Prop} (hh : A.handled = none) (hl : s.heap.IsList l items)
    (hQ : ∀ h', Ext s.heap h' → Q items.toList { s with heap := h' }) : wpAny (model prog w) A (unpackItems (.ref l) items.size none) Q E s := by
  have hlt : l ≠ s.heap.objs.size := by obtain ⟨o, ho, _⟩ := hl; exact Nat.ne_of_lt (Heap.lt_size ho)
  unfold unpackItems
  refine wpAny_bind ?_
  unfold notIterableAtAll
  refine wpAny_bind (wpAny_specialOf hl.typeIs slot_list_iter.lookup ?_)
  refine wpAny_pure ?_
  simp only [Bool.false_eq_true, if_false]
  refine wpAny_bind (wpAny_holding (wpAny_pyIter_list hl ?_))
  refine wpAny_bind (wpAny_holding (draw_list hlt items.size 0 _ _ ⟨_, Heap.get?_push_size _ rfl, rfl, rfl⟩ (hl.push _) (by omega) fun h₁ hit₁ hs₁ => ?_))
  have hall : List.take items.size (List.drop 0 items.toList) = items.toList := by
    rw [List.drop_zero]; exact List.take_of_length_le (by simp)
  rw [hall]
  rw [if_neg (by simp)]
  refine wpAny_bind (wpAny_holding (wpAny_pyNext_list_end hh hit₁ ((hl.push _).extBut hs₁.extBut hlt) (by simp) fun h₂ he₂ => ?_))
  simp only [Option.isSome_none, Bool.false_eq_true, if_false]
  exact wpAny_pure (hQ h₂ fun b o e => he₂ b o (Nat.ne_of_lt (Heap.lt_size e)) (hs₁.extBut b o (Nat.ne_of_lt (Heap.lt_size e)) (Heap.get?_push_of_some _ e)))
theorem assign_pair {env : Env} {s : Shared} {x y : Str} {px py pos : Pos} {k : Nat} {l : Addr} {v1 v2 : Value} {Q : Unit → Shared → Prop} (hh : A.handled = none) (hl : s.heap.IsList l #[v1, v2])
    (h : ∀ h', Ext s.heap h' → wpAny (model prog w) A (storeName env x v1) (fun _ s₁ => wpAny (model prog w) A (storeName env y v2) Q E s₁) E { s with heap := h' }) :
    wpAny (model prog w) A (assign (.Tuple [.Name x px, .Name y py] k pos) env (.ref l)) Q E s := by
  rw [arm_assign_Tuple]
  refine wpAny_bind (wpAny_standAt ?_)
  unfold unpack
  show wpAny _ _ (holding [.ref l] (unpackItems (.ref l) (#[v1, v2] : Array Value).size none) >>= fun vs => assignInOrder [assign (.Name x px) env, assign (.Name y py) env] vs) _ _ _
  refine wpAny_bind (wpAny_holding (apart_list hh hl fun h' hk => ?_))
  show wpAny _ _ (holding [v2] (assign (.Name x px) env v1) >>= fun _ => holding [] (assign (.Name y py) env v2) >>= fun _ => pure ()) _ _ _
  refine wpAny_bind (wpAny_holding (wpAny_assign_Name (wpAny_mono (h h' hk) (fun _ s₁ h₁ => wpAny_bind (wpAny_holding (wpAny_assign_Name (wpAny_mono h₁ (fun _ _ q => wpAny_pure q) fun _ _ q => q)))) fun _ _ q => q)))
end
section
variable {prog : Program} {w : World} {K : Frag} {Γ : G → Heap → Prop} {n : Nat} {env : Env} {ρ : Loc} {ml : Option ML}
theorem R.pair {g : G} {h : Heap} {v : Value} {d1 d2 : PyData} (r : R g v (.list [d1, d2])) (hs : Sub g h) : ∃ a v1 v2, v = .ref a ∧ h.IsList a #[v1, v2] ∧ R g v1 d1 ∧ R g v2 d2 := by
  obtain ⟨a, vs, rfl, l, hl⟩ := r.isList hs
  cases l with
  | cons a1 b1 => cases b1 with
    | cons a2 b2 =>
      cases b2
      exact ⟨_, _, _, rfl, hl, a1, a2⟩
/-- x, y = e, of a list of two -/
theorem ExS.pair {x y : Str} {px py tp pos : Pos} {k : Nat} {e : Expr} {d1 d2 : PyData} (h : EvD prog w (ΓF K env ρ) n env e (.list [d1, d2])) (hdx : (x == ("__debug__" : Str)) = false) (hdy : (y == ("__debug__" : Str)) = false)
    (hx : env.kindOf x = some .local ∨ (env.kindOf x = some .cell ∧ ∃ c, env.cells.lookup x = some c)) (hy : env.kindOf y = some .local ∨ (env.kindOf y = some .cell ∧ ∃ c, env.cells.lookup y = some c))
    (hs : swapsWithSole [.Tuple [.Name x px, .Name y py] k tp] e pos.line env = pure false) (hw : swappedStores [.Tuple [.Name x px, .Name y py] k tp] e env = pure none)
    (hm : ml = none) : ExS prog w K n env ρ ml (.Assign [.Tuple [.Name x px, .Name y py] k tp] e pos) (.next ((y, d2) :: (x, d1) :: ρ) ml) := fun A s₀ g₀ g s E hA t F => by
  subst hm
  refine Assign_Tuple (wpAny_mono (h A s g E hA F.grow.sub (F.Γ t)) (fun v s' ⟨k1, g', gr, r⟩ => ?_) fun _ _ e => e) hs hw
  obtain ⟨a, v1, v2, rfl, hl, r1, r2⟩ := r.pair gr.sub
  refine assign_pair hA.1 hl fun h' hk => ?_
  have F1 := (F.up k1 gr).up (s' := { s' with heap := h' }) ⟨h', s'.toks, rfl, hk⟩ (Grow.heap gr.sub hk)
  exact F1.store hdx hx r1 nofun fun s2 _ F2 _ => F2.store hdy hy r2 nofun fun s3 _ F3 _ => ⟨rfl, g', F3⟩
/-- for x, y in .. -/
theorem Tgt.pair {x y : Str} {px py tp : Pos} {k : Nat} {scope : Scope} {cl : List (Str × Addr)} (hkind : scope.kind = .function) (hx : scope.names.lookup x = some .local) (hy : scope.names.lookup y = some .local) (hxy : x ≠ y)
    (hdx : (x == ("__debug__" : Str)) = false) (hdy : (y == ("__debug__" : Str)) = false) (hp : ∀ h : Heap, pushCells h scope.names = h) :
    Tgt prog w env scope cl n (.Tuple [.Name x px, .Name y py] k tp) true (fun C => [C]) (fun C h => ∃ m, h.Ns C m) (fun g (d : PyData × PyData) v => R g v (.list [d.1, d.2])) (fun cenv d g h => (∃ v, VarIs cenv h x v ∧ R g v d.1) ∧ ∃ v, VarIs cenv h y v ∧ R g v d.2) where
  O := fun C => ⟨fun h ⟨m, o, _, _, e, _⟩ b hb => by rw [List.mem_singleton.mp hb]; exact ⟨o, e⟩, fun h h' ⟨m, hn⟩ k => ⟨m, hn.at' fun o e => k C (List.mem_singleton.mpr rfl) o e⟩⟩
  atC := fun C b hb => by rw [List.mem_singleton.mp hb]; exact Nat.le_refl _
  hasC := fun C => List.mem_singleton.mpr rfl
  start := fun h => by rw [hp]; exact ⟨_, Heap.Ns.new h (.type "dict")⟩
  ns := fun C h x => x
  bup := fun cenv d g h g' h' w' ⟨⟨v, a, b⟩, v', a', b'⟩ => ⟨⟨v, a.up w'.keep, b.up w'⟩, v', a'.up w'.keep, b'.up w'⟩
  ivup := fun d v g g' le r => r.mono le
  asg := fun A C it v d s g Q E hA lo r hs hgo ⟨m, hn⟩ kk => by
    refine lo rfl s _ _ _ _ E rfl ?_
    obtain ⟨a, v1, v2, rfl, hl, r1, r2⟩ := r.pair hs
    refine assign_pair hA.1 hl fun h1 k1 => ?_
    refine wpAny_storeName_local (lookup_relabel_local hx) (hn.keeps k1) (fun h2 hn2 hs2 => ?_) (by show (scope.kind == .class || (scope.kind == .module && _)) = false; rw [hkind]; rfl)
    refine wpAny_storeName_local (lookup_relabel_local hy) hn2 (fun h3 hn3 hs3 => ?_) (by show (scope.kind == .class || (scope.kind == .module && _)) = false; rw [hkind]; rfl)
    refine kk h3 _ (fun b o hb e => hs3.extBut b o (fun q => hb (List.mem_singleton.mpr q)) (hs2.extBut b o (fun q => hb (List.mem_singleton.mpr q)) (k1 b o e))) ⟨_, hn3⟩ ⟨⟨v1, ⟨hkind, hdx, .inl ⟨lookup_relabel_local hx, _, hn3, ?_⟩⟩, r1⟩, v2, ⟨hkind, hdy, .inl ⟨lookup_relabel_local hy, _, hn3, ?_⟩⟩, r2⟩
    · simp [hxy]
    · simp
end
/-! data compared -/
theorem eqv_str (x y : Str) : PyData.eqv (.str x) (.str y) = decide (x = y) := by
  show (x == y) = _
  rw [Bool.eq_iff_iff]; simp
theorem eqv_bool (x y : Bool) : PyData.eqv (.bool x) (.bool y) = decide (x = y) := by
  show (x == y) = _
  rw [Bool.eq_iff_iff]; simp
theorem eqvAll_map {α : Type} [DecidableEq α] {f : α → PyData} (hf : ∀ a b, PyData.eqv (f a) (f b) = decide (a = b)) : ∀ l m : List α, PyData.eqvAll (l.map f) (m.map f) = decide (l = m)
  | [], [] => rfl
  | [], _ :: _ => rfl
  | _ :: _, [] => rfl
  | a :: l, b :: m => by
    show (PyData.eqv (f a) (f b) && PyData.eqvAll (l.map f) (m.map f)) = _
    rw [hf, eqvAll_map hf l m, Bool.eq_iff_iff]
    simp
theorem eqv_list {α : Type} [DecidableEq α] {f : α → PyData} (hf : ∀ a b, PyData.eqv (f a) (f b) = decide (a = b)) (l m : List α) : PyData.eqv (.list (l.map f)) (.list (m.map f)) = decide (l = m) := eqvAll_map hf l m
theorem eqv_txs (l m : List Str) : PyData.eqv (dS l) (dS m) = decide (l = m) := eqv_list eqv_str l m
/-- fit to be compared -/
def Sh (k : Nat) (d : PyData) : Prop := d.canLay0 = true ∧ d.depth ≤ k
theorem Sh.shaped {k : Nat} {d : PyData} (h : Sh k d) (hk : k ≤ 64) : SeqAt.shaped d = true := by
  unfold SeqAt.shaped
  rw [h.1, decide_eq_true (Nat.le_trans h.2 hk)]
  rfl
theorem Sh.list {k : Nat} {ds : List PyData} (h : ∀ d ∈ ds, Sh k d) : Sh (k + 1) (.list ds) := by
  have h1 : PyData.canLayAll0 ds = true := by
    induction ds with
    | nil => rfl
    | cons d ds ih =>
      show (PyData.canLay0 d && PyData.canLayAll0 ds) = true
      rw [(h d (.head _)).1, ih fun e he => h e (.tail _ he)]
      rfl
  have h2 : PyData.depthAll ds ≤ k := by
    clear h1
    induction ds with
    | nil => exact Nat.zero_le _
    | cons d ds ih =>
      show max (PyData.depth d) (PyData.depthAll ds) ≤ k
      exact Nat.max_le.mpr ⟨(h d (.head _)).2, ih fun e he => h e (.tail _ he)⟩
  refine ⟨h1, ?_⟩
  show PyData.depthAll ds + 1 ≤ k + 1
  omega
theorem Sh.str {x : Str} (h : PyData.strOk x = true) : Sh 0 (.str x) := ⟨h, Nat.le_refl _⟩
theorem Sh.bool {b : Bool} : Sh 0 (.bool b) := ⟨rfl, Nat.le_refl _⟩
theorem Sh.none : Sh 0 .none := ⟨rfl, Nat.le_refl _⟩
theorem Sh.up {k : Nat} {d : PyData} (h : Sh k d) : Sh (k + 1) d := ⟨h.1, Nat.le_succ_of_le h.2⟩
theorem Sh.txs {l : List Str} (h : ∀ x ∈ l, PyData.strOk x = true) : Sh 1 (dS l) := Sh.list fun d hd => by
  obtain ⟨x, hx, rfl⟩ := List.mem_map.mp hd
  exact Sh.str (h x hx)
/-! cuts of lists -/
def cutG {α : Type} (l : List α) (lo hi : Option Int) : List α := (l.drop (lo.elim 0 (clipAt l.length))).take (hi.elim l.length (clipAt l.length) - lo.elim 0 (clipAt l.length))
theorem cut_map {α : Type} (f : α → PyData) (l : List α) (lo hi : Option Int) : cut (l.map f) lo hi = (cutG l lo hi).map f := by
  unfold cut cutG
  rw [List.length_map, List.map_take, List.map_drop]
theorem cutG_sub {α : Type} {l : List α} {lo hi : Option Int} {x : α} (h : x ∈ cutG l lo hi) : x ∈ l := List.mem_of_mem_drop (List.mem_of_mem_take h)

abbrev sE : Str := Str.ofString ""
abbrev s17 : Str := Str.ofString "17"
abbrev sLoc : Str := Str.ofString "local"
structure Ls (ls : List Str) : Prop where
  ne : 0 < ls.length
  le : ls.length ≤ 3
  ok : ∀ x ∈ ls, PyData.strOk x = true
def lrc (ls : List Str) : Str × List Str :=
  if ((ls.length : Int) == 1 || (decide (ls.getD (ls.length - 1) sE = s17) || ((ls.length : Int) == 2 && !decide (ls.getD 1 sE = sLoc)))) then (sE, ls) else (dot, cutG ls (some 1) none)
abbrev dR (r : Str × List Str) : PyData := .list [.str r.1, dS r.2]
section
variable {prog : Program} {w : World} {K : Frag} {Γ : G → Heap → Prop} {n : Nat} {env : Env}
/-- len of a list -/
theorem EvD.lenL {np pos : Pos} {e : Expr} {ds : List PyData} (cx : Cx (KK w.params) Γ) (fe : Fe env) (hx : env.kindOf (Str.ofString "len") = some .globalImplicit) (h : EvD prog w Γ n env e (.list ds)) (hl : ds.length < 2 ^ 62)
    (he : starEach [e] env = (false, eval e env) :: starEach [] env) : EvD prog w Γ n env (.Call (.Name (Str.ofString "len") np) [e] [] pos) (.int ds.length) :=
  EvD.callB cx fe hx nlen bootS_len (by decide) rfl (EvsD.cons cx h EvsD.nil he) (FnB.lenL hl) he (fun _ => rfl)
theorem EvD.lenS {np pos : Pos} {e : Expr} {x : Str} (cx : Cx (KK w.params) Γ) (fe : Fe env) (hx : env.kindOf (Str.ofString "len") = some .globalImplicit) (h : EvD prog w Γ n env e (.str x)) (hl : x.length < 2 ^ 62)
    (he : starEach [e] env = (false, eval e env) :: starEach [] env) : EvD prog w Γ n env (.Call (.Name (Str.ofString "len") np) [e] [] pos) (.int x.length) :=
  EvD.callB cx fe hx nlen bootS_len (by decide) rfl (EvsD.cons cx h EvsD.nil he) (FnB.lenS hl) he (fun _ => rfl)
theorem lenS_int (ls : List Str) : (((ls.map PyData.str).length : Nat) : Int) = (ls.length : Int) := by rw [List.length_map]
theorem EvD.lenT {np pos : Pos} {e : Expr} {ls : List Str} (cx : Cx (KK w.params) Γ) (fe : Fe env) (hx : env.kindOf (Str.ofString "len") = some .globalImplicit) (h : EvD prog w Γ n env e (dS ls)) (hl : ls.length < 2 ^ 62)
    (he : starEach [e] env = (false, eval e env) :: starEach [] env) : EvD prog w Γ n env (.Call (.Name (Str.ofString "len") np) [e] [] pos) (.int ls.length) :=
  (EvD.lenL cx fe hx h (by rw [List.length_map]; exact hl) he).eq (by rw [List.length_map])

set_option maxHeartbeats 1000000 in
theorem fn147 {ls : List Str} (hl : Ls ls) : FnD prog w (KK w.params) (n + 1) 147 [dS ls] (dR (lrc ls)) := by
  have hn := hl.ne
  have hle := hl.le
  refine FnD.intro (xs := [Str.ofString "labels"]) rfl rfl rfl rfl (fun vs h => ?_) rfl rfl ?_ ?_ ?_ rfl rfl rfl ?_
  · match vs, h with
    | [a], _ => rfl
  · intro L x hx; left; revert x; decide
  · decide
  · decide
  · intro L
    have e1 : (ls.map PyData.str)[(-1 + (((ls.map PyData.str).length : Nat) : Int)).toNat]? = some (.str (ls.getD (ls.length - 1) sE)) := by
      rw [List.length_map, show (-1 + (ls.length : Int)).toNat = ls.length - 1 by omega, List.getElem?_map, List.getElem?_eq_getElem (by omega), List.getD_eq_getElem?_getD, List.getElem?_eq_getElem (by omega)]
      rfl
    refine ExD.eq (ExD.iteRet (TsD.boolop (AllT.or cxF (TsD.cmp cxF (EvD.lenT cxF ⟨rfl, rfl, rfl⟩ rfl (EvD.name (vdF rfl)) (by omega) rfl) EvD.int CmpD.eqI rfl) fun _ =>
      AllT.or cxF (TsD.cmp cxF (EvD.itemNeg cxF (EvD.name (vdF rfl)) (EvD.neg EvD.int) (by decide) (by rw [List.length_map]; omega) (by decide) e1 (fun _ _ => rfl)) EvD.str CmpD.eqS rfl) fun _ =>
      AllT.or cxF (TsD.boolop (AllT.and cxF (TsD.cmp cxF (EvD.lenT cxF ⟨rfl, rfl, rfl⟩ rfl (EvD.name (vdF rfl)) (by omega) rfl) EvD.int CmpD.eqI rfl) fun h2 =>
        AllT.and cxF (TsD.cmp cxF (EvD.item (d := .str (ls.getD 1 sE)) cxF (EvD.name (vdF rfl)) EvD.int (by decide) (by decide) ?_ (fun _ _ => rfl)) EvD.str CmpD.neS rfl) fun _ => AllT.andNil)) fun _ => AllT.orNil))
      (fun _ => ExD.ret (EvD.list (EvsD.cons cxF EvD.str (EvsD.cons cxF (EvD.name (vdF rfl)) EvsD.nil rfl) rfl) (Nat.le_of_ble_eq_true rfl)))
      (fun _ => ExD.ret (EvD.list (EvsD.cons cxF EvD.str (EvsD.cons cxF (EvD.cutL cxF (EvD.name (vdF rfl)) (PartD.on EvD.int) PartD.off (by rw [List.length_map]; exact Nat.le_trans hle (by decide)) (fun _ _ => rfl)) EvsD.nil rfl) rfl) (Nat.le_of_ble_eq_true rfl)))) ?_
    · have h2' : ls.length = 2 := by have := (beq_iff_eq).mp h2; omega
      show (ls.map PyData.str)[1]? = _
      rw [List.getElem?_map, List.getD_eq_getElem?_getD, List.getElem?_eq_getElem (by omega)]
      rfl
    · unfold lrc
      simp only [Bool.and_true, Bool.or_false]
      split
      · rfl
      · rw [cut_map]
def lnd (ls : List Str) (r : Str × List Str) : Bool :=
  if r.1 = dot then decide (cutG ls (some ((ls.length : Int) - r.2.length)) none = r.2) && decide ((ls.length : Int) > r.2.length) else decide (ls = r.2)
set_option maxHeartbeats 1000000 in
theorem fn154 {ls : List Str} {r : Str × List Str} (hl : ls.length ≤ 3) (ho : ∀ x ∈ ls, PyData.strOk x = true) (hl2 : r.2.length ≤ 3) (ho2 : ∀ x ∈ r.2, PyData.strOk x = true) : FnD prog w (KK w.params) (n + 1) 154 [dS ls, dR r] (.bool (lnd ls r)) := by
  refine FnD.intro (xs := [Str.ofString "labels", Str.ofString "rule"]) rfl rfl rfl rfl (fun vs h => ?_) rfl rfl ?_ ?_ ?_ rfl rfl rfl ?_
  · match vs, h with
    | [a, b], _ => rfl
  · intro L x hx; left; revert x; decide
  · decide
  · decide
  · intro L
    refine ExD.cons (ExS.pair (EvD.name (vdF rfl)) rfl rfl (.inl rfl) (.inl rfl) rfl rfl rfl) ?_
    refine ExD.eq (ExD.ret (EvD.ite cxF (TsD.cmp cxF (EvD.name (vdF rfl)) EvD.str CmpD.eqS rfl)
      (fun _ => EvD.and cxF (EvD.cmp cxF (EvD.cutL cxF (EvD.name (vdF rfl)) (PartD.on (EvD.bin cxF (EvD.lenT cxF ⟨rfl, rfl, rfl⟩ rfl (EvD.name (vdF rfl)) (by omega) rfl) (EvD.lenT cxF ⟨rfl, rfl, rfl⟩ rfl (EvD.name (vdF rfl)) (by omega) rfl) BinD.sub)) PartD.off
          (by rw [List.length_map]; exact Nat.le_trans hl (by decide)) (fun _ _ => rfl)) (EvD.name (vdF rfl)) (CmpD.eq ?_ ((Sh.txs ho2).shaped (by decide))) rfl)
        fun _ => EvD.cmp cxF (EvD.lenT cxF ⟨rfl, rfl, rfl⟩ rfl (EvD.name (vdF rfl)) (by omega) rfl) (EvD.lenT cxF ⟨rfl, rfl, rfl⟩ rfl (EvD.name (vdF rfl)) (by omega) rfl) CmpD.gt rfl)
      (fun _ => EvD.cmp cxF (EvD.name (vdF rfl)) (EvD.name (vdF rfl)) (CmpD.eq ((Sh.txs ho).shaped (by decide)) ((Sh.txs ho2).shaped (by decide))) rfl))) ?_
    · rw [cut_map]
      exact (Sh.txs fun x hx => ho x (cutG_sub hx)).shaped (by decide)
    · unfold lnd
      rw [cut_map]
      show (if decide (r.1 = dot) = true then PyData.bool (PyData.eqv (dS _) (dS r.2) && _) else PyData.bool (PyData.eqv (dS ls) (dS r.2))) = _
      rw [eqv_txs, eqv_txs]
      by_cases h : r.1 = dot
      · rw [if_pos h, if_pos (decide_eq_true h)]
      · rw [if_neg h, if_neg (by simpa using h)]
end
end Mine
end

section
open PySem PySem.W PyProof.Rows PySem.Calls PySem.Spec
set_option Elab.async false
set_option maxRecDepth 100000
namespace Mine
def opt : Option Str → PyData
  | none => .none
  | some x => .str x
theorem eqv_opt : ∀ a b : Option Str, PyData.eqv (opt a) (opt b) = decide (a = b)
  | none, none => rfl
  | none, some _ => rfl
  | some _, none => rfl
  | some x, some y => by rw [show PyData.eqv (opt (some x)) (opt (some y)) = PyData.eqv (.str x) (.str y) from rfl, eqv_str, Bool.eq_iff_iff]; simp
abbrev dP (ps : List (Option Str)) : PyData := .list (ps.map opt)
def optOk (ps : List (Option Str)) : Prop := ∀ x, some x ∈ ps → PyData.strOk x = true
theorem Sh.opts {ps : List (Option Str)} (h : optOk ps) : Sh 1 (dP ps) := Sh.list fun d hd => by
  obtain ⟨o, ho, rfl⟩ := List.mem_map.mp hd
  cases o with
  | none => exact Sh.none
  | some x => exact Sh.str (h x ho)
abbrev sBs : Str := Str.ofString "\\."
def esc (c : Nat) : Str := if (⟨#[c]⟩ : Str) = dot then sBs else ⟨#[c]⟩
def tkStar (ps : List (Option Str)) : Bool := decide (cutG ps none (some 1) = [none])
def tkRest (ps : List (Option Str)) : List (Option Str) := if tkStar ps then cutG ps (some 1) none else ps
def tkEnd (ps : List (Option Str)) (h : Str) : Str := if (h.length : Int) ≥ (tkRest ps).length then StrLaws.sliceText h (some ((h.length : Int) - (tkRest ps).length)) none else sE
def ltk (ps : List (Option Str)) (h : Str) : Bool := decide (tkRest ps = (tkEnd ps h).cps.toList.map fun c => some (esc c)) && (tkStar ps || ((tkRest ps).length : Int) == h.length)
def asc (x : Str) : Bool := x.cps.all (· < 128)
theorem asc_slice {x : Str} (h : asc x = true) (a b : Option Int) : asc (StrLaws.sliceText x a b) = true := by
  unfold StrLaws.sliceText
  split
  · exact h
  · unfold asc at h ⊢
    rw [Array.all_eq_true_iff_forall_mem] at h ⊢
    intro c hc
    obtain ⟨i, _, hi⟩ := List.mem_filterMap.mp (by simpa using hc)
    exact h c (Array.mem_of_getElem? hi)
theorem strOk_sign {c : Nat} (h : c < 128) : PyData.strOk ⟨#[c]⟩ = true := by
  unfold PyData.strOk
  rw [Array.all_eq_true_iff_forall_mem]
  intro x hx
  have : x = c := by simpa using hx
  subst this
  exact decide_eq_true (by omega)
theorem strOk_esc {c : Nat} (h : c < 128) : PyData.strOk (esc c) = true := by
  unfold esc
  split
  · decide +kernel
  · exact strOk_sign h
theorem tkRest_le (ps : List (Option Str)) : (tkRest ps).length ≤ ps.length := by
  unfold tkRest cutG
  split
  · rw [List.length_take, List.length_drop]; omega
  · exact Nat.le_refl _
theorem tkRest_ok {ps : List (Option Str)} (h : optOk ps) : optOk (tkRest ps) := by
  unfold tkRest
  split
  · exact fun x hx => h x (cutG_sub hx)
  · exact h
section
variable {prog : Program} {w : World} {n : Nat}
set_option maxHeartbeats 1000000 in
theorem fn159 {ps : List (Option Str)} {h : Str} (hp : ps.length ≤ 100) (ho : optOk ps) (hh : h.length ≤ 100) (ha : asc h = true) : FnD prog w (KK w.params) (n + 1) 159 [dP ps, .str h] (.bool (ltk ps h)) := by
  have hre := tkRest_le ps
  have hea : asc (tkEnd ps h) = true := by
    unfold tkEnd
    split
    · exact asc_slice ha _ _
    · decide +kernel
  have hel : (tkEnd ps h).length ≤ 100 := by
    unfold tkEnd
    split
    · exact Nat.le_trans (sliceText_le ..) hh
    · decide +kernel
  refine FnD.intro (xs := [Str.ofString "parts", Str.ofString "host"]) rfl rfl rfl rfl (fun vs h => ?_) rfl rfl ?_ ?_ ?_ rfl rfl rfl ?_
  · match vs, h with
    | [a, b], _ => rfl
  · intro L x hx; left; revert x; decide
  · decide
  · decide
  · intro L
    refine ExD.cons (ExS.asg (d := .bool (tkStar ps)) ((EvD.cmp cxF (EvD.cutL cxF (EvD.name (vdF rfl)) PartD.off (PartD.on EvD.int) (by rw [List.length_map]; exact Nat.le_trans hp (by decide)) (fun _ _ => rfl))
      (EvD.list (EvsD.cons cxF EvD.cnone EvsD.nil rfl) (by decide)) (CmpD.eq ?_ (by decide +kernel)) rfl).eq ?_) rfl (.inl rfl) rfl nofun) ?_
    · rw [cut_map]
      exact (Sh.opts fun x hx => ho x (cutG_sub hx)).shaped (by decide)
    · rw [cut_map]
      exact congrArg PyData.bool (eqv_list eqv_opt _ [none])
    refine ExD.cons (ExS.asg (d := dP (tkRest ps)) ((EvD.ite cxF (TsD.value (EvD.name (vdF rfl)) TruthD.bool rfl) (fun _ => EvD.cutL cxF (EvD.name (vdF rfl)) (PartD.on EvD.int) PartD.off (by rw [List.length_map]; exact Nat.le_trans hp (by decide)) (fun _ _ => rfl))
      (fun _ => EvD.name (vdF rfl))).eq ?_) rfl (.inl rfl) rfl nofun) ?_
    · rw [cut_map]
      unfold tkRest
      cases tkStar ps <;> rfl
    refine ExD.cons (ExS.asg (d := .str (tkEnd ps h)) ((EvD.ite cxF (TsD.cmp cxF (EvD.lenS cxF ⟨rfl, rfl, rfl⟩ rfl (EvD.name (vdF rfl)) (by omega) rfl) ((EvD.lenL cxF ⟨rfl, rfl, rfl⟩ rfl (EvD.name (vdF rfl)) (by rw [List.length_map]; omega) rfl).eq (by rw [List.length_map])) CmpD.ge rfl)
      (fun _ => EvD.cutS cxF (EvD.name (vdF rfl)) (PartD.on (EvD.bin cxF (EvD.lenS cxF ⟨rfl, rfl, rfl⟩ rfl (EvD.name (vdF rfl)) (by omega) rfl) ((EvD.lenL cxF ⟨rfl, rfl, rfl⟩ rfl (EvD.name (vdF rfl)) (by rw [List.length_map]; omega) rfl).eq (by rw [List.length_map])) BinD.sub)) PartD.off (Nat.le_trans hh (by decide)) (fun _ _ => rfl))
      (fun _ => EvD.str)).eq ?_) rfl (.inl rfl) rfl nofun) ?_
    · unfold tkEnd
      by_cases q : (h.length : Int) ≥ (tkRest ps).length
      · rw [if_pos q, if_pos (decide_eq_true q)]
      · rw [if_neg q, if_neg (by simpa using q)]
    have key : ((tkEnd ps h).cps.toList.map fun c => PyData.str ⟨#[c]⟩).map (fun d => match d with | .str x => if decide (x = dot) then .str sBs else .str x | _ => .none) = ((tkEnd ps h).cps.toList.map fun c => some (esc c)).map opt := by
      rw [List.map_map, List.map_map]
      refine List.map_congr_left fun c _ => ?_
      show (if decide ((⟨#[c]⟩ : Str) = dot) = true then PyData.str sBs else PyData.str ⟨#[c]⟩) = PyData.str (esc c)
      unfold esc
      by_cases q : (⟨#[c]⟩ : Str) = dot
      · rw [if_pos q, if_pos (decide_eq_true q)]
      · rw [if_neg q, if_neg (by simpa using q)]
    have hok : optOk ((tkEnd ps h).cps.toList.map fun c => some (esc c)) := fun x hx => by
      obtain ⟨c, hc, e⟩ := List.mem_map.mp hx
      cases e
      unfold asc at hea
      rw [Array.all_eq_true_iff_forall_mem] at hea
      exact strOk_esc (by simpa using hea c (by simpa using hc))
    refine ExD.eq (ExD.ret (EvD.and cxF (EvD.cmp cxF (EvD.name (vdF rfl)) ((EvD.compL (f := fun d => match d with | .str x => if decide (x = dot) then .str sBs else .str x | _ => .none) cxF (SrcD.str (EvD.name (vdF rfl)) hea)
      rfl rfl (fun _ => rfl) (by rw [List.length_map]; exact Nat.le_trans hel (by decide)) rfl rfl (by decide) (fun _ => rfl) (fun C d hd => by
        obtain ⟨c, hc, rfl⟩ := List.mem_map.mp hd
        exact EvD.ite cxF.wth (TsD.cmp cxF.wth (EvD.name vdHd) EvD.str CmpD.eqS rfl) (fun _ => EvD.str) (fun _ => EvD.name vdHd))).eq (congrArg PyData.list key)) (CmpD.eq ((Sh.opts (tkRest_ok ho)).shaped (by decide)) ((Sh.opts hok).shaped (by decide))) rfl)
      fun _ => EvD.or cxF (EvD.name (vdF rfl)) fun _ => EvD.cmp cxF ((EvD.lenL cxF ⟨rfl, rfl, rfl⟩ rfl (EvD.name (vdF rfl)) (by rw [List.length_map]; omega) rfl).eq (by rw [List.length_map])) (EvD.lenS cxF ⟨rfl, rfl, rfl⟩ rfl (EvD.name (vdF rfl)) (by omega) rfl) CmpD.eqI rfl)) ?_
    rw [show PyData.eqv (dP (tkRest ps)) (.list (((tkEnd ps h).cps.toList.map fun c => some (esc c)).map opt)) = _ from eqv_list eqv_opt _ _]
    rfl
end
end Mine
end

section
open PySem PySem.W PyProof.Rows PySem.Calls PySem.Spec
open PySem.Builtin PySem.Builtin.Str
set_option Elab.async false
set_option maxRecDepth 100000
namespace Mine
theorem sub_KeyError : isSubtype (.type "KeyError") (.type "LookupError") = pure true := by rw [isSubtype_type]; kernel_rfl
section
variable {prog : Program} {w : World} {A : Around} {E : Value → Shared → Prop} {s : Shared}
theorem look_keep {f : Int → Option Value} {c : Nat} {Q : Mapped → Shared → Prop} (hm : s.heap.MapOf (intKind prog w) 71 f) (hh : A.handled = none) (hv : f c = none)
    (q : ∀ h' k, Ext s.heap h' → Q .keep { s with heap := h', toks := k }) : wpAny (model prog w) A (tableLookup (.ref 71) c) Q E s := by
  unfold tableLookup
  refine wpAny_bind (wpAny_attempt (wpAny_bind (wpAny_mkInt ?_)))
  refine wpAny_getItem_missing_of (k := (c : Int)) (by simp [intKind, Value.isInt]) (by decide) hh hm hv fun h' e x => ?_
  obtain ⟨ob, t, ho, hc, _⟩ := x.there
  refine wpAny_bind (wpAny_isInstance ⟨ob, ho, hc⟩ sub_KeyError ?_)
  simp only [if_true]
  exact wpAny_bind (wpAny_rule (wpAny_pure (q _ _ x.keeps)))
theorem look_text {f : Int → Option Value} {c : Nat} {y : Str} {u : Tok} {Q : Mapped → Shared → Prop} (hm : s.heap.MapOf (intKind prog w) 71 f) (hv : f c = some (.str y u))
    (q : ∀ k, Q (.text y) { s with toks := k }) : wpAny (model prog w) A (tableLookup (.ref 71) c) Q E s := by
  unfold tableLookup
  refine wpAny_bind (wpAny_attempt (wpAny_bind (wpAny_mkInt ?_)))
  refine wpAny_getItem_of (k := (c : Int)) (by simp [intKind, Value.isInt]) hm hv ?_
  refine wpAny_bind (m := asInt? _) (wpAny_of_eq (a := none) rfl ?_)
  exact wpAny_bind (m := asStr? _) (wpAny_of_eq (a := some y) rfl (wpAny_pure (q _)))
theorem call_translate_keep {f : Int → Option Value} {c : Nat} {t : Tok} {Q : Value → Shared → Prop} (hm : s.heap.MapOf (intKind prog w) 71 f) (hh : A.handled = none) (hc : c < 128) (hv : f c = none)
    (q : ∀ h' k u, Ext s.heap h' → Q (.str ⟨#[c]⟩ u) { s with heap := h', toks := k }) : wpAny (model prog w) A (call (.builtin "str.translate") [.str ⟨#[c]⟩ t, .ref 71]) Q E s := by
  refine wpAny_call_entry F.slot_str_translate (typeIs_str _ _ _) F.entry_str_translate ?_ (F.args_str_translate_2 _ _)
  unfold Builtin.«str.translate»
  refine wpAny_bind (m := strOneArg _ _) (wpAny_of_eq (a := (.str ⟨#[c]⟩ t, ⟨#[c]⟩, .ref 71)) rfl ?_)
  dsimp only
  have h0 : ¬ ((Str.mk #[c]).length == 0) = true := fun h => Bool.noConfusion (show false = true from h)
  have ha : (#[c].all fun x => decide (x < 128)) = true := by simp [hc]
  rw [if_neg h0, ha, ← Array.forIn_toList]
  simp only [List.forIn_cons, List.forIn_nil]
  refine wpAny_bind (wpAny_bind ?_)
  rw [if_neg (show ¬ tooLong 0 = true from fun h => Bool.noConfusion (show false = true from h)), if_pos trivial]
  refine wpAny_bind (look_keep hm hh hv fun h' k hk => ?_)
  refine wpAny_bind (wpAny_pure ?_)
  refine wpAny_pure ?_
  refine wpAny_pure ?_
  dsimp only
  rw [if_neg (show ¬ tooLong (0 + 1) = true from fun h => Bool.noConfusion (show false = true from h))]
  refine wpAny_bind (wpAny_mkStr (wpAny_pure ⟨_, rfl, ?_⟩) ?_)
  · exact q _ _ _ hk
  · exact Nat.le_of_ble_eq_true rfl
theorem call_translate_text {f : Int → Option Value} {c : Nat} {y : Str} {t u : Tok} {Q : Value → Shared → Prop} (hm : s.heap.MapOf (intKind prog w) 71 f) (hc : c < 128) (hv : f c = some (.str y u)) (hy : y.length = 2)
    (q : ∀ k u, Q (.str y u) { s with toks := k }) : wpAny (model prog w) A (call (.builtin "str.translate") [.str ⟨#[c]⟩ t, .ref 71]) Q E s := by
  refine wpAny_call_entry F.slot_str_translate (typeIs_str _ _ _) F.entry_str_translate ?_ (F.args_str_translate_2 _ _)
  unfold Builtin.«str.translate»
  refine wpAny_bind (m := strOneArg _ _) (wpAny_of_eq (a := (.str ⟨#[c]⟩ t, ⟨#[c]⟩, .ref 71)) rfl ?_)
  dsimp only
  have h0 : ¬ ((Str.mk #[c]).length == 0) = true := fun h => Bool.noConfusion (show false = true from h)
  have ha : (#[c].all fun x => decide (x < 128)) = true := by simp [hc]
  rw [if_neg h0, ha, ← Array.forIn_toList]
  simp only [List.forIn_cons, List.forIn_nil]
  refine wpAny_bind (wpAny_bind ?_)
  rw [if_neg (show ¬ tooLong 0 = true from fun h => Bool.noConfusion (show false = true from h)), if_pos trivial]
  refine wpAny_bind (look_text hm hv fun k => ?_)
  have h2 : ¬ (y.length == 1 && y.cps.all fun x => decide (x < 128)) = true := by rw [hy]; simp
  dsimp only
  rw [if_neg h2]
  refine wpAny_bind (wpAny_pure ?_)
  dsimp only
  refine wpAny_bind (wpAny_rule ?_)
  rw [if_neg (by decide)]
  refine wpAny_bind (look_text hm hv fun k' => ?_)
  refine wpAny_pure ?_
  refine wpAny_pure ?_
  dsimp only
  rw [if_neg (show ¬ tooLong (0 + y.length) = true by rw [hy]; exact fun h => Bool.noConfusion (show false = true from h))]
  refine wpAny_bind (wpAny_mkStr (wpAny_pure ⟨_, rfl, ?_⟩) ?_)
  · have : ([y].reverse.foldl (fun acc p => acc ++ p.cps) #[]) = y.cps := by simp
    rw [this]
    exact q _ _
  · show ([y].reverse.foldl (fun acc p => acc ++ p.cps) #[]).size ≤ sizeLine
    have : ([y].reverse.foldl (fun acc p => acc ++ p.cps) #[]) = y.cps := by simp
    rw [this]
    exact Nat.le_trans (Nat.le_of_eq hy) (by decide)
theorem keys_of {es : Array DictEntry} (h : (es.toList.all fun e => match e.key with | .int k _ => e.hash == hashInt k | _ => false) = true) : KeysOf (intKind prog w) es := fun e he => by
  have := List.all_eq_true.mp h e (by simpa using he)
  split at this
  · rename_i k t hk
    exact ⟨k, by rw [hk]; simp [intKind, Value.isInt], beq_iff_eq.mp this⟩
  · cases this
def plainSigns : List Nat := [97, 98, 108, 111, 99, 49, 55]
/-- the table of re's escape -/
theorem map71 (h : (KK w.params).In s.heap) : ∃ f t, s.heap.MapOf (intKind prog w) 71 f ∧ f (46 : Nat) = some (.str sBs t) ∧ ∀ c ∈ plainSigns, f (c : Nat) = none := by
  have h71 := h 71 _ rfl
  refine ⟨fun k => findBy (intKind prog w).is _ k, 475, ⟨_, _, _, h71, ⟨rfl, rfl, rfl⟩, rfl, keys_of (by decide +kernel), fun _ => rfl⟩, ?_, ?_⟩
  · rfl
  · intro c hc
    unfold plainSigns at hc
    rcases List.mem_cons.mp hc with rfl | hc
    · rfl
    rcases List.mem_cons.mp hc with rfl | hc
    · rfl
    rcases List.mem_cons.mp hc with rfl | hc
    · rfl
    rcases List.mem_cons.mp hc with rfl | hc
    · rfl
    rcases List.mem_cons.mp hc with rfl | hc
    · rfl
    rcases List.mem_cons.mp hc with rfl | hc
    · rfl
    rcases List.mem_cons.mp hc with rfl | hc
    · rfl
    cases hc
end
end Mine
end

section
open PySem PySem.W PyProof.Rows PySem.Calls PySem.Spec
open PySem.Builtin PySem.Builtin.Str
set_option Elab.async false
set_option maxRecDepth 100000
namespace Mine
theorem n71 {P : Params} : nsIn (KK P) mainGlobals (Str.ofString "_special_chars_map") = some (some (.ref 71)) := rfl
theorem boot_isinstance : bootBuiltins "isinstance" = some (.builtin "isinstance") := by decide +kernel
theorem sign_facts : ∀ c ∈ plainSigns, c < 128 ∧ esc c = ⟨#[c]⟩ := by decide +kernel
theorem esc_dot : esc 46 = sBs := by decide +kernel
theorem sBs_two : sBs.length = 2 := by decide +kernel
section
variable {prog : Program} {w : World} {Γ : G → Heap → Prop} {n : Nat} {env : Env}
theorem TsD.isStr {np sp pos : Pos} {e : Expr} {x : Str} (cx : Cx (KK w.params) Γ) (fe : Fe env) (hx : env.kindOf (Str.ofString "isinstance") = some .globalImplicit) (hy : env.kindOf (Str.ofString "str") = some .globalImplicit) (h : EvD prog w Γ n env e (.str x))
    (he : starEach [e, .Name (Str.ofString "str") sp] env = (false, eval e env) :: starEach [.Name (Str.ofString "str") sp] env) :
    TsD prog w Γ n env (.Call (.Name (Str.ofString "isinstance") np) [e, .Name (Str.ofString "str") sp] [] pos) true := fun A s g E hA hs hΓ => by
  refine wpAny_isTrue_value ?_ rfl
  refine Call_ (ev_builtin (cx.top hΓ) fe hx nisinst boot_isinstance (by decide) rfl ?_)
  refine callWith_builtin1 (args_cons (wpAny_mono (h A s g E hA hs hΓ) (fun v s₁ ⟨k1, g1, w1, r1⟩ => ?_) fun _ _ q => q) he) he rfl
  obtain ⟨t', rfl⟩ := r1.str_inv
  refine args_cons (ev_builtin (cx.top (cx.up w1 hΓ)) fe hy nstr bootS_str (by decide) rfl (args_nil ?_)) rfl
  exact IsiPair.str_str (wpAny_truthy_bool ⟨rfl, k1, g1, w1⟩)
set_option maxHeartbeats 1000000 in
theorem EvD.trans {np apos pos : Pos} {e : Expr} {c : Nat} {pl : Sem Bool} (cx : Cx (KK w.params) Γ) (fe : Fe env) (hx : env.kindOf (Str.ofString "_special_chars_map") = some .globalImplicit) (h : EvD prog w Γ n env e (.str ⟨#[c]⟩)) (hc : c = 46 ∨ c ∈ plainSigns)
    (he : eval (.Call (.Attribute e (Str.ofString "translate") apos) [.Name (Str.ofString "_special_chars_map") np] [] pos) env = (do
      let ov ← eval e env
      standAt apos.atName
      let (f, first) ← holding [ov] (getMethod ov (Str.ofString "translate") pl)
      callWith pos f first (backTo pos (starEach [.Name (Str.ofString "_special_chars_map") np] env)) [])) :
    EvD prog w Γ n env (.Call (.Attribute e (Str.ofString "translate") apos) [.Name (Str.ofString "_special_chars_map") np] [] pos) (.str (esc c)) := fun A s g E hA hs hΓ => by
  refine MethodCall_ (pl := pl) (wpAny_mono (h A s g E hA hs hΓ) (fun v s₁ ⟨k1, g1, w1, r1⟩ => ?_) fun _ _ q => q) he
  obtain ⟨t', rfl⟩ := r1.str_inv
  have t1 := cx.top (cx.up w1 hΓ)
  with_reducible refine GM.of (.str ⟨#[c]⟩ t') (typeIs_str _ _ _) F.slot_str_translate F.type_str_translate GM.noRef ?_
  refine callWith_method1 (args_cons (ev_global t1 fe hx n71 rfl (args_nil ?_)) rfl) rfl rfl
  obtain ⟨f, tk, hm, hf, hn⟩ := map71 (prog := prog) t1.k
  rcases hc with rfl | hc
  · refine call_translate_text hm (by decide) hf sBs_two fun k u => ?_
    rw [esc_dot]
    exact ⟨keeps_trans k1 (keeps_tok s₁ k), g1, w1, .str _ _⟩
  · have h128 := sign_facts c hc
    refine call_translate_keep hm hA.1 h128.1 (hn c hc) fun h' k u hk => ?_
    rw [h128.2]
    exact ⟨keeps_trans k1 ⟨h', k, rfl, hk⟩, g1, w1.trans (Grow.heap w1.sub hk), .str _ _⟩
set_option maxHeartbeats 1000000 in
theorem fn81 {c : Nat} (hc : c = 46 ∨ c ∈ plainSigns) : FnD prog w (KK w.params) (n + 1) 81 [.str ⟨#[c]⟩] (.str (esc c)) := by
  refine FnD.intro (xs := [Str.ofString "pattern"]) rfl rfl rfl rfl (fun vs h => ?_) rfl rfl ?_ ?_ ?_ rfl rfl rfl ?_
  · match vs, h with
    | [a], _ => rfl
  · intro L x hx; left; revert x; decide
  · decide
  · decide
  · intro L
    exact ExD.out (ExS.ite (TsD.isStr cxF ⟨rfl, rfl, rfl⟩ rfl rfl (EvD.name (vdF rfl)) rfl) (fun _ => ExD.ret (EvD.trans cxF ⟨rfl, rfl, rfl⟩ rfl (EvD.name (vdF rfl)) hc rfl)) nofun) (fun _ _ => nofun)
end
end Mine
end

section
open PySem PySem.W PyProof.Rows PySem.Calls PySem.Spec
set_option Elab.async false
set_option maxRecDepth 100000
namespace Mine
theorem slot_md_get : Slot "method_descriptor" "__get__" "method_descriptor.__get__" :=
  .of (owner := "method_descriptor") (n := "__get__") (by rw [typeLookup_type, builtinLookup_eq_fast]; kernel_rfl) (by decide +kernel) (by decide +kernel) (by decide +kernel)
    (by first | exact .inl (by decide +kernel) | exact .inr (by decide +kernel)) (by rw [isSubtype_type]; kernel_rfl)
theorem entry_md_get : entryFor table "method_descriptor.__get__" = some Builtin.«method_descriptor.__get__» := entryFor_of_tree (by kernel_rfl)
theorem args_md_get (a b c : Value) : argsOk "method_descriptor.__get__" ⟨[a, b, c], []⟩ := by unfold argsOk; kernel_rfl
theorem md_noSet : typeLookup (.type "method_descriptor") "__set__" = pure none := by rw [typeLookup_type, builtinLookup_eq_fast]; kernel_rfl
theorem md_noDelete : typeLookup (.type "method_descriptor") "__delete__" = pure none := by rw [typeLookup_type, builtinLookup_eq_fast]; kernel_rfl
theorem type_append : typeOf (.builtin "list.append") = pure (.type "method_descriptor") := by show builtinType _ = _; rw [builtinType_eq_fast]; kernel_rfl
theorem owner_append : (".".intercalate ("list.append".cutAt '.').dropLast) = "list" := by
  have e0 : "list.append".cutAt '.' = ["list", "append"] := by first | rfl | decide +kernel
  rw [e0]
  decide +kernel
theorem sub_append : isSubtype (.type "list") (.type (".".intercalate ("list.append".cutAt '.').dropLast)) = pure true := by rw [owner_append, isSubtype_type]; kernel_rfl
section
variable {prog : Program} {w : World} {A : Around} {E : Value → Shared → Prop} {h : Heap} {g : Array GenState} {d : Drawn} {t : Nat} {os : OsState} {a : Addr} {o : Obj}
theorem append_get {R : Result → Shared → Prop} (hx : h.get? a = some o) (hc : o.cls = .type "list") (hq : R (.ok (.ret (.ref h.objs.size))) ⟨h.push (bmObj a), g, d, t, os⟩) :
    codeAny (model prog w) A (.call (.builtin "method_descriptor.__get__") ⟨[.builtin "list.append", .ref a, .type "list"], []⟩) R ⟨h, g, d, t, os⟩ := by
  have hT : (⟨h, g, d, t, os⟩ : Shared).TypeIs (.ref a) "list" := ⟨_, hx, hc⟩
  have hT5 : (⟨h, g, d, t, os⟩ : Shared).TypeIs (.builtin "list.append") "method_descriptor" := type_append
  have f8 := sub_append
  refine codeAny_call_builtin slot_md_get.plain entry_md_get (slot_md_get.check _ _ _ _ _ _ _ _ hT5 (args_md_get _ _ _) ?_)
  repeat (any_goals (first | assumption | wp_step))
theorem append_entry {tk : Tok} {xs : Array Value} {k : Nat} {Q : PySem.Fin → Shared → Prop} (hx : h.get? a = some { cls := .type "list", data := .seq xs k }) (hq : Q (.done (.ret (.ref h.objs.size))) ⟨h.push (bmObj a), g, d, t, os⟩) :
    wpAny (model prog w) A (Builtin.«object.__getattribute__» ⟨[.ref a, .str "append" tk], []⟩) Q E ⟨h, g, d, t, os⟩ := by
  have hT : (⟨h, g, d, t, os⟩ : Shared).TypeIs (.ref a) "list" := ⟨_, hx, rfl⟩
  have hT5 : (⟨h, g, d, t, os⟩ : Shared).TypeIs (.builtin "list.append") "method_descriptor" := type_append
  have f4 := PySem.F.slot_list_append.lookup
  have f5 := type_append
  have f6 := slot_md_get.lookup
  have f7 := md_noSet
  have f8 := md_noDelete
  repeat (any_goals (first | assumption | wp_step))
  refine append_get hx rfl ?_
  exact wpAny_pure hq
theorem append_call {tk : Tok} {xs : Array Value} {k : Nat} {R : Result → Shared → Prop} (hx : h.get? a = some { cls := .type "list", data := .seq xs k }) (hq : R (.ok (.ret (.ref h.objs.size))) ⟨h.push (bmObj a), g, d, t, os⟩) :
    codeAny (model prog w) A (.call (.builtin "list.__getattribute__") ⟨[.ref a, .str "append" tk], []⟩) R ⟨h, g, d, t, os⟩ :=
  codeAny_call_builtin F.slot_list_getattribute.plain F.entry_list_ga (F.slot_list_getattribute.check _ _ _ _ _ _ _ _ (show (⟨h, g, d, t, os⟩ : Shared).TypeIs (.ref a) "list" from ⟨_, hx, rfl⟩) (F.args_list_getattribute_2 _ _) (append_entry hx hq))
theorem append_by {tk : Tok} {xs : Array Value} {k : Nat} {Q : Value → Shared → Prop} (hx : h.get? a = some { cls := .type "list", data := .seq xs k }) (hq : Q (.ref h.objs.size) ⟨h.push (bmObj a), g, d, t, os⟩) :
    wpAny (model prog w) A (getAttrBy (.ref a) (.str "append" tk) true true) Q E ⟨h, g, d, t, os⟩ := by
  have hT : (⟨h, g, d, t, os⟩ : Shared).TypeIs (.ref a) "list" := ⟨_, hx, rfl⟩
  unfold getAttrBy
  refine wpAny_holding (wpAny_bind (wpAny_typeOf hT (wpAny_bind (wpAny_of_eq F.slot_list_getattribute.lookup ?_))))
  show wpAny _ _ (getAttrByItsOwn _ _ _ _ _ _) _ _ _
  unfold getAttrByItsOwn
  refine wpAny_bind (m := hookBefore _) (wpAny_pure (wpAny_bind (wpAny_attempt (wpAny_holding ?_))))
  show wpAny _ _ (boundAndCalled _ _ _) _ _ _
  unfold boundAndCalled
  refine wpAny_bind (wpAny_of_eq (F.slot_list_getattribute.bind (.ref a)) ?_)
  exact wpAny_call (append_call hx (wpAny_pure hq))
end
section
variable {prog : Program} {w : World} {A : Around} {E : Value → Shared → Prop} {s : Shared}
theorem append_attr {env : Env} {x : Str} {np pos : Pos} {a : Addr} {xs : Array Value} {k : Nat} {Q : Value → Shared → Prop} (hv : VarIs env s.heap x (.ref a)) (hx : s.heap.get? a = some { cls := .type "list", data := .seq xs k })
    (hq : Q (.ref s.heap.objs.size) { s with heap := s.heap.push (bmObj a), toks := s.toks + 1 }) : wpAny (model prog w) A (eval (.Attribute (.Name x np) (Str.ofString "append") pos) env) Q E s := by
  refine Attribute_name (ev_name hv ?_)
  unfold getAttr
  refine wpAny_bind (wpAny_mkText ?_)
  obtain ⟨h, g, d, t, os⟩ := s
  exact append_by hx hq
theorem sig_append : Manifest.signature? "list.append" = some ⟨.oneArg, "list.append", "append", .self, [⟨"object", .posOnly, true⟩]⟩ := by
  rw [signature?_of (id := "list.append") (n := ['d', 'n', 'e', 'p', 'p', 'a']) (o := ['t', 's', 'i', 'l']) (by kernel_rfl) PySem.F.owner_list]; kernel_rfl
theorem kind_append : builtinKind "list.append" = some .method := by decide +kernel
theorem list_noMod : isSubtype (.type "list") (.type "module") = pure false := by rw [isSubtype_type]; kernel_rfl
theorem list_noType : isSubtype (.type "list") (.type "type") = pure false := by rw [isSubtype_type]; kernel_rfl
theorem append_varargs : Manifest.varargsMethods.contains "list.append" = false := by decide +kernel
theorem append_check (a v : Value) : Bind.checkArgs "list.append" ⟨.oneArg, toString (Bind.lastOf "list") ++ toString "." ++ toString (Bind.lastOf "list.append"), "append", .self, [⟨"object", .posOnly, true⟩]⟩ ⟨[a, v], []⟩ = pure () := by kernel_rfl
/-- the bound method called -/
theorem append_bound {q a : Addr} {xs : Array Value} {v : Value} {Q : Value → Shared → Prop} (hq : s.heap.get? q = some (bmObj a)) (hx : s.heap.PlainList a xs) (hsz : xs.size ≤ sizeLine)
    (h : ∀ h', h'.PlainList a (xs.push v) → Heap.SameBut a s.heap h' → Q .none { s with heap := h' }) : wpAny (model prog w) A (call (.ref q) [v]) Q E s := by
  have hT : s.TypeIs (.ref a) "list" := let ⟨_, e⟩ := hx; ⟨_, e, rfl⟩
  refine wpAny_call (codeAny_of_tree ?_)
  show wpAny _ _ (callAny (.ref q) ⟨[v], []⟩) _ _ _
  unfold callAny
  refine wpAny_bind (wpAny_load hq ?_)
  show wpAny _ _ (checkBoundCall "list.append" ⟨[.ref a, v], []⟩ >>= fun _ => again (.builtin "list.append" ⟨[.ref a, v], []⟩)) _ _ _
  refine wpAny_bind ?_
  have fin : wpAny (model prog w) (A.under (.call (.ref q) ⟨[v], []⟩)) (again (.builtin "list.append" ⟨[.ref a, v], []⟩)) (fun fin s' => match fin with
      | .done f => (match (Except.ok f : Result) with | .ok (.ret v) => Q v s' | .ok _ => False | .error e => E e s')
      | .again c' => c'.quiet = true ∧ codeAny (model prog w) A c' (fun r s' => match r with | .ok (.ret v) => Q v s' | .ok _ => False | .error e => E e s') s') (fun e s' => E e s') s := by
    refine wpAny_pure ⟨Code.quiet_builtin _ (by decide +kernel), ?_⟩
    refine codeAny_builtin PySem.F.entry_list_append ?_
    show wpAny _ _ (updateSeq a (·.push v) >>= fun _ => ret .none) _ _ s
    obtain ⟨nn, ho⟩ := hx
    refine wpAny_bind (wpAny_updateSeq ho rfl (wpAny_pure (h _ ⟨nn + 1, ?_⟩ (Heap.SameBut.update ..))))
    rw [Heap.get?_update_self _ ho (by rw [Obj.mapSeq_push_plain]; rfl), Obj.mapSeq_push_plain]
  unfold checkBoundCall
  rw [sig_append, kind_append]
  dsimp only
  rw [if_neg (by decide)]
  refine wpAny_bind (wpAny_isInstance hT list_noMod ?_)
  rw [append_varargs, if_neg (by decide)]
  have e1 : wpAny (model prog w) (A.under (.call (.ref q) ⟨[v], []⟩)) (isType (.ref a)) (fun b s' => b = false ∧ s' = s) E s := by
    obtain ⟨nn, ho⟩ := hx
    show wpAny _ _ (loadHead a >>= fun o => pure (match o.data with | .cls _ => true | _ => false)) _ _ _
    exact wpAny_bind (wpAny_loadPart ho (wpAny_pure ⟨rfl, rfl⟩))
  refine wpAny_bind (wpAny_mono e1 (fun b s' hb => ?_) fun _ _ z => z)
  obtain ⟨rfl, rfl⟩ := hb
  rw [if_neg (by decide)]
  refine wpAny_bind (wpAny_typeOf hT ?_)
  exact wpAny_of_eq (append_check _ _) fin
end
end Mine
end

section
open PySem PySem.W PyProof.Rows PySem.Calls PySem.Spec
set_option Elab.async false
set_option maxRecDepth 100000
namespace Mine
section
variable {s₀ s : Shared} {g₀ g : G} {env : Env} {ρ : Loc} {ml : Option ML} {K : Frag}
theorem inc_up {m cm : Str → Option Value} {L : Addr} {cs : List (Str × Addr)} (I : InCallC s₀ L m cs cm s) {s' : Shared} (hk : Keeps s s') : InCallC s₀ L m cs cm s' := by
  obtain ⟨h', tk, rfl, k⟩ := hk
  obtain ⟨H, t0, e0⟩ := I.toInCall.same
  exact ⟨⟨⟨h', tk, by rw [e0]⟩, I.toInCall.ns.keeps k, fun b o e => k b o (I.toInCall.keep b o e), I.toInCall.fresh⟩, fun n c q => (I.cell n c q).keeps k, I.apart, I.above⟩
abbrev upd (m : Str → Option Value) (x : Str) (v : Value) : Str → Option Value := fun y => if y = x then some v else m y
theorem Holds.upd {m cm : Str → Option Value} {x y : Str} {u v : Value} (hy : y ≠ x) (h : Holds env m cm y u) : Holds env (upd m x v) cm y u := ⟨h.1, h.2.imp (fun ⟨a, b⟩ => ⟨a, (if_neg hy).trans b⟩) id⟩
/-- any value is stored -/
theorem storeX {M : Model} {A : Around} {E : Value → Shared → Prop} {Q : Unit → Shared → Prop} {m cm : Str → Option Value} (I : InCallC s₀ env.locals m env.cells cm s) (hk : env.scope.kind = .function) (gr : Grow g₀ s₀.heap g s.heap) (hidL : g env.locals = none)
    (hidC : ∀ n c, env.cells.lookup n = some c → g c = none) {x : Str} {v : Value} (hx : env.kindOf x = some .local) (hv : ∀ y d, ρ.lookup y = some d → y ≠ x ∧ ∃ u, Holds env m cm y u ∧ R g u d)
    (hml : ∀ h' : Heap, (∀ b o, b ≠ env.locals → s.heap.get? b = some o → h'.get? b = some o) → ∀ M, ml = some M → MlIs s₀ env g h' (upd m x v) cm M)
    (k : ∀ s', Fm s₀ g₀ env ρ ml g s' → Q () s') : wpAny M A (storeName env x v) Q E s := by
  obtain ⟨H, t0, e0⟩ := I.toInCall.same
  refine wpAny_storeName_local hx I.toInCall.ns (fun h' hn' hs' => ?_) (by rw [hk]; rfl)
  have x' : Ext s₀.heap h' := fun b o e => hs'.extBut b o (Nat.ne_of_lt (Nat.lt_of_lt_of_le (Heap.lt_size e) I.toInCall.fresh)) (I.toInCall.keep b o e)
  refine k _ ⟨⟨_, cm, ⟨⟨⟨h', _, by rw [e0]⟩, hn', x', I.toInCall.fresh⟩, fun n c q => (I.cell n c q).sameBut hs' (Nat.ne_of_gt (I.above n c (mem_of_lookup q))), I.apart, I.above⟩, fun y e q => ?_, hml h' fun b o hb e => hs'.extBut b o hb e⟩, hk,
    gr.shift x' fun a o e => hs'.extBut a o (fun q => by rw [q, hidL] at e; cases e) (gr.sub a o e), hidL, hidC⟩
  obtain ⟨hy, u, hu, r'⟩ := hv y e q
  exact ⟨u, hu.upd hy, r'⟩
theorem Fm.fresh (F : Fm s₀ g₀ env ρ ml g s) {a : Addr} (ha : s.heap.objs.size ≤ a) : Hid s₀ env g a := by
  obtain ⟨m, cm, I, _⟩ := F.inc
  have none : s.heap.get? a = none := by
    cases e : s.heap.get? a with
    | none => rfl
    | some o => exact absurd (Heap.lt_size e) (Nat.not_lt.mpr ha)
  refine ⟨?_, ?_, ?_, ?_⟩
  · cases e : g a with
    | none => rfl
    | some o => rw [F.grow.sub a o e] at none; cases none
  · cases e : s₀.heap.get? a with
    | none => rfl
    | some o => rw [F.grow.keep a o e] at none; cases none
  · rintro rfl
    obtain ⟨o, _, _, e, _⟩ := I.toInCall.ns
    rw [e] at none; cases none
  · rintro n c q rfl
    obtain ⟨o, e, _⟩ := I.cell n a q
    rw [e] at none; cases none
theorem Holds.var {m cm : Str → Option Value} {x : Str} {v : Value} (F : Fm s₀ g₀ env ρ ml g s) (I : InCallC s₀ env.locals m env.cells cm s) (h : Holds env m cm x v) : VarIs env s.heap x v := by
  obtain ⟨hd, h⟩ := h
  refine ⟨F.kind, hd, ?_⟩
  rcases h with ⟨a, b⟩ | ⟨a, ⟨c, b⟩, q⟩
  · exact .inl ⟨a, m, I.toInCall.ns, b⟩
  · exact .inr ⟨a, c, b, q ▸ I.cell x c b⟩
/-- the growing list as it is now, shown -/
theorem Fm.freeze {M : ML} (F : Fm s₀ g₀ env ρ (some M) g s) : ∃ g', Grow g₀ s₀.heap g' s.heap ∧ Fm s₀ g₀ env ((M.x, .list M.ys) :: ρ) none g' s ∧ ∀ a o, g a = some o → g' a = some o := by
  obtain ⟨m, cm, I, hv, hl⟩ := F.inc
  obtain ⟨D, vs, a, ⟨nn, b⟩, c, hid, _⟩ := hl M rfl
  have le : ∀ x o, g x = some o → put g D { cls := .type "list", data := .seq vs nn } x = some o := fun x o e => by
    have : x ≠ D := fun q => by rw [q, hid.g] at e; cases e
    rw [put_ne this]; exact e
  have gr : Grow g₀ s₀.heap (put g D { cls := .type "list", data := .seq vs nn }) s.heap := by
    refine ⟨fun x o e => le x o (F.grow.le x o e), fun x o e => ?_, fun x o e => ?_, F.grow.keep⟩
    · by_cases q : x = D
      · subst q; rw [put_self] at e; cases e; exact b
      · rw [put_ne q] at e; exact F.grow.sub x o e
    · by_cases q : x = D
      · subst q; exact .inr hid.old
      · rw [put_ne q] at e; exact F.grow.new x o e
  refine ⟨_, gr, ⟨⟨m, cm, I, fun y d q => ?_, fun _ q => nomatch q⟩, F.kind, gr, ?_, fun n c q => ?_⟩, le⟩
  · by_cases hy : y = M.x
    · subst hy
      rw [lookup_cons_eq] at q
      cases q
      exact ⟨_, a, .list put_self (c.mono le)⟩
    · rw [lookup_cons_ne hy] at q
      obtain ⟨u, hu, r⟩ := hv y d q
      exact ⟨u, hu, r.mono le⟩
  · rw [put_ne (Ne.symm hid.loc)]; exact F.hidL
  · rw [put_ne (Ne.symm (hid.cel n c q))]; exact F.hidC n c q
end
section
variable {prog : Program} {w : World} {K : Frag} {n : Nat} {env : Env} {ρ : Loc} {ml : Option ML}
theorem ExD.freeze {M : ML} {st : List Stmt} {o : Out} (h : ExD prog w K n env ((M.x, .list M.ys) :: ρ) none st o) : ExD prog w K n env ρ (some M) st o := fun A s₀ g₀ g s E hA t F =>
  let ⟨g', _, F', _⟩ := F.freeze
  h A s₀ g₀ g' s E hA t F'
/-- a test may look at the growing list -/
theorem ExS.iteMl {M : ML} {t : Expr} {pos : Pos} {b1 b2 : List Stmt} {b : Bool} {o : Out} (h : TsD prog w (ΓF K env ((M.x, .list M.ys) :: ρ)) n env t b) (h1 : b = true → ExD prog w K n env ρ (some M) b1 o) (h2 : b = false → ExD prog w K n env ρ (some M) b2 o) :
    ExS prog w K n env ρ (some M) (.If t b1 b2 pos) o := fun A s₀ g₀ g s E hA t F => by
  obtain ⟨g', gr', F', le⟩ := F.freeze
  refine wpAny_If (wpAny_mono (h A s g' E hA F'.grow.sub (F'.Γ t)) (fun v s' ⟨e, k, _, _⟩ => ?_) fun _ _ e => e)
  have F2 := F.up k (Grow.heap F.grow.sub (keeps_ext k))
  subst e
  cases v with
  | true => exact h1 rfl A s₀ g₀ g s' E hA t F2
  | false => exact h2 rfl A s₀ g₀ g s' E hA t F2
/-- x = [] -/
theorem ExS.newMl {x : Str} {px lp pos : Pos} (hd : (x == ("__debug__" : Str)) = false) (hx : env.kindOf x = some .local) (hρ : ρ.lookup x = none) (hs : swapsWith (.List [] lp) (some (.Name x px)) pos.line env = pure false) :
    ExS prog w K n env ρ none (.Assign [.Name x px] (.List [] lp) pos) (.next ρ (some ⟨x, none, []⟩)) := fun A s₀ g₀ g s E hA t F => by
  refine wpAny_Assign_Name (wpAny_List (wpAny_items_nil ⟨Nat.zero_le _, ?_⟩)) hs
  have x1 := ext_push s.heap { cls := .type "list", data := .seq ([] : List Value).toArray }
  have hid := F.fresh (Nat.le_refl s.heap.objs.size)
  have F1 := F.up (s' := { s with heap := s.heap.push { cls := .type "list", data := .seq ([] : List Value).toArray } }) ⟨_, s.toks, rfl, x1⟩ (Grow.heap F.grow.sub x1)
  have hD : (s.heap.push { cls := .type "list", data := .seq ([] : List Value).toArray }).get? s.heap.objs.size = some { cls := .type "list", data := .seq #[] } := Heap.get?_push_size _ rfl
  obtain ⟨m, cm, I, hv, _⟩ := F1.inc
  refine storeX (ml := some ⟨x, none, []⟩) I F1.kind F1.grow F1.hidL F1.hidC hx (fun y d q => ⟨fun z => (by rw [z, hρ] at q; cases q), hv y d q⟩) (fun h' hk M e => ?_) fun s' F' => ⟨rfl, g, F'⟩
  cases e
  exact ⟨s.heap.objs.size, #[], ⟨hd, .inl ⟨hx, if_pos rfl⟩⟩, ⟨0, hk _ _ hid.loc hD⟩, .nil, hid, fun _ q => nomatch q⟩
/-- y = x.append -/
theorem ExS.alias {x y : Str} {px py ap pos : Pos} {ys : List PyData} (hd : (y == ("__debug__" : Str)) = false) (hy : env.kindOf y = some .local) (hxy : x ≠ y) (hρ : ρ.lookup y = none)
    (hs : swapsWith (.Attribute (.Name x px) (Str.ofString "append") ap) (some (.Name y py)) pos.line env = pure false) :
    ExS prog w K n env ρ (some ⟨x, none, ys⟩) (.Assign [.Name y py] (.Attribute (.Name x px) (Str.ofString "append") ap) pos) (.next ρ (some ⟨x, some y, ys⟩)) := fun A s₀ g₀ g s E hA t F => by
  obtain ⟨m, cm, I, hv, hl⟩ := F.inc
  obtain ⟨D, vs, a, ⟨nn, b⟩, c, hidD, _⟩ := hl _ rfl
  refine wpAny_Assign_Name (append_attr (a.var F I) b ?_) hs
  have x1 := ext_push s.heap (bmObj D)
  have hid := F.fresh (Nat.le_refl s.heap.objs.size)
  have gr1 := F.grow.shift (h2 := s.heap.push (bmObj D)) (fun b o e => x1 b o (F.grow.keep b o e)) fun b o e => x1 b o (F.grow.sub b o e)
  have hD : (s.heap.push (bmObj D)).get? s.heap.objs.size = some (bmObj D) := Heap.get?_push_size _ rfl
  have hne : s.heap.objs.size ≠ D := fun q => absurd (Heap.lt_size b) (by rw [q]; exact Nat.lt_irrefl _)
  refine storeX (s := { s with heap := s.heap.push (bmObj D), toks := s.toks + 1 }) (ml := some ⟨x, some y, ys⟩) (inc_up I ⟨_, _, rfl, x1⟩) F.kind gr1 F.hidL F.hidC hy (fun z d q => ⟨fun e => (by rw [e, hρ] at q; cases q), hv z d q⟩) (fun h' hk M e => ?_) fun s' F' => ⟨rfl, g, F'⟩
  cases e
  refine ⟨D, vs, a.upd hxy, ⟨nn, hk _ _ hidD.loc (x1 _ _ b)⟩, c, hidD, fun z ez => ?_⟩
  cases ez
  exact ⟨s.heap.objs.size, ⟨hd, .inl ⟨hy, if_pos rfl⟩⟩, hk _ _ hid.loc hD, hid, hne⟩
theorem looks_bound {M : Model} {h : Heap} {q D : Addr} (e : h.get? q = some (bmObj D)) : Looks M h (keeperOf (.ref q)) Keeper.machine := fun A Q E s k hq => by
  unfold keeperOf
  exact wpAny_bind (wpAny_load (k _ _ e) (wpAny_pure hq))
/-- the list has one item more -/
theorem Fm.grown {s₀ s : Shared} {g₀ g : G} {m cm : Str → Option Value} {x : Str} {ad : Option Str} {ys : List PyData} {d : PyData} {v : Value} {D : Addr} {vs : Array Value} {h' : Heap} (F : Fm s₀ g₀ env ρ (some ⟨x, ad, ys⟩) g s) (I : InCallC s₀ env.locals m env.cells cm s)
    (hv : ∀ x d, ρ.lookup x = some d → ∃ v, Holds env m cm x v ∧ R g v d) (hx : Holds env m cm x (.ref D)) (c : RL g vs.toList ys) (hid : Hid s₀ env g D)
    (had : ∀ y, ad = some y → ∃ q, Holds env m cm y (.ref q) ∧ s.heap.get? q = some (bmObj D) ∧ Hid s₀ env g q ∧ q ≠ D) (r : R g v d) (hp : h'.PlainList D (vs.push v)) (hs : Heap.SameBut D s.heap h') :
    Fm s₀ g₀ env ρ (some ⟨x, ad, ys ++ [d]⟩) g { s with heap := h' } := by
  obtain ⟨H, t0, e0⟩ := I.toInCall.same
  have x' : Ext s₀.heap h' := fun b o e => hs.extBut b o (fun q => by rw [q, hid.old] at e; cases e) (I.toInCall.keep b o e)
  refine ⟨⟨m, cm, ⟨⟨⟨h', s.toks, by rw [e0]⟩, I.toInCall.ns.sameBut hs (Ne.symm hid.loc), x', I.toInCall.fresh⟩, fun n c q => (I.cell n c q).sameBut hs (Ne.symm (hid.cel n c q)), I.apart, I.above⟩, hv, fun M e => ?_⟩, F.kind,
    F.grow.shift x' fun a o e => hs.extBut a o (fun q => by rw [q, hid.g] at e; cases e) (F.grow.sub a o e), F.hidL, F.hidC⟩
  cases e
  refine ⟨D, _, hx, hp, by simpa using c.append (.cons r .nil), hid, fun y ey => ?_⟩
  obtain ⟨q, q1, q2, q3, q4⟩ := had y ey
  exact ⟨q, q1, hs.extBut q _ q4 q2, q3, q4⟩
/-- y(e), y the bound append -/
theorem ExS.addA {x y : Str} {np pos epos : Pos} {e : Expr} {ys : List PyData} {d : PyData} (h : EvD prog w (ΓF K env ρ) n env e d) (hsz : ys.length ≤ sizeLine) (he : starEach [e] env = (false, eval e env) :: starEach [] env)
    (hi : interactive env = false) (hs : swapsWith (.Call (.Name y np) [e] [] pos) none epos.line env = pure false) :
    ExS prog w K n env ρ (some ⟨x, some y, ys⟩) (.Expr (.Call (.Name y np) [e] [] pos) epos) (.next ρ (some ⟨x, some y, ys ++ [d]⟩)) := fun A s₀ g₀ g s E hA t F => by
  refine wpAny_Expr ?_ hi hs
  obtain ⟨m, cm, I, hv, hl⟩ := F.inc
  obtain ⟨D, vs, a, b, c, hidD, had⟩ := hl _ rfl
  obtain ⟨q, q1, q2, q3, q4⟩ := had y rfl
  refine Call_ (ev_name (q1.var F I) ?_)
  rw [he]
  refine callWith_of (P := fun h => h.get? q = some (bmObj D)) rfl (fun h hh => ⟨_, .inr (.inl rfl), looks_bound hh⟩) (evalArgs_plain ?_)
  refine spliced_cons (wpAny_mono (h A s g E hA F.grow.sub (F.Γ t)) (fun v s' ⟨k1, g', gr, r⟩ => spliced_nil ⟨keeps_ext k1 _ _ q2, ?_⟩) fun _ _ e => e)
  have k := keeps_ext k1
  refine append_bound (k _ _ q2) (b.at fun o e => k D o e) (by have := c.length; simp only [Array.length_toList] at this; omega) fun h' hp hsb => ?_
  have F1 := F.up k1 gr
  have hid' : ∀ {z}, Hid s₀ env g z → (∃ o, s.heap.get? z = some o) → Hid s₀ env g' z := fun {z} hz ⟨o, ho⟩ => ⟨gr.hid ho hz.g, hz.old, hz.loc, hz.cel⟩
  refine ⟨rfl, g', F1.grown (inc_up I k1) (fun z d' e => let ⟨u, hu, r'⟩ := hv z d' e; ⟨u, hu, r'.up gr⟩) a (c.up gr) (hid' hidD (let ⟨_, q⟩ := b; ⟨_, q⟩)) (fun z ez => ?_) r hp hsb⟩
  cases ez
  exact ⟨q, q1, k _ _ q2, hid' q3 ⟨_, q2⟩, q4⟩
/-- x.append(e) -/
theorem ExS.app {x : Str} {np ap pos epos : Pos} {e : Expr} {ys : List PyData} {d : PyData} {pl : Sem Bool} (h : EvD prog w (ΓF K env ρ) n env e d) (hsz : ys.length ≤ sizeLine) (he1 : starEach [e] env = (false, eval e env) :: starEach [] env)
    (he : eval (.Call (.Attribute (.Name x np) (Str.ofString "append") ap) [e] [] pos) env = (do
      let ov ← eval (.Name x np) env
      standAt ap.atName
      let (f, first) ← holding [ov] (getMethod ov (Str.ofString "append") pl)
      callWith pos f first (backTo pos (starEach [e] env)) []))
    (hi : interactive env = false) (hs : swapsWith (.Call (.Attribute (.Name x np) (Str.ofString "append") ap) [e] [] pos) none epos.line env = pure false) :
    ExS prog w K n env ρ (some ⟨x, none, ys⟩) (.Expr (.Call (.Attribute (.Name x np) (Str.ofString "append") ap) [e] [] pos) epos) (.next ρ (some ⟨x, none, ys ++ [d]⟩)) := fun A s₀ g₀ g s E hA t F => by
  refine wpAny_Expr ?_ hi hs
  obtain ⟨m, cm, I, hv, hl⟩ := F.inc
  obtain ⟨D, vs, a, b, c, hidD, had⟩ := hl _ rfl
  refine MethodCall_ (pl := pl) (ev_name (a.var F I) ?_) he
  have hT : s.TypeIs (.ref D) "list" := let ⟨_, e⟩ := b; ⟨_, e, rfl⟩
  with_reducible refine getMethod_builtin hT PySem.F.plainAttrs_list PySem.F.slot_list_append PySem.F.type_list_append (fun z ez => ?_) ?_
  · cases ez
    obtain ⟨_, e⟩ := b
    exact ⟨_, e, rfl⟩
  refine callWith_method1 (args_cons (wpAny_mono (h A s g E hA F.grow.sub (F.Γ t)) (fun v s' ⟨k1, g', gr, r⟩ => args_nil ?_) fun _ _ e => e) he1) he1 rfl
  have k := keeps_ext k1
  refine wpAny_list_append_plain (b.at fun o e => k D o e) (fun h' hp hsb => ?_) (by have := c.length; simp only [Array.length_toList] at this; omega)
  have F1 := F.up k1 gr
  exact ⟨rfl, g', F1.grown (inc_up I k1) (fun z d' e => let ⟨u, hu, r'⟩ := hv z d' e; ⟨u, hu, r'.up gr⟩) a (c.up gr) (let ⟨_, q⟩ := b; ⟨gr.hid q hidD.g, hidD.old, hidD.loc, hidD.cel⟩) (fun z ez => nomatch ez) r hp hsb⟩
/-- a while by its turns -/
theorem ExS.whileN {t : Expr} {body : List Stmt} {pos : Pos} (N : Nat) (J : Nat → Loc) (M : Nat → Option ML) (test : ∀ k, k ≤ N → TsD prog w (ΓF K env (J k)) n env t (decide (k < N))) (turn : ∀ k, k < N → ExD prog w K n env (J k) (M k) body (.next (J (k + 1)) (M (k + 1)))) :
    ExS prog w K n env (J 0) (M 0) (.While t body [] pos) (.next (J N) (M N)) := fun A s₀ g₀ g s E hA t' F => by
  refine wpAny_While (codeAny_whileLoop (fun c s' => ∃ k g', c = N - k ∧ k ≤ N ∧ Fm s₀ g₀ env (J k) (M k) g' s') (fun c s' hI => ?_) N ⟨0, g, rfl, Nat.zero_le _, F⟩)
  obtain ⟨k, g', rfl, hk, F'⟩ := hI
  refine wpAny_mono (test k hk A s' g' _ hA F'.grow.sub (F'.Γ t')) (fun b s2 ⟨e, k2, g2, gr2⟩ => ?_) fun _ _ e => e
  have F2 := F'.up k2 gr2
  subst e
  by_cases hlt : k < N
  · rw [decide_eq_true hlt, if_pos rfl]
    refine wpAny_mono (turn k hlt A s₀ g₀ g2 s2 _ hA t' F2) (fun fl s3 ⟨e, g3, F3⟩ => ?_) fun _ _ e => e
    subst e
    exact ⟨N - (k + 1), by omega, k + 1, g3, rfl, hlt, F3⟩
  · rw [decide_eq_false hlt]
    have : k = N := by omega
    subst this
    exact wpAny_execs_nil ⟨rfl, g2, F2⟩
/-- a list's truth -/
theorem TruthD.list {ds : List PyData} (hl : ds.length < 2 ^ 62) : TruthD prog w n (.list ds) (!ds.isEmpty) := fun A s g v E _ hs r => by
  obtain ⟨D, vs, rfl, l, hl'⟩ := r.isList hs
  have e := l.length
  refine wpAny_truthy_list hl' (by rw [List.size_toArray, e]; omega) ⟨?_, keeps_tok s _, g, Grow.refl hs⟩
  cases l <;> rfl
end
end Mine
end

section
open PySem PySem.W PyProof.Rows PySem.Calls PySem.Spec
set_option Elab.async false
set_option maxRecDepth 100000
namespace Mine
section
variable {prog : Program} {w : World} {K : Frag} {n : Nat} {env : Env} {ρ : Loc} {ml : Option ML}
theorem ev_pair {A : Around} {s : Shared} {g : G} {E : Value → Shared → Prop} {Γ : G → Heap → Prop} {e1 e2 : Expr} {k : Nat} {pos : Pos} {d1 d2 : PyData} {Q : Value → Shared → Prop} (cx : Cx K Γ) (h1 : EvD prog w Γ n env e1 d1) (h2 : EvD prog w Γ n env e2 d2)
    (he1 : starEach [e1, e2] env = (false, eval e1 env) :: starEach [e2] env) (he2 : starEach [e2] env = (false, eval e2 env) :: starEach [] env) (hA : Good n A) (hs : Sub g s.heap) (hΓ : Γ g s.heap)
    (h : ∀ a v1 v2 s' g', Keeps s s' → Grow g s.heap g' s'.heap → s'.heap.IsTuple a #[v1, v2] → R g' v1 d1 → R g' v2 d2 → Q (.ref a) s') : wpAny (model prog w) A (eval (.Tuple [e1, e2] k pos) env) Q E s := by
  refine wpAny_Tuple (wpAny_mono ((EvsD.cons cx h1 (EvsD.cons cx h2 EvsD.nil he2) he1) A s g E pos hA hs hΓ) (fun vs s₁ ⟨k1, g1, w1, r1⟩ => ?_) fun _ _ e => e)
  cases r1 with
  | cons a b => cases b with
    | cons b c =>
      cases c
      refine ⟨Nat.le_of_ble_eq_true rfl, ?_⟩
      exact h _ _ _ _ g1 (keeps_trans k1 ⟨_, s₁.toks, rfl, ext_push _ _⟩) (w1.trans (Grow.heap w1.sub (ext_push _ _))) ⟨_, Heap.get?_push_size _ rfl, rfl, 0, rfl⟩ a b
theorem ext_but {h h' : Heap} (e : Heap.ExtBut h.objs.size h h') : Ext h h' := fun b o q => e b o (Nat.ne_of_lt (Heap.lt_size q)) q
/-- x, y = (e1, e2): the stores as CPython turns them -/
theorem ExS.pairSwap {x y : Str} {px py tp vp pos : Pos} {k k2 : Nat} {e1 e2 : Expr} {d1 d2 : PyData} (h1 : EvD prog w (ΓF K env ρ) n env e1 d1) (h2 : EvD prog w (ΓF K env ρ) n env e2 d2)
    (he1 : starEach [e1, e2] env = (false, eval e1 env) :: starEach [e2] env) (he2 : starEach [e2] env = (false, eval e2 env) :: starEach [] env) (hdx : (x == ("__debug__" : Str)) = false) (hdy : (y == ("__debug__" : Str)) = false)
    (hx : env.kindOf x = some .local) (hy : env.kindOf y = some .local)
    (hs : swapsWithSole [.Tuple [.Name x px, .Name y py] k tp] (.Tuple [e1, e2] k2 vp) pos.line env = pure false) (hw : swappedStores [.Tuple [.Name x px, .Name y py] k tp] (.Tuple [e1, e2] k2 vp) env = pure (some [x, y]))
    (hm : ∀ M, ml = some M → (M.x ≠ x ∧ M.ad ≠ some x) ∧ (M.x ≠ y ∧ M.ad ≠ some y)) :
    ExS prog w K n env ρ ml (.Assign [.Tuple [.Name x px, .Name y py] k tp] (.Tuple [e1, e2] k2 vp) pos) (.next ((x, d1) :: (y, d2) :: ρ) ml) := fun A s₀ g₀ g s E hA t F => by
  refine Assign_Tuple_swapped (names := [x, y]) (ev_pair cxF h1 h2 he1 he2 hA F.grow.sub (F.Γ t) fun a v1 v2 s' g' k1 gr ht r1 r2 => ?_) hs hw
  refine wpAny_unpackItems_tuple (items := #[v1, v2]) hA.1 ht fun h' hk => ?_
  have F1 := (F.up k1 gr).up (s' := { s' with heap := h' }) ⟨h', s'.toks, rfl, ext_but hk⟩ (Grow.heap gr.sub (ext_but hk))
  show wpAny _ _ (holding [v1] (bindName env y v2) >>= fun _ => holding [] (bindName env x v1) >>= fun _ => pure ()) _ _ _
  refine wpAny_bind (wpAny_holding (wpAny_bindName (F1.store hdy (.inl hy) r2 (fun M e => (hm M e).2) fun s2 _ F2 _ => ?_)))
  exact wpAny_bind (wpAny_holding (wpAny_bindName (F2.store hdx (.inl hx) r1 (fun M e => (hm M e).1) fun s3 _ F3 _ => wpAny_pure ⟨rfl, g', F3⟩)))
/-- x, y = (e1, e2), in order -/
theorem ExS.pairT {x y : Str} {px py tp vp pos : Pos} {k k2 : Nat} {e1 e2 : Expr} {d1 d2 : PyData} (h1 : EvD prog w (ΓF K env ρ) n env e1 d1) (h2 : EvD prog w (ΓF K env ρ) n env e2 d2)
    (he1 : starEach [e1, e2] env = (false, eval e1 env) :: starEach [e2] env) (he2 : starEach [e2] env = (false, eval e2 env) :: starEach [] env) (hdx : (x == ("__debug__" : Str)) = false) (hdy : (y == ("__debug__" : Str)) = false)
    (hx : env.kindOf x = some .local ∨ (env.kindOf x = some .cell ∧ ∃ c, env.cells.lookup x = some c)) (hy : env.kindOf y = some .local ∨ (env.kindOf y = some .cell ∧ ∃ c, env.cells.lookup y = some c))
    (hs : swapsWithSole [.Tuple [.Name x px, .Name y py] k tp] (.Tuple [e1, e2] k2 vp) pos.line env = pure false) (hw : swappedStores [.Tuple [.Name x px, .Name y py] k tp] (.Tuple [e1, e2] k2 vp) env = pure none)
    (hm : ∀ M, ml = some M → (M.x ≠ x ∧ M.ad ≠ some x) ∧ (M.x ≠ y ∧ M.ad ≠ some y)) :
    ExS prog w K n env ρ ml (.Assign [.Tuple [.Name x px, .Name y py] k tp] (.Tuple [e1, e2] k2 vp) pos) (.next ((y, d2) :: (x, d1) :: ρ) ml) := fun A s₀ g₀ g s E hA t F => by
  refine Assign_Tuple (ev_pair cxF h1 h2 he1 he2 hA F.grow.sub (F.Γ t) fun a v1 v2 s' g' k1 gr ht r1 r2 => ?_) hs hw
  refine wpAny_assign_Tuple (items := #[v1, v2]) hA.1 ht rfl rfl fun h' hk => ?_
  have F1 := (F.up k1 gr).up (s' := { s' with heap := h' }) ⟨h', s'.toks, rfl, ext_but hk⟩ (Grow.heap gr.sub (ext_but hk))
  show wpAny _ _ (holding [v2] (assign (.Name x px) env v1) >>= fun _ => holding [] (assign (.Name y py) env v2) >>= fun _ => pure ()) _ _ _
  refine wpAny_bind (wpAny_holding (wpAny_assign_Name (F1.store hdx hx r1 (fun M e => (hm M e).1) fun s2 _ F2 _ => ?_)))
  exact wpAny_bind (wpAny_holding (wpAny_assign_Name (F2.store hdy hy r2 (fun M e => (hm M e).2) fun s3 _ F3 _ => wpAny_pure ⟨rfl, g', F3⟩)))
theorem ExS.assertT {t : Expr} {msg : Option Expr} {pos : Pos} (h : TsD prog w (ΓF K env ρ) n env t true) : ExS prog w K n env ρ ml (.Assert t msg pos) (.next ρ ml) := fun A s₀ g₀ g s E hA t F =>
  wpAny_Assert_holds (wpAny_mono (h A s g E hA F.grow.sub (F.Γ t)) (fun v s' ⟨e, k, g', gr⟩ => ⟨e, rfl, g', F.up k gr⟩) fun _ _ e => e)
end
section
variable {prog : Program} {w : World} {K : Frag} {n : Nat} {env : Env} {ρ ρ1 ρ2 : Loc} {ml m1 : Option ML}
theorem ExD.wk {st : List Stmt} (h : ExD prog w K n env ρ ml st (.next ρ1 m1)) (hw : ∀ p ∈ ρ2, ρ1.lookup p.1 = some p.2) : ExD prog w K n env ρ ml st (.next ρ2 m1) := fun A s₀ g₀ g s E hA t F =>
  wpAny_mono (h A s₀ g₀ g s E hA t F) (fun _ _ ⟨e, g', F'⟩ => ⟨e, g', F'.weaken fun _ _ q => hw _ (PySem.mem_of_lookup q)⟩) fun _ _ e => e
theorem ExD.mlEq {st : List Stmt} {m2 : Option ML} (h : ExD prog w K n env ρ ml st (.next ρ1 m1)) (e : m1 = m2) : ExD prog w K n env ρ ml st (.next ρ1 m2) := e ▸ h
end
theorem sign_ne : ∀ c ∈ 46 :: plainSigns, (⟨#[c]⟩ : Str) ≠ Str.ofString "*" ∧ (⟨#[c]⟩ : Str) ≠ Str.ofString "?" ∧ (⟨#[c]⟩ : Str) ≠ Str.ofString "[" ∧ c ≠ 42 := by decide +kernel
theorem star_eq : (⟨#[42]⟩ : Str) = Str.ofString "*" := by decide +kernel
/-- what _translate makes -/
def trp (x : Str) : List (Option Str) := x.cps.toList.map fun c => if c = 42 then none else some (esc c)
structure Pat (x : Str) : Prop where
  len : x.cps.size ≤ 100
  signs : ∀ i c, x.cps[i]? = some c → (c = 42 ∧ i = 0) ∨ c = 46 ∨ c ∈ plainSigns
section
variable {prog : Program} {w : World} {n : Nat}
abbrev trL (x : Str) (q : PyData) (i : Nat) : Loc := [(Str.ofString "i", .int i), (Str.ofString "n", .int x.length), (Str.ofString "pat", .str x), (Str.ofString "STAR", .none), (Str.ofString "QUESTION_MARK", q)]
abbrev trM (x : Str) (i : Nat) : Option ML := some ⟨Str.ofString "res", some (Str.ofString "add"), ((trp x).take i).map opt⟩
set_option maxHeartbeats 2000000 in
theorem fn88 {x : Str} {q : PyData} (hx : Pat x) : FnD prog w (KK w.params) (n + 2) 88 [.str x, .none, q] (dP (trp x)) := by
  have hlen : x.length ≤ 100 := hx.len
  refine FnD.intro (xs := [Str.ofString "pat", Str.ofString "STAR", Str.ofString "QUESTION_MARK"]) rfl rfl rfl rfl (fun vs h => ?_) rfl rfl ?_ ?_ ?_ rfl rfl rfl ?_
  · match vs, h with
    | [a, b, c], _ => rfl
  · intro L x hx; left; revert x; decide
  · decide
  · decide
  · intro L
    refine ExD.cons (ExS.newMl rfl rfl rfl rfl) ?_
    refine ExD.cons (ExS.alias rfl rfl (by decide) rfl rfl) ?_
    refine ExD.cons (ExS.pairSwap EvD.int (EvD.lenS cxF ⟨rfl, rfl, rfl⟩ rfl (EvD.name (vdF rfl)) (by omega) rfl) rfl rfl rfl rfl rfl rfl rfl rfl (fun M e => by cases e; exact ⟨⟨show Str.ofString "res" ≠ Str.ofString "i" by decide, show some (Str.ofString "add") ≠ some (Str.ofString "i") by decide⟩, show Str.ofString "res" ≠ Str.ofString "n" by decide, show some (Str.ofString "add") ≠ some (Str.ofString "n") by decide⟩)) ?_
    refine ExD.cons (ρ' := trL x q x.length) (ml' := trM x x.length) (ExS.whileN x.length (trL x q) (trM x) (fun k hk => ?_) (fun k hk => ?_)) ?_
    · refine TsD.eq (TsD.cmp cxF (EvD.name (vdF rfl)) (EvD.name (vdF rfl)) CmpD.lt rfl) ?_
      rw [Bool.eq_iff_iff]; simp
    · have hk' : k < x.cps.size := hk
      obtain ⟨c, hc⟩ : ∃ c, x.cps[k]? = some c := ⟨x.cps[k], by simp [hk']⟩
      have hi : (seqIndex? (k : Int) x.length).bind (x.cps[·]?) = some c := by
        have : seqIndex? (k : Int) x.length = some k := by
          have e0 : ¬ ((k : Int) < 0) := by omega
          have e1 : (0 ≤ (k : Int) ∧ (k : Int) < (x.length : Int)) := by omega
          simp only [seqIndex?, if_neg e0, e1, decide_true, Bool.and_self, if_true, Int.toNat_natCast]
        rw [this]; exact hc
      have tk1 : ((trp x).take (k + 1)).map opt = ((trp x).take k).map opt ++ [opt (if c = 42 then none else some (esc c))] := by
        unfold trp
        rw [List.take_add_one, List.map_append, List.getElem?_map]
        have : x.cps.toList[k]? = some c := by simpa using hc
        rw [this]
        rfl
      have hys : (((trp x).take k).map opt).length ≤ sizeLine := by
        rw [List.length_map, List.length_take]
        exact Nat.le_trans (Nat.min_le_left ..) (Nat.le_trans (by omega) (show 100 ≤ sizeLine by decide))
      refine ExD.cons (ExS.asg (EvD.itemS cxF (EvD.name (vdF rfl)) (EvD.name (vdF rfl)) (by omega) (by omega) hi (fun _ _ => rfl)) rfl (.inl rfl) rfl (fun M e => by cases e; exact ⟨show Str.ofString "res" ≠ Str.ofString "c" by decide, show some (Str.ofString "add") ≠ some (Str.ofString "c") by decide⟩)) ?_
      refine ExD.cons (ExS.asg (d := .int ((k + 1 : Nat) : Int)) ((EvD.bin cxF (EvD.name (vdF rfl)) EvD.int BinD.add).eq (by simp)) rfl (.inl rfl) rfl (fun M e => by cases e; exact ⟨show Str.ofString "res" ≠ Str.ofString "i" by decide, show some (Str.ofString "add") ≠ some (Str.ofString "i") by decide⟩)) ?_
      refine ExD.wk (ρ1 := (Str.ofString "i", .int ((k + 1 : Nat) : Int)) :: (Str.ofString "c", .str ⟨#[c]⟩) :: trL x q k) ?_ ?_
      · rcases hx.signs k c hc with ⟨rfl, rfl⟩ | hc'
        · refine ExD.cons (ExS.ite (TsD.eq (TsD.cmp cxF (EvD.name (vdF rfl)) EvD.str CmpD.eqS rfl) (decide_eq_true star_eq)) (fun _ => ?_) nofun) ExD.nil
          refine ExD.mlEq (ExD.cons (ExS.iteMl (TsD.eq (d' := true) (TsD.boolop (AllT.or (c := true) cxF (TsD.not (TsD.value (EvD.name (vdF rfl)) (TruthD.list (show 0 < 2 ^ 62 by decide)) rfl)) (fun h => Bool.noConfusion (show true = false from h)))) rfl) (fun _ => ExD.cons (ExS.addA (EvD.name (vdF rfl)) hys rfl rfl rfl) ExD.nil) nofun) ExD.nil) ?_
          unfold trM
          rw [tk1]
          rfl
        · have hm : c ∈ 46 :: plainSigns := by rcases hc' with rfl | h; exact .head _; exact .tail _ h
          obtain ⟨n1, n2, n3, n4⟩ := sign_ne c hm
          refine ExD.mlEq (ExD.cons (ExS.ite (TsD.eq (TsD.cmp cxF (EvD.name (vdF rfl)) EvD.str CmpD.eqS rfl) (decide_eq_false n1)) nofun (fun _ =>
            ExD.cons (ExS.ite (TsD.eq (TsD.cmp cxF (EvD.name (vdF rfl)) EvD.str CmpD.eqS rfl) (decide_eq_false n2)) nofun (fun _ =>
            ExD.cons (ExS.ite (TsD.eq (TsD.cmp cxF (EvD.name (vdF rfl)) EvD.str CmpD.eqS rfl) (decide_eq_false n3)) nofun (fun _ =>
            ExD.cons (ExS.addA (EvD.call cxF ⟨rfl, rfl, rfl⟩ rfl n81 d81 rfl (EvsD.cons cxF (EvD.name (vdF rfl)) EvsD.nil rfl) (fn81 hc') rfl) hys rfl rfl rfl) ExD.nil)) ExD.nil)) ExD.nil)) ExD.nil) ?_
          rw [if_neg n4] at tk1
          unfold trM
          rw [tk1]
          rfl
      · intro p hp
        rcases hp with _ | ⟨_, _ | ⟨_, _ | ⟨_, _ | ⟨_, _ | ⟨_, h⟩⟩⟩⟩⟩
        iterate 5 rfl
        cases h
    · refine ExD.cons (ExS.assertT (TsD.eq (TsD.cmp cxF (EvD.name (vdF rfl)) (EvD.name (vdF rfl)) CmpD.eqI rfl) (by simp))) ?_
      refine ExD.freeze (ExD.eq (ExD.ret (EvD.name (vdF rfl))) ?_)
      show PyData.list (((trp x).take x.length).map opt) = _
      rw [List.take_of_length_le (by unfold trp; simp [Str.length])]
end
end Mine
end

section
open PySem PySem.W PyProof.Rows PySem.Calls PySem.Spec
set_option Elab.async false
set_option maxRecDepth 100000
namespace Mine
/-- neither a list nor a bound method -/
def Odd (h : Heap) (b : Addr) : Prop := ∃ o, h.get? b = some o ∧ o.cls ≠ .type "list" ∧ o.cls ≠ .type "builtin_function_or_method"
structure Side (s₀ : Shared) (env : Env) (g : G) (h : Heap) (wr : List Addr) : Prop where
  hid : ∀ b ∈ wr, Hid s₀ env g b
  odd : ∀ b ∈ wr, Odd h b
def shown (g : G) (h : Heap) (wr : List Addr) : G := fun a => if a ∈ wr then h.get? a else g a
def unshown (g : G) (wr : List Addr) : G := fun a => if a ∈ wr then none else g a
theorem unshown_le {g : G} {wr : List Addr} {a : Addr} {o : Obj} (e : unshown g wr a = some o) : a ∉ wr ∧ g a = some o := by
  unfold unshown at e
  split at e
  · cases e
  · exact ⟨by assumption, e⟩
mutual
theorem R.unshow {g : G} {wr : List Addr} (odd : ∀ b ∈ wr, ∀ o, g b = some o → o.cls ≠ .type "list") : ∀ {v d}, R g v d → R (unshown g wr) v d
  | _, _, .none => .none
  | _, _, .bool b => .bool b
  | _, _, .int i t => .int i t
  | _, _, .str x t => .str x t
  | _, _, .list h l => .list ((if_neg (fun hm => odd _ hm _ h rfl)).trans h) (RL.unshow odd l)
theorem RL.unshow {g : G} {wr : List Addr} (odd : ∀ b ∈ wr, ∀ o, g b = some o → o.cls ≠ .type "list") : ∀ {vs ds}, RL g vs ds → RL (unshown g wr) vs ds
  | _, _, .nil => .nil
  | _, _, .cons a b => .cons (R.unshow odd a) (RL.unshow odd b)
end
section
variable {s₀ s : Shared} {g₀ g : G} {env : Env} {ρ : Loc} {ml : Option ML} {K : Frag} {wr : List Addr}
/-- the heap differs only beside the frame -/
theorem Fm.but (F : Fm s₀ g₀ env ρ ml g s) {h' : Heap} {tk : Nat} (S : Side s₀ env g s.heap wr) (hk : ∀ b o, b ∉ wr → s.heap.get? b = some o → h'.get? b = some o) : Fm s₀ g₀ env ρ ml g { s with heap := h', toks := tk } := by
  obtain ⟨m, cm, I, hv, hl⟩ := F.inc
  obtain ⟨H, t0, e0⟩ := I.toInCall.same
  have x' : Ext s₀.heap h' := fun b o e => hk b o (fun hm => by rw [(S.hid b hm).old] at e; cases e) (I.toInCall.keep b o e)
  have hL : env.locals ∉ wr := fun hm => (S.hid _ hm).loc rfl
  have hC : ∀ n c, env.cells.lookup n = some c → c ∉ wr := fun n c q hm => (S.hid _ hm).cel n c q rfl
  refine ⟨⟨m, cm, ⟨⟨⟨h', tk, by rw [e0]⟩, I.toInCall.ns.at' fun o e => hk _ o hL e, x', I.toInCall.fresh⟩, fun n c q => let ⟨o, e, z⟩ := I.cell n c q; ⟨o, hk c o (hC n c q) e, z⟩, I.apart, I.above⟩, hv, fun M e => ?_⟩, F.kind,
    F.grow.shift x' fun a o e => hk a o (fun hm => by rw [(S.hid a hm).g] at e; cases e) (F.grow.sub a o e), F.hidL, F.hidC⟩
  obtain ⟨D, vs, a, b, c, d, f⟩ := hl M e
  have hD : D ∉ wr := fun hm => by
    obtain ⟨o, e, q, _⟩ := S.odd D hm
    obtain ⟨_, e'⟩ := b
    rw [e'] at e; cases e; exact q rfl
  refine ⟨D, vs, a, b.at fun o e => hk D o hD e, c, d, fun y hy => ?_⟩
  obtain ⟨q, q1, q2, q3, q4⟩ := f y hy
  refine ⟨q, q1, hk q _ (fun hm => ?_) q2, q3, q4⟩
  obtain ⟨o, e, _, z⟩ := S.odd q hm
  rw [q2] at e; cases e; exact z rfl
theorem shown_ge (S : Side s₀ env g s.heap wr) : ∀ a o, g a = some o → shown g s.heap wr a = some o := fun a o e => by
  unfold shown
  rw [if_neg (fun hm => by rw [(S.hid a hm).g] at e; cases e)]
  exact e
theorem Fm.show (F : Fm s₀ g₀ env ρ ml g s) (S : Side s₀ env g s.heap wr) : Fm s₀ (shown g s.heap wr) env ρ ml (shown g s.heap wr) s := by
  obtain ⟨m, cm, I, hv, hl⟩ := F.inc
  have le := shown_ge S
  have hL : env.locals ∉ wr := fun hm => (S.hid _ hm).loc rfl
  have hC : ∀ n c, env.cells.lookup n = some c → c ∉ wr := fun n c q hm => (S.hid _ hm).cel n c q rfl
  refine ⟨⟨m, cm, I, fun x d e => let ⟨v, a, r⟩ := hv x d e; ⟨v, a, r.mono le⟩, fun M e => ?_⟩, F.kind, ⟨fun _ _ e => e, fun a o e => ?_, fun a o e => .inl e, F.grow.keep⟩, (if_neg hL).trans F.hidL, fun n c q => (if_neg (hC n c q)).trans (F.hidC n c q)⟩
  · obtain ⟨D, vs, a, b, c, d, f⟩ := hl M e
    have hD : D ∉ wr := fun hm => by
      obtain ⟨o, e, q, _⟩ := S.odd D hm
      obtain ⟨_, e'⟩ := b
      rw [e'] at e; cases e; exact q rfl
    refine ⟨D, vs, a, b, c.mono le, ⟨(if_neg hD).trans d.g, d.old, d.loc, d.cel⟩, fun y hy => ?_⟩
    obtain ⟨q, q1, q2, q3, q4⟩ := f y hy
    have hq : q ∉ wr := fun hm => by
      obtain ⟨o, e, _, z⟩ := S.odd q hm
      rw [q2] at e; cases e; exact z rfl
    exact ⟨q, q1, q2, ⟨(if_neg hq).trans q3.g, q3.old, q3.loc, q3.cel⟩, q4⟩
  · unfold shown at e
    split at e
    · exact e
    · exact F.grow.sub a o e
theorem Fm.unshow {s' : Shared} {g' : G} {ρ' : Loc} {ml' : Option ML} (F : Fm s₀ g₀ env ρ ml g s) (S : Side s₀ env g s.heap wr) (F' : Fm s₀ (shown g s.heap wr) env ρ' ml' g' s') :
    Fm s₀ g₀ env ρ' ml' (unshown g' wr) s' ∧ (∀ b ∈ wr, ∀ o, s.heap.get? b = some o → s'.heap.get? b = some o) ∧ Side s₀ env (unshown g' wr) s'.heap wr ∧ ∀ a o, g a = some o → unshown g' wr a = some o := by
  obtain ⟨m, cm, I, hv, hl⟩ := F'.inc
  have at' : ∀ b ∈ wr, ∀ o, s.heap.get? b = some o → g' b = some o := fun b hb o e => F'.grow.le b o ((if_pos hb).trans e)
  have odd : ∀ b ∈ wr, ∀ o, g' b = some o → o.cls ≠ .type "list" := fun b hb o e => by
    obtain ⟨o', e', q, _⟩ := S.odd b hb
    rw [at' b hb o' e'] at e; cases e; exact q
  have none' : ∀ a, g' a = none → unshown g' wr a = none := fun a e => by unfold unshown; split <;> first | rfl | exact e
  refine ⟨⟨⟨m, cm, I, fun x d e => let ⟨v, a, r⟩ := hv x d e; ⟨v, a, r.unshow odd⟩, fun M e => ?_⟩, F'.kind, ⟨fun a o e => ?_, fun a o e => F'.grow.sub a o (unshown_le e).2, fun a o e => ?_, F'.grow.keep⟩, none' _ F'.hidL, fun n c q => none' _ (F'.hidC n c q)⟩, fun b hb o e => F'.grow.sub b o (at' b hb o e), ⟨fun b hb => ⟨if_pos hb, (S.hid b hb).old, (S.hid b hb).loc, (S.hid b hb).cel⟩, fun b hb => ?_⟩, fun a o e => ?_⟩
  · obtain ⟨D, vs, a, b, c, d, f⟩ := hl M e
    exact ⟨D, vs, a, b, c.unshow odd, ⟨none' _ d.g, d.old, d.loc, d.cel⟩, fun y hy => let ⟨q, q1, q2, q3, q4⟩ := f y hy; ⟨q, q1, q2, ⟨none' _ q3.g, q3.old, q3.loc, q3.cel⟩, q4⟩⟩
  · have e1 := F.grow.le a o e
    have hw : a ∉ wr := fun hm => by rw [(S.hid a hm).g] at e1; cases e1
    exact (if_neg hw).trans (F'.grow.le a o (shown_ge S a o e1))
  · obtain ⟨hw, e⟩ := unshown_le e
    rcases F'.grow.new a o e with e | e
    · unfold shown at e
      rw [if_neg hw] at e
      exact F.grow.new a o e
    · exact .inr e
  · obtain ⟨o, e, q⟩ := S.odd b hb
    exact ⟨o, F'.grow.sub b o (at' b hb o e), q⟩
  · have hw : a ∉ wr := fun hm => by rw [(S.hid a hm).g] at e; cases e
    exact (if_neg hw).trans (F'.grow.le a o (shown_ge S a o e))
end
section
variable {prog : Program} {w : World} {K : Frag} {n : Nat} {env : Env} {ρ ρ' : Loc} {ml ml' : Option ML}
def ExX (prog : Program) (w : World) (K : Frag) (n : Nat) (env : Env) (ρ : Loc) (ml : Option ML) (X : Heap → Prop) (st : List Stmt) (o : Out) : Prop :=
  ∀ A s₀ g₀ g s E, Good n A → TopOk K s₀.heap → Fm s₀ g₀ env ρ ml g s → X s.heap → wpAny (model prog w) A (execs st env) (fun fl s' => OutIs s₀ g₀ env s' fl o) E s
theorem ExD.toX {X : Heap → Prop} {st : List Stmt} {o : Out} (h : ExD prog w K n env ρ ml st o) : ExX prog w K n env ρ ml X st o := fun A s₀ g₀ g s E hA t F _ => h A s₀ g₀ g s E hA t F
/-- a for by its turns -/
theorem for_turns {A : Around} {s₀ s : Shared} {g₀ g : G} {E : Value → Shared → Prop} {target : Expr} {body orelse : List Stmt} {I : Addr} {wr : List Addr} {St : Nat → Heap → Prop} {N : Nat} (J T : Nat → Loc) (M : Nat → Option ML) (X : Nat → Heap → Prop) (br : Nat → Bool)
    (hA : Good n A) (t : TopOk K s₀.heap)
    (hstf : ∀ i h h', St i h → (∀ b o, (b ∈ wr ∨ (∃ o', g b = some o') ∨ (∃ o', s₀.heap.get? b = some o')) → h.get? b = some o → h'.get? b = some o) → St i h')
    (odd : ∀ i h, St i h → ∀ b ∈ wr, Odd h b) (hid : ∀ b ∈ wr, Hid s₀ env g b)
    (step : ∀ i, i < N → ∀ s g', Fm s₀ g₀ env (J i) (M i) g' s → Side s₀ env g' s.heap wr → St i s.heap → (∀ a o, g a = some o → g' a = some o) → ∀ (Q : Shared → Prop) E,
      (∀ s' g'', Fm s₀ g₀ env (T i) (M i) g'' s' → X i s'.heap → Side s₀ env g'' s'.heap wr → St (i + 1) s'.heap → (∀ a o, g a = some o → g'' a = some o) → Q s') →
      wpAny (model prog w) A (pyNext (.ref I)) (fun r s₁ => ∃ v, r = some v ∧ wpAny (model prog w) A (letOwnedTupleGo target (.ref I) v) (fun _ s₁' => wpAny (model prog w) A (assign target env v) (fun _ => Q) E s₁') E s₁) E s)
    (done : ∀ s g', Fm s₀ g₀ env (J N) (M N) g' s → Side s₀ env g' s.heap wr → St N s.heap → ∀ (Q : Option Value → Shared → Prop) E, (∀ s' g'', Fm s₀ g₀ env (J N) (M N) g'' s' → Q none s') → wpAny (model prog w) A (pyNext (.ref I)) Q E s)
    (turn : ∀ i, i < N → (∀ j, j < i → br j = false) → (br i = false ∧ ExX prog w K n env (T i) (M i) (X i) body (.next (J (i + 1)) (M (i + 1)))) ∨ ExX prog w K n env (T i) (M i) (X i) body (.brk ρ' ml'))
    (last : (∀ j, j < N → br j = false) → ExD prog w K n env (J N) (M N) orelse (.next ρ' ml')) (F : Fm s₀ g₀ env (J 0) (M 0) g s) (hst : St 0 s.heap) :
    codeAny (model prog w) A (.forLoop target (.ref I) body orelse env) (fun r s' => match r with | .ok f => OutIs s₀ g₀ env s' f (.next ρ' ml') | .error e => cameBackBy (model prog w) A env E e s') s := by
  refine codeAny_forLoop_any (fun c s' => ∃ k g', c = N - k ∧ k ≤ N ∧ Fm s₀ g₀ env (J k) (M k) g' s' ∧ Side s₀ env g' s'.heap wr ∧ St k s'.heap ∧ (∀ j, j < k → br j = false) ∧ ∀ a o, g a = some o → g' a = some o) (fun c s' hI => ?_) N ⟨0, g, rfl, Nat.zero_le _, F, ⟨hid, odd 0 _ hst⟩, hst, fun _ h => absurd h (Nat.not_lt_zero _), fun _ _ e => e⟩
  obtain ⟨k, g', rfl, hk, F', S', st', hbr, le'⟩ := hI
  by_cases hlt : k < N
  · refine wpAny_mono (step k hlt s' g' F' S' st' le' ?Q _ ?h) (fun r s₁ h => ?c) fun _ _ e => e
    case c =>
      obtain ⟨v, rfl, h⟩ := h
      exact h
    intro s2 g2 F2 x2 S2 st2 le2
    have Fs := F2.show S2
    rcases turn k hlt hbr with ⟨hb0, tn⟩ | tn
    · refine wpAny_mono (tn A s₀ _ _ s2 _ hA t Fs x2) (fun fl s3 ⟨e, g3, F3⟩ => ?_) fun _ _ e => e
      subst e
      obtain ⟨F4, kp, S4, le4⟩ := F2.unshow S2 F3
      refine ⟨N - (k + 1), by omega, k + 1, _, rfl, hlt, F4, S4, hstf _ _ _ st2 (fun b o hb e => ?_), fun j hj => (Nat.lt_succ_iff_lt_or_eq.mp hj).elim (hbr j) (fun q => q ▸ hb0), fun a o e => le4 a o (le2 a o e)⟩
      rcases hb with hb | ⟨o', hb⟩ | ⟨o', hb⟩
      · exact kp b hb o e
      · rw [← Option.some.inj ((F2.grow.sub b o' (le2 b o' hb)).symm.trans e)]
        exact F4.grow.sub b o' (le4 b o' (le2 b o' hb))
      · rw [← Option.some.inj ((F2.grow.keep b o' hb).symm.trans e)]
        exact F4.grow.keep b o' hb
    · refine wpAny_mono (tn A s₀ _ _ s2 _ hA t Fs x2) (fun fl s3 ⟨e, g3, F3⟩ => ?_) fun _ _ e => e
      subst e
      exact ⟨rfl, _, (F2.unshow S2 F3).1⟩
  · have : k = N := by omega
    subst this
    exact done s' g' F' S' st' _ _ fun s2 g2 F2 => last hbr A s₀ g₀ g2 s2 _ hA t F2
/-- what a for walks over -/
def ItD {δ : Type} (prog : Program) (w : World) (K : Frag) (n : Nat) (env : Env) (ρ : Loc) (iter : Expr) (items : List δ) (Iv : G → δ → Value → Prop) : Prop :=
  ∀ A s₀ g₀ g s E ml, Good n A → TopOk K s₀.heap → Fm s₀ g₀ env ρ ml g s → wpAny (model prog w) A (eval iter env) (fun xv s₁ => wpAny (model prog w) A (pyIter xv) (fun it s₂ =>
    ∃ (g₁ : G) (I : Addr) (fp wr : List Addr) (P : Nat → Value → Prop) (St : Nat → Heap → Prop), it = .ref I ∧ Walks prog w A I fp wr items.length P St ∧ St 0 s₂.heap ∧ Fm s₀ g₀ env ρ ml g₁ s₂ ∧
      (∀ b ∈ fp, b ∈ wr ∨ (∃ o, g₁ b = some o) ∨ ∃ o, s₀.heap.get? b = some o) ∧ (∀ b ∈ wr, Hid s₀ env g₁ b) ∧ (∀ i h, St i h → ∀ b ∈ wr, Odd h b) ∧ (∀ i v d, P i v → items[i]? = some d → Iv g₁ d v)) E s₁) E s
theorem ItD.list {iter : Expr} {ds : List PyData} (h : EvD prog w (ΓF K env ρ) n env iter (.list ds)) : ItD prog w K n env ρ iter ds (fun g d v => R g v d) := fun A s₀ g₀ g s E ml hA t F =>
  wpAny_mono (h A s g E hA F.grow.sub (F.Γ t)) (fun xv s₁ ⟨k1, g1, w1, r1⟩ => by
    have F1 := F.up k1 w1
    cases r1 with
    | @list ax vs nn ds hg l =>
      have hl : s₁.heap.IsList ax vs := ⟨_, F1.grow.sub _ _ hg, rfl, _, rfl⟩
      have hlt : ax < s₁.heap.objs.size := Heap.lt_size (F1.grow.sub _ _ hg)
      have hid := F1.fresh (Nat.le_refl s₁.heap.objs.size)
      refine wpAny_pyIter_list hl ⟨g1, s₁.heap.objs.size, [s₁.heap.objs.size, ax], [s₁.heap.objs.size], (fun i v => vs[i]? = some v), (fun i h => h.IsListIter s₁.heap.objs.size ax i ∧ h.IsList ax vs), rfl, ?_, ⟨⟨_, Heap.get?_push_size _ rfl, rfl, rfl⟩, hl.push _⟩, F1.up ⟨_, s₁.toks, rfl, ext_push _ _⟩ (Grow.heap F1.grow.sub (ext_push _ _)), ?_, ?_, ?_, ?_⟩
      · have := Walks.list (prog := prog) (w := w) hA.1 s₁.heap.objs.size ax (Nat.ne_of_lt hlt) vs
        rwa [show vs.size = ds.length by rw [← l.length]; simp] at this
      · intro b hb
        rcases List.mem_cons.mp hb with rfl | hb
        · exact .inl (.head _)
        · rw [List.mem_singleton.mp hb]; exact .inr (.inl ⟨_, hg⟩)
      · intro b hb; rw [List.mem_singleton.mp hb]; exact hid
      · intro i h st b hb
        rw [List.mem_singleton.mp hb]
        obtain ⟨⟨o, e, c, _⟩, _⟩ := st
        exact ⟨o, e, by rw [c]; decide, by rw [c]; decide⟩
      · intro i v d hP hd
        obtain ⟨d', e, r⟩ := l.get (i := i) (v := v) (by simpa using hP)
        rw [hd] at e
        cases e
        exact r) fun _ _ e => e
theorem ItD.range {np pos : Pos} {e : Expr} {m : Int} (fe : Fe env) (hx : env.kindOf (Str.ofString "range") = some .globalImplicit) (hn : nsIn K mainGlobals (Str.ofString "range") = some none) (h : EvD prog w (ΓF K env ρ) n env e (.int m)) (h0 : 0 ≤ m) (h1 : m < 1000000)
    (he : starEach [e] env = (false, eval e env) :: starEach [] env) : ItD prog w K n env ρ (.Call (.Name (Str.ofString "range") np) [e] [] pos) (rng m) (fun g d v => R g v d) := fun A s₀ g₀ g s E ml hA t F =>
  Call_ (ev_builtin ((cxF (env := env) (ρ := ρ)).top (F.Γ t)) fe hx hn boot_range (by decide) rfl (PyProof.Rows.callWith_type1 (args_cons (wpAny_mono (h A s g E hA F.grow.sub (F.Γ t)) (fun v s₁ ⟨k1, g1, w1, r1⟩ => args_nil (by
    obtain ⟨t, rfl⟩ := r1.int_inv
    refine call_range_1 ?_
    have F1 := F.up k1 w1
    have x1 := ext_push s₁.heap { cls := .type "range", data := .fields #[.int 0 s₁.toks, .int m t, .int 1 (s₁.toks + 1)] }
    refine wpAny_pyIter_range (IsRange.new _ _ _ _ _ _ _) (small_one (by decide) (by decide) (by omega) (by omega)) ?_
    generalize s₁.heap.push { cls := .type "range", data := .fields #[.int 0 s₁.toks, .int m t, .int 1 (s₁.toks + 1)] } = H at x1 ⊢
    have F2 : Fm s₀ g₀ env ρ ml g1 { s₁ with heap := H } := F1.up ⟨H, s₁.toks, rfl, x1⟩ (Grow.heap F1.grow.sub x1)
    have hid := F2.fresh (Nat.le_refl H.objs.size)
    have hr : Builtin.Range.rangeSize 0 m 1 = (m.toNat : Int) := by rw [rangeSize_one]; split <;> omega
    rw [hr]
    refine ⟨g1, H.objs.size, [H.objs.size], [H.objs.size], (fun i v => ∃ t, v = .int (0 + (i : Nat) * 1) t), (fun i h => IsRangeIter h H.objs.size (0 + (i : Nat) * 1) ((m.toNat : Int) - (i : Nat)) 1), rfl, ?_, ?_, F2.up ⟨_, _, rfl, ext_push _ _⟩ (Grow.heap F2.grow.sub (ext_push _ _)), ?_, ?_, ?_, ?_⟩
    · have := Walks.range (prog := prog) (w := w) hA.1 H.objs.size 0 1 m.toNat
      rwa [show (rng m).length = m.toNat by simp [rng]]
    · show IsRangeIter _ _ _ _ _
      have := Heap.get?_push_size H (o := { cls := .type "range_iterator", data := .fields #[rawInt 0, rawInt (m.toNat : Int), rawInt 1] }) rfl
      simpa using this
    · intro b hb; exact .inl hb
    · intro b hb; rw [List.mem_singleton.mp hb]; exact hid
    · intro i h st b hb
      rw [List.mem_singleton.mp hb]
      exact ⟨_, st, (show Value.type "range_iterator" ≠ Value.type "list" by decide), (show Value.type "range_iterator" ≠ Value.type "builtin_function_or_method" by decide)⟩
    · intro i v d hP hd
      obtain ⟨t', rfl⟩ := hP
      unfold rng at hd
      rw [List.getElem?_map] at hd
      obtain ⟨j, hj, rfl⟩ := Option.map_eq_some_iff.mp hd
      obtain ⟨hi, e⟩ := List.getElem?_eq_some_iff.mp hj
      have : j = i := by simpa using e.symm
      subst this
      simpa using R.int (g := g1) (j : Int) t')) fun _ _ q => q) he) he))
/-- for x in ...: -/
theorem ExS.forN {x : Str} {px pos : Pos} {iter : Expr} {body : List Stmt} {items : List PyData} (J : Nat → Loc) (M : Nat → Option ML) (src : ItD prog w K n env (J 0) iter items (fun g d v => R g v d))
    (hd : (x == ("__debug__" : Str)) = false) (hx : env.kindOf x = some .local ∨ (env.kindOf x = some .cell ∧ ∃ c, env.cells.lookup x = some c)) (hfs : ∀ x, foldedSetIterable iter env x = pure x) (hm : ∀ i, ∀ m, M i = some m → m.x ≠ x ∧ m.ad ≠ some x)
    (turn : ∀ i d, items[i]? = some d → ExD prog w K n env ((x, d) :: J i) (M i) body (.next (J (i + 1)) (M (i + 1)))) :
    ExS prog w K n env (J 0) (M 0) (.For (.Name x px) iter body [] pos) (.next (J items.length) (M items.length)) := fun A s₀ g₀ g s E hA t F => by
  refine wpAny_For (wpAny_mono (src A s₀ g₀ g s E (M 0) hA t F) (fun xv s₁ h₁ => wpAny_mono h₁ (fun it s₂ h₂ => ?_) fun _ _ e => e) fun _ _ e => e) hfs
  obtain ⟨g₁, I, fp, wr, P, St, rfl, W, st, F1, hfp, hid, odd, hP⟩ := h₂
  refine for_turns (N := items.length) (St := St) (wr := wr) (g := g₁) J (fun i => (x, (items[i]?).getD .none) :: J i) M (fun _ _ => True) (fun _ => false) hA t ?_ odd hid ?_ ?_ ?_ (fun _ => ExD.nil) F1 st
  · intro i h h' st hk
    exact W.frame i h h' st fun b hb o e => hk b o (hfp b hb) e
  · intro i hi s g' F' S' st' le Q E k
    refine W.item i s _ _ hi st' fun v h' tk pv st2 hk => ⟨v, rfl, wpAny_pure (wpAny_assign_Name ?_)⟩
    have F2 := F'.but (tk := tk) S' hk
    obtain ⟨d, hd'⟩ : ∃ d, items[i]? = some d := ⟨items[i], List.getElem?_eq_getElem hi⟩
    refine F2.store hd hx ((hP i v d pv hd').mono le) (hm i) fun s3 k3 F3 x3 => ?_
    have St3 : St (i + 1) s3.heap := by
      refine W.frame _ _ _ st2 fun b hb o e => ?_
      rcases hfp b hb with hb | ⟨o', hb⟩ | ⟨o', hb⟩
      · exact x3 b o ((S'.hid b hb).loc) (fun n c q => (S'.hid b hb).cel n c q) e
      · rw [← Option.some.inj ((F2.grow.sub b o' (le b o' hb)).symm.trans e)]
        exact F3.grow.sub b o' (le b o' hb)
      · rw [← Option.some.inj ((F2.grow.keep b o' hb).symm.trans e)]
        exact F3.grow.keep b o' hb
    rw [show d = (items[i]?).getD .none by rw [hd']; rfl] at F3
    exact k s3 g' F3 trivial ⟨S'.hid, odd _ _ St3⟩ St3 le
  · intro s g' F' S' st' Q E k
    exact W.done s _ _ st' fun h' tk hk => k _ g' (F'.but S' hk)
  · intro i hi _
    refine .inl ⟨rfl, ExD.toX ?_⟩
    rw [List.getElem?_eq_getElem hi]
    exact turn i _ (List.getElem?_eq_getElem hi)
end
end Mine
end

section
open PySem PySem.W PyProof.Rows PySem.Calls PySem.Spec
open AutoSeq1 (wpAny_loadPart')
set_option Elab.async false
set_option maxRecDepth 100000
namespace Mine
theorem meets_enumT (l : Addr) (items : Array Value) (n : Nat) :
    Meets (Builtin.«enumerate.__new__» ⟨[.type "enumerate", .ref l], []⟩) (fun _ R s => s.heap.get? l = some { cls := .type "tuple", dict := none, data := .seq items n, slots := #[] } ∧
      R (.ok (.ret (.ref (s.heap.push { cls := .type "tuple_iterator", data := .fields #[.ref l, .int 0 0] }).objs.size)))
        { s with heap := (s.heap.push { cls := .type "tuple_iterator", data := .fields #[.ref l, .int 0 0] }).push { cls := .type "enumerate", data := .fields #[.none, .bool false, .ref s.heap.objs.size, rawInt 0, .none, .none] } }) :=
  .of_wp fun prog w A R s h => by
    obtain ⟨hp, g, d, tk, os⟩ := s; obtain ⟨hl, h⟩ := h
    have hsub := sub_enumerate
    have hL : Heap.IsTuple (Shared.heap ⟨hp, g, d, tk, os⟩) l items := ⟨_, hl, rfl, n, rfl⟩
    wp_walk using wpAny_loadPart' hl
    refine wpAny_stack_any fun st => wpAny_pure ?_
    split
    · rename_i c _ _ _ _ _
      cases (c == Value.type "enumerate")
      · wp_walk using wpAny_loadPart' hl, wpAny_pyIter_tuple hL
        exact ⟨_, rfl, h⟩
      · wp_walk using wpAny_loadPart' hl, wpAny_pyIter_tuple hL
        exact ⟨_, rfl, h⟩
    · wp_walk using wpAny_loadPart' hl, wpAny_pyIter_tuple hL
      exact ⟨_, rfl, h⟩
section
variable {prog : Program} {w : World} {A : Around} {E : Value → Shared → Prop} {s : Shared}
theorem call_enumT {l : Addr} {items : Array Value} {n : Nat} {Q : Value → Shared → Prop} (hl : s.heap.get? l = some { cls := .type "tuple", data := .seq items n })
    (h : ∀ h', IsEnum h' (s.heap.objs.size + 1) s.heap.objs.size 0 .none → h'.IsTupleIter s.heap.objs.size l 0 → h'.objs.size = s.heap.objs.size + 2 → Ext s.heap h' → Q (.ref (s.heap.objs.size + 1)) { s with heap := h' }) :
    wpAny (model prog w) A (call (.type "enumerate") [.ref l]) Q E s := by
  refine callType_new F.called_enumerate (by decide) (F.typeCall_enumerate_1 _) (F.newCall_enumerate_1 _) (fun obj => F.args_object_init_2 obj _) F.entry_enumerate_new (meets_enumT l items n) ⟨hl, ?_⟩
  have hz : (s.heap.push { cls := .type "tuple_iterator", data := .fields #[.ref l, .int 0 0] }).objs.size = s.heap.objs.size + 1 := Heap.size_push ..
  show _ ∧ _
  rw [hz]
  have he := Heap.get?_push_size (s.heap.push { cls := .type "tuple_iterator", data := .fields #[.ref l, .int 0 0] })
      (o := { cls := .type "enumerate", data := .fields #[.none, .bool false, .ref s.heap.objs.size, rawInt 0, .none, .none] }) rfl
  rw [hz] at he
  exact ⟨⟨_, he, rfl⟩, h _ he ⟨_, Heap.get?_push_of_some _ (Heap.get?_push_size _ rfl), rfl, rfl⟩ (by rw [Heap.size_push, hz]) fun b o x => Heap.get?_push_of_some _ (Heap.get?_push_of_some _ x)⟩
theorem nextOfT_item {it t : Addr} {i : Nat} {items : Array Value} {x : Value} {Q : Value → Shared → Prop} (hit : s.heap.IsTupleIter it t i) (ht : s.heap.IsTuple t items) (hx : items[i]? = some x)
    (hQ : ∀ h', h'.IsTupleIter it t (i + 1) → Heap.SameBut it s.heap h' → Q x { s with heap := h' }) : wpAny (model prog w) A (Builtin.SmallTypes.nextOf (.ref it)) Q E s := by
  obtain ⟨o, ho, hc, hd⟩ := id hit
  obtain ⟨ol, hol, _, nl, hdl⟩ := ht
  unfold Builtin.SmallTypes.nextOf
  refine wpAny_bind (wpAny_callSpecial?_slot (name := Str.ofString "__next__") hit.typeIs F.slot_tuple_iterator_next (wpAny_call_entry F.slot_tuple_iterator_next hit.typeIs F.entry_tuple_iterator_next ?_ (F.args_tuple_iterator_next_1 _)))
  show wpAny _ _ (field (.ref it) 0 >>= _) _ _ s
  refine wpAny_bind (wpAny_field ho hd (x := .ref t) rfl ?_)
  show wpAny _ _ (if (Value.ref t == Value.none) = true then _ else _) _ _ s
  rw [if_neg (show ¬ ((Value.ref t == Value.none) = true) from Bool.false_ne_true)]
  show wpAny _ _ (field (.ref it) 1 >>= _) _ _ s
  refine wpAny_bind (wpAny_field ho hd (x := .int i 0) rfl ?_)
  show wpAny _ _ (seqItems? (.ref t) >>= _) _ _ s
  refine wpAny_bind (wpAny_seqItems hol hdl ?_)
  simp only [Int.toNat_natCast, hx]
  refine wpAny_bind (wpAny_setField ho hd (by simp) (wpAny_pure ⟨x, rfl, wpAny_pure (hQ _ ?_ (Heap.SameBut.update ..))⟩))
  exact ⟨_, Heap.get?_update_self _ ho (Obj.isFreed_of_fields (Obj.data_mapFields hd _)), (Obj.cls_mapFields ..).trans hc, by rw [Obj.data_mapFields hd]; simp [rawInt]⟩
theorem nextOfT_end {it t : Addr} {i : Nat} {items : Array Value} {Q : Value → Shared → Prop} (hh : A.handled = none) (hit : s.heap.IsTupleIter it t i) (ht : s.heap.IsTuple t items) (hx : items[i]? = none)
    (hE : ∀ h' e, Heap.ExtBut it s.heap h' → (∃ o, h'.get? e = some o ∧ o.cls = .type "StopIteration") → E (.ref e) { s with heap := h' }) : wpAny (model prog w) A (Builtin.SmallTypes.nextOf (.ref it)) Q E s := by
  obtain ⟨o, ho, hc, hd⟩ := id hit
  obtain ⟨ol, hol, _, nl, hdl⟩ := ht
  unfold Builtin.SmallTypes.nextOf
  refine wpAny_bind (wpAny_callSpecial?_slot (name := Str.ofString "__next__") hit.typeIs F.slot_tuple_iterator_next (wpAny_call_entry F.slot_tuple_iterator_next hit.typeIs F.entry_tuple_iterator_next ?_ (F.args_tuple_iterator_next_1 _)))
  show wpAny _ _ (field (.ref it) 0 >>= _) _ _ s
  refine wpAny_bind (wpAny_field ho hd (x := .ref t) rfl ?_)
  show wpAny _ _ (if (Value.ref t == Value.none) = true then _ else _) _ _ s
  rw [if_neg (show ¬ ((Value.ref t == Value.none) = true) from Bool.false_ne_true)]
  show wpAny _ _ (field (.ref it) 1 >>= _) _ _ s
  refine wpAny_bind (wpAny_field ho hd (x := .int i 0) rfl ?_)
  show wpAny _ _ (seqItems? (.ref t) >>= _) _ _ s
  refine wpAny_bind (wpAny_seqItems hol hdl ?_)
  simp only [Int.toNat_natCast, hx]
  refine wpAny_bind (wpAny_rule (wpAny_bind (wpAny_setField ho hd (by simp) ?_)))
  show wpAny _ _ (newExc (.type "StopIteration") [] >>= _) _ _ _
  refine wpAny_bind ?_
  simp only [newExc, newTuple]
  refine wpAny_bind (wpAny_newObj_type ?_ (by size_fits))
  refine wpAny_bind (m := firstArgMember _ _) (wpAny_of_eq (a := Value.none) (by first | rfl | (simp only [firstArgMember]; rfl)) ?_)
  refine wpAny_newObj_type ?_ (by size_fits)
  simp only [raiseNew]
  refine wpAny_bind (wpAny_handled ?_)
  first | rw [show A.in1.handled = none from hh] | rw [hh]
  exact wpAny_bind (wpAny_pure (wpAny_throw (hE _ _ (((Heap.SameBut.update ..).extBut.push _).push _) ⟨_, Heap.get?_push_size _ rfl, rfl⟩)))
/-- enumerate's next, whatever stands behind it -/
theorem enumT_next {e it : Addr} {i : Nat} {x old : Value} {St' : Heap → Prop} {Q : Option Value → Shared → Prop} (he : IsEnum s.heap e it i old) (hne : e ≠ it)
    (nx : ∀ A (Q : Value → Shared → Prop) E, (∀ h', St' h' → Heap.SameBut it s.heap h' → Q x { s with heap := h' }) → wpAny (model prog w) A (Builtin.SmallTypes.nextOf (.ref it)) Q E s)
    (hst : ∀ h h', St' h → (∀ o, h.get? it = some o → h'.get? it = some o) → St' h')
    (hQ : ∀ h', IsEnumOut h' e it ((i : Int) + 1) x s.heap.objs.size → St' h' → h'.get? s.heap.objs.size = some { cls := .type "tuple", data := .seq #[.int i s.toks, x] } → h'.objs.size = s.heap.objs.size + 1 →
      (∀ b o, b ≠ e → b ≠ it → s.heap.get? b = some o → h'.get? b = some o) → Q (some (.ref s.heap.objs.size)) { s with heap := h', toks := s.toks + 1 }) :
    wpAny (model prog w) A (pyNext (.ref e)) Q E s := by
  have hT : s.TypeIs (.ref e) "enumerate" := ⟨_, he, rfl⟩
  obtain ⟨hp, g, d, tk, os⟩ := s
  unfold pyNext
  refine wpAny_bind (wpAny_attempt (wpAny_callSpecial?_slot (name := Str.ofString "__next__") hT F.slot_enumerate_next (wpAny_call_entry F.slot_enumerate_next hT F.entry_enumerate_next ?_ (F.args_enumerate_next_1 _))))
  show wpAny _ _ (field (.ref e) 2 >>= _) _ _ _
  refine wpAny_bind (wpAny_field he rfl (x := .ref it) rfl ?_)
  refine wpAny_bind (nx _ _ _ fun h₁ st₁ hs₁ => ?_)
  replace hs₁ : Heap.SameBut it hp h₁ := hs₁
  have he₁ : IsEnum h₁ e it i old := (hs₁.2 e hne).trans he
  show wpAny _ _ (field (.ref e) 3 >>= _) _ _ ⟨h₁, g, d, tk, os⟩
  refine wpAny_bind (wpAny_field he₁ rfl (x := rawInt i) rfl ?_)
  show wpAny _ _ (field (.ref e) 4 >>= _) _ _ ⟨h₁, g, d, tk, os⟩
  refine wpAny_bind (wpAny_field he₁ rfl (x := .none) rfl ?_)
  show wpAny _ _ (mkInt i >>= _) _ _ ⟨h₁, g, d, tk, os⟩
  refine wpAny_bind (wpAny_mkInt ?_)
  show wpAny _ _ (setField (.ref e) 3 (rawInt ((i : Int) + 1)) >>= _) _ _ ⟨h₁, g, d, tk + 1, os⟩
  refine wpAny_bind (wpAny_setField_rec he₁ (by simp) fun h₂ he₂ hs₂ => ?_)
  replace hs₂ : Heap.SameBut e h₁ h₂ := hs₂
  replace he₂ : IsEnum h₂ e it ((i : Int) + 1) old := he₂
  show wpAny _ _ (setField (.ref e) 4 .none >>= _) _ _ ⟨h₂, g, d, tk + 1, os⟩
  refine wpAny_bind (wpAny_setField_rec he₂ (by simp) fun h₃ he₃ hs₃ => ?_)
  replace hs₃ : Heap.SameBut e h₂ h₃ := hs₃
  replace he₃ : IsEnum h₃ e it ((i : Int) + 1) old := he₃
  show wpAny _ _ (newTuple [.int i tk, x] >>= _) _ _ ⟨h₃, g, d, tk + 1, os⟩
  refine wpAny_bind (wpAny_newTuple ?_)
  have he₄ : IsEnum (h₃.push { cls := .type "tuple", data := .seq #[.int i tk, x] }) e it ((i : Int) + 1) old := Heap.get?_push_of_some _ he₃
  generalize hh₄ : h₃.push { cls := .type "tuple", data := .seq #[.int i tk, x] } = h₄ at he₄
  have hsz : h₃.objs.size = hp.objs.size := by rw [hs₃.1, hs₂.1, hs₁.1]
  have hel : e < hp.objs.size := Heap.lt_size he
  have ht₄ : h₄.get? hp.objs.size = some { cls := .type "tuple", data := .seq #[.int i tk, x] } := by rw [← hh₄, ← hsz]; exact Heap.get?_push_size _ rfl
  have hz₄ : h₄.objs.size = hp.objs.size + 1 := by rw [← hh₄, Heap.size_push, hsz]
  have hk₄ : ∀ b o, b ≠ e → b ≠ it → hp.get? b = some o → h₄.get? b = some o := fun b o hbe hbi hb => by
    rw [← hh₄]; exact Heap.get?_push_of_some _ (hs₃.extBut b o hbe (hs₂.extBut b o hbe (hs₁.extBut b o hbi hb)))
  have st₄ : St' h₄ := by
    refine hst h₁ h₄ st₁ fun o ho => ?_
    rw [← hh₄]; exact Heap.get?_push_of_some _ (hs₃.extBut it o (Ne.symm hne) (hs₂.extBut it o (Ne.symm hne) ho))
  show wpAny _ _ (Builtin.SmallTypes.ownedTupleIsFree (.ref e) >>= _) _ _ ⟨h₄, g, d, tk + 1, os⟩
  rw [hsz]
  clear hh₄ he₃ hs₃ he₂ hs₂ he₁ hs₁ st₁ hsz h₃ h₂ h₁
  refine wpAny_bind ?_
  unfold Builtin.SmallTypes.ownedTupleIsFree
  refine wpAny_bind (wpAny_field he₄ rfl (x := .none) rfl (wpAny_pure ?_))
  simp only [if_true]
  refine wpAny_bind (wpAny_rule ?_)
  refine wpAny_bind (wpAny_field he₄ rfl (x := old) rfl ?_)
  refine wpAny_bind (wpAny_setField_rec he₄ (by simp) fun h₅ he₅ hs₅ => ?_)
  replace hs₅ : Heap.SameBut e h₄ h₅ := hs₅
  replace he₅ : IsEnum h₅ e it ((i : Int) + 1) x := he₅
  show wpAny _ _ (Builtin.SmallTypes.ownedTupleHandOut (.ref e) (.ref hp.objs.size) >>= _) _ _ ⟨h₅, g, d, tk + 1, os⟩
  refine wpAny_bind ?_
  unfold Builtin.SmallTypes.ownedTupleHandOut
  refine wpAny_bind (wpAny_setField_rec he₅ (by simp) fun h₆ he₆ hs₆ => ?_)
  replace hs₆ : Heap.SameBut e h₅ h₆ := hs₆
  replace he₆ : IsEnumOut h₆ e it ((i : Int) + 1) x hp.objs.size := he₆
  refine wpAny_setField_rec he₆ (by simp) fun h₇ he₇ hs₇ => ?_
  replace hs₇ : Heap.SameBut e h₆ h₇ := hs₇
  replace he₇ : IsEnumOut h₇ e it ((i : Int) + 1) x hp.objs.size := he₇
  have up : ∀ b o, b ≠ e → h₄.get? b = some o → h₇.get? b = some o := fun b o hbe hb => hs₇.extBut b o hbe (hs₆.extBut b o hbe (hs₅.extBut b o hbe hb))
  refine wpAny_bind (wpAny_letGo (wpAny_pure ⟨_, rfl, wpAny_pure (hQ h₇ he₇ ?_ ?_ ?_ ?_)⟩))
  · exact hst h₄ h₇ st₄ fun o ho => up it o (Ne.symm hne) ho
  · exact up _ _ (Nat.ne_of_gt hel) ht₄
  · rw [hs₇.1, hs₆.1, hs₅.1, hz₄]
  · exact fun b o hbe hbi hb => up b o hbe (hk₄ b o hbe hbi hb)
theorem enumT_end {e it t : Addr} {i : Nat} {items : Array Value} {old : Value} {Q : Option Value → Shared → Prop} (hh : A.handled = none) (he : IsEnum s.heap e it i old) (hit : s.heap.IsTupleIter it t i) (ht : s.heap.IsTuple t items) (hx : items[i]? = none)
    (hQ : ∀ h', Heap.ExtBut it s.heap h' → Q none { s with heap := h' }) : wpAny (model prog w) A (pyNext (.ref e)) Q E s := by
  have hT : s.TypeIs (.ref e) "enumerate" := ⟨_, he, rfl⟩
  unfold pyNext
  refine wpAny_bind (wpAny_attempt (wpAny_callSpecial?_slot (name := Str.ofString "__next__") hT F.slot_enumerate_next (wpAny_call_entry F.slot_enumerate_next hT F.entry_enumerate_next ?_ (F.args_enumerate_next_1 _))))
  show wpAny _ _ (field (.ref e) 2 >>= _) _ _ _
  refine wpAny_bind (wpAny_field he rfl (x := .ref it) rfl ?_)
  refine wpAny_bind (nextOfT_end hh hit ht hx fun h' x he' hx' => ?_)
  obtain ⟨o, ho, hc⟩ := hx'
  refine wpAny_bind (wpAny_isInstance (T := "StopIteration") (b := true) ⟨o, ho, hc⟩ isSubtype_stop ?_)
  exact wpAny_pure (hQ _ he')
theorem letOwned_tupleiter {elts : List Expr} {x1 : Nat} {pos : Pos} {I l T : Addr} {i : Nat} {Q : Unit → Shared → Prop} (hit : s.heap.IsTupleIter I l i) (hQ : Q () s) : wpAny (model prog w) A (letOwnedTupleGo (.Tuple elts x1 pos) (.ref I) (.ref T)) Q E s := by
  obtain ⟨o, ho, hc, hd⟩ := hit
  unfold letOwnedTupleGo
  refine wpAny_bind (wpAny_load ho ?_)
  rw [hc, hd]
  exact wpAny_pure hQ
end
end Mine
end

section
open PySem PySem.W PyProof.Rows PySem.Calls PySem.Spec
set_option Elab.async false
set_option maxRecDepth 100000
namespace Mine
section
variable {s₀ s : Shared} {g₀ g : G} {env : Env} {ρ : Loc} {ml : Option ML} {K : Frag}
/-- any value is stored under a name that the frame does not speak of -/
theorem Fm.raw {M : Model} {A : Around} {E : Value → Shared → Prop} {Q : Unit → Shared → Prop} (F : Fm s₀ g₀ env ρ ml g s) {x : Str} {v : Value} (hd : (x == ("__debug__" : Str)) = false) (hx : env.kindOf x = some .local) (hρ : ρ.lookup x = none)
    (hm : ∀ M, ml = some M → M.x ≠ x ∧ M.ad ≠ some x)
    (k : ∀ s', Fm s₀ g₀ env ρ ml g s' → VarIs env s'.heap x v → (∀ b o, b ≠ env.locals → s.heap.get? b = some o → s'.heap.get? b = some o) → Q () s') : wpAny M A (storeName env x v) Q E s := by
  obtain ⟨m, cm, I, hv, hl⟩ := F.inc
  obtain ⟨H, t0, e0⟩ := I.toInCall.same
  refine wpAny_storeName_local hx I.toInCall.ns (fun h' hn' hs' => ?_) (by rw [F.kind]; rfl)
  have x' : Ext s₀.heap h' := fun b o e => hs'.extBut b o (Nat.ne_of_lt (Nat.lt_of_lt_of_le (Heap.lt_size e) I.toInCall.fresh)) (I.toInCall.keep b o e)
  refine k _ ⟨⟨_, cm, ⟨⟨⟨h', _, by rw [e0]⟩, hn', x', I.toInCall.fresh⟩, fun n c q => (I.cell n c q).sameBut hs' (Nat.ne_of_gt (I.above n c (mem_of_lookup q))), I.apart, I.above⟩, fun y e q => ?_, fun M e => ?_⟩, F.kind,
    F.grow.shift x' fun a o e => hs'.extBut a o (fun q => by rw [q, F.hidL] at e; cases e) (F.grow.sub a o e), F.hidL, F.hidC⟩ ⟨F.kind, hd, .inl ⟨hx, _, hn', by simp⟩⟩ fun b o hb e => hs'.extBut b o hb e
  · obtain ⟨u, hu, r'⟩ := hv y e q
    exact ⟨u, hu.upd (fun z => by rw [z, hρ] at q; cases q), r'⟩
  · obtain ⟨D, vs, a, b, c, d, f⟩ := hl M e
    refine ⟨D, vs, a.upd (hm M e).1, b.at fun o e => hs'.extBut D o d.loc e, c, d, fun y hy => ?_⟩
    obtain ⟨q, q1, q2, q3, q4⟩ := f y hy
    exact ⟨q, q1.upd (fun z => (hm M e).2 (by rw [hy, z])), hs'.extBut q _ q3.loc q2, q3, q4⟩
end
abbrev Row := Addr × List (Addr × Int × Str)
def pairOk (K : Frag) (p : Addr × Int × Str) : Prop := ∃ t u, K.lookup p.1 = some { cls := .type "tuple", data := .seq #[.int p.2.1 t, .str p.2.2 u] }
def rowOk (K : Frag) (r : Row) : Prop := K.lookup r.1 = some { cls := .type "tuple", data := .seq (r.2.map fun p => Value.ref p.1).toArray } ∧ ∀ p ∈ r.2, pairOk K p
section
variable {prog : Program} {w : World} {K : Frag} {n : Nat} {env : Env} {ρ' J : Loc} {ml ml' : Option ML}
/-- for x, y in tbl: over a row of the table -/
theorem ExX.forRow {x y tbl : Str} {px py tp pt pos : Pos} {k : Nat} {body orelse : List Stmt} {r : Row} (br : Nat → Bool) (hr : rowOk K r)
    (hdx : (x == ("__debug__" : Str)) = false) (hdy : (y == ("__debug__" : Str)) = false) (hx : env.kindOf x = some .local) (hy : env.kindOf y = some .local) (hmx : ∀ M, ml = some M → M.x ≠ x ∧ M.ad ≠ some x) (hmy : ∀ M, ml = some M → M.x ≠ y ∧ M.ad ≠ some y)
    (turn : ∀ i p, r.2[i]? = some p → (∀ j, j < i → br j = false) → (br i = false ∧ ExD prog w K n env ((y, .str p.2.2) :: (x, .int p.2.1) :: J) ml body (.next J ml)) ∨ ExD prog w K n env ((y, .str p.2.2) :: (x, .int p.2.1) :: J) ml body (.brk ρ' ml'))
    (last : (∀ j, j < r.2.length → br j = false) → ExD prog w K n env J ml orelse (.next ρ' ml')) :
    ExX prog w K n env J ml (fun h => VarIs env h tbl (.ref r.1)) [.For (.Tuple [.Name x px, .Name y py] k tp) (.Name tbl pt) body orelse pos] (.next ρ' ml') := fun A s₀ g₀ g s E hA t F hv => by
  have hT : s₀.heap.get? r.1 = some { cls := .type "tuple", data := .seq (r.2.map fun p => Value.ref p.1).toArray } := t.k _ _ hr.1
  have hs := F.grow.keep _ _ hT
  have hIs : ∀ {s g}, Fm s₀ g₀ env J ml g s → s.heap.IsTuple r.1 (r.2.map fun p => Value.ref p.1).toArray := fun F => ⟨_, F.grow.keep _ _ hT, rfl, _, rfl⟩
  refine wpAny_execs_cons (wpAny_mono (Q := fun fl s' => OutIs s₀ g₀ env s' fl (.next ρ' ml')) (wpAny_For (ev_name hv (wpAny_pyIter_tuple (hIs F) ?_))) (fun fl s' ⟨e, q⟩ => by subst e; exact wpAny_execs_nil ⟨rfl, q⟩) fun _ _ e => e)
  have hid := F.fresh (Nat.le_refl s.heap.objs.size)
  have F1 : Fm s₀ g₀ env J ml g { s with heap := s.heap.push { cls := .type "tuple_iterator", data := .fields #[.ref r.1, .int 0 0] } } := F.up ⟨_, s.toks, rfl, ext_push _ _⟩ (Grow.heap F.grow.sub (ext_push _ _))
  have hlt : r.1 ≠ s.heap.objs.size := Nat.ne_of_lt (Heap.lt_size hs)
  have odd : ∀ {i : Nat} {h : Heap}, h.IsTupleIter s.heap.objs.size r.1 i → ∀ b ∈ [s.heap.objs.size], Odd h b := fun st b hb => by
    rw [List.mem_singleton.mp hb]
    obtain ⟨o, e, c, _⟩ := st
    exact ⟨o, e, by rw [c]; decide, by rw [c]; decide⟩
  refine for_turns (N := r.2.length) (St := fun i h => h.IsTupleIter s.heap.objs.size r.1 i) (wr := [s.heap.objs.size]) (g := g) (fun _ => J) (fun i => match r.2[i]? with | some p => (y, .str p.2.2) :: (x, .int p.2.1) :: J | none => J) (fun _ => ml) (fun _ _ => True) br hA t ?_ (fun i h st => odd st) ?_ ?_ ?_ ?_ last F1 ⟨_, Heap.get?_push_size _ rfl, rfl, rfl⟩
  · intro i h h' st hk
    exact st.at fun o e => hk _ o (.inl (.head _)) e
  · intro b hb; rw [List.mem_singleton.mp hb]; exact hid
  · intro i hi s1 g' F' S' st' le Q E kk
    obtain ⟨p, hp⟩ : ∃ p, r.2[i]? = some p := ⟨r.2[i], List.getElem?_eq_getElem hi⟩
    obtain ⟨tt, uu, hpo⟩ := hr.2 p (List.mem_of_getElem? hp)
    refine wpAny_pyNext_tuple_item st' (hIs F') (x := .ref p.1) (by simp [hp]) fun h' st2 hs2 => ⟨_, rfl, letOwned_tupleiter (s := { s1 with heap := h' }) st2 ?_⟩
    have hk2 : ∀ b o, b ∉ [s.heap.objs.size] → s1.heap.get? b = some o → h'.get? b = some o := fun b o hb e => hs2.extBut b o (fun q => hb (List.mem_singleton.mpr q)) e
    have F2 : Fm s₀ g₀ env J ml g' { s1 with heap := h' } := F'.but (tk := s1.toks) S' hk2
    have hP : h'.IsTuple p.1 #[.int p.2.1 tt, .str p.2.2 uu] := ⟨_, F2.grow.keep _ _ (t.k _ _ hpo), rfl, _, rfl⟩
    refine wpAny_assign_Tuple hA.1 hP rfl rfl fun h3 hk3 => ?_
    have F3 : Fm s₀ g₀ env J ml g' { s1 with heap := h3 } := F2.up (s' := { s1 with heap := h3 }) ⟨h3, s1.toks, rfl, ext_but hk3⟩ (Grow.heap F2.grow.sub (ext_but hk3))
    have hL := (S'.hid _ (.head _)).loc
    have hC := (S'.hid _ (.head _)).cel
    have st3 : h3.IsTupleIter s.heap.objs.size r.1 (i + 1) := st2.at fun o e => ext_but hk3 _ _ e
    show wpAny _ _ (holding [.str p.2.2 uu] (assign (.Name x px) env (.int p.2.1 tt)) >>= fun _ => holding [] (assign (.Name y py) env (.str p.2.2 uu)) >>= fun _ => pure ()) _ _ _
    refine wpAny_bind (wpAny_holding (wpAny_assign_Name (F3.store hdx (.inl hx) (.int _ _) hmx fun s4 _ F4 x4 => ?_)))
    refine wpAny_bind (wpAny_holding (wpAny_assign_Name (F4.store hdy (.inl hy) (.str _ _) hmy fun s5 _ F5 x5 => wpAny_pure ?_)))
    have st5 : s5.heap.IsTupleIter s.heap.objs.size r.1 (i + 1) := st3.at fun o e => x5 _ o hL hC (x4 _ o hL hC e)
    refine kk s5 g' (by rw [hp]; exact F5) trivial ⟨S'.hid, odd st5⟩ st5 le
  · intro s1 g' F' S' st' Q E kk
    exact wpAny_pyNext_tuple_end hA.1 st' (hIs F') (by simp) fun h' hx => kk _ g' (F'.but (tk := s1.toks) S' fun b o hb e => hx b o (fun q => hb (List.mem_singleton.mpr q)) e)
  · intro i hi hbr
    obtain ⟨p, hp⟩ : ∃ p, r.2[i]? = some p := ⟨r.2[i], List.getElem?_eq_getElem hi⟩
    rcases turn i p hp hbr with ⟨b0, h⟩ | h
    · refine .inl ⟨b0, ExD.toX ?_⟩
      rw [hp]; exact h
    · refine .inr (ExD.toX ?_)
      rw [hp]; exact h
/-- for x, y in enumerate(table): -/
theorem ExS.forTab {x y tn : Str} {px py tp np ap cp pos : Pos} {k : Nat} {body : List Stmt} {a₀ : Addr} {tab : List Row} (M : Nat → Option ML)
    (fe : Fe env) (hen : env.kindOf (Str.ofString "enumerate") = some .globalImplicit) (nen : nsIn K mainGlobals (Str.ofString "enumerate") = some none) (htn : env.kindOf tn = some .globalImplicit) (ntn : nsIn K mainGlobals tn = some (some (.ref a₀))) (hdt : (tn == ("__debug__" : Str)) = false)
    (hK : K.lookup a₀ = some { cls := .type "tuple", data := .seq (tab.map fun r => Value.ref r.1).toArray }) (he : starEach [.Name tn ap] env = (false, eval (.Name tn ap) env) :: starEach [] env)
    (hdx : (x == ("__debug__" : Str)) = false) (hdy : (y == ("__debug__" : Str)) = false) (hx : env.kindOf x = some .local) (hy : env.kindOf y = some .local) (hyx : y ≠ x) (hyJ : J.lookup y = none)
    (hmx : ∀ i m, M i = some m → m.x ≠ x ∧ m.ad ≠ some x) (hmy : ∀ i m, M i = some m → m.x ≠ y ∧ m.ad ≠ some y)
    (turn : ∀ (i : Nat) (r : Row), tab[i]? = some r → ExX prog w K n env ((x, .int i) :: J) (M i) (fun h => VarIs env h y (.ref r.1)) body (.next J (M (i + 1)))) :
    ExS prog w K n env J (M 0) (.For (.Tuple [.Name x px, .Name y py] k tp) (.Call (.Name (Str.ofString "enumerate") np) [.Name tn ap] [] cp) body [] pos) (.next J (M tab.length)) := fun A s₀ g₀ g s E hA t F => by
  have hT := t.k _ _ hK
  refine wpAny_For ?_
  refine Call_ (ev_builtin (t.up F.grow.keep) fe hen nen boot_enumerate (by decide) rfl (PyProof.Rows.callWith_type1 (args_cons (ev_global (t.up F.grow.keep) fe htn ntn hdt (args_nil ?_)) he) he))
  refine call_enumT (F.grow.keep _ _ hT) fun h1 he1 hi1 hz1 x1 => wpAny_pyIter_enum (s := { s with heap := h1 }) he1 ?_
  have hIs : ∀ {i s g}, Fm s₀ g₀ env J (M i) g s → s.heap.IsTuple a₀ (tab.map fun p => Value.ref p.1).toArray := fun F => ⟨_, F.grow.keep _ _ hT, rfl, _, rfl⟩
  have hidI := F.fresh (Nat.le_refl s.heap.objs.size)
  have hidE := F.fresh (Nat.le_succ s.heap.objs.size)
  have hne : s.heap.objs.size + 1 ≠ s.heap.objs.size := Nat.succ_ne_self _
  have F1 : Fm s₀ g₀ env J (M 0) g { s with heap := h1 } := F.up ⟨_, s.toks, rfl, x1⟩ (Grow.heap F.grow.sub x1)
  have hid : ∀ b ∈ [s.heap.objs.size + 1, s.heap.objs.size], Hid s₀ env g b := fun b hb => by
    rcases List.mem_cons.mp hb with rfl | hb
    · exact hidE
    · rw [List.mem_singleton.mp hb]; exact hidI
  have odd : ∀ {i : Nat} {h : Heap}, (∃ old, IsEnum h (s.heap.objs.size + 1) s.heap.objs.size i old) ∧ h.IsTupleIter s.heap.objs.size a₀ i → ∀ b ∈ [s.heap.objs.size + 1, s.heap.objs.size], Odd h b := fun ⟨⟨old, he⟩, st⟩ b hb => by
    rcases List.mem_cons.mp hb with rfl | hb
    · exact ⟨_, he, (show Value.type "enumerate" ≠ Value.type "list" by decide), (show Value.type "enumerate" ≠ Value.type "builtin_function_or_method" by decide)⟩
    · rw [List.mem_singleton.mp hb]
      obtain ⟨o, e, c, _⟩ := st
      exact ⟨o, e, by rw [c]; decide, by rw [c]; decide⟩
  refine for_turns (N := tab.length) (St := fun i h => (∃ old, IsEnum h (s.heap.objs.size + 1) s.heap.objs.size i old) ∧ h.IsTupleIter s.heap.objs.size a₀ i) (wr := [s.heap.objs.size + 1, s.heap.objs.size]) (g := g) (fun _ => J) (fun i => (x, .int i) :: J) M
    (fun i h => ∀ r, tab[i]? = some r → VarIs env h y (.ref r.1)) (fun _ => false) hA t ?_ (fun i h st => odd st) hid ?_ ?_ ?_ (fun _ => ExD.nil) F1 ⟨⟨_, he1⟩, hi1⟩
  · rintro i h h' ⟨⟨old, e⟩, st⟩ hk
    exact ⟨⟨old, hk _ _ (.inl (.head _)) e⟩, st.at fun o e => hk _ o (.inl (.tail _ (.head _))) e⟩
  · rintro i hi s1 g' F' S' ⟨⟨old, en⟩, st'⟩ le Q E kk
    obtain ⟨r, hr⟩ : ∃ r, tab[i]? = some r := ⟨tab[i], List.getElem?_eq_getElem hi⟩
    refine enumT_next en hne (St' := fun h => h.IsTupleIter s.heap.objs.size a₀ (i + 1)) (x := .ref r.1) (fun A Q E hq => nextOfT_item st' (hIs F') (by simp [hr]) hq) (fun h h' st k => st.at k) fun h2 en2 st2 tu2 sz2 k2 => ⟨_, rfl, ?_⟩
    refine wpAny_letOwnedTupleGo_enum (s := { s1 with heap := h2, toks := s1.toks + 1 }) en2 fun h3 en3 hs3 => ?_
    have keep3 : ∀ b o, b ∉ [s.heap.objs.size + 1, s.heap.objs.size] → s1.heap.get? b = some o → h3.get? b = some o := fun b o hb e =>
      hs3.extBut b o (fun q => hb (by rw [q]; exact .head _)) (k2 b o (fun q => hb (by rw [q]; exact .head _)) (fun q => hb (by rw [q]; exact .tail _ (.head _))) e)
    have F3 : Fm s₀ g₀ env J (M i) g' { s1 with heap := h3, toks := s1.toks + 1 } := F'.but S' keep3
    have hlt : s1.heap.objs.size ≠ s.heap.objs.size + 1 := Nat.ne_of_gt (Heap.lt_size en)
    have tu3 : h3.IsTuple s1.heap.objs.size #[.int i s1.toks, .ref r.1] := ⟨_, hs3.extBut _ _ hlt tu2, rfl, _, rfl⟩
    have st3 : h3.IsTupleIter s.heap.objs.size a₀ (i + 1) := st2.at fun o e => hs3.extBut _ o (Ne.symm hne) e
    refine wpAny_assign_Tuple (s := { s1 with heap := h3, toks := s1.toks + 1 }) hA.1 tu3 rfl rfl fun h4 hk4 => ?_
    have F4 : Fm s₀ g₀ env J (M i) g' { s1 with heap := h4, toks := s1.toks + 1 } := F3.up (s' := { s1 with heap := h4, toks := s1.toks + 1 }) ⟨h4, s1.toks + 1, rfl, ext_but hk4⟩ (Grow.heap F3.grow.sub (ext_but hk4))
    show wpAny _ _ (holding [.ref r.1] (assign (.Name x px) env (.int i s1.toks)) >>= fun _ => holding [] (assign (.Name y py) env (.ref r.1)) >>= fun _ => pure ()) _ _ _
    refine wpAny_bind (wpAny_holding (wpAny_assign_Name (F4.store hdx (.inl hx) (.int _ _) (hmx i) fun s5 _ F5 x5 => ?_)))
    refine wpAny_bind (wpAny_holding (wpAny_assign_Name (F5.raw hdy hy (by rw [lookup_cons_ne hyx]; exact hyJ) (hmy i) fun s6 F6 v6 x6 => wpAny_pure ?_)))
    have up : ∀ b ∈ [s.heap.objs.size + 1, s.heap.objs.size], ∀ o, h3.get? b = some o → s6.heap.get? b = some o := fun b hb o e =>
      x6 b o (S'.hid b hb).loc (x5 b o (S'.hid b hb).loc (S'.hid b hb).cel (ext_but hk4 b o e))
    have st6 : (∃ old, IsEnum s6.heap (s.heap.objs.size + 1) s.heap.objs.size ((i + 1 : Nat) : Int) old) ∧ s6.heap.IsTupleIter s.heap.objs.size a₀ (i + 1) :=
      ⟨⟨_, by have := up _ (.head _) _ en3; push_cast; exact this⟩, st3.at fun o e => up _ (.tail _ (.head _)) o e⟩
    exact kk s6 g' F6 (fun r' hr' => by rw [hr] at hr'; cases hr'; exact v6) ⟨S'.hid, odd st6⟩ st6 le
  · rintro s1 g' F' S' ⟨⟨old, en⟩, st'⟩ Q E kk
    exact enumT_end hA.1 en st' (hIs F') (by simp) fun h' hx => kk _ g' (F'.but (tk := s1.toks) S' fun b o hb e => hx b o (fun q => hb (by rw [q]; exact .tail _ (.head _))) e)
  · intro i hi _
    obtain ⟨r, hr⟩ : ∃ r, tab[i]? = some r := ⟨tab[i], List.getElem?_eq_getElem hi⟩
    exact .inl ⟨rfl, fun A s₀ g₀ g s E hA t F xx => turn i r hr A s₀ g₀ g s E hA t F (xx r hr)⟩
end
end Mine
end

section
open PySem PySem.W PyProof.Rows PySem.Calls PySem.Spec
set_option Elab.async false
set_option maxRecDepth 100000
namespace Mine
section
variable {prog : Program} {w : World} {K : Frag} {n : Nat} {env : Env} {ρ ρ' : Loc} {ml ml' : Option ML}
theorem ExD.brk {pos : Pos} {rest : List Stmt} (hw : ∀ p ∈ ρ', ρ.lookup p.1 = some p.2) : ExD prog w K n env ρ ml (.Break pos :: rest) (.brk ρ' ml) := fun A s₀ g₀ g s E hA t F =>
  wpAny_execs_cons (wpAny_Break ⟨rfl, g, F.weaken fun _ _ q => hw _ (PySem.mem_of_lookup q)⟩)
end
def tab : List Row := [
  (103, [(96, 40960, Str.ofString "l"), (97, 49152, Str.ofString "s"), (98, 32768, Str.ofString "-"), (99, 24576, Str.ofString "b"), (100, 16384, Str.ofString "d"), (101, 8192, Str.ofString "c"), (102, 4096, Str.ofString "p")]),
  (105, [(104, 256, Str.ofString "r")]), (107, [(106, 128, Str.ofString "w")]), (111, [(108, 2112, Str.ofString "s"), (109, 2048, Str.ofString "S"), (110, 64, Str.ofString "x")]),
  (113, [(112, 32, Str.ofString "r")]), (115, [(114, 16, Str.ofString "w")]), (119, [(116, 1032, Str.ofString "s"), (117, 1024, Str.ofString "S"), (118, 8, Str.ofString "x")]),
  (121, [(120, 4, Str.ofString "r")]), (123, [(122, 2, Str.ofString "w")]), (127, [(124, 513, Str.ofString "t"), (125, 512, Str.ofString "T"), (126, 1, Str.ofString "x")])]
theorem tab_top {P : Params} : (KK P).lookup 128 = some { cls := .type "tuple", data := .seq (tab.map fun r => Value.ref r.1).toArray } := rfl
theorem tab_ok {P : Params} : ∀ r ∈ tab, rowOk (KK P) r := by
  simp only [tab, List.forall_mem_cons]
  refine ⟨⟨rfl, ?_⟩, ⟨rfl, ?_⟩, ⟨rfl, ?_⟩, ⟨rfl, ?_⟩, ⟨rfl, ?_⟩, ⟨rfl, ?_⟩, ⟨rfl, ?_⟩, ⟨rfl, ?_⟩, ⟨rfl, ?_⟩, ⟨rfl, ?_⟩, nofun⟩ <;> simp only [List.forall_mem_cons]
  · exact ⟨⟨_, _, rfl⟩, ⟨_, _, rfl⟩, ⟨_, _, rfl⟩, ⟨_, _, rfl⟩, ⟨_, _, rfl⟩, ⟨_, _, rfl⟩, ⟨_, _, rfl⟩, nofun⟩
  · exact ⟨⟨_, _, rfl⟩, nofun⟩
  · exact ⟨⟨_, _, rfl⟩, nofun⟩
  · exact ⟨⟨_, _, rfl⟩, ⟨_, _, rfl⟩, ⟨_, _, rfl⟩, nofun⟩
  · exact ⟨⟨_, _, rfl⟩, nofun⟩
  · exact ⟨⟨_, _, rfl⟩, nofun⟩
  · exact ⟨⟨_, _, rfl⟩, ⟨_, _, rfl⟩, ⟨_, _, rfl⟩, nofun⟩
  · exact ⟨⟨_, _, rfl⟩, nofun⟩
  · exact ⟨⟨_, _, rfl⟩, nofun⟩
  · exact ⟨⟨_, _, rfl⟩, ⟨_, _, rfl⟩, ⟨_, _, rfl⟩, nofun⟩
theorem ntab {P : Params} : nsIn (KK P) mainGlobals (Str.ofString "_filemode_table") = some (some (.ref 128)) := rfl
def hit (i : Nat) (m : Int) (p : Addr × Int × Str) : Bool := if i = 0 then Builtin.bitAnd m 61440 == p.2.1 else Builtin.bitAnd m p.2.1 == p.2.1
def rowSign (i : Nat) (m : Int) (row : List (Addr × Int × Str)) : Str := match row.find? (hit i m) with
  | some p => p.2.2
  | none => if i = 0 then Str.ofString "?" else Str.ofString "-"
/-- what filemode lists, sign by sign -/
def fmd (m : Int) : List Str := tab.mapIdx fun i r => rowSign i m r.2
theorem find_first {α : Type} (q : α → Bool) : ∀ (l : List α) (i : Nat) (p : α), l[i]? = some p → (∀ j, j < i → ∀ x, l[j]? = some x → q x = false) → q p = true → l.find? q = some p
  | a :: l, 0, p, h, _, hq => by cases h; rw [List.find?_cons, hq]
  | a :: l, i + 1, p, h, hb, hq => by
    rw [List.find?_cons, hb 0 (Nat.succ_pos _) a rfl]
    exact find_first q l i p h (fun j hj x hx => hb (j + 1) (Nat.succ_lt_succ hj) x hx) hq
theorem find_none {α : Type} (q : α → Bool) (l : List α) (hb : ∀ j, j < l.length → ∀ x, l[j]? = some x → q x = false) : l.find? q = none := by
  rw [List.find?_eq_none]
  intro x hx
  obtain ⟨j, hj⟩ := List.getElem?_of_mem hx
  rw [hb j (List.getElem?_eq_some_iff.mp hj).1 x hj]
  exact Bool.false_ne_true
theorem tab_signs : ∀ r ∈ tab, ∀ p ∈ r.2, p.2.2.length ≤ 1 := by decide +kernel
theorem rowSign_len {i : Nat} {m : Int} {r : Row} (hr : r ∈ tab) : (rowSign i m r.2).length ≤ 1 := by
  unfold rowSign
  split
  · exact tab_signs r hr _ (List.mem_of_find?_eq_some (by assumption))
  · split <;> decide
theorem sum_len : ∀ (ys : List Str), (∀ y ∈ ys, y.length ≤ 1) → (ys.map (·.length)).sum ≤ ys.length
  | [], _ => Nat.le_refl _
  | y :: ys, h => by
    have := sum_len ys fun z hz => h z (.tail _ hz)
    have := h y (.head _)
    simp only [List.map_cons, List.sum_cons, List.length_cons]
    omega
theorem fmd_length (m : Int) : (fmd m).length = 10 := by unfold fmd; rw [List.length_mapIdx]; rfl
theorem fmd_fits (m : Int) : ((fmd m).map (·.length)).sum + (fmd m).length * (Str.ofString "").length ≤ 16777216 := by
  have := sum_len (fmd m) fun y hy => by
    unfold fmd at hy
    obtain ⟨i, hi, rfl⟩ := List.mem_mapIdx.mp hy
    exact rowSign_len (List.getElem_mem hi)
  rw [fmd_length] at this ⊢
  have : (Str.ofString "").length = 0 := rfl
  omega
section
variable {prog : Program} {w : World} {n : Nat}
theorem fn95 {m : Int} : FnD prog w (KK w.params) (n + 1) 95 [.int m] (.int (Builtin.bitAnd m 61440)) := by
  refine FnD.intro (xs := [Str.ofString "mode"]) rfl rfl rfl rfl (fun vs h => ?_) rfl rfl ?_ ?_ ?_ rfl rfl rfl ?_
  · match vs, h with
    | [a], _ => rfl
  · intro L x hx; left; revert x; decide
  · decide
  · decide
  · intro L
    exact ExD.ret (EvD.bin cxF (EvD.name (vdF rfl)) EvD.int BinD.band)
abbrev fmM (m : Int) (i : Nat) : Option ML := some ⟨Str.ofString "perm", none, ((fmd m).take i).map .str⟩
theorem fm_take {m : Int} {i : Nat} {r : Row} (hr : tab[i]? = some r) : ((fmd m).take (i + 1)).map PyData.str = ((fmd m).take i).map PyData.str ++ [.str (rowSign i m r.2)] := by
  have : (fmd m)[i]? = some (rowSign i m r.2) := by unfold fmd; rw [List.getElem?_mapIdx, hr]; rfl
  rw [List.take_add_one, List.map_append, this]
  rfl
theorem fm_len {m : Int} {i : Nat} : (((fmd m).take i).map PyData.str).length ≤ sizeLine := by
  rw [List.length_map, List.length_take, fmd_length]
  exact Nat.le_trans (Nat.min_le_right ..) (by decide)
set_option maxHeartbeats 2000000 in
theorem fn135 {m : Int} : FnD prog w (KK w.params) (n + 2) 135 [.int m] (.str (Txt.join (Str.ofString "") (fmd m))) := by
  refine FnD.intro (xs := [Str.ofString "mode"]) rfl rfl rfl rfl (fun vs h => ?_) rfl rfl ?_ ?_ ?_ rfl rfl rfl ?_
  · match vs, h with
    | [a], _ => rfl
  · intro L x hx; left; revert x; decide
  · decide
  · decide
  · intro L
    refine ExD.cons (ExS.newMl rfl rfl rfl rfl) ?_
    refine ExD.cons (ExS.forTab (tab := tab) (fmM m) ⟨rfl, rfl, rfl⟩ rfl nenum rfl ntab rfl tab_top rfl rfl rfl rfl rfl (by decide) rfl (fun i M e => by cases e; exact ⟨show Str.ofString "perm" ≠ Str.ofString "index" by decide, nofun⟩) (fun i M e => by cases e; exact ⟨show Str.ofString "perm" ≠ Str.ofString "table" by decide, nofun⟩) (fun i r hr => ?_)) ?_
    · refine ExX.forRow (fun j => match r.2[j]? with | some p => hit i m p | none => false) (tab_ok r (List.mem_of_getElem? hr)) rfl rfl rfl rfl (fun M e => by cases e; exact ⟨show Str.ofString "perm" ≠ Str.ofString "bit" by decide, nofun⟩) (fun M e => by cases e; exact ⟨show Str.ofString "perm" ≠ Str.ofString "char" by decide, nofun⟩) ?_ ?_
      · intro j p hp hbr
        have hbr' : ∀ k, k < j → ∀ x, r.2[k]? = some x → hit i m x = false := fun k hk x hx => by have := hbr k hk; rw [hx] at this; exact this
        have wk0 : ∀ q ∈ [(Str.ofString "index", PyData.int i), (Str.ofString "mode", PyData.int m)], List.lookup q.1 [(Str.ofString "char", PyData.str p.2.2), (Str.ofString "bit", PyData.int p.2.1), (Str.ofString "index", PyData.int i), (Str.ofString "mode", PyData.int m)] = some q.2 := by
          intro q hq
          rcases hq with _ | ⟨_, _ | ⟨_, h⟩⟩
          · rfl
          · rfl
          · cases h
        have wk1 : ∀ q ∈ [(Str.ofString "mode", PyData.int m)], List.lookup q.1 [(Str.ofString "char", PyData.str p.2.2), (Str.ofString "bit", PyData.int p.2.1), (Str.ofString "index", PyData.int i), (Str.ofString "mode", PyData.int m)] = some q.2 := by
          intro q hq
          rcases hq with _ | ⟨_, h⟩
          · rfl
          · cases h
        have tM : hit i m p = true → fmM m (i + 1) = some ⟨Str.ofString "perm", none, ((fmd m).take i).map .str ++ [.str p.2.2]⟩ := fun hh => by
          unfold fmM
          rw [fm_take hr]
          unfold rowSign
          rw [find_first (hit i m) r.2 j p hp hbr' hh]
        by_cases h0 : i = 0
        · have hI : ((i : Int) == 0) = true := by rw [h0]; rfl
          cases hh : hit i m p with
          | false =>
            have hb : (Builtin.bitAnd m 61440 == p.2.1) = false := by unfold hit at hh; rwa [if_pos h0] at hh
            refine .inl ⟨by rw [hp]; exact hh, ExD.wk ?_ wk0⟩
            exact ExD.cons (ExS.ite (TsD.eq (TsD.cmp cxF (EvD.name (vdF rfl)) EvD.int CmpD.eqI rfl) hI) (fun _ => ExD.cons (ExS.ite (TsD.eq (TsD.cmp cxF (EvD.call cxF ⟨rfl, rfl, rfl⟩ rfl n95 d95 rfl (EvsD.cons cxF (EvD.name (vdF rfl)) EvsD.nil rfl) fn95 rfl) (EvD.name (vdF rfl)) CmpD.eqI rfl) hb) nofun (fun _ => ExD.nil)) ExD.nil) nofun) ExD.nil
          | true =>
            have hb : (Builtin.bitAnd m 61440 == p.2.1) = true := by unfold hit at hh; rwa [if_pos h0] at hh
            rw [tM hh]
            refine .inr ?_
            exact ExD.out (ExS.ite (TsD.eq (TsD.cmp cxF (EvD.name (vdF rfl)) EvD.int CmpD.eqI rfl) hI) (fun _ => ExD.out (ExS.ite (TsD.eq (TsD.cmp cxF (EvD.call cxF ⟨rfl, rfl, rfl⟩ rfl n95 d95 rfl (EvsD.cons cxF (EvD.name (vdF rfl)) EvsD.nil rfl) fn95 rfl) (EvD.name (vdF rfl)) CmpD.eqI rfl) hb) (fun _ =>
              ExD.cons (ExS.app (EvD.name (vdF rfl)) fm_len rfl rfl rfl rfl) (ExD.brk wk1)) nofun) nofun) nofun) nofun
        · have hI : ((i : Int) == 0) = false := by simpa using h0
          cases hh : hit i m p with
          | false =>
            have hb : (Builtin.bitAnd m p.2.1 == p.2.1) = false := by unfold hit at hh; rwa [if_neg h0] at hh
            refine .inl ⟨by rw [hp]; exact hh, ExD.wk ?_ wk0⟩
            exact ExD.cons (ExS.ite (TsD.eq (TsD.cmp cxF (EvD.name (vdF rfl)) EvD.int CmpD.eqI rfl) hI) nofun (fun _ => ExD.cons (ExS.ite (TsD.eq (TsD.cmp cxF (EvD.bin cxF (EvD.name (vdF rfl)) (EvD.name (vdF rfl)) BinD.band) (EvD.name (vdF rfl)) CmpD.eqI rfl) hb) nofun (fun _ => ExD.nil)) ExD.nil)) ExD.nil
          | true =>
            have hb : (Builtin.bitAnd m p.2.1 == p.2.1) = true := by unfold hit at hh; rwa [if_neg h0] at hh
            rw [tM hh]
            refine .inr ?_
            exact ExD.out (ExS.ite (TsD.eq (TsD.cmp cxF (EvD.name (vdF rfl)) EvD.int CmpD.eqI rfl) hI) nofun (fun _ => ExD.out (ExS.ite (TsD.eq (TsD.cmp cxF (EvD.bin cxF (EvD.name (vdF rfl)) (EvD.name (vdF rfl)) BinD.band) (EvD.name (vdF rfl)) CmpD.eqI rfl) hb) (fun _ =>
              ExD.cons (ExS.app (EvD.name (vdF rfl)) fm_len rfl rfl rfl rfl) (ExD.brk wk1)) nofun) nofun)) nofun
      · intro hbr
        have hn : r.2.find? (hit i m) = none := find_none _ _ fun k hk x hx => by have := hbr k hk; rw [hx] at this; exact this
        have tM : fmM m (i + 1) = some ⟨Str.ofString "perm", none, ((fmd m).take i).map .str ++ [.str (if i = 0 then Str.ofString "?" else Str.ofString "-")]⟩ := by
          unfold fmM
          rw [fm_take hr]
          unfold rowSign
          rw [hn]
        have wk1 : ∀ q ∈ [(Str.ofString "mode", PyData.int m)], List.lookup q.1 [(Str.ofString "index", PyData.int i), (Str.ofString "mode", PyData.int m)] = some q.2 := by
          intro q hq
          rcases hq with _ | ⟨_, h⟩
          · rfl
          · cases h
        rw [tM]
        refine ExD.wk ?_ wk1
        by_cases h0 : i = 0
        · have hI : ((i : Int) == 0) = true := by rw [h0]; rfl
          rw [if_pos h0]
          exact ExD.cons (ExS.ite (TsD.eq (TsD.cmp cxF (EvD.name (vdF rfl)) EvD.int CmpD.eqI rfl) hI) (fun _ => ExD.cons (ExS.app EvD.str fm_len rfl rfl rfl rfl) ExD.nil) nofun) ExD.nil
        · have hI : ((i : Int) == 0) = false := by simpa using h0
          rw [if_neg h0]
          exact ExD.cons (ExS.ite (TsD.eq (TsD.cmp cxF (EvD.name (vdF rfl)) EvD.int CmpD.eqI rfl) hI) nofun (fun _ => ExD.cons (ExS.app EvD.str fm_len rfl rfl rfl rfl) ExD.nil)) ExD.nil
    · refine ExD.freeze (ExD.eq (ExD.ret (EvD.meth cxF EvD.str (fun A s t Q E h => GM.join h) (EvsD.cons cxF (EvD.name (vdF rfl)) EvsD.nil rfl) (FnB.join (ys := fmd m) (fmd_fits m)) rfl rfl (fun _ => rfl))) ?_)
      rfl
end
end Mine
end

section
open PySem PySem.W PyProof.Rows PySem.Calls PySem.Spec
set_option Elab.async false
set_option maxRecDepth 100000
namespace Mine
section
variable {prog : Program} {w : World} {K : Frag} {Γ : G → Heap → Prop} {n : Nat} {env : Env}
theorem EvD.gint {x : Str} {pos : Pos} {i : Int} {t : Tok} (cx : Cx K Γ) (fe : Fe env) (hx : env.kindOf x = some .globalImplicit) (e : nsIn K mainGlobals x = some (some (.int i t))) (hd : (x == ("__debug__" : Str)) = false) : EvD prog w Γ n env (.Name x pos) (.int i) := fun A s g E _ hs hΓ =>
  ev_global (cx.top hΓ) fe hx e hd ⟨keeps_refl s, g, Grow.refl hs, .int _ _⟩
end
theorem ExS.cast {prog : Program} {w : World} {K : Frag} {n : Nat} {env : Env} {ρ : Loc} {ml : Option ML} {st : Stmt} {o o' : Out} (h : ExS prog w K n env ρ ml st o) (e : o = o') : ExS prog w K n env ρ ml st o' := e ▸ h
abbrev dB (l : List Bool) : PyData := .list (l.map PyData.bool)
abbrev dBB (l : List (List Bool)) : PyData := .list (l.map dB)
abbrev dI (l : List Int) : PyData := .list (l.map PyData.int)
/-- the rights laid together -/
def laidN (rights : List Int) (row : List Bool) : Nat → Int
  | 0 => 32768
  | k + 1 => if row.getD k false then Builtin.bitOr (laidN rights row k) (rights.getD k 0) else laidN rights row k
def lsd (rights : List Int) (row : List Bool) : Str := Txt.join (Str.ofString "") (fmd (laidN rights row row.length))
section
variable {prog : Program} {w : World} {n : Nat}
abbrev lL (said : List (List Bool)) (rights : List Int) (i : Nat) : Loc := [(Str.ofString "listed", dS ((said.take i).map (lsd rights))), (Str.ofString "said", dBB said), (Str.ofString "rights", dI rights)]
set_option maxHeartbeats 2000000 in
theorem fn166 {said : List (List Bool)} {rights : List Int} (h1 : said.length ≤ 100) (h2 : ∀ row ∈ said, row.length ≤ rights.length ∧ row.length ≤ 100) : FnD prog w (KK w.params) (n + 3) 166 [dBB said, dI rights] (dS (said.map (lsd rights))) := by
  refine FnD.intro (xs := [Str.ofString "said", Str.ofString "rights"]) rfl rfl rfl rfl (fun vs h => ?_) rfl rfl ?_ ?_ ?_ rfl rfl rfl ?_
  · match vs, h with
    | [a, b], _ => rfl
  · intro L x hx; left; revert x; decide
  · decide
  · decide
  · intro L
    refine ExD.cons (ExS.asg (EvD.list EvsD.nil (by decide)) rfl (.inl rfl) rfl nofun) ?_
    refine ExD.cons (ρ' := lL said rights (said.map dB).length) (ml' := none) (ExS.forN (items := said.map dB) (lL said rights) (fun _ => none) (ItD.list (EvD.name (vdF rfl))) rfl (.inl rfl) (fun _ => rfl) (fun _ _ => nofun) (fun i d hd => ?_)) ?_
    · rw [List.getElem?_map] at hd
      obtain ⟨row, hr, rfl⟩ := Option.map_eq_some_iff.mp hd
      obtain ⟨hl, hl'⟩ := h2 row (List.mem_of_getElem? hr)
      refine ExD.cons (ExS.asg (EvD.gint (i := 32768) cxF ⟨rfl, rfl, rfl⟩ rfl rfl rfl) rfl (.inl rfl) rfl nofun) ?_
      have hrl : (rng ((row.map PyData.bool).length : Nat)).length = row.length := by simp [rng]
      refine ExD.cons (ρ' := (Str.ofString "laid", .int (laidN rights row row.length)) :: (Str.ofString "row", dB row) :: lL said rights i) (ml' := none) ?_ ?_
      · refine ExS.cast (ExS.forN (x := Str.ofString "k") (items := rng ((row.map PyData.bool).length : Nat)) (fun j => (Str.ofString "laid", .int (laidN rights row j)) :: (Str.ofString "row", dB row) :: lL said rights i) (fun _ => none)
          (ItD.range (m := ((row.map PyData.bool).length : Nat)) ⟨rfl, rfl, rfl⟩ rfl nrange (EvD.lenL cxF ⟨rfl, rfl, rfl⟩ rfl (EvD.name (vdF rfl)) (by rw [List.length_map]; omega) rfl) (by omega) (by rw [List.length_map]; omega) rfl) rfl (.inl rfl) (fun _ => rfl) (fun _ _ => nofun) (fun j d hd => ?_)) (by rw [hrl])
        unfold rng at hd
        rw [List.getElem?_map] at hd
        obtain ⟨j', hj', rfl⟩ := Option.map_eq_some_iff.mp hd
        obtain ⟨hj, e⟩ := List.getElem?_eq_some_iff.mp hj'
        have : j' = j := by simpa using e.symm
        subst this
        have hj : j' < row.length := by simpa using hj
        have hb : (row.map PyData.bool)[((j' : Nat) : Int).toNat]? = some (.bool (row.getD j' false)) := by
          rw [Int.toNat_natCast, List.getElem?_map, List.getD_eq_getElem?_getD, List.getElem?_eq_getElem hj]; rfl
        have hi : (rights.map PyData.int)[((j' : Nat) : Int).toNat]? = some (.int (rights.getD j' 0)) := by
          rw [Int.toNat_natCast, List.getElem?_map, List.getD_eq_getElem?_getD, List.getElem?_eq_getElem (Nat.lt_of_lt_of_le hj hl)]; rfl
        refine ExD.wk (ρ1 := (Str.ofString "laid", .int (laidN rights row (j' + 1))) :: (Str.ofString "k", .int j') :: (Str.ofString "laid", .int (laidN rights row j')) :: (Str.ofString "row", dB row) :: lL said rights i) ?_ ?_
        · refine ExD.cons (ExS.asg (EvD.eq (EvD.ite (d1 := .int (Builtin.bitOr (laidN rights row j') (rights.getD j' 0))) (d2 := .int (laidN rights row j')) cxF (TsD.value (EvD.item cxF (EvD.name (vdF rfl)) (EvD.name (vdF rfl)) (by omega) (by omega) hb (fun _ _ => rfl)) TruthD.bool rfl)
            (fun _ => EvD.bin cxF (EvD.name (vdF rfl)) (EvD.item cxF (EvD.name (vdF rfl)) (EvD.name (vdF rfl)) (by omega) (by omega) hi (fun _ _ => rfl)) BinD.bor) (fun _ => EvD.name (vdF rfl))) ?_) rfl (.inl rfl) rfl nofun) ExD.nil
          rw [laidN]
          split <;> rfl
        · intro p hp
          rcases hp with _ | ⟨_, _ | ⟨_, _ | ⟨_, _ | ⟨_, _ | ⟨_, h⟩⟩⟩⟩⟩
          iterate 5 rfl
          cases h
      · refine ExD.wk (ρ1 := (Str.ofString "listed", dS ((said.take (i + 1)).map (lsd rights))) :: (Str.ofString "laid", .int (laidN rights row row.length)) :: (Str.ofString "row", dB row) :: lL said rights i) ?_ ?_
        · refine ExD.cons (ExS.asg (EvD.eq (EvD.bin cxF (EvD.name (vdF rfl)) (EvD.list (EvsD.cons cxF (EvD.call cxF ⟨rfl, rfl, rfl⟩ rfl n135 d135 rfl (EvsD.cons cxF (EvD.name (vdF rfl)) EvsD.nil rfl) fn135 rfl) EvsD.nil rfl) (show 1 ≤ sizeLine by decide)) (BinD.lists ?_)) ?_) rfl (.inl rfl) rfl nofun) ExD.nil
          · rw [List.length_map, List.length_map, List.length_take]
            have : 200 ≤ sizeLine := by decide
            show min i said.length + 1 ≤ sizeLine
            omega
          · rw [List.take_add_one, hr, List.map_append]
            unfold dS
            rw [List.map_append]
            rfl
        · intro p hp
          rcases hp with _ | ⟨_, _ | ⟨_, _ | ⟨_, h⟩⟩⟩
          iterate 3 rfl
          cases h
    · refine ExD.eq (ExD.ret (EvD.name (vdF rfl))) ?_
      rw [List.length_map, List.take_length]
end
end Mine
end

section
open PySem PySem.W PyProof.Rows PySem.Calls PySem.Spec
set_option Elab.async false
set_option maxRecDepth 100000
namespace Mine
section
variable {prog : Program} {w : World} {K : Frag} {Γ : G → Heap → Prop} {n : Nat} {env : Env}
/-- a block, whatever takes its value -/
def CpD (prog : Program) (w : World) (Γ : G → Heap → Prop) (n : Nat) (env : Env) (elt target iter : Expr) (ifs : List Expr) (scope : Scope) (pos : Pos) (d : PyData) : Prop :=
  ∀ A s g E p' use Q, Good n A → Sub g s.heap → Γ g s.heap →
    (∀ D C s' g', Keeps s s' → (∃ m, s'.heap.Ns C m) → s.heap.get? C = none → g' C = none → Grow g s.heap g' s'.heap → R g' (.ref D) d → compPost (model prog w) A E use Q (.ref D) C (.ok .next) s') →
    wpAny (model prog w) A (comprehension (.ListComp elt [⟨target, iter, ifs, 0⟩] scope pos) scope env p' (newList []) false (eval iter env) use) Q E s
theorem CpD.compT {δ : Type} {elt target iter : Expr} {ifs : List Expr} {scope : Scope} {pos : Pos} {cl : List (Str × Addr)}
    {own : Addr → List Addr} {OwnOk : Addr → Heap → Prop} {Bd : Env → δ → G → Heap → Prop} {p : δ → Bool} {f : δ → PyData} {items : List δ} (cx : Cx K Γ)
    (src : SrcT prog w Γ n env scope cl iter target items own OwnOk Bd) (T : Tg env scope own OwnOk Bd)
    (hsz : items.length ≤ sizeLine) (hclos : closureFor scope env = pure cl) (hkind : scope.kind = .function) (hnames : ∀ y ∈ scope.names, y.2 = .local → scope.names.lookup y.1 = some .local)
    (hfs : ∀ x, foldedSetIterable iter env x = pure x)
    (tests : ∀ C, ∀ d ∈ items, TestsD prog w (fun g h => Γ g h ∧ Bd (compEnvC scope (cellsFrom (C + 1) scope.names cl) C env) d g h) n (compEnvC scope (cellsFrom (C + 1) scope.names cl) C env) ifs (p d))
    (helt : ∀ C, ∀ d ∈ items, p d = true → EvD prog w (fun g h => Γ g h ∧ Bd (compEnvC scope (cellsFrom (C + 1) scope.names cl) C env) d g h) n (compEnvC scope (cellsFrom (C + 1) scope.names cl) C env) elt (f d)) :
    CpD prog w Γ n env elt target iter ifs scope pos (.list ((items.filter p).map f)) := fun A s g E p' use Q hA hs hΓ hQ =>
  comp_treeT cx src T hsz hclos hkind hnames hfs tests helt hA hs hΓ hQ
theorem CpD.ev {elt target iter : Expr} {ifs : List Expr} {scope : Scope} {pos : Pos} {d : PyData} (h : CpD prog w Γ n env elt target iter ifs scope pos d) : EvD prog w Γ n env (.ListComp elt [⟨target, iter, ifs, 0⟩] scope pos) d := fun A s g E hA hs hΓ => by
  show wpAny _ _ (eval _ _) _ _ _
  rw [eval_ListComp]
  refine h A s g E _ none _ hA hs hΓ fun D C s' g' hk hn hC gC gr r => ?_
  obtain ⟨m, hn⟩ := hn
  obtain ⟨h', tk, rfl, k⟩ := hk
  refine ⟨m, hn, fun h'' hs'' => ?_⟩
  have x' : Ext s.heap h'' := fun b o e => hs''.extBut b o (fun q => by rw [q, hC] at e; cases e) (gr.keep b o e)
  exact ⟨⟨h'', tk, rfl, x'⟩, g', gr.shift x' fun a o e => hs''.extBut a o (fun q => by rw [q, gC] at e; cases e) (gr.sub a o e), r⟩
theorem CpD.eq {elt target iter : Expr} {ifs : List Expr} {scope : Scope} {pos : Pos} {d d' : PyData} (h : CpD prog w Γ n env elt target iter ifs scope pos d) (e : d = d') : CpD prog w Γ n env elt target iter ifs scope pos d' := e ▸ h
theorem CpD.compL {elt iter : Expr} {scope : Scope} {x : Str} {px pos : Pos} {cl : List (Str × Addr)} {tup : Bool} {items : List PyData} {f : PyData → PyData} (cx : Cx K Γ) (src : SrcD prog w Γ n env iter tup items (fun g d v => R g v d))
    (hx : scope.names.lookup x = some .local) (hd : (x == ("__debug__" : Str)) = false) (hp : ∀ h : Heap, pushCells h scope.names = h) (hsz : items.length ≤ sizeLine) (hclos : closureFor scope env = pure cl) (hkind : scope.kind = .function)
    (hnames : ∀ y ∈ scope.names, y.2 = .local → scope.names.lookup y.1 = some .local) (hfs : ∀ x, foldedSetIterable iter env x = pure x)
    (helt : ∀ C, ∀ d ∈ items, EvD prog w (Wth Γ (compEnvC scope (cellsFrom (C + 1) scope.names cl) C env) x d) n (compEnvC scope (cellsFrom (C + 1) scope.names cl) C env) elt (f d)) :
    CpD prog w Γ n env elt (.Name x px) iter [] scope pos (.list (items.map f)) := by
  have T : Tgt prog w env scope cl n (.Name x px) tup (fun C => [C]) (fun C h => ∃ m, h.Ns C m) (fun g (d : PyData) v => R g v d) (fun cenv d g h => ∃ v, VarIs cenv h x v ∧ R g v d) := by
    have T := Tgt.local (prog := prog) (w := w) (env := env) (n := n) (px := px) (cl := cl) hkind hx hd hp
    exact ⟨T.O, T.atC, T.hasC, T.start, T.ns, T.bup, T.ivup, fun A C it v d s g Q E hA _ => T.asg A C it v d s g Q E hA (fun h => nomatch h)⟩
  have := CpD.compT (p := fun _ => true) (f := f) (pos := pos) cx (src.join T) T.tg hsz hclos hkind hnames hfs (fun C d _ => TestsD.nil) (fun C d hd _ => helt C d hd)
  rwa [filter_yes] at this
theorem CpD.compC {elt iter : Expr} {scope : Scope} {x : Str} {px pos : Pos} {cl : List (Str × Addr)} {tup : Bool} {items : List PyData} {f : PyData → PyData} (cx : Cx K Γ) (src : SrcD prog w Γ n env iter tup items (fun g d v => R g v d))
    (hx : ∀ C cs, (compEnvC scope cs C env).kindOf x = some .cell) (hd : (x == ("__debug__" : Str)) = false) (hp : ∀ h : Heap, pushCells h scope.names = h.push { cls := .type "cell", data := .cell none })
    (hc : ∀ C, (cellsFrom (C + 1) scope.names cl).lookup x = some (C + 1)) (hsz : items.length ≤ sizeLine) (hclos : closureFor scope env = pure cl) (hkind : scope.kind = .function)
    (hnames : ∀ y ∈ scope.names, y.2 = .local → scope.names.lookup y.1 = some .local) (hfs : ∀ x, foldedSetIterable iter env x = pure x)
    (helt : ∀ C, ∀ d ∈ items, EvD prog w (Wth Γ (compEnvC scope (cellsFrom (C + 1) scope.names cl) C env) x d) n (compEnvC scope (cellsFrom (C + 1) scope.names cl) C env) elt (f d)) :
    CpD prog w Γ n env elt (.Name x px) iter [] scope pos (.list (items.map f)) := by
  have T : Tgt prog w env scope cl n (.Name x px) tup (fun C => [C, C + 1]) (fun C h => (∃ m, h.Ns C m) ∧ ∃ v, h.IsCell (C + 1) v) (fun g (d : PyData) v => R g v d) (fun cenv d g h => ∃ v, VarIs cenv h x v ∧ R g v d) := by
    have T := Tgt.cell (prog := prog) (w := w) (env := env) (n := n) (px := px) (cl := cl) hkind hx hd hp hc
    exact ⟨T.O, T.atC, T.hasC, T.start, T.ns, T.bup, T.ivup, fun A C it v d s g Q E hA _ => T.asg A C it v d s g Q E hA (fun h => nomatch h)⟩
  have := CpD.compT (p := fun _ => true) (f := f) (pos := pos) cx (src.join T) T.tg hsz hclos hkind hnames hfs (fun C d _ => TestsD.nil) (fun C d hd _ => helt C d hd)
  rwa [filter_yes] at this
/-- y = [ ... ] where the store comes ahead of the letting go -/
theorem ExS.asgC {ρ : Loc} {elt target iter : Expr} {ifs : List Expr} {scope : Scope} {pos spos py : Pos} {y : Str} {d : PyData} (h : CpD prog w (ΓF K env ρ) n env elt target iter ifs scope pos d)
    (hsw : swapsWith (.ListComp elt [⟨target, iter, ifs, 0⟩] scope pos) (some (.Name y py)) spos.line env = pure true) (hd : (y == ("__debug__" : Str)) = false) (hy : env.kindOf y = some .local) :
    ExS prog w K n env ρ none (.Assign [.Name y py] (.ListComp elt [⟨target, iter, ifs, 0⟩] scope pos) spos) (.next ((y, d) :: ρ) none) := fun A s₀ g₀ g s E hA t F => by
  rw [exec_Assign_Name_used _ _ _ _ hsw]
  refine wpAny_bind (wpAny_standAt (wpAny_bind ?_))
  show wpAny _ A (do let _ ← comprehension (.ListComp elt [⟨target, iter, ifs, 0⟩] scope pos) scope env _ (newList []) false (eval iter env) (some (assign (.Name y py) env))) _ _ s
  refine wpAny_bind (wpAny_mono (h A s g E _ (some (assign (.Name y py) env)) (fun _ s' => OutIs s₀ g₀ env s' .next (.next ((y, d) :: ρ) none)) hA F.grow.sub (F.Γ t) fun D C s' g' hk hn hC gC gr r => ?_) (fun _ s' hq => wpAny_pure (wpAny_pure hq)) fun _ _ e => e)
  obtain ⟨m, hn⟩ := hn
  obtain ⟨mm, cm, I, _⟩ := F.inc
  have hL : env.locals ≠ C := fun q => by obtain ⟨o, _, _, e, _⟩ := I.toInCall.ns; rw [q, hC] at e; cases e
  have hc : ∀ n c, env.cells.lookup n = some c → c ≠ C := fun n c q z => by obtain ⟨o, e, _⟩ := I.cell n c q; rw [z, hC] at e; cases e
  have h0 : s₀.heap.get? C = none := by
    cases e : s₀.heap.get? C with
    | none => rfl
    | some o => rw [F.grow.keep C o e] at hC; cases hC
  refine wpAny_assign_Name ((F.up hk gr).store hd (.inl hy) r (fun _ e => nomatch e) fun s2 _ F2 x2 => ⟨m, hn.at' fun o e => x2 C o (Ne.symm hL) (fun n c q => Ne.symm (hc n c q)) e, fun h' hs' => ?_⟩)
  exact ⟨rfl, g', F2.other (tk := s2.toks) hs' h0 gC hL hc rfl⟩
/-! zip -/
theorem zipApart (Z l1 l2 : Nat) (h1 : l1 < Z) (h2 : l2 < Z) : ZipApart (Z + 4) (Z + 2) (Z + 3) Z (Z + 1) l1 l2 := by
  have a : ∀ {x y : Nat}, x < y → x ≠ y := fun h => Nat.ne_of_lt h
  have b : ∀ {x y : Nat}, y < x → x ≠ y := fun h => Nat.ne_of_gt h
  exact ⟨a (by omega), a (by omega), a (by omega), a (by omega), a (by omega), b (by omega), b (by omega), b (by omega), b (by omega), a (by omega), a (by omega), a (by omega), a (by omega), a (by omega), a (by omega), a (by omega), a (by omega), a (by omega)⟩
abbrev Two (x y : Str) : Env → PyData × PyData → G → Heap → Prop := fun cenv d g h => (∃ v, VarIs cenv h x v ∧ R g v d.1) ∧ ∃ v, VarIs cenv h y v ∧ R g v d.2
theorem SrcT.zip {x y : Str} {px py tp np pos : Pos} {k : Nat} {e1 e2 : Expr} {ds1 ds2 : List PyData} {scope : Scope} {cl : List (Str × Addr)} (cx : Cx K Γ) (fe : Fe env) (hz : env.kindOf (Str.ofString "zip") = some .globalImplicit) (hn : nsIn K mainGlobals (Str.ofString "zip") = some none)
    (h1 : EvD prog w Γ n env e1 (.list ds1)) (h2 : EvD prog w Γ n env e2 (.list ds2)) (he1 : starEach [e1, e2] env = (false, eval e1 env) :: starEach [e2] env) (he2 : starEach [e2] env = (false, eval e2 env) :: starEach [] env) (hp1 : ∀ pos, (backTo pos (starEach [e2] env)).any (·.1) = false)
    (hkind : scope.kind = .function) (hx : scope.names.lookup x = some .local) (hy : scope.names.lookup y = some .local) (hxy : x ≠ y) (hdx : (x == ("__debug__" : Str)) = false) (hdy : (y == ("__debug__" : Str)) = false) :
    SrcT prog w Γ n env scope cl (.Call (.Name (Str.ofString "zip") np) [e1, e2] [] pos) (.Tuple [.Name x px, .Name y py] k tp) (ds1.zip ds2) (fun C => [C]) (fun C h => ∃ m, h.Ns C m) (Two x y) := fun A s g E hA hs hΓ => by
  refine Call_ (ev_builtin (cx.top hΓ) fe hz hn boot_zip (by decide) rfl (PyProof.Rows.callWith_type1 (args_cons (wpAny_mono (h1 A s g E hA hs hΓ) (fun v1 s₁ ⟨k1, g1, w1, r1⟩ => args_cons (wpAny_mono (h2 A s₁ g1 E hA w1.sub (cx.up w1 hΓ)) (fun v2 s₂ ⟨k2, g2, w2, r2⟩ => args_nil ?_) fun _ _ e => e) he2) fun _ _ e => e) he1) he1 (hp1 pos)))
  have q1 := r1.up w2
  cases q1 with
  | @list l1 xs n1 _ hg1 rl1 =>
    cases r2 with
    | @list l2 ys n2 _ hg2 rl2 =>
      have hl1 : s₂.heap.IsList l1 xs := ⟨_, w2.sub _ _ hg1, rfl, _, rfl⟩
      have hl2 : s₂.heap.IsList l2 ys := ⟨_, w2.sub _ _ hg2, rfl, _, rfl⟩
      have lt1 : l1 < s₂.heap.objs.size := Heap.lt_size (w2.sub _ _ hg1)
      have lt2 : l2 < s₂.heap.objs.size := Heap.lt_size (w2.sub _ _ hg2)
      refine call_zip_2 hl1 hl2 fun h' z ti to i1 i2 sz kp => wpAny_pyIter_zip (s := { s₂ with heap := h' }) z ?_
      have none' : ∀ a, s₂.heap.objs.size ≤ a → s₂.heap.get? a = none := fun a ha => by
        cases q : s₂.heap.get? a with
        | none => rfl
        | some o' => exact absurd (Heap.lt_size q) (Nat.not_lt.mpr ha)
      generalize hZ : s₂.heap.objs.size = Z at *
      have D : ZipApart (Z + 4) (Z + 2) (Z + 3) Z (Z + 1) l1 l2 := zipApart Z l1 l2 lt1 lt2
      have W := WalksT.zip2 (prog := prog) (w := w) hA.1 (Z + 4) (Z + 2) (Z + 3) Z (Z + 1) l1 l2 D xs ys
      have hN : (ds1.zip ds2).length = min xs.size ys.size := by rw [List.length_zip, ← rl1.length, ← rl2.length]; simp
      have gr := w1.trans w2
      refine ⟨keeps_trans (keeps_trans k1 k2) ⟨h', s₂.toks, rfl, kp⟩, g2, s₂.heap, Z + 4, _, _, _, rfl, W.sub, W.frame, ?_, W.self, ⟨z, ti, ⟨_, _, to⟩, i1, i2, hl1.at fun o e => kp _ o e, hl2.at fun o e => kp _ o e⟩, gr, kp, ?_, ?_, ?_, ?_⟩
      · rw [hN]; exact W.done
      · intro b hb
        refine none' b ?_
        rcases List.mem_cons.mp hb with rfl | hb
        · omega
        rcases List.mem_cons.mp hb with rfl | hb
        · omega
        rcases List.mem_cons.mp hb with rfl | hb
        · omega
        · rw [List.mem_singleton.mp hb]; omega
      · intro b hb
        show b < h'.objs.size
        rw [sz]
        simp only [List.mem_cons, List.not_mem_nil, or_false] at hb
        rcases hb with rfl | rfl | rfl | rfl | rfl | rfl | rfl <;> first | exact Nat.add_lt_add_left (by decide) Z | exact Nat.lt_add_of_pos_right (by decide) | exact Nat.lt_of_lt_of_le lt1 (Nat.le_add_right ..) | exact Nat.lt_of_lt_of_le lt2 (Nat.le_add_right ..)
      · rintro i h ⟨a1, a2, ⟨a, b, a3⟩, ⟨o4, a4, _⟩, ⟨o5, a5, _⟩, _⟩ b hb
        rcases List.mem_cons.mp hb with rfl | hb
        · exact ⟨_, a1⟩
        rcases List.mem_cons.mp hb with rfl | hb
        · exact ⟨_, a3⟩
        rcases List.mem_cons.mp hb with rfl | hb
        · exact ⟨_, a4⟩
        · rw [List.mem_singleton.mp hb]; exact ⟨_, a5⟩
      · intro C i d sx gx Q E hof hi hd hle hsx hgo hgw hstx ⟨m, hnC⟩ kk
        rw [hN] at hi
        refine W.item i _ _ _ hi hstx fun T vals ha tka hPt hT hIs hMid hka => ⟨_, rfl, ?_⟩
        have hTw := W.apart _ _ _ hMid
        refine W.go _ _ _ i T { sx with heap := ha, toks := tka } _ _ hMid fun hb stb hkb => ?_
        obtain ⟨vx, vy, hvx, hvy, rfl⟩ := hPt
        have hCw : C ∉ [Z + 4, Z + 3, Z, Z + 1] := fun h => hof C (List.mem_singleton.mpr rfl) (W.sub _ h)
        have IsB : hb.IsTuple T #[vx, vy] := hIs.at fun o e => hkb T o hTw e
        refine wpAny_assign_Tuple (s := { sx with heap := hb, toks := tka }) hA.1 IsB rfl rfl fun hc hkc => ?_
        have xc : Ext hb hc := ext_but hkc
        show wpAny _ _ (holding [vy] (assign (.Name x px) _ vx) >>= fun _ => holding [] (assign (.Name y py) _ vy) >>= fun _ => pure ()) _ _ _
        have nsc : hc.Ns C m := ((hnC.at' fun o e => hka C o hCw e).at' fun o e => hkb C o hCw e).keeps xc
        refine wpAny_bind (wpAny_holding (wpAny_assign_Name (wpAny_storeName_local (lookup_relabel_local hx) nsc (fun h2 hn2 hs2 => ?_) (by show (scope.kind == .class || (scope.kind == .module && _)) = false; rw [hkind]; rfl))))
        refine wpAny_bind (wpAny_holding (wpAny_assign_Name (wpAny_storeName_local (lookup_relabel_local hy) hn2 (fun h3 hn3 hs3 => wpAny_pure ?_) (by show (scope.kind == .class || (scope.kind == .module && _)) = false; rw [hkind]; rfl))))
        obtain ⟨d1, ed1, rd1⟩ := rl1.get (i := i) (v := vx) (by simpa using hvx)
        obtain ⟨d2, ed2, rd2⟩ := rl2.get (i := i) (v := vy) (by simpa using hvy)
        have hdd : d = (d1, d2) := by
          rw [List.getElem?_zip_eq_some] at hd
          obtain ⟨a, b⟩ := hd
          rw [ed1] at a; rw [ed2] at b
          cases a; cases b; rfl
        subst hdd
        have up3 : ∀ b o, b ≠ C → hb.get? b = some o → h3.get? b = some o := fun b o hbC e => hs3.extBut b o hbC (hs2.extBut b o hbC (xc b o e))
        refine kk h3 _ (fun b o hb1 hb2 e => up3 b o (fun q => hb1 (List.mem_singleton.mpr q)) (hkb b o hb2 (hka b o hb2 e))) (W.frame _ _ _ stb fun b hbf o e => up3 b o (fun q => hof b (List.mem_singleton.mpr q) hbf) e) ⟨_, hn3⟩
          ⟨⟨vx, ⟨hkind, hdx, .inl ⟨lookup_relabel_local hx, _, hn3, ?_⟩⟩, rd1.mono hle⟩, vy, ⟨hkind, hdy, .inl ⟨lookup_relabel_local hy, _, hn3, ?_⟩⟩, rd2.mono hle⟩
        · simp [hxy]
        · simp
end
end Mine
end

section
open PySem PySem.W PyProof.Rows PySem.Calls PySem.Spec
set_option Elab.async false
set_option maxRecDepth 100000
namespace Mine
section
variable {prog : Program} {w : World} {K : Frag} {Γ : G → Heap → Prop} {n : Nat} {env : Env}
theorem SrcD.map {α δ : Type} {iter : Expr} {tup : Bool} {l : List α} {inj : α → δ} {Iv : G → δ → Value → Prop} (src : SrcD prog w Γ n env iter tup (l.map inj) Iv) : SrcD prog w Γ n env iter tup l (fun g a v => Iv g (inj a) v) := fun A s g E hA hs hΓ =>
  wpAny_mono (src A s g E hA hs hΓ) (fun xv s₁ h₁ => wpAny_mono h₁ (fun it s₂ h₂ => by
    obtain ⟨k, g₁, h₁, I, fp, wr, P, St, e, W, hst, gr, x1, h1w, hfp, live, lo, hP⟩ := h₂
    rw [List.length_map] at W
    exact ⟨k, g₁, h₁, I, fp, wr, P, St, e, W, hst, gr, x1, h1w, hfp, live, lo, fun i v d pv hd => hP i v (inj d) pv (by rw [List.getElem?_map, hd]; rfl)⟩) fun _ _ e => e) fun _ _ e => e
theorem Tgt.map {α δ : Type} {target : Expr} {scope : Scope} {cl : List (Str × Addr)} {tup : Bool} {own : Addr → List Addr} {OwnOk : Addr → Heap → Prop} {Iv : G → δ → Value → Prop} {Bd : Env → δ → G → Heap → Prop} (inj : α → δ) (T : Tgt prog w env scope cl n target tup own OwnOk Iv Bd) :
    Tgt prog w env scope cl n target tup own OwnOk (fun g a v => Iv g (inj a) v) (fun cenv a g h => Bd cenv (inj a) g h) :=
  ⟨T.O, T.atC, T.hasC, T.start, T.ns, fun cenv d g h g' h' => T.bup cenv (inj d) g h g' h', fun d v g g' => T.ivup (inj d) v g g', fun A C it v d s g Q E => T.asg A C it v (inj d) s g Q E⟩
theorem Tgt.un {δ : Type} {x : Str} {px : Pos} {scope : Scope} {cl : List (Str × Addr)} {tup : Bool} {own : Addr → List Addr} {OwnOk : Addr → Heap → Prop} {Iv : G → δ → Value → Prop} {Bd : Env → δ → G → Heap → Prop} (T : Tgt prog w env scope cl n (.Name x px) false own OwnOk Iv Bd) :
    Tgt prog w env scope cl n (.Name x px) tup own OwnOk Iv Bd := ⟨T.O, T.atC, T.hasC, T.start, T.ns, T.bup, T.ivup, fun A C it v d s g Q E hA _ => T.asg A C it v d s g Q E hA (fun h => nomatch h)⟩
/-- [elt for x in iter if c], over data of any kind -/
theorem CpD.loc {α : Type} {elt iter : Expr} {ifs : List Expr} {scope : Scope} {x : Str} {px pos : Pos} {cl : List (Str × Addr)} {tup : Bool} {l : List α} {inj : α → PyData} {p : α → Bool} {f : α → PyData} (cx : Cx K Γ) (src : SrcD prog w Γ n env iter tup (l.map inj) (fun g d v => R g v d))
    (hx : scope.names.lookup x = some .local) (hd : (x == ("__debug__" : Str)) = false) (hp : ∀ h : Heap, pushCells h scope.names = h) (hsz : l.length ≤ sizeLine) (hclos : closureFor scope env = pure cl) (hkind : scope.kind = .function)
    (hnames : ∀ y ∈ scope.names, y.2 = .local → scope.names.lookup y.1 = some .local) (hfs : ∀ x, foldedSetIterable iter env x = pure x)
    (tests : ∀ C, ∀ d ∈ l, TestsD prog w (Wth Γ (compEnvC scope (cellsFrom (C + 1) scope.names cl) C env) x (inj d)) n (compEnvC scope (cellsFrom (C + 1) scope.names cl) C env) ifs (p d))
    (helt : ∀ C, ∀ d ∈ l, p d = true → EvD prog w (Wth Γ (compEnvC scope (cellsFrom (C + 1) scope.names cl) C env) x (inj d)) n (compEnvC scope (cellsFrom (C + 1) scope.names cl) C env) elt (f d)) :
    CpD prog w Γ n env elt (.Name x px) iter ifs scope pos (.list ((l.filter p).map f)) :=
  have T := (Tgt.local (prog := prog) (w := w) (env := env) (n := n) (px := px) (cl := cl) hkind hx hd hp).un (tup := tup)
  CpD.compT (p := p) (f := f) (pos := pos) cx (src.map.join (T.map inj)) (T.map inj).tg hsz hclos hkind hnames hfs tests helt
theorem CpD.cel {α : Type} {elt iter : Expr} {ifs : List Expr} {scope : Scope} {x : Str} {px pos : Pos} {cl : List (Str × Addr)} {tup : Bool} {l : List α} {inj : α → PyData} {p : α → Bool} {f : α → PyData} (cx : Cx K Γ) (src : SrcD prog w Γ n env iter tup (l.map inj) (fun g d v => R g v d))
    (hclos : closureFor scope env = pure cl) (hx : ∀ C cs, (compEnvC scope cs C env).kindOf x = some .cell) (hd : (x == ("__debug__" : Str)) = false) (hp : ∀ h : Heap, pushCells h scope.names = h.push { cls := .type "cell", data := .cell none })
    (hc : ∀ C, (cellsFrom (C + 1) scope.names cl).lookup x = some (C + 1)) (hsz : l.length ≤ sizeLine) (hkind : scope.kind = .function)
    (hnames : ∀ y ∈ scope.names, y.2 = .local → scope.names.lookup y.1 = some .local) (hfs : ∀ x, foldedSetIterable iter env x = pure x)
    (tests : ∀ C, ∀ d ∈ l, TestsD prog w (Wth Γ (compEnvC scope (cellsFrom (C + 1) scope.names cl) C env) x (inj d)) n (compEnvC scope (cellsFrom (C + 1) scope.names cl) C env) ifs (p d))
    (helt : ∀ C, ∀ d ∈ l, p d = true → EvD prog w (Wth Γ (compEnvC scope (cellsFrom (C + 1) scope.names cl) C env) x (inj d)) n (compEnvC scope (cellsFrom (C + 1) scope.names cl) C env) elt (f d)) :
    CpD prog w Γ n env elt (.Name x px) iter ifs scope pos (.list ((l.filter p).map f)) :=
  have T := (Tgt.cell (prog := prog) (w := w) (env := env) (n := n) (px := px) (cl := cl) hkind hx hd hp hc).un (tup := tup)
  CpD.compT (p := p) (f := f) (pos := pos) cx (src.map.join (T.map inj)) (T.map inj).tg hsz hclos hkind hnames hfs tests helt
theorem CpD.loc0 {α : Type} {elt iter : Expr} {scope : Scope} {x : Str} {px pos : Pos} {cl : List (Str × Addr)} {tup : Bool} {l : List α} {inj : α → PyData} {f : α → PyData} (cx : Cx K Γ) (src : SrcD prog w Γ n env iter tup (l.map inj) (fun g d v => R g v d))
    (hx : scope.names.lookup x = some .local) (hd : (x == ("__debug__" : Str)) = false) (hp : ∀ h : Heap, pushCells h scope.names = h) (hsz : l.length ≤ sizeLine) (hclos : closureFor scope env = pure cl) (hkind : scope.kind = .function)
    (hnames : ∀ y ∈ scope.names, y.2 = .local → scope.names.lookup y.1 = some .local) (hfs : ∀ x, foldedSetIterable iter env x = pure x)
    (helt : ∀ C, ∀ d ∈ l, EvD prog w (Wth Γ (compEnvC scope (cellsFrom (C + 1) scope.names cl) C env) x (inj d)) n (compEnvC scope (cellsFrom (C + 1) scope.names cl) C env) elt (f d)) :
    CpD prog w Γ n env elt (.Name x px) iter [] scope pos (.list (l.map f)) :=
  (CpD.loc (p := fun _ => true) cx src hx hd hp hsz hclos hkind hnames hfs (fun _ _ _ => TestsD.nil) (fun C d hd _ => helt C d hd)).eq (by rw [filter_yes])
theorem CpD.cel0 {α : Type} {elt iter : Expr} {scope : Scope} {x : Str} {px pos : Pos} {cl : List (Str × Addr)} {tup : Bool} {l : List α} {inj : α → PyData} {f : α → PyData} (cx : Cx K Γ) (src : SrcD prog w Γ n env iter tup (l.map inj) (fun g d v => R g v d))
    (hclos : closureFor scope env = pure cl) (hx : ∀ C cs, (compEnvC scope cs C env).kindOf x = some .cell) (hd : (x == ("__debug__" : Str)) = false) (hp : ∀ h : Heap, pushCells h scope.names = h.push { cls := .type "cell", data := .cell none })
    (hc : ∀ C, (cellsFrom (C + 1) scope.names cl).lookup x = some (C + 1)) (hsz : l.length ≤ sizeLine) (hkind : scope.kind = .function)
    (hnames : ∀ y ∈ scope.names, y.2 = .local → scope.names.lookup y.1 = some .local) (hfs : ∀ x, foldedSetIterable iter env x = pure x)
    (helt : ∀ C, ∀ d ∈ l, EvD prog w (Wth Γ (compEnvC scope (cellsFrom (C + 1) scope.names cl) C env) x (inj d)) n (compEnvC scope (cellsFrom (C + 1) scope.names cl) C env) elt (f d)) :
    CpD prog w Γ n env elt (.Name x px) iter [] scope pos (.list (l.map f)) :=
  (CpD.cel (p := fun _ => true) cx src hclos hx hd hp hc hsz hkind hnames hfs (fun _ _ _ => TestsD.nil) (fun C d hd _ => helt C d hd)).eq (by rw [filter_yes])
/-- two names of the block's own -/
theorem cxTwo {x y : Str} {d : PyData × PyData} {cenv : Env} (cx : Cx K Γ) : Cx K (fun g h => Γ g h ∧ Two x y cenv d g h) := ⟨fun w' ⟨q, ⟨v, a, b⟩, v', a', b'⟩ => ⟨cx.up w' q, ⟨v, a.up w'.keep, b.up w'⟩, v', a'.up w'.keep, b'.up w'⟩, fun h => cx.top h.1⟩
theorem vdOne {x y : Str} {d : PyData × PyData} {cenv : Env} : VD (fun g h => Γ g h ∧ Two x y cenv d g h) cenv x d.1 := fun _ _ h => h.2.1
theorem vdOther {x y : Str} {d : PyData × PyData} {cenv : Env} : VD (fun g h => Γ g h ∧ Two x y cenv d g h) cenv y d.2 := fun _ _ h => h.2.2
theorem CpD.pairs {α : Type} {elt iter : Expr} {scope : Scope} {x y : Str} {px py tp pos : Pos} {k : Nat} {cl : List (Str × Addr)} {l : List α} {inj : α → PyData × PyData} {f : α → PyData} (cx : Cx K Γ) (src : SrcD prog w Γ n env iter true (l.map fun a => .list [(inj a).1, (inj a).2]) (fun g d v => R g v d))
    (hx : scope.names.lookup x = some .local) (hy : scope.names.lookup y = some .local) (hxy : x ≠ y) (hdx : (x == ("__debug__" : Str)) = false) (hdy : (y == ("__debug__" : Str)) = false) (hp : ∀ h : Heap, pushCells h scope.names = h) (hsz : l.length ≤ sizeLine) (hclos : closureFor scope env = pure cl) (hkind : scope.kind = .function)
    (hnames : ∀ y ∈ scope.names, y.2 = .local → scope.names.lookup y.1 = some .local) (hfs : ∀ x, foldedSetIterable iter env x = pure x)
    (helt : ∀ C, ∀ d ∈ l, EvD prog w (fun g h => Γ g h ∧ Two x y (compEnvC scope (cellsFrom (C + 1) scope.names cl) C env) (inj d) g h) n (compEnvC scope (cellsFrom (C + 1) scope.names cl) C env) elt (f d)) :
    CpD prog w Γ n env elt (.Tuple [.Name x px, .Name y py] k tp) iter [] scope pos (.list (l.map f)) :=
  have T := Tgt.pair (prog := prog) (w := w) (env := env) (n := n) (px := px) (py := py) (tp := tp) (k := k) (cl := cl) hkind hx hy hxy hdx hdy hp
  have src' : SrcD prog w Γ n env iter true l (fun g a v => R g v (.list [(inj a).1, (inj a).2])) := src.map
  (CpD.compT (p := fun _ => true) (f := f) (pos := pos) cx (src'.join (T.map inj)) (T.map inj).tg hsz hclos hkind hnames hfs (fun _ _ _ => TestsD.nil) (fun C d hd _ => helt C d hd)).eq (by rw [filter_yes])
theorem CpD.zip {elt : Expr} {scope : Scope} {x y : Str} {px py tp np zp pos : Pos} {k : Nat} {e1 e2 : Expr} {ds1 ds2 : List PyData} {cl : List (Str × Addr)} {f : PyData × PyData → PyData} (cx : Cx K Γ) (fe : Fe env) (hz : env.kindOf (Str.ofString "zip") = some .globalImplicit) (hn : nsIn K mainGlobals (Str.ofString "zip") = some none)
    (h1 : EvD prog w Γ n env e1 (.list ds1)) (h2 : EvD prog w Γ n env e2 (.list ds2)) (he1 : starEach [e1, e2] env = (false, eval e1 env) :: starEach [e2] env) (he2 : starEach [e2] env = (false, eval e2 env) :: starEach [] env) (hp1 : ∀ pos, (backTo pos (starEach [e2] env)).any (·.1) = false)
    (hx : scope.names.lookup x = some .local) (hy : scope.names.lookup y = some .local) (hxy : x ≠ y) (hdx : (x == ("__debug__" : Str)) = false) (hdy : (y == ("__debug__" : Str)) = false) (hp : ∀ h : Heap, pushCells h scope.names = h) (hsz : (ds1.zip ds2).length ≤ sizeLine) (hclos : closureFor scope env = pure cl) (hkind : scope.kind = .function)
    (hnames : ∀ y ∈ scope.names, y.2 = .local → scope.names.lookup y.1 = some .local) (hfs : ∀ x, foldedSetIterable (.Call (.Name (Str.ofString "zip") np) [e1, e2] [] zp) env x = pure x)
    (helt : ∀ C, ∀ d ∈ ds1.zip ds2, EvD prog w (fun g h => Γ g h ∧ Two x y (compEnvC scope (cellsFrom (C + 1) scope.names cl) C env) d g h) n (compEnvC scope (cellsFrom (C + 1) scope.names cl) C env) elt (f d)) :
    CpD prog w Γ n env elt (.Tuple [.Name x px, .Name y py] k tp) (.Call (.Name (Str.ofString "zip") np) [e1, e2] [] zp) [] scope pos (.list ((ds1.zip ds2).map f)) :=
  have T := Tgt.pair (prog := prog) (w := w) (env := env) (n := n) (px := px) (py := py) (tp := tp) (k := k) (cl := cl) hkind hx hy hxy hdx hdy hp
  (CpD.compT (p := fun _ => true) (f := f) (pos := pos) cx (SrcT.zip cx fe hz hn h1 h2 he1 he2 hp1 hkind hx hy hxy hdx hdy) T.tg hsz hclos hkind hnames hfs (fun _ _ _ => TestsD.nil) (fun C d hd _ => helt C d hd)).eq (by rw [filter_yes])
end
end Mine
end

section
open PySem PySem.W PyProof.Rows PySem.Calls PySem.Spec
set_option Elab.async false
set_option maxRecDepth 100000
namespace Mine
abbrev xR : Str × List Str := (dot, [Str.ofString "a", s17])
abbrev xRule : Str := Str.ofString ".a.17"
def hst (l : List Nat) : Str := Txt.join dot (txs l)
def rtx (r : Str × List Str) : Str := r.1 ++ Txt.join dot r.2
/-- the pattern: the rule, with a star where it begins with a dot -/
def ptn (x : Str) : Str := (if StrLaws.sliceText x none (some 1) = dot then Str.ofString "*" else Str.ofString "") ++ x
def nums (script : List Int) : List Int := cutG script none (some 3) ++ [92196, 65829, 37449, 73777, 32900]
def labs (script : List Int) : List (List Nat) := (nums script).map lab
def dues (script : List Int) : List (Str × List Str) := (labs script).map (fun l => lrc (txs l)) ++ [xR]
def rgts (script : List Int) : List Int := (nums script).map (fun x => (x.fdiv 64).fmod 512) ++ [511]
structure HF (l : List Nat) : Prop where
  ls : Ls (txs l)
  gd : Gd (hst l)
  bare : Bare (hst l)
  asc : asc (hst l) = true
  rch : rch (hst l) = rtx (lrc (txs l))
  fits : ((txs l).map (·.length)).sum + (txs l).length * dot.length ≤ 16777216
structure RF (r : Str × List Str) : Prop where
  len : r.2.length ≤ 3
  ok1 : PyData.strOk r.1 = true
  ok : ∀ x ∈ r.2, PyData.strOk x = true
  gd : Gd (rtx r)
  pat : Pat (ptn (rtx r))
  popt : optOk (trp (ptn (rtx r)))
  fits : (r.2.map (·.length)).sum + r.2.length * dot.length ≤ 16777216
  short : r.1.length + (Txt.join dot r.2).length ≤ sizeLine
/-- what the law asks of a host and a rule -/
def hasB (l : List Nat) (r : Str × List Str) : Bool := lnd (txs l) r && !decide (r = xR)
structure PF (l : List Nat) (r : Str × List Str) : Prop where
  u : udm (hst l) (rtx r) = hasB l r
  t : ltk (trp (ptn (rtx r))) (hst l) = lnd (txs l) r
def bitsK (rights : List Int) (row : List Bool) (j : Nat) : List Nat := (List.range row.length).filter fun k => row.getD k false && ((rights.getD k 0).fdiv (2 ^ (8 - j))).fmod 2 == 1
def signJ (rights : List Int) (row : List Bool) (j : Nat) : Str := if bitsK rights row j ≠ [] then ⟨#[(Str.ofString "rwx").cps.getD (j % 3) 0]⟩ else Str.ofString "-"
def listed (rights : List Int) (row : List Bool) : Str := Str.ofString "-" ++ Txt.join (Str.ofString "") ((List.range 9).map (signJ rights row))
theorem eqv_self_str (l : List Str) : PyData.eqv (dS l) (dS l) = true := by rw [eqv_txs]; simp
theorem eqv_dB (l m : List Bool) : PyData.eqv (dB l) (dB m) = decide (l = m) := eqv_list eqv_bool l m
theorem eqv_dBB (l m : List (List Bool)) : PyData.eqv (dBB l) (dBB m) = decide (l = m) := eqv_list eqv_dB l m
theorem Sh.dB {l : List Bool} : Sh 1 (dB l) := Sh.list fun d hd => by obtain ⟨x, _, rfl⟩ := List.mem_map.mp hd; exact Sh.bool
theorem Sh.dBB {l : List (List Bool)} : Sh 2 (dBB l) := Sh.list fun d hd => by obtain ⟨x, _, rfl⟩ := List.mem_map.mp hd; exact Sh.dB
theorem Sh.dR {r : Str × List Str} (h1 : PyData.strOk r.1 = true) (h2 : ∀ x ∈ r.2, PyData.strOk x = true) : Sh 2 (dR r) := Sh.list fun d hd => by
  rcases hd with _ | ⟨_, _ | ⟨_, h⟩⟩
  · exact (Sh.str h1).up
  · exact Sh.txs h2
  · cases h
theorem eqv_dR (a b : Str × List Str) : PyData.eqv (dR a) (dR b) = decide (a = b) := by
  show (PyData.eqv (.str a.1) (.str b.1) && (PyData.eqv (dS a.2) (dS b.2) && true)) = _
  rw [eqv_str, eqv_txs, Bool.and_true, Bool.eq_iff_iff]
  simp [Prod.ext_iff]
section
variable {prog : Program} {w : World} {K : Frag} {Γ : G → Heap → Prop} {n : Nat} {env : Env}
theorem SrcT.map {α δ : Type} {iter target : Expr} {scope : Scope} {cl : List (Str × Addr)} {own : Addr → List Addr} {OwnOk : Addr → Heap → Prop} {Bd : Env → δ → G → Heap → Prop} {l : List α} {inj : α → δ}
    (src : SrcT prog w Γ n env scope cl iter target (l.map inj) own OwnOk Bd) : SrcT prog w Γ n env scope cl iter target l own OwnOk (fun cenv a g h => Bd cenv (inj a) g h) := fun A s g E hA hs hΓ =>
  wpAny_mono (src A s g E hA hs hΓ) (fun xv s₁ h₁ => wpAny_mono h₁ (fun it s₂ h₂ => by
    obtain ⟨k, g₁, h₁, I, fp, wr, St, e, a1, a2, a3, a4, hst, gr, x1, h1w, hfp, live, adv⟩ := h₂
    rw [List.length_map] at a3
    exact ⟨k, g₁, h₁, I, fp, wr, St, e, a1, a2, a3, a4, hst, gr, x1, h1w, hfp, live, fun C i d s g Q E b1 b2 b3 => adv C i (inj d) s g Q E b1 (by rw [List.length_map]; exact b2) (by rw [List.getElem?_map, b3]; rfl)⟩) fun _ _ e => e) fun _ _ e => e
theorem CpD.zipM {α : Type} {elt : Expr} {scope : Scope} {x y : Str} {px py tp np zp pos : Pos} {k : Nat} {e1 e2 : Expr} {l : List α} {i1 i2 : α → PyData} {cl : List (Str × Addr)} {f : α → PyData} (cx : Cx K Γ) (fe : Fe env) (hz : env.kindOf (Str.ofString "zip") = some .globalImplicit) (hn : nsIn K mainGlobals (Str.ofString "zip") = some none)
    (h1 : EvD prog w Γ n env e1 (.list (l.map i1))) (h2 : EvD prog w Γ n env e2 (.list (l.map i2))) (he1 : starEach [e1, e2] env = (false, eval e1 env) :: starEach [e2] env) (he2 : starEach [e2] env = (false, eval e2 env) :: starEach [] env) (hp1 : ∀ pos, (backTo pos (starEach [e2] env)).any (·.1) = false)
    (hx : scope.names.lookup x = some .local) (hy : scope.names.lookup y = some .local) (hxy : x ≠ y) (hdx : (x == ("__debug__" : Str)) = false) (hdy : (y == ("__debug__" : Str)) = false) (hp : ∀ h : Heap, pushCells h scope.names = h) (hsz : l.length ≤ sizeLine) (hclos : closureFor scope env = pure cl) (hkind : scope.kind = .function)
    (hnames : ∀ y ∈ scope.names, y.2 = .local → scope.names.lookup y.1 = some .local) (hfs : ∀ x, foldedSetIterable (.Call (.Name (Str.ofString "zip") np) [e1, e2] [] zp) env x = pure x)
    (helt : ∀ C, ∀ d ∈ l, EvD prog w (fun g h => Γ g h ∧ Two x y (compEnvC scope (cellsFrom (C + 1) scope.names cl) C env) (i1 d, i2 d) g h) n (compEnvC scope (cellsFrom (C + 1) scope.names cl) C env) elt (f d)) :
    CpD prog w Γ n env elt (.Tuple [.Name x px, .Name y py] k tp) (.Call (.Name (Str.ofString "zip") np) [e1, e2] [] zp) [] scope pos (.list (l.map f)) := by
  have T := (Tgt.pair (prog := prog) (w := w) (env := env) (n := n) (px := px) (py := py) (tp := tp) (k := k) (cl := cl) hkind hx hy hxy hdx hdy hp).map (fun a : α => (i1 a, i2 a))
  have src := SrcT.zip (px := px) (py := py) (tp := tp) (k := k) (np := np) (pos := zp) (scope := scope) (cl := cl) cx fe hz hn h1 h2 he1 he2 hp1 hkind hx hy hxy hdx hdy
  rw [List.zip_map'] at src
  exact (CpD.compT (p := fun _ => true) (f := f) (pos := pos) cx src.map T.tg hsz hclos hkind hnames hfs (fun _ _ _ => TestsD.nil) (fun C d hd _ => helt C d hd)).eq (by rw [filter_yes])
end
theorem eqv_strs {α : Type} (l : List α) (f : α → Str) : PyData.eqv (.list (l.map fun a => .str (f a))) (.list (l.map fun a => .str (f a))) = true := by
  have := eqv_self_str (l.map f)
  unfold dS at this
  rwa [List.map_map] at this
theorem Sh.strs {α : Type} {l : List α} {f : α → Str} (h : ∀ a ∈ l, PyData.strOk (f a) = true) : Sh 1 (.list (l.map fun a => .str (f a))) := Sh.list fun d hd => by
  obtain ⟨x, hx, rfl⟩ := List.mem_map.mp hd
  exact Sh.str (h x hx)
theorem Sh.rows {α : Type} {l : List α} {f : α → List Bool} : Sh 2 (.list (l.map fun a => Mine.dB (f a))) := Sh.list fun d hd => by
  obtain ⟨x, hx, rfl⟩ := List.mem_map.mp hd
  exact Sh.dB
theorem eqv_rows {α : Type} (l : List α) (f : α → List Bool) : PyData.eqv (.list (l.map fun a => Mine.dB (f a))) (.list (l.map fun a => Mine.dB (f a))) = true := by
  have : PyData.eqv (dBB (l.map f)) (dBB (l.map f)) = true := by rw [eqv_dBB]; simp
  unfold dBB at this
  rwa [List.map_map] at this
structure LF (rights : List Int) (row : List Bool) : Prop where
  eq : lsd rights row = listed rights row
  ok : PyData.strOk (listed rights row) = true
  len : (Txt.join (Str.ofString "") ((List.range 9).map (signJ rights row))).length ≤ 100
theorem signs_fit (rights : List Int) (row : List Bool) : (((List.range 9).map (signJ rights row)).map (·.length)).sum + ((List.range 9).map (signJ rights row)).length * (Str.ofString "").length ≤ 16777216 := by
  have := sum_len ((List.range 9).map (signJ rights row)) fun y hy => by
    obtain ⟨j, _, rfl⟩ := List.mem_map.mp hy
    unfold signJ
    split
    · exact Nat.le_refl 1
    · decide
  rw [List.length_map, List.length_range] at this ⊢
  have : (Str.ofString "").length = 0 := rfl
  omega
theorem Sh.ints {l : List Nat} : Sh 1 (.list (l.map fun (k : Nat) => .int k)) := Sh.list fun d hd => by
  obtain ⟨x, hx, rfl⟩ := List.mem_map.mp hd
  exact ⟨rfl, Nat.le_refl _⟩
theorem eqv_ints (l : List Nat) : PyData.eqv (.list (l.map fun (k : Nat) => .int k)) (.list []) = decide (l = []) := by
  cases l <;> rfl
theorem rwx_at : ∀ j : Nat, j < 9 → (seqIndex? (Int.fmod (j : Int) 3) (Str.ofString "rwx").length).bind ((Str.ofString "rwx").cps[·]?) = some ((Str.ofString "rwx").cps.getD (j % 3) 0) := by decide +kernel
theorem ptn_eq (x : Str) : (if decide (StrLaws.sliceText x none (some 1) = dot) = true then PyData.str (Str.ofString "*") else PyData.str (Str.ofString "")) = .str (if StrLaws.sliceText x none (some 1) = dot then Str.ofString "*" else Str.ofString "") := by
  by_cases h : StrLaws.sliceText x none (some 1) = dot
  · rw [decide_eq_true h, if_pos h]; rfl
  · rw [decide_eq_false h, if_neg h]; rfl
end Mine
end

section
open PySem PySem.W PyProof.Rows PySem.Calls PySem.Spec
set_option Elab.async false
set_option maxRecDepth 100000
namespace Mine
section
variable {prog : Program} {w : World} {n : Nat}
set_option maxHeartbeats 4000000 in
theorem fn171 {script : List Int} (hsc : script.length ≤ 63) (hH : ∀ l ∈ labs script, HF l) (hR : ∀ r ∈ dues script, RF r) (hP : ∀ l ∈ labs script, ∀ r ∈ dues script, PF l r)
    (hL : ∀ l ∈ labs script, LF (rgts script) ((dues script).map (hasB l))) : FnD prog w (KK w.params) (n + 4) 171 [dI script] (.bool true) := by
  have hN : (nums script).length ≤ 68 := by
    unfold nums cutG
    rw [List.length_append, List.length_take]
    have : (List.drop ((none : Option Int).elim 0 (clipAt script.length)) script).length ≤ 63 := by rw [List.length_drop]; omega
    simp only [List.length_cons, List.length_nil]
    omega
  have sl : 1000 ≤ sizeLine := by decide
  have hLn : (labs script).length ≤ 68 := by unfold labs; rw [List.length_map]; exact hN
  have hDn : (dues script).length ≤ 69 := by unfold dues; rw [List.length_append, List.length_map]; simp; exact hLn
  have hRn : (rgts script).length = (dues script).length := by unfold rgts dues labs; simp
  refine FnD.intro (xs := [Str.ofString "script"]) rfl rfl rfl rfl (fun vs h => ?_) rfl rfl ?_ ?_ ?_ rfl rfl rfl ?_
  · match vs, h with
    | [a], _ => rfl
  · intro L x hx; left; revert x; decide
  · decide
  · decide
  · intro L
    -- numbers
    refine ExD.cons (ExS.asg (d := dI (nums script)) (EvD.eq (EvD.bin cxF (EvD.cutL cxF (EvD.name (vdF rfl)) PartD.off (PartD.on EvD.int) (by rw [List.length_map]; omega) (fun _ _ => rfl))
      (EvD.list (EvsD.cons cxF EvD.int (EvsD.cons cxF EvD.int (EvsD.cons cxF EvD.int (EvsD.cons cxF EvD.int (EvsD.cons cxF EvD.int EvsD.nil rfl) rfl) rfl) rfl) rfl) (show 5 ≤ sizeLine by decide)) (BinD.lists ?_)) ?_) rfl (.inl rfl) rfl nofun) ?_
    · rw [cut_map, List.length_map]
      have : (cutG script none (some 3)).length ≤ 63 := by
        unfold cutG
        rw [List.length_take, List.length_drop]
        omega
      show (cutG script none (some 3)).length + 5 ≤ sizeLine
      omega
    · rw [cut_map]
      unfold dI nums
      rw [List.map_append]
      rfl
    -- labels
    refine ExD.cons (ExS.asgC (d := .list ((labs script).map fun l => dS (txs l))) (CpD.eq (CpD.loc0 (l := nums script) (inj := PyData.int) (f := fun x => dS (txs (lab x))) cxF (SrcD.list (EvD.name (vdF rfl))) rfl rfl (fun _ => rfl) (by omega) rfl rfl (by decide) (fun _ => rfl)
      (fun C x hx => EvD.call cxF.wth ⟨rfl, rfl, rfl⟩ rfl n140 d140 rfl (EvsD.cons cxF.wth (EvD.name vdHd) EvsD.nil rfl) fn140 rfl)) ?_) rfl rfl rfl) ?_
    · unfold labs
      rw [List.map_map]
      rfl
    -- hosts, rights
    refine ExD.cons (ExS.pairT (d1 := .list ((labs script).map fun l => .str (hst l))) (d2 := dI (rgts script))
      (CpD.loc0 (l := labs script) (inj := fun l => dS (txs l)) (f := fun l => .str (hst l)) cxF (SrcD.list (EvD.name (vdF rfl))) rfl rfl (fun _ => rfl) (by omega) rfl rfl (by decide) (fun _ => rfl)
        (fun C l hl => EvD.meth cxF.wth EvD.str (fun A s t Q E h => GM.join h) (EvsD.cons cxF.wth (EvD.name vdHd) EvsD.nil rfl) (FnB.join (ys := txs l) (hH l hl).fits) rfl rfl (fun _ => rfl))).ev
      (EvD.eq (EvD.bin cxF (CpD.loc0 (l := nums script) (inj := PyData.int) (f := fun x => .int ((x.fdiv 64).fmod 512)) cxF (SrcD.list (EvD.name (vdF rfl))) rfl rfl (fun _ => rfl) (by omega) rfl rfl (by decide) (fun _ => rfl)
        (fun C x hx => EvD.bin cxF.wth (EvD.bin cxF.wth (EvD.name vdHd) EvD.int (BinD.floordiv (by decide) (by decide))) EvD.int (BinD.mod (by decide)))).ev
        (EvD.list (EvsD.cons cxF EvD.int EvsD.nil rfl) (show 1 ≤ sizeLine by decide)) (BinD.lists (by rw [List.length_map]; show (nums script).length + 1 ≤ sizeLine; omega))) (by unfold dI rgts; rw [List.map_append, List.map_map]; rfl)) rfl rfl rfl rfl (.inl rfl) (.inr ⟨rfl, _, rfl⟩) rfl rfl nofun) ?_
    -- rules, due
    refine ExD.cons (ExS.pairT (d1 := .list ((dues script).map fun r => .str (rtx r))) (d2 := .list ((dues script).map dR))
      (EvD.eq (EvD.bin cxF (CpD.loc0 (l := labs script) (inj := fun l => .str (hst l)) (f := fun l => .str (rtx (lrc (txs l)))) cxF (SrcD.list (EvD.name (vdF rfl))) rfl rfl (fun _ => rfl) (by omega) rfl rfl (by decide) (fun _ => rfl)
        (fun C l hl => EvD.eq (EvD.call cxF.wth ⟨rfl, rfl, rfl⟩ rfl n64 d64 rfl (EvsD.cons cxF.wth (EvD.name vdHd) EvsD.nil rfl) (fn64 (hH l hl).gd (hH l hl).bare) rfl) (by rw [(hH l hl).rch]))).ev
        (EvD.list (EvsD.cons cxF EvD.str EvsD.nil rfl) (show 1 ≤ sizeLine by decide)) (BinD.lists (by rw [List.length_map]; show (labs script).length + 1 ≤ sizeLine; omega))) (by unfold dues; rw [List.map_append, List.map_map, show [xR].map (fun r => PyData.str (rtx r)) = [PyData.str xRule] from congrArg (fun x => [PyData.str x]) (by decide +kernel)]; rfl))
      (EvD.eq (EvD.bin cxF (CpD.loc0 (l := labs script) (inj := fun l => dS (txs l)) (f := fun l => dR (lrc (txs l))) cxF (SrcD.list (EvD.name (vdF rfl))) rfl rfl (fun _ => rfl) (by omega) rfl rfl (by decide) (fun _ => rfl)
        (fun C l hl => EvD.call cxF.wth ⟨rfl, rfl, rfl⟩ rfl n147 d147 rfl (EvsD.cons cxF.wth (EvD.name vdHd) EvsD.nil rfl) (fn147 (hH l hl).ls) rfl)).ev
        (EvD.list (EvsD.cons cxF (EvD.list (EvsD.cons cxF EvD.str (EvsD.cons cxF (EvD.list (EvsD.cons cxF EvD.str (EvsD.cons cxF EvD.str EvsD.nil rfl) rfl) (show 2 ≤ sizeLine by decide)) EvsD.nil rfl) rfl) (show 2 ≤ sizeLine by decide)) EvsD.nil rfl) (show 1 ≤ sizeLine by decide)) (BinD.lists (by rw [List.length_map]; show (labs script).length + 1 ≤ sizeLine; omega))) (by unfold dues; rw [List.map_append, List.map_map]; rfl))
      rfl rfl rfl rfl (.inr ⟨rfl, _, rfl⟩) (.inr ⟨rfl, _, rfl⟩) rfl rfl nofun) ?_
    -- if rules != ...
    refine ExD.eq (ExD.iteRet (b := false) (d1 := .bool false) (d2 := .bool true) (TsD.eq (TsD.cmp cxF (EvD.name (vdF rfl)) (CpD.pairs (l := dues script) (inj := fun r => (.str r.1, dS r.2)) (f := fun r => .str (rtx r)) cxF (SrcD.list (EvD.name (vdF rfl))) rfl rfl (by decide) rfl rfl (fun _ => rfl) (by omega) rfl rfl (by decide) (fun _ => rfl)
        (fun C r hr => EvD.bin (cxTwo cxF) (EvD.name vdOne) (EvD.meth (cxTwo cxF) EvD.str (fun A s t Q E h => GM.join h) (EvsD.cons (cxTwo cxF) (EvD.name vdOther) EvsD.nil rfl) (FnB.join (ys := r.2) (hR r hr).fits) rfl rfl (fun _ => rfl)) (BinD.cat (hR r hr).short))).ev
        (CmpD.ne ((Sh.strs fun r hr => (hR r hr).gd.ok).shaped (by decide)) ((Sh.strs fun r hr => (hR r hr).gd.ok).shaped (by decide))) rfl) (by rw [eqv_strs]; rfl)) nofun (fun _ => ?_)) rfl
    -- ends
    refine ExD.cons (ExS.asgC (d := .list ((labs script).map fun l => dB ((dues script).map (lnd (txs l))))) (CpD.cel0 (l := labs script) (inj := fun l => dS (txs l)) (f := fun l => dB ((dues script).map (lnd (txs l)))) cxF (SrcD.list (EvD.name (vdF rfl))) rfl (fun _ _ => rfl) rfl (fun _ => rfl) (fun _ => rfl) (by omega) rfl (by decide) (fun _ => rfl)
      (fun C l hl => ?zf1)) rfl rfl rfl) ?_
    case zf1 =>
      refine EvD.eq (d := .list ((dues script).map fun r => .bool (lnd (txs l) r))) (CpD.ev ?_) (by unfold dB; rw [List.map_map]; rfl)
      refine (CpD.loc0 (tup := true) (l := dues script) (inj := dR) (f := fun r => .bool (lnd (txs l) r)) cxF.wth ?_ rfl rfl (fun _ => rfl) (by omega) rfl rfl (by decide) (fun _ => rfl) (fun C' r hr => ?_))
      · exact (SrcD.list (EvD.name (vdInto (vdW (vdF rfl)) rfl rfl rfl rfl)))
      · refine EvD.call cxF.wth.wth ⟨rfl, rfl, rfl⟩ rfl n154 d154 rfl (EvsD.cons cxF.wth.wth ?_ (EvsD.cons cxF.wth.wth (EvD.name vdHd) EvsD.nil rfl) rfl) (fn154 (hH l hl).ls.le (hH l hl).ls.ok (hR r hr).len (hR r hr).ok) rfl
        exact (EvD.name (vdInto (vdW vdHd) rfl rfl rfl rfl))
    -- has
    refine ExD.cons (ExS.asgC (d := .list ((labs script).map fun l => dB ((dues script).map (hasB l)))) (CpD.loc0 (l := labs script) (inj := fun l => dB ((dues script).map (lnd (txs l)))) (f := fun l => dB ((dues script).map (hasB l))) cxF (SrcD.list (EvD.name (vdF rfl))) rfl rfl (fun _ => rfl) (by omega) rfl rfl (by decide) (fun _ => rfl)
      (fun C l hl => ?zf2)) rfl rfl rfl) ?_
    case zf2 =>
      refine EvD.eq (d := .list ((dues script).map fun r => .bool (hasB l r))) (CpD.ev ?_) (by unfold dB; rw [List.map_map]; rfl)
      refine CpD.zipM (l := dues script) (i1 := fun r => .bool (lnd (txs l) r)) (i2 := dR) (f := fun r => .bool (hasB l r)) cxF.wth ⟨rfl, rfl, rfl⟩ rfl nzip ?_ ?_ rfl rfl (fun _ => rfl) rfl rfl (by decide) rfl rfl (fun _ => rfl) (by omega) rfl rfl (by decide) (fun _ => rfl) (fun C' r hr => ?_)
      · exact EvD.eq (d := dB ((dues script).map (lnd (txs l)))) (EvD.name vdHd) (by unfold dB; rw [List.map_map]; rfl)
      · exact EvD.name (vdInto (vdW (vdF rfl)) rfl rfl rfl rfl)
      · refine EvD.eq (d := .bool (lnd (txs l) r && !PyData.eqv (dR r) (dR xR))) (EvD.and (cxTwo cxF.wth) (EvD.name vdOne) (fun _ => EvD.cmp (cxTwo cxF.wth) (EvD.name vdOther) ?_ (CmpD.ne (d1 := dR r) (d2 := dR xR) ((Sh.dR (hR r hr).ok1 (hR r hr).ok).shaped (by decide)) (by decide +kernel)) rfl)) (by rw [eqv_dR]; rfl)
        exact (EvD.list (EvsD.cons (cxTwo cxF.wth) EvD.str (EvsD.cons (cxTwo cxF.wth) (EvD.list (EvsD.cons (cxTwo cxF.wth) EvD.str (EvsD.cons (cxTwo cxF.wth) EvD.str EvsD.nil rfl) rfl) (show 2 ≤ sizeLine by decide)) EvsD.nil rfl) rfl) (show 2 ≤ sizeLine by decide))
    -- said
    refine ExD.cons (ExS.asgC (d := .list ((labs script).map fun l => dB ((dues script).map (hasB l)))) (CpD.cel0 (l := labs script) (inj := fun l => .str (hst l)) (f := fun l => dB ((dues script).map (hasB l))) cxF (SrcD.list (EvD.name (vdF rfl))) rfl (fun _ _ => rfl) rfl (fun _ => rfl) (fun _ => rfl) (by omega) rfl (by decide) (fun _ => rfl)
      (fun C l hl => ?zf3)) rfl rfl rfl) ?_
    case zf3 =>
      refine EvD.eq (d := .list ((dues script).map fun r => .bool (hasB l r))) (CpD.ev ?_) (by unfold dB; rw [List.map_map]; rfl)
      refine (CpD.loc0 (tup := true) (l := dues script) (inj := fun r => .str (rtx r)) (f := fun r => .bool (hasB l r)) cxF.wth ?_ rfl rfl (fun _ => rfl) (by omega) rfl rfl (by decide) (fun _ => rfl) (fun C' r hr => ?_))
      · exact (SrcD.list (EvD.name (vdInto (vdW (vdF rfl)) rfl rfl rfl rfl)))
      · rw [← (hP l hl r hr).u]
        refine EvD.call cxF.wth.wth ⟨rfl, rfl, rfl⟩ rfl n57 d57 rfl (EvsD.cons cxF.wth.wth ?_ (EvsD.cons cxF.wth.wth (EvD.name vdHd) EvsD.nil rfl) rfl) (fn57 (hH l hl).gd (hR r hr).gd) rfl
        exact (EvD.name (vdInto (vdW vdHd) rfl rfl rfl rfl))
    -- parts
    refine ExD.cons (ExS.asg (d := .list ((dues script).map fun r => dP (trp (ptn (rtx r))))) (CpD.ev (CpD.loc0 (tup := true) (l := dues script) (inj := fun r => .str (rtx r)) (f := fun r => dP (trp (ptn (rtx r)))) cxF (SrcD.list (EvD.name (vdF rfl))) rfl rfl (fun _ => rfl) (by omega) rfl rfl (by decide) (fun _ => rfl)
      (fun C r hr => ?zf4))) rfl (.inr ⟨rfl, _, rfl⟩) rfl nofun) ?_
    case zf4 =>
      refine EvD.call cxF.wth ⟨rfl, rfl, rfl⟩ rfl n88 d88 rfl (EvsD.cons cxF.wth ?_ (EvsD.cons cxF.wth EvD.cnone (EvsD.cons cxF.wth EvD.str EvsD.nil rfl) rfl) rfl) (fn88 (hR r hr).pat) rfl
      have h1 : (rtx r).length ≤ 100 := (hR r hr).gd.len
      refine EvD.bin cxF.wth (EvD.eq (EvD.ite cxF.wth (TsD.cmp cxF.wth (EvD.cutS cxF.wth (EvD.name vdHd) PartD.off (PartD.on EvD.int) (by omega) (fun _ _ => rfl)) EvD.str CmpD.eqS rfl) (fun _ => EvD.str) (fun _ => EvD.str)) (ptn_eq (rtx r))) (EvD.name vdHd) (BinD.cat ?_)
      have : (if StrLaws.sliceText (rtx r) none (some 1) = dot then Str.ofString "*" else Str.ofString "").length ≤ 1 := by split <;> decide
      omega
    -- if said != has or ...
    refine ExD.eq (ExD.iteRet (b := false) (d1 := .bool false) (d2 := .bool true) (TsD.eq (TsD.boolop (AllT.or cxF (TsD.cmp cxF (EvD.name (vdF rfl)) (EvD.name (vdF rfl)) (CmpD.ne (d1 := .list ((labs script).map fun l => dB ((dues script).map (hasB l)))) (d2 := .list ((labs script).map fun l => dB ((dues script).map (hasB l)))) (Sh.rows.shaped (by decide)) (Sh.rows.shaped (by decide))) rfl)
      (fun _ => AllT.or cxF (TsD.cmp cxF (d1 := .list ((labs script).map fun l => dB ((dues script).map (lnd (txs l))))) ?zf5 (EvD.name (vdF rfl)) (CmpD.ne (d1 := .list ((labs script).map fun l => dB ((dues script).map (lnd (txs l))))) (d2 := .list ((labs script).map fun l => dB ((dues script).map (lnd (txs l))))) (Sh.rows.shaped (by decide)) (Sh.rows.shaped (by decide))) rfl) (fun _ => AllT.orNil)))) (by rw [eqv_rows, eqv_rows]; rfl)) nofun (fun _ => ?_)) rfl
    case zf5 =>
      refine CpD.ev (CpD.cel0 (l := labs script) (inj := fun l => .str (hst l)) (f := fun l => dB ((dues script).map (lnd (txs l)))) cxF (SrcD.list (EvD.name (vdF rfl))) rfl (fun _ _ => rfl) rfl (fun _ => rfl) (fun _ => rfl) (by omega) rfl (by decide) (fun _ => rfl) (fun C l hl => ?_))
      refine EvD.eq (d := .list ((dues script).map fun r => .bool (lnd (txs l) r))) (CpD.ev ?_) (by unfold dB; rw [List.map_map]; rfl)
      refine (CpD.loc0 (tup := true) (l := dues script) (inj := fun r => dP (trp (ptn (rtx r)))) (f := fun r => .bool (lnd (txs l) r)) cxF.wth ?_ rfl rfl (fun _ => rfl) (by omega) rfl rfl (by decide) (fun _ => rfl) (fun C' r hr => ?_))
      · exact (SrcD.list (EvD.name (vdInto (vdW (vdF rfl)) rfl rfl rfl rfl)))
      · rw [← (hP l hl r hr).t]
        refine EvD.call cxF.wth.wth ⟨rfl, rfl, rfl⟩ rfl n159 d159 rfl (EvsD.cons cxF.wth.wth (EvD.name vdHd) (EvsD.cons cxF.wth.wth ?_ EvsD.nil rfl) rfl) (fn159 (by unfold trp; rw [List.length_map]; simpa using (hR r hr).pat.len) (hR r hr).popt (hH l hl).gd.len (hH l hl).asc) rfl
        exact (EvD.name (vdInto (vdW vdHd) rfl rfl rfl rfl))
    -- bits
    refine ExD.cons (ExS.asgC (d := .list ((labs script).map fun l => .list ((List.range 9).map fun j => .list ((bitsK (rgts script) ((dues script).map (hasB l)) j).map fun (k : Nat) => .int k)))) (CpD.cel0 (tup := true) (l := labs script) (inj := fun l => dB ((dues script).map (hasB l))) (f := fun l => .list ((List.range 9).map fun j => .list ((bitsK (rgts script) ((dues script).map (hasB l)) j).map fun (k : Nat) => .int k))) cxF (SrcD.list (EvD.name (vdF rfl))) rfl (fun _ _ => rfl) rfl (fun _ => rfl) (fun _ => rfl) (by omega) rfl (by decide) (fun _ => rfl)
      (fun C l hl => ?zf6)) rfl rfl rfl) ?_
    case zf6 =>
      have hrow : ((dues script).map (hasB l)).length = (dues script).length := List.length_map ..
      generalize hrw : (dues script).map (hasB l) = row at hrow ⊢
      refine CpD.ev (CpD.cel0 (tup := false) (l := List.range 9) (inj := fun (i : Nat) => .int i) (f := fun j => .list ((bitsK (rgts script) row j).map fun (k : Nat) => .int k)) cxF.wth ?_ rfl (fun _ _ => rfl) rfl (fun _ => rfl) (fun _ => rfl) (by decide) rfl (by decide) (fun _ => rfl) (fun C' j hj => ?_))
      · exact SrcD.range (m := 9) cxF.wth ⟨rfl, rfl, rfl⟩ rfl nrange EvD.int (by decide) (by decide) rfl
      · have hj9 : j < 9 := List.mem_range.mp hj
        refine CpD.ev (CpD.loc (tup := false) (l := List.range row.length) (inj := fun (i : Nat) => .int i) (p := fun k => row.getD k false && ((((rgts script).getD k 0).fdiv (2 ^ (8 - j))).fmod 2 == 1)) (f := fun (k : Nat) => .int k) cxF.wth.wth ?_ rfl rfl (fun _ => rfl) (by rw [List.length_range]; omega) rfl rfl (by decide) (fun _ => rfl) (fun C'' k hk => ?_) (fun C'' k hk _ => EvD.name vdHd))
        · refine SrcD.range (m := (row.length : Nat)) cxF.wth.wth ⟨rfl, rfl, rfl⟩ rfl nrange (EvD.eq (EvD.lenL (ds := row.map PyData.bool) cxF.wth.wth ⟨rfl, rfl, rfl⟩ rfl ?_ (by rw [List.length_map]; omega) rfl) (by rw [List.length_map])) (by omega) (by omega) rfl
          exact EvD.name (vdInto (vdW vdHd) rfl rfl rfl rfl)
        · have hkl : k < row.length := List.mem_range.mp hk
          have hkr : k < (rgts script).length := by omega
          have hb : (row.map PyData.bool)[((k : Nat) : Int).toNat]? = some (.bool (row.getD k false)) := by
            rw [Int.toNat_natCast, List.getElem?_map, List.getD_eq_getElem?_getD, List.getElem?_eq_getElem hkl]; rfl
          have hi : ((rgts script).map PyData.int)[((k : Nat) : Int).toNat]? = some (.int ((rgts script).getD k 0)) := by
            rw [Int.toNat_natCast, List.getElem?_map, List.getD_eq_getElem?_getD, List.getElem?_eq_getElem hkr]; rfl
          have he : ((8 : Int) - (j : Int)).toNat = 8 - j := by omega
          have hpw : (2 : Int) ^ (8 - j) ≠ 0 ∧ ((2 : Int) ^ (8 - j)).natAbs < 1073741824 := by
            have : 8 - j < 9 := by omega
            generalize 8 - j = q at this ⊢
            revert q
            decide
          refine TestsD.one (TsD.eq (TsD.boolop (AllT.and cxF.wth.wth.wth (TsD.value (EvD.item cxF.wth.wth.wth ?_ (EvD.name vdHd) (by omega) (by omega) hb (fun _ _ => rfl)) TruthD.bool rfl) (fun _ => AllT.and cxF.wth.wth.wth (TsD.cmp cxF.wth.wth.wth
            (EvD.bin cxF.wth.wth.wth (EvD.bin cxF.wth.wth.wth (EvD.item cxF.wth.wth.wth ?_ (EvD.name vdHd) (by omega) (by omega) hi (fun _ _ => rfl)) (EvD.eq (EvD.bin cxF.wth.wth.wth EvD.int (EvD.bin cxF.wth.wth.wth EvD.int ?_ (BinD.sub (a := 8) (b := (j : Int)))) (BinD.pow (a := 2) (b := 8 - (j : Int)) (by omega) (by omega) (by decide))) (by rw [he])) (BinD.floordiv hpw.1 hpw.2)) EvD.int (BinD.mod (by decide))) EvD.int CmpD.eqI rfl) (fun _ => AllT.andNil)))) (by rw [Bool.and_true]))
          · exact EvD.name (vdInto (vdW (vdInto (vdW vdHd) rfl rfl rfl rfl)) rfl rfl rfl rfl)
          · exact EvD.name (vdInto (vdW (vdInto (vdW (vdInto (vdW (vdF rfl)) rfl rfl rfl rfl)) rfl rfl rfl rfl)) rfl rfl rfl rfl)
          · exact EvD.name (vdInto (vdW vdHd) rfl rfl rfl rfl)
    -- return
    refine ExD.eq (ExD.ret (EvD.cmp cxF (d1 := dS (((labs script).map fun l => (dues script).map (hasB l)).map (lsd (rgts script)))) (d2 := .list ((labs script).map fun l => .str (listed (rgts script) ((dues script).map (hasB l))))) ?zf7 ?zf8 (CmpD.eq ?zf9 ?zf10) rfl)) ?zf11
    case zf7 =>
      refine EvD.call cxF ⟨rfl, rfl, rfl⟩ rfl n166 d166 rfl (EvsD.cons cxF ?_ (EvsD.cons cxF (EvD.name (vdF rfl)) EvsD.nil rfl) rfl) (fn166 (said := (labs script).map fun l => (dues script).map (hasB l)) (rights := rgts script) (by rw [List.length_map]; omega) ?_) rfl
      · exact EvD.eq (d := .list ((labs script).map fun l => dB ((dues script).map (hasB l)))) (EvD.name (vdF rfl)) (by unfold dBB; rw [List.map_map]; rfl)
      · intro row hr
        obtain ⟨l, _, rfl⟩ := List.mem_map.mp hr
        rw [List.length_map]
        omega
    case zf8 =>
      refine CpD.ev (CpD.cel0 (tup := true) (l := labs script) (inj := fun l => .list ((List.range 9).map fun j => .list ((bitsK (rgts script) ((dues script).map (hasB l)) j).map fun (k : Nat) => .int k))) (f := fun l => .str (listed (rgts script) ((dues script).map (hasB l)))) cxF (SrcD.list (EvD.name (vdF rfl))) rfl (fun _ _ => rfl) rfl (fun _ => rfl) (fun _ => rfl) (by omega) rfl (by decide) (fun _ => rfl) (fun C l hl => ?_))
      have LF := hL l hl
      generalize (dues script).map (hasB l) = row at LF ⊢
      generalize rgts script = rights at LF ⊢
      refine EvD.bin cxF.wth EvD.str (EvD.meth cxF.wth EvD.str (fun A s t Q E h => GM.join h) (EvsD.cons cxF.wth (EvD.eq (d := .list ((List.range 9).map fun j => .str (signJ rights row j))) (CpD.ev ?_) (d' := dS ((List.range 9).map (signJ rights row))) (by unfold dS; rw [List.map_map]; rfl)) EvsD.nil rfl) (FnB.join (signs_fit rights row)) rfl rfl (fun _ => rfl)) (BinD.cat ?_)
      · refine (CpD.loc0 (tup := false) (l := List.range 9) (inj := fun (i : Nat) => .int i) (f := fun j => .str (signJ rights row j)) cxF.wth ?_ rfl rfl (fun _ => rfl) (by decide) rfl rfl (by decide) (fun _ => rfl) (fun C' j hj => ?_))
        · exact SrcD.range (m := 9) cxF.wth ⟨rfl, rfl, rfl⟩ rfl nrange EvD.int (by decide) (by decide) rfl
        · have hj9 : j < 9 := List.mem_range.mp hj
          have hd : (((List.range 9).map fun j => PyData.list ((bitsK rights row j).map fun (k : Nat) => .int k)))[((j : Nat) : Int).toNat]? = some (.list ((bitsK rights row j).map fun (k : Nat) => .int k)) := by
            rw [Int.toNat_natCast, List.getElem?_map, List.getElem?_range hj9]; rfl
          have hc : (seqIndex? (Int.fmod (j : Int) 3) (Str.ofString "rwx").length).bind ((Str.ofString "rwx").cps[·]?) = some ((Str.ofString "rwx").cps.getD (j % 3) 0) := rwx_at j hj9
          refine EvD.eq (EvD.ite cxF.wth.wth (TsD.cmp cxF.wth.wth (EvD.item cxF.wth.wth ?_ (EvD.name vdHd) (by omega) (by omega) hd (fun _ _ => rfl)) (EvD.list EvsD.nil (by decide)) (CmpD.ne ?_ (by decide +kernel)) rfl) (fun _ => EvD.itemS cxF.wth.wth EvD.str (EvD.bin cxF.wth.wth (EvD.name vdHd) EvD.int (BinD.mod (by decide))) ?_ ?_ hc (fun _ _ => rfl)) (fun _ => EvD.str)) ?_
          · exact EvD.name (vdInto (vdW vdHd) rfl rfl rfl rfl)
          · exact Sh.ints.shaped (by decide)
          · exact Int.le_trans (by decide) (Int.fmod_nonneg_of_pos _ (by decide))
          · exact Int.lt_trans (Int.fmod_lt_of_pos _ (by decide)) (by decide)
          · unfold signJ
            rw [eqv_ints]
            by_cases h0 : bitsK rights row j = []
            · rw [if_neg (show ¬ (bitsK rights row j ≠ []) from fun q => q h0), decide_eq_true h0]; rfl
            · rw [if_pos (show bitsK rights row j ≠ [] from h0), decide_eq_false h0]; rfl
      · have := LF.len
        have h1 : (Str.ofString "-").length = 1 := rfl
        omega
    case zf9 => exact (Sh.txs (fun x hx => by
      obtain ⟨row, hr, rfl⟩ := List.mem_map.mp hx
      obtain ⟨l, hl, rfl⟩ := List.mem_map.mp hr
      rw [(hL l hl).eq]
      exact (hL l hl).ok)).shaped (by decide)
    case zf10 => exact (Sh.strs fun l hl => (hL l hl).ok).shaped (by decide)
    case zf11 =>
      have e : dS (((labs script).map fun l => (dues script).map (hasB l)).map (lsd (rgts script))) = .list ((labs script).map fun l => .str (listed (rgts script) ((dues script).map (hasB l)))) := by
        unfold dS
        rw [List.map_map, List.map_map]
        exact congrArg PyData.list (List.map_congr_left fun l hl => congrArg PyData.str (hL l hl).eq)
      rw [e, eqv_strs]
end
end Mine
end

section
open PySem PySem.W PyProof.Rows PySem.Calls PySem.Spec
set_option Elab.async false
set_option maxRecDepth 100000
namespace Mine
def w4 : List Nat := [0, 1, 2, 3]
def all84 : List (List Nat) := (w4.map fun a => [a]) ++ (w4.flatMap fun a => w4.map fun b => [a, b]) ++ (w4.flatMap fun a => w4.flatMap fun b => w4.map fun c => [a, b, c])
/-- the 84 in seven heaps of twelve -/
def ch (i : Nat) : List (List Nat) := (all84.drop (12 * i)).take 12
theorem ch_mem : ∀ l ∈ all84, l ∈ ch 0 ∨ l ∈ ch 1 ∨ l ∈ ch 2 ∨ l ∈ ch 3 ∨ l ∈ ch 4 ∨ l ∈ ch 5 ∨ l ∈ ch 6 := by decide +kernel
theorem ch_all {p : List Nat → Prop} (h0 : ∀ l ∈ ch 0, p l) (h1 : ∀ l ∈ ch 1, p l) (h2 : ∀ l ∈ ch 2, p l) (h3 : ∀ l ∈ ch 3, p l) (h4 : ∀ l ∈ ch 4, p l) (h5 : ∀ l ∈ ch 5, p l) (h6 : ∀ l ∈ ch 6, p l) : ∀ l ∈ all84, p l := fun l hl => by
  rcases ch_mem l hl with h | h | h | h | h | h | h
  · exact h0 l h
  · exact h1 l h
  · exact h2 l h
  · exact h3 l h
  · exact h4 l h
  · exact h5 l h
  · exact h6 l h
theorem mem1 : ∀ a, a < 4 → [a] ∈ all84 := by decide +kernel
theorem mem2 : ∀ a, a < 4 → ∀ b, b < 4 → [a, b] ∈ all84 := by decide +kernel
theorem mem3 : ∀ a, a < 4 → ∀ b, b < 4 → ∀ c, c < 4 → [a, b, c] ∈ all84 := by decide +kernel
theorem lab_mem (x : Int) : lab x ∈ all84 := by
  have hm : 0 ≤ (x.fdiv 32768).fmod 3 ∧ (x.fdiv 32768).fmod 3 < 3 := ⟨Int.fmod_nonneg_of_pos _ (by decide), Int.fmod_lt_of_pos _ (by decide)⟩
  have hf : ∀ k : Nat, ((x.fdiv (4 ^ k)).fmod 4).toNat < 4 := fun k => by
    have : 0 ≤ (x.fdiv (4 ^ k)).fmod 4 ∧ (x.fdiv (4 ^ k)).fmod 4 < 4 := ⟨Int.fmod_nonneg_of_pos _ (by decide), Int.fmod_lt_of_pos _ (by decide)⟩
    omega
  have hc : (1 + (x.fdiv 32768).fmod 3).toNat = 1 ∨ (1 + (x.fdiv 32768).fmod 3).toNat = 2 ∨ (1 + (x.fdiv 32768).fmod 3).toNat = 3 := by omega
  unfold lab
  rcases hc with e | e | e <;> rw [e]
  · exact mem1 _ (hf 0)
  · exact mem2 _ (hf 0) _ (hf 1)
  · exact mem3 _ (hf 0) _ (hf 1) _ (hf 2)
theorem f_len : ∀ l ∈ all84, (hst l).cps.size ≤ 100 ∧ 0 < (txs l).length ∧ (txs l).length ≤ 3 := by decide +kernel
theorem f_asc : ∀ l ∈ all84, asc (hst l) = true := by decide +kernel
theorem f_ok : ∀ l ∈ all84, PyData.strOk (hst l) = true ∧ (txs l).all PyData.strOk = true := by decide +kernel
end Mine
end

section
open PySem PySem.W PyProof.Rows PySem.Calls PySem.Spec
set_option Elab.async false
set_option maxRecDepth 100000
set_option maxHeartbeats 4000000
namespace Mine
theorem f_ip0 : ∀ l ∈ ch 0, ipRun (hst l) = some (decide (2 ≤ l.length) && decide (l.getLast? = some 3)) := by decide +kernel
theorem f_ip1 : ∀ l ∈ ch 1, ipRun (hst l) = some (decide (2 ≤ l.length) && decide (l.getLast? = some 3)) := by decide +kernel
theorem f_ip2 : ∀ l ∈ ch 2, ipRun (hst l) = some (decide (2 ≤ l.length) && decide (l.getLast? = some 3)) := by decide +kernel
theorem f_ip3 : ∀ l ∈ ch 3, ipRun (hst l) = some (decide (2 ≤ l.length) && decide (l.getLast? = some 3)) := by decide +kernel
theorem f_ip4 : ∀ l ∈ ch 4, ipRun (hst l) = some (decide (2 ≤ l.length) && decide (l.getLast? = some 3)) := by decide +kernel
theorem f_ip5 : ∀ l ∈ ch 5, ipRun (hst l) = some (decide (2 ≤ l.length) && decide (l.getLast? = some 3)) := by decide +kernel
theorem f_ip6 : ∀ l ∈ ch 6, ipRun (hst l) = some (decide (2 ≤ l.length) && decide (l.getLast? = some 3)) := by decide +kernel
theorem f_ip : ∀ l ∈ all84, ipRun (hst l) = some (decide (2 ≤ l.length) && decide (l.getLast? = some 3)) := ch_all f_ip0 f_ip1 f_ip2 f_ip3 f_ip4 f_ip5 f_ip6
end Mine
end

section
open PySem PySem.W PyProof.Rows PySem.Calls PySem.Spec
set_option Elab.async false
set_option maxRecDepth 100000
set_option maxHeartbeats 4000000
namespace Mine
def ipl (l : List Nat) : Bool := decide (2 ≤ l.length) && decide (l.getLast? = some 3)
def rchX (ip : Bool) (h : Str) : Str :=
  if Txt.find h dot ≥ 0 then
    (let b := StrLaws.sliceText h (some (Txt.find h dot + 1)) none
     if !ip && (decide (Txt.find b dot ≥ 0) || decide (b = Str.ofString "local")) then dot ++ b else h) else h
theorem f_rchX : ∀ l ∈ all84, rchX (ipl l) (hst l) = rtx (lrc (txs l)) := by decide +kernel
/-- a host whose rule is the same -/
def repOf : List Nat → List Nat
  | [a, b] => if b = 2 then [0, 2] else [a, b]
  | [a, b, c] => if c = 3 then [a, b, c] else [0, b, c]
  | l => l
def reps : List (List Nat) := all84.filter fun l => decide (repOf l = l)
theorem rep_mem : ∀ l ∈ all84, repOf l ∈ reps := by decide +kernel
theorem rep_lrc : ∀ l ∈ all84, lrc (txs (repOf l)) = lrc (txs l) := by decide +kernel
/-- the 46 rules -/
def RR : List (Str × List Str) := (reps.map fun l => lrc (txs l)) ++ [xR]
/-- the 46 in five heaps -/
def rr (i : Nat) : List (Str × List Str) := (RR.drop (10 * i)).take 10
theorem rr_mem : ∀ r ∈ RR, r ∈ rr 0 ∨ r ∈ rr 1 ∨ r ∈ rr 2 ∨ r ∈ rr 3 ∨ r ∈ rr 4 := by decide +kernel
theorem rr_all {p : Str × List Str → Prop} (h0 : ∀ l ∈ rr 0, p l) (h1 : ∀ l ∈ rr 1, p l) (h2 : ∀ l ∈ rr 2, p l) (h3 : ∀ l ∈ rr 3, p l) (h4 : ∀ l ∈ rr 4, p l) : ∀ r ∈ RR, p r := fun l hl => by
  rcases rr_mem l hl with h | h | h | h | h
  · exact h0 l h
  · exact h1 l h
  · exact h2 l h
  · exact h3 l h
  · exact h4 l h
/-- the rule's last label is 17, and one stands ahead of it -/
def ipr (r : Str × List Str) : Bool := (decide (r.1 = dot) || decide (2 ≤ r.2.length)) && decide (r.2.getLast? = some s17)
end Mine
end

section
open PySem PySem.W PyProof.Rows PySem.Calls PySem.Spec
set_option Elab.async false
set_option maxRecDepth 100000
set_option maxHeartbeats 4000000
namespace Mine
theorem f_ipr0 : ∀ r ∈ rr 0, ipRun (rtx r) = some (ipr r) := by decide +kernel
theorem f_ipr1 : ∀ r ∈ rr 1, ipRun (rtx r) = some (ipr r) := by decide +kernel
theorem f_ipr2 : ∀ r ∈ rr 2, ipRun (rtx r) = some (ipr r) := by decide +kernel
theorem f_ipr3 : ∀ r ∈ rr 3, ipRun (rtx r) = some (ipr r) := by decide +kernel
theorem f_ipr4 : ∀ r ∈ rr 4, ipRun (rtx r) = some (ipr r) := by decide +kernel
theorem f_ipr : ∀ r ∈ RR, ipRun (rtx r) = some (ipr r) := rr_all f_ipr0 f_ipr1 f_ipr2 f_ipr3 f_ipr4
def udmX (ia ib : Bool) (a b : Str) : Bool := if (ia || ib) then decide (a = b) else if Txt.startswith b dot then Txt.endswith a b else decide (a = b)
theorem f_u0 : ∀ l ∈ ch 0, ∀ r ∈ RR, udmX (ipl l) (ipr r) (hst l) (rtx r) = hasB l r := by decide +kernel
theorem f_u1 : ∀ l ∈ ch 1, ∀ r ∈ RR, udmX (ipl l) (ipr r) (hst l) (rtx r) = hasB l r := by decide +kernel
theorem f_u2 : ∀ l ∈ ch 2, ∀ r ∈ RR, udmX (ipl l) (ipr r) (hst l) (rtx r) = hasB l r := by decide +kernel
theorem f_u3 : ∀ l ∈ ch 3, ∀ r ∈ RR, udmX (ipl l) (ipr r) (hst l) (rtx r) = hasB l r := by decide +kernel
theorem f_u4 : ∀ l ∈ ch 4, ∀ r ∈ RR, udmX (ipl l) (ipr r) (hst l) (rtx r) = hasB l r := by decide +kernel
theorem f_u5 : ∀ l ∈ ch 5, ∀ r ∈ RR, udmX (ipl l) (ipr r) (hst l) (rtx r) = hasB l r := by decide +kernel
theorem f_u6 : ∀ l ∈ ch 6, ∀ r ∈ RR, udmX (ipl l) (ipr r) (hst l) (rtx r) = hasB l r := by decide +kernel
theorem f_u : ∀ l ∈ all84, ∀ r ∈ RR, udmX (ipl l) (ipr r) (hst l) (rtx r) = hasB l r := ch_all f_u0 f_u1 f_u2 f_u3 f_u4 f_u5 f_u6
theorem f_t0 : ∀ l ∈ ch 0, ∀ r ∈ RR, ltk (trp (ptn (rtx r))) (hst l) = lnd (txs l) r := by decide +kernel
theorem f_t1 : ∀ l ∈ ch 1, ∀ r ∈ RR, ltk (trp (ptn (rtx r))) (hst l) = lnd (txs l) r := by decide +kernel
theorem f_t2 : ∀ l ∈ ch 2, ∀ r ∈ RR, ltk (trp (ptn (rtx r))) (hst l) = lnd (txs l) r := by decide +kernel
theorem f_t3 : ∀ l ∈ ch 3, ∀ r ∈ RR, ltk (trp (ptn (rtx r))) (hst l) = lnd (txs l) r := by decide +kernel
theorem f_t4 : ∀ l ∈ ch 4, ∀ r ∈ RR, ltk (trp (ptn (rtx r))) (hst l) = lnd (txs l) r := by decide +kernel
theorem f_t5 : ∀ l ∈ ch 5, ∀ r ∈ RR, ltk (trp (ptn (rtx r))) (hst l) = lnd (txs l) r := by decide +kernel
theorem f_t6 : ∀ l ∈ ch 6, ∀ r ∈ RR, ltk (trp (ptn (rtx r))) (hst l) = lnd (txs l) r := by decide +kernel
theorem f_t : ∀ l ∈ all84, ∀ r ∈ RR, ltk (trp (ptn (rtx r))) (hst l) = lnd (txs l) r := ch_all f_t0 f_t1 f_t2 f_t3 f_t4 f_t5 f_t6
theorem low_of {x : Str} (ha : asc x = true) (h : (⟨x.cps.map PyProof.Rows.lo1⟩ : Str) = x) : Txt.lower x = x := by
  rw [lower_ascii (fun c hc => ?_), h]
  unfold asc at ha
  rw [Array.all_eq_true_iff_forall_mem] at ha
  exact of_decide_eq_true (ha c (by simpa using hc))
theorem f_low : ∀ l ∈ all84, (⟨(hst l).cps.map PyProof.Rows.lo1⟩ : Str) = hst l := by decide +kernel
def bareB (x : Str) : Bool := decide (x ≠ Str.ofString "") && ((seqIndex? 0 x.length).bind (x.cps[·]?)).any (fun c => decide ((⟨#[c]⟩ : Str) ≠ dot)) && ((seqIndex? (-1) x.length).bind (x.cps[·]?)).any (fun c => decide ((⟨#[c]⟩ : Str) ≠ dot))
theorem bare_of {x : Str} (h : bareB x = true) : Bare x := by
  unfold bareB at h
  rw [Bool.and_eq_true, Bool.and_eq_true] at h
  obtain ⟨⟨a, b⟩, c⟩ := h
  rw [Option.any_eq_true] at b c
  obtain ⟨y, b1, b2⟩ := b
  obtain ⟨z, c1, c2⟩ := c
  exact ⟨of_decide_eq_true a, ⟨y, b1, of_decide_eq_true b2⟩, ⟨z, c1, of_decide_eq_true c2⟩⟩
theorem f_bare : ∀ l ∈ all84, bareB (hst l) = true := by decide +kernel
theorem f_fits : ∀ l ∈ all84, ((txs l).map (·.length)).sum + (txs l).length * dot.length ≤ 16777216 := by decide +kernel
theorem ipB_of {x : Str} {b : Bool} (h : ipRun x = some b) : ipB x = b := by unfold ipB; rw [h]; rfl
theorem hf {l : List Nat} (h : l ∈ all84) : HF l := by
  have ip := f_ip l h
  refine ⟨⟨(f_len l h).2.1, (f_len l h).2.2, fun x hx => List.all_eq_true.mp (f_ok l h).2 x hx⟩, ⟨low_of (f_asc l h) (f_low l h), (f_len l h).1, (f_ok l h).1, by rw [ipB_of ip]; exact ip⟩, bare_of (f_bare l h), f_asc l h, ?_, f_fits l h⟩
  rw [← f_rchX l h]
  show rchX (ipB (hst l)) (hst l) = _
  rw [ipB_of ip]
  rfl
def rB (r : Str × List Str) : Bool := decide (r.2.length ≤ 3) && PyData.strOk r.1 && r.2.all PyData.strOk && asc (rtx r) && decide ((⟨(rtx r).cps.map PyProof.Rows.lo1⟩ : Str) = rtx r) && decide ((rtx r).cps.size ≤ 100) && PyData.strOk (rtx r)
def pB (r : Str × List Str) : Bool := decide ((ptn (rtx r)).cps.size ≤ 100) && ((List.range (ptn (rtx r)).cps.size).all fun i => ((ptn (rtx r)).cps[i]?).all fun c => (decide (c = 42) && decide (i = 0)) || decide (c = 46) || decide (c ∈ plainSigns)) && ((trp (ptn (rtx r))).all fun o => o.all PyData.strOk) &&
  decide ((r.2.map (·.length)).sum + r.2.length * dot.length ≤ 16777216) && decide (r.1.length + (Txt.join dot r.2).length ≤ 1000)
theorem f_rB : ∀ r ∈ RR, rB r = true := by decide +kernel
theorem f_pB : ∀ r ∈ RR, pB r = true := by decide +kernel
theorem rf {r : Str × List Str} (h : r ∈ RR) : RF r := by
  have a := f_rB r h
  have b := f_pB r h
  have ip := f_ipr r h
  unfold rB at a
  unfold pB at b
  simp only [Bool.and_eq_true] at a b
  obtain ⟨⟨⟨⟨⟨⟨a1, a2⟩, a3⟩, a4⟩, a5⟩, a6⟩, a7⟩ := a
  obtain ⟨⟨⟨⟨b1, b2⟩, b3⟩, b4⟩, b5⟩ := b
  refine ⟨of_decide_eq_true a1, a2, fun x hx => List.all_eq_true.mp a3 x hx, ⟨low_of a4 (of_decide_eq_true a5), of_decide_eq_true a6, a7, by rw [ipB_of ip]; exact ip⟩, ⟨of_decide_eq_true b1, fun i c hc => ?_⟩, fun x hx => ?_, of_decide_eq_true b4, Nat.le_trans (of_decide_eq_true b5) (by decide)⟩
  · have hi : i < (ptn (rtx r)).cps.size := (Array.getElem?_eq_some_iff.mp hc).1
    have := List.all_eq_true.mp b2 i (List.mem_range.mpr hi)
    rw [hc] at this
    simpa [or_assoc] using this
  · have := List.all_eq_true.mp b3 _ hx
    exact this
theorem pf {l : List Nat} {r : Str × List Str} (hl : l ∈ all84) (hr : r ∈ RR) : PF l r := by
  refine ⟨?_, f_t l hl r hr⟩
  rw [← f_u l hl r hr]
  show udmX (ipB (hst l)) (ipB (rtx r)) (hst l) (rtx r) = _
  rw [ipB_of (f_ip l hl), ipB_of (f_ipr r hr)]
  rfl
theorem labs_mem {script : List Int} {l : List Nat} (h : l ∈ labs script) : l ∈ all84 := by
  obtain ⟨x, _, rfl⟩ := List.mem_map.mp h
  exact lab_mem x
theorem dues_mem {script : List Int} {r : Str × List Str} (h : r ∈ dues script) : r ∈ RR := by
  unfold dues at h
  unfold RR
  rcases List.mem_append.mp h with h | h
  · obtain ⟨l, hl, rfl⟩ := List.mem_map.mp h
    exact List.mem_append_left _ (List.mem_map.mpr ⟨repOf l, rep_mem l (labs_mem hl), rep_lrc l (labs_mem hl)⟩)
  · exact List.mem_append_right _ h
end Mine
end

section
open PySem PySem.W PyProof.Rows PySem.Calls PySem.Spec
set_option Elab.async false
set_option maxRecDepth 100000
set_option maxHeartbeats 4000000
namespace Mine
theorem bitAnd_nat (a b : Nat) : Builtin.bitAnd (a : Int) (b : Int) = ((a &&& b : Nat) : Int) := by
  unfold Builtin.bitAnd
  rw [decide_eq_true (show (0 : Int) ≤ a by omega), decide_eq_true (show (0 : Int) ≤ b by omega)]
  rfl
theorem bitOr_nat (a b : Nat) : Builtin.bitOr (a : Int) (b : Int) = ((a ||| b : Nat) : Int) := by
  rw [bitOr_and]
  rw [bitAnd_nat]
  have := nat_or_add_and a b
  omega
/-- the rights of the rules that take the host, laid together -/
def orN (rs : List Nat) (row : List Bool) : Nat → Nat
  | 0 => 0
  | k + 1 => if row.getD k false then orN rs row k ||| rs.getD k 0 else orN rs row k
theorem getD_cast (rs : List Nat) (k : Nat) : (rs.map fun (x : Nat) => (x : Int)).getD k 0 = ((rs.getD k 0 : Nat) : Int) := by
  rw [List.getD_eq_getElem?_getD, List.getD_eq_getElem?_getD, List.getElem?_map]
  cases rs[k]? <;> rfl
theorem laid_or (rs : List Nat) (row : List Bool) : ∀ k, laidN (rs.map fun (x : Nat) => (x : Int)) row k = ((32768 ||| orN rs row k : Nat) : Int)
  | 0 => by rw [laidN, orN]; rfl
  | k + 1 => by
    rw [laidN, orN, laid_or rs row k, getD_cast]
    split
    · rw [bitOr_nat, Nat.or_assoc]
    · rfl
theorem or_lt {rs : List Nat} (h : ∀ k, rs.getD k 0 < 512) (row : List Bool) : ∀ k, orN rs row k < 512
  | 0 => by rw [orN]; decide
  | k + 1 => by
    rw [orN]
    split
    · exact Nat.or_lt_two_pow (n := 9) (or_lt h row k) (h k)
    · exact or_lt h row k
theorem or_bit (rs : List Nat) (row : List Bool) (i : Nat) : ∀ k, (orN rs row k).testBit i = (List.range k).any fun j => row.getD j false && (rs.getD j 0).testBit i
  | 0 => by rw [orN]; simp
  | k + 1 => by
    rw [orN, List.range_succ, List.any_append, ← or_bit rs row i k]
    simp only [List.any_cons, List.any_nil, Bool.or_false]
    cases row.getD k false
    · simp only [Bool.false_eq_true, if_false, Bool.false_and, Bool.or_false]
    · simp only [if_true, Bool.true_and, Nat.testBit_or]
theorem bit_int (a i : Nat) : ((((a : Int).fdiv (2 ^ i)).fmod 2) == 1) = a.testBit i := by
  rw [Nat.testBit_eq_decide_div_mod_eq]
  have e : ((a : Int).fdiv (2 ^ i)).fmod 2 = ((a / 2 ^ i % 2 : Nat) : Int) := by
    rw [Int.fdiv_eq_ediv_of_nonneg _ (by exact Int.le_of_lt (Int.pow_pos (by decide))), Int.fmod_eq_emod_of_nonneg _ (by decide)]
    push_cast
    rfl
  rw [e]
  generalize a / 2 ^ i % 2 = q
  rw [Bool.eq_iff_iff, beq_iff_eq, decide_eq_true_eq]
  omega
def sgn (r j : Nat) : Str := if r.testBit (8 - j) then ⟨#[(Str.ofString "rwx").cps.getD (j % 3) 0]⟩ else Str.ofString "-"
theorem sign_or (rs : List Nat) (row : List Bool) (j : Nat) : signJ (rs.map fun (x : Nat) => (x : Int)) row j = sgn (orN rs row row.length) j := by
  unfold signJ sgn
  have : (bitsK (rs.map fun (x : Nat) => (x : Int)) row j ≠ []) ↔ (orN rs row row.length).testBit (8 - j) = true := by
    rw [or_bit]
    unfold bitsK
    rw [List.any_eq_true, Ne, List.filter_eq_nil_iff]
    simp only [getD_cast, bit_int]
    constructor
    · intro h
      exact Classical.byContradiction fun q => h fun k hk z => q ⟨k, hk, z⟩
    · rintro ⟨k, hk, z⟩ h
      exact h k hk z
  by_cases h : bitsK (rs.map fun (x : Nat) => (x : Int)) row j ≠ []
  · rw [if_pos h, if_pos (this.mp h)]
  · rw [if_neg h, if_neg (fun q => h (this.mpr q))]
def modeOk (r : Nat) : Prop := Txt.join (Str.ofString "") (fmd ((32768 ||| r : Nat) : Int)) = Str.ofString "-" ++ Txt.join (Str.ofString "") ((List.range 9).map (sgn r)) ∧
    PyData.strOk (Str.ofString "-" ++ Txt.join (Str.ofString "") ((List.range 9).map (sgn r))) = true ∧ (Txt.join (Str.ofString "") ((List.range 9).map (sgn r))).length ≤ 100
theorem join9 (a b c d e f g h i : Nat) : Txt.join (Str.ofString "") [⟨#[a]⟩, ⟨#[b]⟩, ⟨#[c]⟩, ⟨#[d]⟩, ⟨#[e]⟩, ⟨#[f]⟩, ⟨#[g]⟩, ⟨#[h]⟩, ⟨#[i]⟩] = (⟨#[a, b, c, d, e, f, g, h, i]⟩ : Str) := rfl
theorem join10 (a b c d e f g h i : Nat) : Txt.join (Str.ofString "") [Str.ofString "-", ⟨#[a]⟩, ⟨#[b]⟩, ⟨#[c]⟩, ⟨#[d]⟩, ⟨#[e]⟩, ⟨#[f]⟩, ⟨#[g]⟩, ⟨#[h]⟩, ⟨#[i]⟩] = Str.ofString "-" ++ (⟨#[a, b, c, d, e, f, g, h, i]⟩ : Str) := rfl
theorem dash_len (x : Str) : PyData.strOk (Str.ofString "-" ++ x) = PyData.strOk x := by
  show (Str.mk (#[45] ++ x.cps)).cps.all _ = _
  rw [Array.all_append, show ((#[45] : Array Nat).all fun x => decide (x < 1114112)) = true by decide +kernel, Bool.true_and]
  rfl
def sgc (r j : Nat) : Nat := if r.testBit (8 - j) then (Str.ofString "rwx").cps.getD (j % 3) 0 else 45
theorem sgn_eq (r j : Nat) : sgn r j = ⟨#[sgc r j]⟩ := by
  unfold sgn sgc
  split <;> rfl
theorem rwx_lt : ∀ k, k < 3 → (Str.ofString "rwx").cps.getD k 0 < 1114112 := by decide +kernel
theorem sgc_lt (r j : Nat) : sgc r j < 1114112 := by
  unfold sgc
  split
  · exact rwx_lt _ (Nat.mod_lt _ (by decide))
  · decide
theorem int_beq (a b : Nat) : ((a : Int) == (b : Int)) = decide (a = b) := by
  rw [Bool.eq_iff_iff, beq_iff_eq, decide_eq_true_eq]; omega
/-- a mode of a plain file has none of the bits from 9 to 14 -/
theorem mode_low {r k : Nat} (hk : k < 9) : (32768 ||| r).testBit k = r.testBit k := by
  rw [Nat.testBit_or, show (32768 : Nat) = 2 ^ 15 from rfl, Nat.testBit_two_pow, decide_eq_false (by omega), Bool.false_or]
theorem mode_mid {r e : Nat} (h : r < 512) (h9 : 9 ≤ e) (he : e < 15) : (32768 ||| r).testBit e = false := by
  rw [Nat.testBit_or, show (32768 : Nat) = 2 ^ 15 from rfl, Nat.testBit_two_pow, decide_eq_false (by omega), Bool.false_or]
  exact Nat.testBit_lt_two_pow (Nat.lt_of_lt_of_le h (show 2 ^ 9 ≤ 2 ^ e from Nat.pow_le_pow_right Nat.zero_lt_two h9))
theorem and_pow (m k : Nat) : decide (m &&& 2 ^ k = 2 ^ k) = m.testBit k := by
  rw [Bool.eq_iff_iff, decide_eq_true_eq]
  constructor
  · intro h
    have := congrArg (·.testBit k) h
    simpa [Nat.testBit_and, Nat.testBit_two_pow] using this
  · intro h
    refine Nat.eq_of_testBit_eq fun i => ?_
    rw [Nat.testBit_and, Nat.testBit_two_pow]
    by_cases e : k = i
    · subst e; rw [h]; rfl
    · rw [decide_eq_false e, Bool.and_false]
theorem and_not {m b e : Nat} (hb : b.testBit e = true) (hm : m.testBit e = false) : decide (m &&& b = b) = false := by
  refine decide_eq_false fun h => ?_
  have := congrArg (·.testBit e) h
  simp only [Nat.testBit_and, hb, hm] at this
  cases this
theorem hit_nat {i m b : Nat} {a : Addr} {s : Str} : hit (i + 1) (m : Int) (a, (b : Int), s) = decide (m &&& b = b) := by
  show (if i + 1 = 0 then _ else (Builtin.bitAnd (m : Int) (b : Int) == (b : Int))) = _
  rw [if_neg (Nat.succ_ne_zero i), bitAnd_nat, int_beq]
theorem row_one {i r k : Nat} {a : Addr} {s : Str} (hk : k < 9) : rowSign (i + 1) ((32768 ||| r : Nat) : Int) [(a, ((2 ^ k : Nat) : Int), s)] = if r.testBit k then s else Str.ofString "-" := by
  unfold rowSign
  rw [List.find?_cons, hit_nat, and_pow, mode_low hk]
  cases r.testBit k <;> rfl
theorem row_three {i r k b c e : Nat} {a₁ a₂ a₃ : Addr} {s₁ s₂ s₃ : Str} (h : r < 512) (hk : k < 9) (h9 : 9 ≤ e) (he : e < 15) (hb : b.testBit e = true) (hc : c.testBit e = true) :
    rowSign (i + 1) ((32768 ||| r : Nat) : Int) [(a₁, (b : Int), s₁), (a₂, (c : Int), s₂), (a₃, ((2 ^ k : Nat) : Int), s₃)] = if r.testBit k then s₃ else Str.ofString "-" := by
  unfold rowSign
  rw [List.find?_cons, hit_nat, and_not hb (mode_mid h h9 he), List.find?_cons, hit_nat, and_not hc (mode_mid h h9 he), List.find?_cons, hit_nat, and_pow, mode_low hk]
  cases r.testBit k <;> rfl
theorem row_zero {r : Nat} (h : r < 512) : rowSign 0 ((32768 ||| r : Nat) : Int) (tab.getD 0 (0, [])).2 = Str.ofString "-" := by
  have e : Builtin.bitAnd ((32768 ||| r : Nat) : Int) ((61440 : Nat) : Int) = 32768 := by
    rw [bitAnd_nat, Nat.and_or_distrib_right]
    have : r &&& 61440 = 0 := by
      have h1 : r = r &&& 511 := by rw [show (511 : Nat) = 2 ^ 9 - 1 from rfl, Nat.and_two_pow_sub_one_eq_mod, Nat.mod_eq_of_lt h]
      rw [h1, Nat.and_assoc]
      exact Nat.and_zero r
    rw [this]
    rfl
  show (match [(96, (40960 : Int), Str.ofString "l"), (97, 49152, Str.ofString "s"), (98, 32768, Str.ofString "-"), (99, 24576, Str.ofString "b"), (100, 16384, Str.ofString "d"), (101, 8192, Str.ofString "c"), (102, 4096, Str.ofString "p")].find?
    (fun p : Addr × Int × Str => if (0 : Nat) = 0 then Builtin.bitAnd ((32768 ||| r : Nat) : Int) ((61440 : Nat) : Int) == p.2.1 else _) with | some p => p.2.2 | none => if (0 : Nat) = 0 then Str.ofString "?" else Str.ofString "-") = _
  rw [e]
  rfl
theorem fmd_mode {r : Nat} (h : r < 512) : fmd ((32768 ||| r : Nat) : Int) = Str.ofString "-" :: (List.range 9).map (sgn r) := by
  show [rowSign 0 _ (tab.getD 0 (0, [])).2, rowSign 1 _ [(104, ((2 ^ 8 : Nat) : Int), Str.ofString "r")], rowSign 2 _ [(106, ((2 ^ 7 : Nat) : Int), Str.ofString "w")],
    rowSign 3 _ [(108, ((2112 : Nat) : Int), Str.ofString "s"), (109, ((2048 : Nat) : Int), Str.ofString "S"), (110, ((2 ^ 6 : Nat) : Int), Str.ofString "x")],
    rowSign 4 _ [(112, ((2 ^ 5 : Nat) : Int), Str.ofString "r")], rowSign 5 _ [(114, ((2 ^ 4 : Nat) : Int), Str.ofString "w")],
    rowSign 6 _ [(116, ((1032 : Nat) : Int), Str.ofString "s"), (117, ((1024 : Nat) : Int), Str.ofString "S"), (118, ((2 ^ 3 : Nat) : Int), Str.ofString "x")],
    rowSign 7 _ [(120, ((2 ^ 2 : Nat) : Int), Str.ofString "r")], rowSign 8 _ [(122, ((2 ^ 1 : Nat) : Int), Str.ofString "w")],
    rowSign 9 _ [(124, ((513 : Nat) : Int), Str.ofString "t"), (125, ((512 : Nat) : Int), Str.ofString "T"), (126, ((2 ^ 0 : Nat) : Int), Str.ofString "x")]] = _
  rw [row_zero h, row_one (by decide), row_one (by decide), row_three (e := 11) h (by decide) (by decide) (by decide) (by decide) (by decide), row_one (by decide), row_one (by decide),
    row_three (e := 10) h (by decide) (by decide) (by decide) (by decide) (by decide), row_one (by decide), row_one (by decide), row_three (e := 9) h (by decide) (by decide) (by decide) (by decide) (by decide)]
  rfl
theorem f_mode (r : Nat) (h : r < 512) : modeOk r := by
  have e : (List.range 9).map (sgn r) = [⟨#[sgc r 0]⟩, ⟨#[sgc r 1]⟩, ⟨#[sgc r 2]⟩, ⟨#[sgc r 3]⟩, ⟨#[sgc r 4]⟩, ⟨#[sgc r 5]⟩, ⟨#[sgc r 6]⟩, ⟨#[sgc r 7]⟩, ⟨#[sgc r 8]⟩] := by
    show [sgn r 0, sgn r 1, sgn r 2, sgn r 3, sgn r 4, sgn r 5, sgn r 6, sgn r 7, sgn r 8] = _
    simp only [sgn_eq]
  unfold modeOk
  rw [fmd_mode h, e, join9, join10]
  refine ⟨rfl, ?_, Nat.le_trans (show _ ≤ 9 from Nat.le_refl 9) (by decide)⟩
  rw [dash_len]
  unfold PyData.strOk
  simp [sgc_lt]
theorem lf {rs : List Nat} (h : ∀ k, rs.getD k 0 < 512) (row : List Bool) : LF (rs.map fun (x : Nat) => (x : Int)) row := by
  obtain ⟨a, b, c⟩ := f_mode (orN rs row row.length) (or_lt h row _)
  have e : (List.range 9).map (signJ (rs.map fun (x : Nat) => (x : Int)) row) = (List.range 9).map (sgn (orN rs row row.length)) := List.map_congr_left fun j _ => sign_or rs row j
  refine ⟨?_, ?_, ?_⟩
  · unfold lsd listed
    rw [laid_or, e]
    exact a
  · unfold listed
    rw [e]
    exact b
  · rw [e]
    exact c
theorem rgts_nat (script : List Int) : ∃ rs : List Nat, (∀ k, rs.getD k 0 < 512) ∧ rgts script = rs.map fun (x : Nat) => (x : Int) := by
  refine ⟨(rgts script).map Int.toNat, fun k => ?_, ?_⟩
  · rw [List.getD_eq_getElem?_getD, List.getElem?_map]
    cases e : (rgts script)[k]? with
    | none => decide
    | some v =>
      have hv := List.mem_of_getElem? e
      unfold rgts at hv
      show v.toNat < 512
      rcases List.mem_append.mp hv with hv | hv
      · obtain ⟨x, _, rfl⟩ := List.mem_map.mp hv
        have : (x.fdiv 64).fmod 512 < 512 := Int.fmod_lt_of_pos _ (by decide)
        omega
      · rw [List.mem_singleton.mp hv]; decide
  · rw [List.map_map]
    refine (List.map_id _).symm.trans (List.map_congr_left fun v hv => ?_)
    unfold rgts at hv
    show v = ((v.toNat : Nat) : Int)
    rcases List.mem_append.mp hv with hv | hv
    · obtain ⟨x, _, rfl⟩ := List.mem_map.mp hv
      have : 0 ≤ (x.fdiv 64).fmod 512 := Int.fmod_nonneg_of_pos _ (by decide)
      omega
    · rw [List.mem_singleton.mp hv]; decide
theorem law_true {prog : Program} {w : World} {n : Nat} {script : List Int} (hsc : script.length ≤ 63) : FnD prog w (KK w.params) (n + 4) 171 [dI script] (.bool true) := by
  refine fn171 hsc (fun l hl => hf (labs_mem hl)) (fun r hr => rf (dues_mem hr)) (fun l hl r hr => pf (labs_mem hl) (dues_mem hr)) fun l hl => ?_
  obtain ⟨rs, h, e⟩ := rgts_nat script
  rw [e]
  exact lf h _
end Mine
end

section
open PySem PySem.W PyProof.Rows PySem.Calls PySem.Spec
set_option Elab.async false
set_option maxRecDepth 100000
namespace Mine
theorem well_ints {P : Params} {h : Heap} {g : G} : ∀ {ns : List Int} {vs : List Value}, WellAll P h vs (ofPys (ns.map PyData.int)) → RL g vs (ns.map PyData.int)
  | [], _, h => by cases h; exact .nil
  | i :: ns, _, h => by
    cases h with
    | cons a b =>
      cases a
      exact .cons (.int _ _) (well_ints b)
theorem well_script {P : Params} {h : Heap} {a : Addr} {ns : List Int} (x : Well P h (.ref a) (ofPy (PyData.list (ns.map PyData.int)))) : ∃ g, Sub g h ∧ R g (.ref a) (dI ns) := by
  cases x with
  | @list _ vs _ e l =>
    refine ⟨put (fun _ => none) a { cls := .type "list", data := .seq vs.toArray }, fun b o q => ?_, .list put_self (well_ints l)⟩
    by_cases hb : b = a
    · subst hb; rw [put_self] at q; cases q; exact e
    · rw [put_ne hb] at q; cases q
theorem nlaw {P : Params} : nsIn (KK P) mainGlobals (Str.ofString "law") = some (some (.ref 171)) := rfl
end Mine
end
open PySem PySem.W PyProof.Rows PySem.Calls PySem.Spec
set_option maxRecDepth 100000 in
set_option maxHeartbeats 4000000 in
theorem PySem.Challenge.cw_qw0021_01_holds : PySem.Challenge.rw_qw0021_01.Holds := by
  refine Mine.hd rfl rfl rfl ?_
  intro w s₀ s₁ mg mb G Y fa o pm cd doc dV kV ho hd hcd hD hmg hg args vals as hpre hlay hrd hwl hlo
  have KX := kIn_of Y
  refine Ground.open G ?_
  intro T B D TE TW
  clear G Y B D TE TW ho hd hcd hD
  wrow_args hpre hlay hrd hwl hlo
  rename_i ns _ _ _ _ _ _ _ D _ _ _ _ W1 _ _ _ hlen _
  have e1 : mg (Str.ofString "law") = some (.ref 171) := mg_of KX T.g Mine.nlaw
  have hfa : fa = 171 := by
    have e2 : mg (Str.ofString "law") = some (.ref fa) := hmg
    rw [e1] at e2
    cases e2
    rfl
  subst hfa
  obtain ⟨g, hs, r⟩ := Mine.well_script W1
  refine wpAny_mono (Mine.law_true (n := 0) (script := ns) (by omega) callerA s₁ g _ _ ⟨rfl, by decide, by decide⟩ hs ⟨KX, _, _, _, _, _, T⟩ (.cons r .nil)) (fun v s' ⟨k, g', gr, r'⟩ => ?_) fun _ _ e => e
  cases r'.bool_inv
  obtain ⟨h', tk, rfl, kk⟩ := k
  refine GoodW.toG ⟨.inl ⟨_, .bool true, [], rfl, by intro cls; rfl, .bool true, ?_, unshared_nil⟩, kk, rfl, hg⟩
  first | rfl | wrow_post
