import PyProof.Rows.All
import Wide.All
import OpenK.AllK
import Wide.FinOn
import PySem.Challenge.RW_in0261_01
set_option Elab.async false
set_option maxRecDepth 100000
set_option linter.all false
set_option autoImplicit false

section
open PySem PySem.W PyProof.Rows
set_option maxHeartbeats 8000000
namespace Mine
/-- a def of the text, by its place -/
noncomputable def defAtQ (i : Nat) : Arguments × List Stmt × Scope := match Challenge.pw_in0261_01.main.body[i]? with
  | some (.FunctionDef _ a b _ _ _ sc _ _ _) => (a, b, sc)
  | _ => default
noncomputable def fnQ (i : Nat) (name : Str) (m : Value) (c : Addr) : Obj :=
  { cls := .type "function", data := .func { name := name, qualname := name, params := (defAtQ i).1, body := .stmts (defAtQ i).2.1, scope := (defAtQ i).2.2, globals := 3, closure := [], defaults := .none, kwdefaults := .none, pyModule := m, code := .ref c } }
/-- the written part: the objects that stand when the text's top has run -/
noncomputable def heapQ (P : Params) : Frag := [
  (3, { cls := Value.type "dict", data := Data.dict #[{ hash := PyData.keyHash P (Str.ofString "__name__"), key := Value.str (Str.ofString "__name__") 165, val := Value.str (Str.ofString "law_in0261_01") 647 }, { hash := PyData.keyHash P (Str.ofString "__doc__"), key := Value.str (Str.ofString "__doc__") 166, val := Value.none }, { hash := PyData.keyHash P (Str.ofString "__package__"), key := Value.str (Str.ofString "__package__") 167, val := Value.none }, { hash := PyData.keyHash P (Str.ofString "__loader__"), key := Value.str (Str.ofString "__loader__") 168, val := Value.builtin "__main__.__loader__#opaque" }, { hash := PyData.keyHash P (Str.ofString "__spec__"), key := Value.str (Str.ofString "__spec__") 169, val := Value.none }, { hash := PyData.keyHash P (Str.ofString "__annotations__"), key := Value.str (Str.ofString "__annotations__") 170, val := Value.ref 6 }, { hash := PyData.keyHash P (Str.ofString "__builtins__"), key := Value.str (Str.ofString "__builtins__") 171, val := Value.ref 4 }, { hash := PyData.keyHash P (Str.ofString "__file__"), key := Value.str (Str.ofString "__file__") 173, val := Value.str (Str.ofString "/claim/cut.py") 172 }, { hash := PyData.keyHash P (Str.ofString "__cached__"), key := Value.str (Str.ofString "__cached__") 174, val := Value.none }, { hash := PyData.keyHash P (Str.ofString "_sre"), key := Value.str (Str.ofString "_sre") 275, val := Value.ref 12 }, { hash := PyData.keyHash P (Str.ofString "twin_re_1_fnmatch"), key := Value.str (Str.ofString "twin_re_1_fnmatch") 321, val := Value.ref 36 }, { hash := PyData.keyHash P (Str.ofString "translate"), key := Value.str (Str.ofString "translate") 330, val := Value.ref 43 }, { hash := PyData.keyHash P (Str.ofString "_special_chars_map"), key := Value.str (Str.ofString "_special_chars_map") 478, val := Value.ref 45 }, { hash := PyData.keyHash P (Str.ofString "escape"), key := Value.str (Str.ofString "escape") 485, val := Value.ref 55 }, { hash := PyData.keyHash P (Str.ofString "_translate"), key := Value.str (Str.ofString "_translate") 506, val := Value.ref 62 }, { hash := PyData.keyHash P (Str.ofString "_join_translated_parts"), key := Value.str (Str.ofString "_join_translated_parts") 519, val := Value.ref 69 }, { hash := PyData.keyHash P (Str.ofString "twin_re_1_shlex"), key := Value.str (Str.ofString "twin_re_1_shlex") 561, val := Value.ref 74 }, { hash := PyData.keyHash P (Str.ofString "join"), key := Value.str (Str.ofString "join") 568, val := Value.ref 81 }, { hash := PyData.keyHash P (Str.ofString "_find_unsafe"), key := Value.str (Str.ofString "_find_unsafe") 570, val := Value.ref 82 }, { hash := PyData.keyHash P (Str.ofString "quote"), key := Value.str (Str.ofString "quote") 577, val := Value.ref 89 }, { hash := PyData.keyHash P (Str.ofString "twin_re_1_smtplib"), key := Value.str (Str.ofString "twin_re_1_smtplib") 595, val := Value.ref 94 }, { hash := PyData.keyHash P (Str.ofString "_twin_re_2"), key := Value.str (Str.ofString "_twin_re_2") 637, val := Value.ref 99 }, { hash := PyData.keyHash P (Str.ofString "CRLF"), key := Value.str (Str.ofString "CRLF") 639, val := Value.str (Str.ofString "\x0d\n") 638 }, { hash := PyData.keyHash P (Str.ofString "quotedata"), key := Value.str (Str.ofString "quotedata") 646, val := Value.ref 106 }, { hash := PyData.keyHash P (Str.ofString "_law_words"), key := Value.str (Str.ofString "_law_words") 654, val := Value.ref 111 }, { hash := PyData.keyHash P (Str.ofString "_law_line"), key := Value.str (Str.ofString "_law_line") 660, val := Value.ref 116 }, { hash := PyData.keyHash P (Str.ofString "_law_sent"), key := Value.str (Str.ofString "_law_sent") 671, val := Value.ref 123 }, { hash := PyData.keyHash P (Str.ofString "_law_parts"), key := Value.str (Str.ofString "_law_parts") 683, val := Value.ref 130 }, { hash := PyData.keyHash P (Str.ofString "_law_text"), key := Value.str (Str.ofString "_law_text") 689, val := Value.ref 135 }, { hash := PyData.keyHash P (Str.ofString "law"), key := Value.str (Str.ofString "law") 695, val := Value.ref 140 }] 30 }),
  (35, { cls := Value.type "tuple", data := Data.seq #[Value.int 14 0, Value.int 14 0, Value.int 4 0, Value.int 1 0, Value.int 1 0, Value.int 9 0, Value.int 0 0, Value.int 64 0, Value.int 0 0, Value.int 1342177280 0, Value.int 0 0, Value.int 0 0, Value.int 0 0, Value.int 0 0, Value.int 0 0, Value.int 17 0, Value.int 0 0, Value.int 13 0, Value.int 11 0, Value.int 9 0, Value.int 0 0, Value.int 64 0, Value.int 0 0, Value.int 1342177280 0, Value.int 0 0, Value.int 0 0, Value.int 0 0, Value.int 0 0, Value.int 0 0, Value.int 17 0, Value.int 1 0, Value.int 1 0] }),
  (36, { cls := Value.type "re.Pattern", data := Data.fields #[Value.str (Str.ofString "([&~|])") 285, Value.int 32 320, Value.int 1 0, Value.none, Value.none, Value.ref 35, Value.int 0 0] }),
  (42, { cls := Value.type "code", data := Data.fields #[Value.str (Str.ofString "translate") 322, Value.str (Str.ofString "translate") 323, Value.str (Str.ofString "/claim/cut.py") 324, Value.int 4 0, Value.int 1 0, Value.int 0 0, Value.int 0 0, Value.int 3 0, Value.ref 37, Value.bool true, Value.int 276 0, Value.ref 38, Value.none, Value.ref 39, Value.ref 40, Value.ref 41, Value.int 328 0, Value.int 4 0, Value.str (Str.ofString "/claim/cut.py") 329] }),
  (43, fnQ 3 "translate" (Value.str (Str.ofString "cpy313.fnmatch") 282) 42),
  (45, { cls := Value.type "dict", data := Data.dict #[{ hash := 40, key := Value.int 40 334, val := Value.str (Str.ofString "\\(") 338 }, { hash := 41, key := Value.int 41 340, val := Value.str (Str.ofString "\\)") 344 }, { hash := 91, key := Value.int 91 346, val := Value.str (Str.ofString "\\[") 350 }, { hash := 93, key := Value.int 93 352, val := Value.str (Str.ofString "\\]") 356 }, { hash := 123, key := Value.int 123 358, val := Value.str (Str.ofString "\\{") 362 }, { hash := 125, key := Value.int 125 364, val := Value.str (Str.ofString "\\}") 368 }, { hash := 63, key := Value.int 63 370, val := Value.str (Str.ofString "\\?") 374 }, { hash := 42, key := Value.int 42 376, val := Value.str (Str.ofString "\\*") 380 }, { hash := 43, key := Value.int 43 382, val := Value.str (Str.ofString "\\+") 386 }, { hash := 45, key := Value.int 45 388, val := Value.str (Str.ofString "\\-") 392 }, { hash := 124, key := Value.int 124 394, val := Value.str (Str.ofString "\\|") 398 }, { hash := 94, key := Value.int 94 400, val := Value.str (Str.ofString "\\^") 404 }, { hash := 36, key := Value.int 36 406, val := Value.str (Str.ofString "\\$") 410 }, { hash := 92, key := Value.int 92 412, val := Value.str (Str.ofString "\\\\") 416 }, { hash := 46, key := Value.int 46 418, val := Value.str (Str.ofString "\\.") 422 }, { hash := 38, key := Value.int 38 424, val := Value.str (Str.ofString "\\&") 428 }, { hash := 126, key := Value.int 126 430, val := Value.str (Str.ofString "\\~") 434 }, { hash := 35, key := Value.int 35 436, val := Value.str (Str.ofString "\\#") 440 }, { hash := 32, key := Value.int 32 442, val := Value.str (Str.ofString "\\ ") 446 }, { hash := 9, key := Value.int 9 448, val := Value.str (Str.ofString "\\\t") 452 }, { hash := 10, key := Value.int 10 454, val := Value.str (Str.ofString "\\\n") 458 }, { hash := 13, key := Value.int 13 460, val := Value.str (Str.ofString "\\\x0d") 464 }, { hash := 11, key := Value.int 11 466, val := Value.str (Str.ofString "\\\x0b") 470 }, { hash := 12, key := Value.int 12 472, val := Value.str (Str.ofString "\\\x0c") 476 }] 24 }),
  (54, { cls := Value.type "code", data := Data.fields #[Value.str (Str.ofString "escape") 479, Value.str (Str.ofString "escape") 480, Value.str (Str.ofString "/claim/cut.py") 481, Value.int 10 0, Value.int 1 0, Value.int 0 0, Value.int 0 0, Value.int 3 0, Value.ref 49, Value.bool true, Value.int 276 0, Value.ref 50, Value.none, Value.ref 51, Value.ref 52, Value.ref 53, Value.int 483 0, Value.int 10 0, Value.str (Str.ofString "/claim/cut.py") 484] }),
  (55, fnQ 6 "escape" (Value.str (Str.ofString "re") 331) 54),
  (61, { cls := Value.type "code", data := Data.fields #[Value.str (Str.ofString "_translate") 488, Value.str (Str.ofString "_translate") 489, Value.str (Str.ofString "/claim/cut.py") 490, Value.int 17 0, Value.int 3 0, Value.int 0 0, Value.int 0 0, Value.int 3 0, Value.ref 56, Value.bool true, Value.int 276 0, Value.ref 57, Value.none, Value.ref 58, Value.ref 59, Value.ref 60, Value.int 504 0, Value.int 17 0, Value.str (Str.ofString "/claim/cut.py") 505] }),
  (62, fnQ 8 "_translate" (Value.str (Str.ofString "cpy313.fnmatch") 486) 61),
  (68, { cls := Value.type "code", data := Data.fields #[Value.str (Str.ofString "_join_translated_parts") 507, Value.str (Str.ofString "_join_translated_parts") 508, Value.str (Str.ofString "/claim/cut.py") 509, Value.int 79 0, Value.int 2 0, Value.int 0 0, Value.int 0 0, Value.int 3 0, Value.ref 63, Value.bool true, Value.int 276 0, Value.ref 64, Value.none, Value.ref 65, Value.ref 66, Value.ref 67, Value.int 517 0, Value.int 79 0, Value.str (Str.ofString "/claim/cut.py") 518] }),
  (69, fnQ 9 "_join_translated_parts" (Value.str (Str.ofString "cpy313.fnmatch") 486) 68),
  (73, { cls := Value.type "tuple", data := Data.seq #[Value.int 14 0, Value.int 17 0, Value.int 4 0, Value.int 1 0, Value.int 1 0, Value.int 21 0, Value.int 9 0, Value.int 0 0, Value.int 604043296 0, Value.int 1 0, Value.int 0 0, Value.int 0 0, Value.int 0 0, Value.int 0 0, Value.int 0 0, Value.int 8 0, Value.int 4 0, Value.int 0 0, Value.int 13 0, Value.int 14 0, Value.int 21 0, Value.int 9 0, Value.int 0 0, Value.int 604043296 0, Value.int 1 0, Value.int 0 0, Value.int 0 0, Value.int 0 0, Value.int 0 0, Value.int 0 0, Value.int 8 0, Value.int 4 0, Value.int 0 0, Value.int 1 0] }),
  (74, { cls := Value.type "re.Pattern", data := Data.fields #[Value.str (Str.ofString "[^\\w@%+=:,./-]") 523, Value.int 256 560, Value.int 0 0, Value.none, Value.none, Value.ref 73, Value.int 0 0] }),
  (80, { cls := Value.type "code", data := Data.fields #[Value.str (Str.ofString "join") 562, Value.str (Str.ofString "join") 563, Value.str (Str.ofString "/claim/cut.py") 564, Value.int 108 0, Value.int 1 0, Value.int 0 0, Value.int 0 0, Value.int 3 0, Value.ref 75, Value.bool true, Value.int 276 0, Value.ref 76, Value.none, Value.ref 77, Value.ref 78, Value.ref 79, Value.int 566 0, Value.int 108 0, Value.str (Str.ofString "/claim/cut.py") 567] }),
  (81, fnQ 12 "join" (Value.str (Str.ofString "cpy313.shlex") 520) 80),
  (82, { cls := Value.type "builtin_function_or_method", data := Data.fields #[Value.builtin "re.Pattern.search", Value.ref 74] }),
  (88, { cls := Value.type "code", data := Data.fields #[Value.str (Str.ofString "quote") 571, Value.str (Str.ofString "quote") 572, Value.str (Str.ofString "/claim/cut.py") 573, Value.int 111 0, Value.int 1 0, Value.int 0 0, Value.int 0 0, Value.int 3 0, Value.ref 83, Value.bool true, Value.int 276 0, Value.ref 84, Value.none, Value.ref 85, Value.ref 86, Value.ref 87, Value.int 575 0, Value.int 111 0, Value.str (Str.ofString "/claim/cut.py") 576] }),
  (89, fnQ 14 "quote" (Value.str (Str.ofString "cpy313.shlex") 520) 88),
  (93, { cls := Value.type "tuple", data := Data.seq #[Value.int 14 0, Value.int 4 0, Value.int 0 0, Value.int 1 0, Value.int 1 0, Value.int 6 0, Value.int 1 0, Value.int 16 0, Value.int 46 0, Value.int 1 0] }),
  (94, { cls := Value.type "re.Pattern", data := Data.fields #[Value.str (Str.ofString "(?m)^\\.") 581, Value.int 40 594, Value.int 0 0, Value.none, Value.none, Value.ref 93, Value.int 0 0] }),
  (98, { cls := Value.type "tuple", data := Data.seq #[Value.int 14 0, Value.int 9 0, Value.int 4 0, Value.int 1 0, Value.int 2 0, Value.int 16 0, Value.int 10 0, Value.int 16 0, Value.int 13 0, Value.int 0 0, Value.int 7 0, Value.int 7 0, Value.int 16 0, Value.int 13 0, Value.int 16 0, Value.int 10 0, Value.int 15 0, Value.int 18 0, Value.int 5 0, Value.int 16 0, Value.int 10 0, Value.int 15 0, Value.int 13 0, Value.int 11 0, Value.int 16 0, Value.int 13 0, Value.int 5 0, Value.int 5 0, Value.int 0 0, Value.int 16 0, Value.int 10 0, Value.int 1 0, Value.int 15 0, Value.int 2 0, Value.int 0 0, Value.int 1 0] }),
  (99, { cls := Value.type "re.Pattern", data := Data.fields #[Value.str (Str.ofString "(?:\\r\\n|\\n|\\r(?!\\n))") 597, Value.int 32 636, Value.int 0 0, Value.none, Value.none, Value.ref 98, Value.int 0 0] }),
  (105, { cls := Value.type "code", data := Data.fields #[Value.str (Str.ofString "quotedata") 640, Value.str (Str.ofString "quotedata") 641, Value.str (Str.ofString "/claim/cut.py") 642, Value.int 121 0, Value.int 1 0, Value.int 0 0, Value.int 0 0, Value.int 3 0, Value.ref 100, Value.bool true, Value.int 276 0, Value.ref 101, Value.none, Value.ref 102, Value.ref 103, Value.ref 104, Value.int 644 0, Value.int 121 0, Value.str (Str.ofString "/claim/cut.py") 645] }),
  (106, fnQ 19 "quotedata" (Value.str (Str.ofString "cpy313.smtplib") 578) 105),
  (110, { cls := Value.type "code", data := Data.fields #[Value.str (Str.ofString "_law_words") 649, Value.str (Str.ofString "_law_words") 650, Value.str (Str.ofString "/claim/cut.py") 651, Value.int 124 0, Value.int 1 0, Value.int 0 0, Value.int 0 0, Value.int 3 0, Value.ref 107, Value.bool true, Value.int 276 0, Value.ref 108, Value.none, Value.none, Value.none, Value.ref 109, Value.int 652 0, Value.int 124 0, Value.str (Str.ofString "/claim/cut.py") 653] }),
  (111, fnQ 21 "_law_words" (Value.str (Str.ofString "law_in0261_01") 647) 110),
  (115, { cls := Value.type "code", data := Data.fields #[Value.str (Str.ofString "_law_line") 655, Value.str (Str.ofString "_law_line") 656, Value.str (Str.ofString "/claim/cut.py") 657, Value.int 156 0, Value.int 1 0, Value.int 0 0, Value.int 0 0, Value.int 3 0, Value.ref 112, Value.bool true, Value.int 276 0, Value.ref 113, Value.none, Value.none, Value.none, Value.ref 114, Value.int 658 0, Value.int 156 0, Value.str (Str.ofString "/claim/cut.py") 659] }),
  (116, fnQ 22 "_law_line" (Value.str (Str.ofString "law_in0261_01") 647) 115),
  (122, { cls := Value.type "code", data := Data.fields #[Value.str (Str.ofString "_law_sent") 661, Value.str (Str.ofString "_law_sent") 662, Value.str (Str.ofString "/claim/cut.py") 663, Value.int 175 0, Value.int 1 0, Value.int 0 0, Value.int 0 0, Value.int 3 0, Value.ref 117, Value.bool true, Value.int 276 0, Value.ref 118, Value.none, Value.ref 119, Value.ref 120, Value.ref 121, Value.int 669 0, Value.int 175 0, Value.str (Str.ofString "/claim/cut.py") 670] }),
  (123, fnQ 23 "_law_sent" (Value.str (Str.ofString "law_in0261_01") 647) 122),
  (129, { cls := Value.type "code", data := Data.fields #[Value.str (Str.ofString "_law_parts") 672, Value.str (Str.ofString "_law_parts") 673, Value.str (Str.ofString "/claim/cut.py") 674, Value.int 188 0, Value.int 1 0, Value.int 0 0, Value.int 0 0, Value.int 3 0, Value.ref 124, Value.bool true, Value.int 276 0, Value.ref 125, Value.none, Value.ref 126, Value.ref 127, Value.ref 128, Value.int 681 0, Value.int 188 0, Value.str (Str.ofString "/claim/cut.py") 682] }),
  (130, fnQ 24 "_law_parts" (Value.str (Str.ofString "law_in0261_01") 647) 129),
  (134, { cls := Value.type "code", data := Data.fields #[Value.str (Str.ofString "_law_text") 684, Value.str (Str.ofString "_law_text") 685, Value.str (Str.ofString "/claim/cut.py") 686, Value.int 210 0, Value.int 1 0, Value.int 0 0, Value.int 0 0, Value.int 3 0, Value.ref 131, Value.bool true, Value.int 276 0, Value.ref 132, Value.none, Value.none, Value.none, Value.ref 133, Value.int 687 0, Value.int 210 0, Value.str (Str.ofString "/claim/cut.py") 688] }),
  (135, fnQ 25 "_law_text" (Value.str (Str.ofString "law_in0261_01") 647) 134),
  (139, { cls := Value.type "code", data := Data.fields #[Value.str (Str.ofString "law") 690, Value.str (Str.ofString "law") 691, Value.str (Str.ofString "/claim/cut.py") 692, Value.int 219 0, Value.int 1 0, Value.int 0 0, Value.int 0 0, Value.int 3 0, Value.ref 136, Value.bool true, Value.int 276 0, Value.ref 137, Value.none, Value.none, Value.none, Value.ref 138, Value.int 693 0, Value.int 219 0, Value.str (Str.ofString "/claim/cut.py") 694] }),
  (140, fnQ 26 "law" (Value.str (Str.ofString "law_in0261_01") 647) 139)]
noncomputable def viewQ : Program := view Challenge.pw_in0261_01 [0, 1, 3, 4, 6, 7, 8, 9, 10, 12, 14, 15, 18, 19, 20, 21, 22, 23, 24, 25, 26]
noncomputable def looseQ : List Str := ["twin_re_1_fnmatch", "_special_chars_map", "twin_re_1_shlex", "_find_unsafe", "twin_re_1_smtplib", "_twin_re_2"]
noncomputable def hookQ : Hook := kmHook heapQ [3,35,36,42,43,45,54,55,61,62,68,69,73,74,80,81,82,88,89,93,94,98,99,105,106,110,111,115,116,122,123,129,130,134,135,139,140] (fun _ => rfl) [57, 76]
noncomputable def seenQ (s : Shared) := (openSeen viewQ looseQ (importedModules Challenge.pw_in0261_01.main.body) (fun s => xlAt viewQ [] s && recOk [] s) true s, hookQ.obs s)
noncomputable def RunQ (w : World) : Prop := (openEnds treeTable Challenge.pw_in0261_01 w 4214).map seenQ = some (openGood viewQ looseQ, hookQ.val w)
theorem run_ff (w : World) : RunQ ((w.withFollow "special-get-raises" false).withFollow "comprehension-iter-twice" false) := by
  unfold RunQ
  kernel_rfl
end Mine
end

section
open PySem PySem.W PyProof.Rows
set_option maxHeartbeats 8000000
namespace Mine
theorem said_law : Challenge.rw_in0261_01.wellSaid = true := by kernel_rfl
theorem witness : Challenge.rw_in0261_01.row.toRowW.promised := ⟨[.list []], by kernel_rfl, by kernel_rfl⟩
noncomputable def dQ : DefRec := ⟨"law", (defAtQ 26).1, (defAtQ 26).2.1, (defAtQ 26).2.2, ⟨219, 0, 223, 87⟩⟩
theorem side_def : defOf viewQ "law" = some (dQ, []) := by kernel_rfl
theorem side_the : Challenge.pw_in0261_01.theDef "law" = some (dQ.params, dQ.body, dQ.scope) := by kernel_rfl
theorem side_kw : kwWritten? dQ.params.kwonlyargs dQ.params.kw_defaults = some [] := by kernel_rfl
theorem side_ok : (chainsOk viewQ && opensWell Challenge.pw_in0261_01 && (frees Challenge.rw_in0261_01.row.toRowW && Challenge.rw_in0261_01.row.within.isEmpty)) = true := by kernel_rfl
theorem side_bare : Challenge.pw_in0261_01.bare := ⟨rfl, rfl, rfl, rfl, rfl, by kernel_rfl⟩
theorem run_ft (w : World) : RunQ ((w.withFollow "special-get-raises" true).withFollow "comprehension-iter-twice" false) := by
  unfold RunQ
  kernel_rfl
theorem run_tf (w : World) : RunQ ((w.withFollow "special-get-raises" false).withFollow "comprehension-iter-twice" true) := by
  unfold RunQ
  kernel_rfl
theorem run_tt (w : World) : RunQ ((w.withFollow "special-get-raises" true).withFollow "comprehension-iter-twice" true) := by
  unfold RunQ
  kernel_rfl
theorem run_all (w : World) : RunQ w := byRow2 "comprehension-iter-twice" (P := RunQ) (byRow2 "special-get-raises" (P := fun w => RunQ (w.withFollow "comprehension-iter-twice" false)) run_ff run_ft) (byRow2 "special-get-raises" (P := fun w => RunQ (w.withFollow "comprehension-iter-twice" true)) run_tf run_tt) w
theorem headQ (walk : WalkO viewQ looseQ (XL viewQ []) hookQ.says Challenge.rw_in0261_01.row.toRowW dQ [] fun f vs => PySem.call f vs) : Challenge.rw_in0261_01.Holds :=
  holds_law said_law fun said => holds_open (r := Challenge.rw_in0261_01.row) (q := viewQ) (loose := looseQ) (Xt := fun s => xlAt viewQ [] s && recOk [] s) (XP := XL viewQ []) (Yf := hookQ.obs) (Ya := hookQ.val) (YP := hookQ.says) (N := 4214)
    run_all hookQ.of hookQ.keeps (fun s e => xl_of s (Bool.and_eq_true_iff.mp e).1) XL.keeps side_def side_the side_kw (fun s e => recFacts_of (Bool.and_eq_true_iff.mp e).2) rfl said side_ok side_bare witness walk
end Mine
end

section
open PySem PySem.W PyProof.Rows
namespace Mine
/-- the written part -/
noncomputable abbrev KF (w : World) : Frag := heapQ w.params

structure H0 (w : World) (mg mb : Str → Option Value) (h₀ : Heap) : Prop where
  K : (KF w).In h₀
  g : h₀.Ns mainGlobals mg
  b : h₀.Ns builtinsNs mb
  nolimit : h₀.NoLimit
  builtins : ∀ x : Str, x ≠ "__name__" → mb x = bootBuiltins x
  bm : ∃ bm ob, mg "__builtins__" = some (.ref bm) ∧ bm ≠ builtinsNs ∧ h₀.get? bm = some ob ∧ ob.cls = .type "module" ∧ ob.dict = some builtinsNs ∧ ob.data = .plain
  t57 : ∃ ps, h₀.get? 57 = some (tabObj ps)
  t76 : ∃ ps, h₀.get? 76 = some (tabObj ps)

structure Cx where
  prog : Program
  w : World
  mg : Str → Option Value
  mb : Str → Option Value
  h₀ : Heap
  ok : H0 w mg mb h₀
  loud : Bool
  g₀ : Array GenState
  d₀ : Drawn

noncomputable abbrev Cx.M (C : Cx) : Model := model C.prog C.w

inductive V where
  | none
  | bool (b : Bool)
  | int (i : Int)
  | str (s : Str)
  | raw (w : Value)
  | pair (a b : Str)
  | lst (k : Nat)
  | obj (k : Nat)
  | bound (id : String) (k : Nat)
  | mtch (s : Str)
  | thing
  | rng (n : Nat)

noncomputable abbrev Cell := Option (List V)

/-- an object that nobody turns -/
noncomputable def ImmObj (o : Obj) : Prop :=
  (o.cls = .type "tuple" ∧ ∃ xs n, o.data = .seq xs n) ∨ ((o.cls = .type "builtin_function_or_method" ∨ o.cls = .type "re.Match" ∨ o.cls = .type "code" ∨ o.cls = .type "function" ∨ o.cls = .type "range") ∧ ((∃ fs, o.data = .fields fs) ∨ ∃ fd, o.data = .func fd))

noncomputable def TupAt (h : Heap) (x : Addr) (vs : Array Value) : Prop := ∃ o n, h.get? x = some o ∧ o.cls = .type "tuple" ∧ o.data = .seq vs n

noncomputable def VR (α : List Addr) (h : Heap) : V → Value → Prop
  | .none, v => v = .none
  | .bool b, v => v = .bool b
  | .int i, v => ∃ t, v = .int i t
  | .str s, v => ∃ t, v = .str s t
  | .raw w, v => v = w
  | .pair a b, v => ∃ x t u, v = .ref x ∧ TupAt h x #[.str a t, .str b u]
  | .lst k, v => ∃ a, α[k]? = some a ∧ v = .ref a
  | .obj k, v => ∃ a, α[k]? = some a ∧ v = .ref a
  | .bound id k, v => ∃ x a o, v = .ref x ∧ α[k]? = some a ∧ h.get? x = some o ∧ o.cls = .type "builtin_function_or_method" ∧ o.data = .fields #[.builtin id, .ref a]
  | .thing, v => ∃ x, v = .ref x
  | .rng n, v => ∃ x t u w, v = .ref x ∧ IsRange h x 0 n 1 t u w
  | .mtch s, v => ∃ x o fs tp tx tt a b c d, v = .ref x ∧ h.get? x = some o ∧ o.cls = .type "re.Match" ∧ (o.data = .fields fs ∧ o.dict = none) ∧ fs[0]? = some (.str tx tt) ∧ fs[5]? = some (.ref tp) ∧
      TupAt h tp #[.int a 0, .int b 0, .int c 0, .int d 0] ∧ 0 ≤ c ∧ 0 ≤ d ∧ (⟨tx.cps.extract c.toNat d.toNat⟩ : Str) = s

inductive F2 {A B : Type} (R : A → B → Prop) : List A → List B → Prop
  | nil : F2 R [] []
  | cons {a b as bs} : R a b → F2 R as bs → F2 R (a :: as) (b :: bs)
noncomputable abbrev VRs (α : List Addr) (h : Heap) : List V → List Value → Prop := F2 (VR α h)

/-- the generators: all bare; where it is quiet, none new -/
noncomputable def Br (C : Cx) (s : Shared) : Prop := (C.loud = true → AllBare s.gens) ∧ (C.loud = false → s.gens = C.g₀ ∧ s.drawn = C.d₀)
/-- heap: base -/
structure Bs (C : Cx) (h : Heap) : Prop where
  keep : ∀ b o, C.h₀.get? b = some o → b ≠ 57 → b ≠ 76 → h.get? b = some o
  t57 : ∃ ps, h.get? 57 = some (tabObj ps) ∧ (ps = #[] ∨ ∃ c, ps = #[rawInt 63, rawInt 46, .ref c] ∧ (∃ o, h.get? c = some o ∧ o.cls = .type "code" ∧ ∃ fs, o.data = .fields fs) ∧ h.CodeRec (.ref c) "_translate.<locals>.<lambda>")
  t76 : ∃ ps, h.get? 76 = some (tabObj ps) ∧ (ps = #[] ∨ ∃ c, ps = #[rawInt 109, rawInt 20, .ref c])
  quiet : C.loud = false → h.get? 57 = C.h₀.get? 57 ∧ h.get? 76 = C.h₀.get? 76

noncomputable def CellIs (α : List Addr) (h : Heap) (c : Cell) (a : Addr) : Prop := match c with
  | some vs => ∃ xs n, h.get? a = some (listOf xs n) ∧ VRs α h vs xs.toList
  | none => h.get? a = some { cls := .type "object", data := .plain }

structure HR (C : Cx) (hp : List Cell) (α : List Addr) (h : Heap) : Prop where
  base : Bs C h
  len : α.length = hp.length
  nd : α.Nodup
  new : ∀ a ∈ α, C.h₀.get? a = none
  cell : ∀ (k : Nat) a c, α[k]? = some a → hp[k]? = some c → CellIs α h c a

structure Nx (C : Cx) (own α : List Addr) (s : Shared) (α' : List Addr) (s' : Shared) : Prop where
  ext : ∃ β, α' = α ++ β ∧ ∀ b ∈ β, s.heap.get? b = none
  keep : ∀ b o, s.heap.get? b = some o → b ∉ own → b ∉ α → b ≠ 57 → b ≠ 76 → s'.heap.get? b = some o
  there : ∀ b o, s.heap.get? b = some o → ∃ o', s'.heap.get? b = some o'
  os : s'.os = s.os
  gens : ∀ (i : Nat) (g : GenState), s.gens[i]? = some g → s'.gens[i]? = some g
  bare : Br C s → Br C s'

theorem Nx.refl {C : Cx} (own α : List Addr) (s : Shared) : Nx C own α s α s := ⟨⟨[], by simp, by simp⟩, fun _ _ e _ _ _ _ => e, fun _ o e => ⟨o, e⟩, rfl, fun _ _ e => e, fun h => h⟩
theorem Nx.trans {C : Cx} {own α α' α'' : List Addr} {s s' s'' : Shared} (x : Nx C own α s α' s') (y : Nx C own α' s' α'' s'') : Nx C own α s α'' s'' := by
  obtain ⟨β, rfl, hβ⟩ := x.ext
  obtain ⟨γ, rfl, hγ⟩ := y.ext
  refine ⟨⟨β ++ γ, by simp, fun b hb => ?_⟩, fun b o e h1 h2 h3 h4 => ?_, fun b o e => let ⟨o', e'⟩ := x.there b o e; y.there b o' e', y.os.trans x.os, fun i g e => y.gens i g (x.gens i g e), fun h => y.bare (x.bare h)⟩
  · rcases List.mem_append.mp hb with h | h
    · exact hβ b h
    · cases q : s.heap.get? b with
      | none => rfl
      | some o =>
        obtain ⟨o', e'⟩ := x.there b o q
        rw [hγ b h] at e'; cases e'
  · refine y.keep b o (x.keep b o e h1 h2 h3 h4) h1 (fun h => ?_) h3 h4
    rcases List.mem_append.mp h with h | h
    · exact h2 h
    · rw [hβ b h] at e; cases e
theorem Nx.own {C : Cx} {own own' α α' : List Addr} {s s' : Shared} (x : Nx C own α s α' s') (h : ∀ b ∈ own, b ∈ own') : Nx C own' α s α' s' :=
  ⟨x.ext, fun b o e h1 => x.keep b o e (fun z => h1 (h b z)), x.there, x.os, x.gens, x.bare⟩

theorem not_imm_list {h : Heap} {a : Addr} {xs : Array Value} (x : h.IsList a xs) {o : Obj} (e : h.get? a = some o) : ¬ ImmObj o := by
  obtain ⟨o', e', hc, n, hd⟩ := x
  rw [e] at e'; cases e'
  rintro (⟨h1, _⟩ | ⟨h1 | h1 | h1 | h1 | h1, _⟩) <;> rw [hc] at h1 <;> simp at h1
theorem not_imm_plain {o : Obj} (hd : o.data = .plain) : ¬ ImmObj o := by
  rintro (⟨_, xs, n, h1⟩ | ⟨_, ⟨fs, h1⟩ | ⟨fd, h1⟩⟩) <;> rw [hd] at h1 <;> cases h1
theorem not_imm_dict {o : Obj} {es : Array DictEntry} {n : Nat} (hd : o.data = .dict es n) : ¬ ImmObj o := by
  rintro (⟨_, xs, n, h1⟩ | ⟨_, ⟨fs, h1⟩ | ⟨fd, h1⟩⟩) <;> rw [hd] at h1 <;> cases h1
theorem not_imm_cell {o : Obj} {c : Option Value} (hd : o.data = .cell c) : ¬ ImmObj o := by
  rintro (⟨_, xs, n, h1⟩ | ⟨_, ⟨fs, h1⟩ | ⟨fd, h1⟩⟩) <;> rw [hd] at h1 <;> cases h1
theorem not_imm_tab {ps : Array Value} : ¬ ImmObj (tabObj ps) := by
  rintro (⟨h1, _⟩ | ⟨h1 | h1 | h1 | h1 | h1, _⟩) <;> cases h1

theorem HR.notImm {C : Cx} {hp : List Cell} {α : List Addr} {h : Heap} (R : HR C hp α h) {a : Addr} (ha : a ∈ α) {o : Obj} (e : h.get? a = some o) : ¬ ImmObj o := by
  obtain ⟨k, hk, rfl⟩ := List.getElem_of_mem ha
  have h1 : α[k]? = some α[k] := List.getElem?_eq_getElem hk
  obtain ⟨c, hc⟩ : ∃ c, hp[k]? = some c := ⟨hp[k]'(R.len ▸ hk), List.getElem?_eq_getElem _⟩
  have := R.cell k _ c h1 hc
  cases c with
  | some vs => obtain ⟨xs, n, e', _⟩ := this; exact not_imm_list ⟨_, e', rfl, _, rfl⟩ e
  | none => have e' : h.get? _ = some _ := this; rw [e] at e'; cases e'; exact not_imm_plain rfl

/-- what keeps the immutable: enough for VR -/
noncomputable def Kp (h h' : Heap) : Prop := ∀ b o, h.get? b = some o → ImmObj o → h'.get? b = some o
theorem Kp.refl (h : Heap) : Kp h h := fun _ _ e _ => e
theorem Kp.trans {a b c : Heap} (x : Kp a b) (y : Kp b c) : Kp a c := fun d o e i => y d o (x d o e i) i

theorem TupAt.kp {h h' : Heap} {x : Addr} {vs : Array Value} (k : Kp h h') (t : TupAt h x vs) : TupAt h' x vs := by
  obtain ⟨o, n, e, c, d⟩ := t
  exact ⟨o, n, k x o e (.inl ⟨c, _, _, d⟩), c, d⟩
theorem VR.kp {α β : List Addr} {h h' : Heap} (k : Kp h h') : ∀ {v : V} {u : Value}, VR α h v u → VR (α ++ β) h' v u
  | .none, _, x => x
  | .bool _, _, x => x
  | .int _, _, x => x
  | .str _, _, x => x
  | .raw _, _, x => x
  | .pair a b, u, ⟨x, t, t', e, p⟩ => ⟨x, t, t', e, p.kp k⟩
  | .lst n, _, ⟨a, e, r⟩ => ⟨a, by rw [List.getElem?_append_left (List.getElem?_eq_some_iff.mp e).1]; exact e, r⟩
  | .obj n, _, ⟨a, e, r⟩ => ⟨a, by rw [List.getElem?_append_left (List.getElem?_eq_some_iff.mp e).1]; exact e, r⟩
  | .bound id n, _, ⟨x, a, o, e, e1, e2, c, d⟩ => ⟨x, a, o, e, by rw [List.getElem?_append_left (List.getElem?_eq_some_iff.mp e1).1]; exact e1, k x o e2 (.inr ⟨.inl c, .inl ⟨_, d⟩⟩), c, d⟩
  | .thing, _, x => x
  | .rng n, _, ⟨x, t, u, w, e, r⟩ => ⟨x, t, u, w, e, k x _ r (.inr ⟨.inr (.inr (.inr (.inr rfl))), .inl ⟨_, rfl⟩⟩)⟩
  | .mtch s, _, ⟨x, o, fs, tp, tx, tt, a, b, c, d, e, e1, e2, e3, e4, e5, e6, r⟩ => ⟨x, o, fs, tp, tx, tt, a, b, c, d, e, k x o e1 (.inr ⟨.inr (.inl e2), .inl ⟨_, e3.1⟩⟩), e2, e3, e4, e5, e6.kp k, r⟩
theorem VRs.kp {α β : List Addr} {h h' : Heap} (k : Kp h h') {vs : List V} {us : List Value} (x : VRs α h vs us) : VRs (α ++ β) h' vs us := by
  induction x with
  | nil => exact .nil
  | cons a _ ih => exact .cons (a.kp k) ih

theorem Bs.ne57 {C : Cx} {h : Heap} (B : Bs C h) {b : Addr} {o : Obj} (e : h.get? b = some o) (i : ImmObj o) : b ≠ 57 := by
  rintro rfl
  obtain ⟨ps, e', _⟩ := B.t57
  rw [e] at e'; cases e'; exact not_imm_tab i
theorem Bs.ne76 {C : Cx} {h : Heap} (B : Bs C h) {b : Addr} {o : Obj} (e : h.get? b = some o) (i : ImmObj o) : b ≠ 76 := by
  rintro rfl
  obtain ⟨ps, e', _⟩ := B.t76
  rw [e] at e'; cases e'; exact not_imm_tab i

/-- frame -/
structure FrD where
  env : Env
  names : List (Str × Option Addr)
  own : List Addr

structure FOk (F : FrD) : Prop where
  kind : F.env.scope.kind = .function
  glob : F.env.globals = mainGlobals
  blt : F.env.builtins = builtinsNs
  nodup : (F.names.map (·.1)).Nodup
  here : F.env.locals ∈ F.own
  loc : ∀ p ∈ F.names, match p.2 with
    | none => F.env.kindOf p.1 = some .local
    | some c => (F.env.kindOf p.1 = some .cell ∨ (F.env.kindOf p.1 = some .free ∧ (p.1 == ("__classdict__" : Str)) = false)) ∧ F.env.cells.lookup p.1 = some c
  apart : (F.env.locals :: F.names.filterMap (·.2)).Nodup
  ownIs : ∀ b ∈ F.own, b = F.env.locals ∨ b ∈ F.names.filterMap (·.2)

structure FR (C : Cx) (F : FrD) (loc : List (Option V)) (α : List Addr) (h : Heap) : Prop where
  new : ∀ b ∈ F.own, C.h₀.get? b = none
  ns : ∃ m, h.Ns F.env.locals m ∧ ∀ (i : Nat) x v, F.names[i]? = some (x, none) → loc[i]? = some (some v) → ∃ u, m x = some u ∧ VR α h v u
  cells : ∀ (i : Nat) x c, F.names[i]? = some (x, some c) → ∃ u, h.IsCell c u ∧ ∀ v, loc[i]? = some (some v) → ∃ y, u = some y ∧ VR α h v y

theorem FR.notImm {C : Cx} {F : FrD} {loc : List (Option V)} {α : List Addr} {h : Heap} (R : FR C F loc α h) (ok : FOk F) {b : Addr} (hb : b ∈ F.own) {o : Obj} (e : h.get? b = some o) : ¬ ImmObj o := by
  rcases ok.ownIs b hb with rfl | hb
  · obtain ⟨m, ⟨o', es, ep, e', hd, _⟩, _⟩ := R.ns
    rw [e] at e'; cases e'; exact not_imm_dict hd
  · obtain ⟨p, hp, hc⟩ := List.mem_filterMap.mp hb
    obtain ⟨i, hi, rfl⟩ := List.getElem_of_mem hp
    obtain ⟨u, ⟨o', e', hd⟩, _⟩ := R.cells i F.names[i].1 b (by rw [List.getElem?_eq_getElem hi]; congr 1; exact Prod.ext rfl hc)
    rw [e] at e'; cases e'; exact not_imm_cell hd

theorem Nx.kp {C : Cx} {hp : List Cell} {α α' own : List Addr} {s s' : Shared} (x : Nx C own α s α' s') (R : HR C hp α s.heap) (ho : ∀ b ∈ own, ∀ o, s.heap.get? b = some o → ¬ ImmObj o) : Kp s.heap s'.heap := fun b o e i =>
  x.keep b o e (fun h => ho b h o e i) (fun h => R.notImm h e i) (R.base.ne57 e i) (R.base.ne76 e i)
theorem Nx.kp0 {C : Cx} {hp : List Cell} {α α' : List Addr} {s s' : Shared} (x : Nx C [] α s α' s') (R : HR C hp α s.heap) : Kp s.heap s'.heap := x.kp R (fun _ h => nomatch h)

noncomputable def Ok (k : Nat) (A : Around) : Prop := A.handled = none ∧ A.depth ≤ 301 + k ∧ A.units ≤ 4 + 10 * k ∧ k ≤ 100
end Mine
end

section
open PySem PySem.W PyProof.Rows
namespace Mine
theorem CellIs.step {α β : List Addr} {h h' : Heap} (k : Kp h h') {c : Cell} {a : Addr} (hk : ∀ o, h.get? a = some o → h'.get? a = some o) (x : CellIs α h c a) : CellIs (α ++ β) h' c a := by
  cases c with
  | some vs => obtain ⟨xs, n, e, q⟩ := x; exact ⟨xs, n, hk _ e, q.kp k⟩
  | none => exact hk _ x

theorem HR.lt {C : Cx} {hp : List Cell} {α : List Addr} {h : Heap} (R : HR C hp α h) {a : Addr} (ha : a ∈ α) : a < h.objs.size := by
  obtain ⟨k, hk, rfl⟩ := List.getElem_of_mem ha
  have h1 : α[k]? = some α[k] := List.getElem?_eq_getElem hk
  obtain ⟨c, hc⟩ : ∃ c, hp[k]? = some c := ⟨hp[k]'(R.len ▸ hk), List.getElem?_eq_getElem _⟩
  have := R.cell k _ c h1 hc
  cases c with
  | some vs => obtain ⟨xs, n, e, _⟩ := this; exact Heap.lt_size e
  | none => exact Heap.lt_size this

theorem Bs.step {C : Cx} {h h' : Heap} (B : Bs C h) (ho : ∀ b o, h.get? b = some o → (C.h₀.get? b).isSome = true ∨ ImmObj o → h'.get? b = some o) : Bs C h' := by
  obtain ⟨q57, k57⟩ := C.ok.t57
  obtain ⟨q76, k76⟩ := C.ok.t76
  refine ⟨fun b o e n1 n2 => ho b o (B.keep b o e n1 n2) (.inl (by rw [e]; rfl)), ?_, ?_, fun l => ?_⟩
  · obtain ⟨ps, e, r⟩ := B.t57
    refine ⟨ps, ho _ _ e (.inl (by rw [k57]; rfl)), r.imp id ?_⟩
    rintro ⟨c, e1, ⟨o, e3, e4, fs, e5⟩, cr⟩
    have im : ImmObj o := .inr ⟨.inr (.inr (.inl e4)), .inl ⟨fs, e5⟩⟩
    refine ⟨c, e1, ⟨o, ho _ _ e3 (.inr im), e4, fs, e5⟩, ?_⟩
    obtain ⟨c', o', vs, t, q1, q2, q3⟩ := cr
    cases q1
    rw [e3] at q2; cases q2
    exact ⟨c, o, vs, t, rfl, ho _ _ e3 (.inr im), q3⟩
  · obtain ⟨ps, e, r⟩ := B.t76
    exact ⟨ps, ho _ _ e (.inl (by rw [k76]; rfl)), r⟩
  · obtain ⟨e1, e2⟩ := B.quiet l
    exact ⟨(ho _ _ (e1.trans k57) (.inl (by rw [k57]; rfl))).trans k57.symm, (ho _ _ (e2.trans k76) (.inl (by rw [k76]; rfl))).trans k76.symm⟩

theorem Kp.of {h h' : Heap} (k : ∀ b o, h.get? b = some o → h'.get? b = some o) : Kp h h' := fun b o e _ => k b o e

/-- all that stands stays -/
theorem HR.ext {C : Cx} {hp : List Cell} {α : List Addr} {h h' : Heap} (R : HR C hp α h) (k : ∀ b o, h.get? b = some o → h'.get? b = some o) : HR C hp α h' := by
  refine ⟨R.base.step fun b o e _ => k b o e, R.len, R.nd, R.new, fun i a c e1 e2 => ?_⟩
  have := (R.cell i a c e1 e2).step (β := []) (Kp.of k) (k a)
  rwa [List.append_nil] at this
/-- one object that is none of ours turns -/
theorem HR.sameBut {C : Cx} {hp : List Cell} {α : List Addr} {h h' : Heap} {a : Addr} (R : HR C hp α h) (hs : Heap.SameBut a h h') (h1 : a ∉ α) (h2 : C.h₀.get? a = none) (h3 : ∀ o, h.get? a = some o → ¬ ImmObj o) : HR C hp α h' := by
  have kp : Kp h h' := fun b o e i => (hs.2 b (fun z => h3 o (z ▸ e) i)).trans e
  refine ⟨R.base.step fun b o e q => (hs.2 b (fun z => ?_)).trans e, R.len, R.nd, R.new, fun i b c e1 e2 => ?_⟩
  · rcases q with q | q
    · rw [z, h2] at q; cases q
    · exact h3 o (z ▸ e) q
  · have := (R.cell i b c e1 e2).step (β := []) kp fun o e => (hs.2 b (fun z => h1 (z ▸ List.mem_of_getElem? e1))).trans e
    rwa [List.append_nil] at this

theorem FR.ext {C : Cx} {F : FrD} {loc : List (Option V)} {α : List Addr} {h h' : Heap} (R : FR C F loc α h) (k : ∀ b o, h.get? b = some o → h'.get? b = some o) : FR C F loc α h' := by
  refine ⟨R.new, ?_, fun i x c e => ?_⟩
  · obtain ⟨m, n, q⟩ := R.ns
    refine ⟨m, n.keeps k, fun i x v e1 e2 => ?_⟩
    obtain ⟨u, e, r⟩ := q i x v e1 e2
    have := r.kp (β := []) (Kp.of k)
    rw [List.append_nil] at this
    exact ⟨u, e, this⟩
  · obtain ⟨u, e1, r⟩ := R.cells i x c e
    refine ⟨u, e1.keeps k, fun v e2 => ?_⟩
    obtain ⟨y, e3, r⟩ := r v e2
    have := r.kp (β := []) (Kp.of k)
    rw [List.append_nil] at this
    exact ⟨y, e3, this⟩

theorem FR.mem_lt {C : Cx} {F : FrD} {loc : List (Option V)} {α : List Addr} {h : Heap} (R : FR C F loc α h) (ok : FOk F) {b : Addr} (hb : b ∈ F.own) : ∃ o, h.get? b = some o ∧ (∃ es n, o.data = .dict es n) ∨ ∃ o, h.get? b = some o ∧ ∃ u, o.data = .cell u := by
  rcases ok.ownIs b hb with rfl | hb
  · obtain ⟨m, ⟨o', es, ep, e', hd, _⟩, _⟩ := R.ns
    exact ⟨o', .inl ⟨e', es, ep, hd⟩⟩
  · obtain ⟨p, hp, hc⟩ := List.mem_filterMap.mp hb
    obtain ⟨i, hi, rfl⟩ := List.getElem_of_mem hp
    obtain ⟨u, ⟨o', e', hd⟩, _⟩ := R.cells i F.names[i].1 b (by rw [List.getElem?_eq_getElem hi]; congr 1; exact Prod.ext rfl hc)
    exact ⟨o', .inr ⟨o', e', u, hd⟩⟩

/-- every place of the frame: its object is a dict or a cell -/
noncomputable def Place (F : FrD) (b : Addr) : Prop := b = F.env.locals ∨ ∃ x, (x, some b) ∈ F.names
theorem FR.place {C : Cx} {F : FrD} {loc : List (Option V)} {α : List Addr} {h : Heap} (R : FR C F loc α h) {b : Addr} (hb : Place F b) : ∃ o, h.get? b = some o ∧ ((∃ es n, o.data = .dict es n) ∨ ∃ u, o.data = .cell u) := by
  rcases hb with rfl | ⟨x, hb⟩
  · obtain ⟨m, ⟨o', es, ep, e', hd, _⟩, _⟩ := R.ns
    exact ⟨o', e', .inl ⟨es, ep, hd⟩⟩
  · obtain ⟨i, hi, e⟩ := List.getElem_of_mem hb
    obtain ⟨u, ⟨o', e', hd⟩, _⟩ := R.cells i x b (by rw [List.getElem?_eq_getElem hi, e])
    exact ⟨o', e', .inr ⟨u, hd⟩⟩
theorem HR.notPlace {C : Cx} {hp : List Cell} {α : List Addr} {h : Heap} (R : HR C hp α h) {a : Addr} (ha : a ∈ α) {o : Obj} (e : h.get? a = some o) : ¬ ((∃ es n, o.data = .dict es n) ∨ ∃ u, o.data = .cell u) := by
  obtain ⟨k, hk, rfl⟩ := List.getElem_of_mem ha
  have h1 : α[k]? = some α[k] := List.getElem?_eq_getElem hk
  obtain ⟨c, hc⟩ : ∃ c, hp[k]? = some c := ⟨hp[k]'(R.len ▸ hk), List.getElem?_eq_getElem _⟩
  have := R.cell k _ c h1 hc
  cases c with
  | some vs => 
    obtain ⟨xs, n, e', _⟩ := this
    rw [e] at e'; cases e'
    rintro (⟨es, n', h⟩ | ⟨u, h⟩) <;> cases h
  | none => 
    have e' : h.get? _ = some _ := this
    rw [e] at e'; cases e'
    rintro (⟨es, n', h⟩ | ⟨u, h⟩) <;> cases h
theorem place_notImm {o : Obj} (q : (∃ es n, o.data = .dict es n) ∨ ∃ u, o.data = .cell u) : ¬ ImmObj o := by
  rcases q with ⟨es, n, h⟩ | ⟨u, h⟩
  · exact not_imm_dict h
  · exact not_imm_cell h
theorem FR.place_ne {C : Cx} {F : FrD} {loc : List (Option V)} {hp : List Cell} {α : List Addr} {h : Heap} (R : FR C F loc α h) (H : HR C hp α h) {b : Addr} (hb : Place F b) : b ∉ α ∧ b ≠ 57 ∧ b ≠ 76 := by
  obtain ⟨o, e, q⟩ := R.place hb
  refine ⟨fun ha => H.notPlace ha e q, ?_, ?_⟩
  · rintro rfl
    obtain ⟨ps, e', _⟩ := H.base.t57
    rw [e] at e'; cases e'
    rcases q with ⟨es, n, h⟩ | ⟨u, h⟩ <;> cases h
  · rintro rfl
    obtain ⟨ps, e', _⟩ := H.base.t76
    rw [e] at e'; cases e'
    rcases q with ⟨es, n, h⟩ | ⟨u, h⟩ <;> cases h

/-- a frame behind a step that is not its own -/
theorem FR.nx {C : Cx} {F : FrD} {loc : List (Option V)} {hp : List Cell} {α α' own : List Addr} {s s' : Shared} (R : FR C F loc α s.heap) (H : HR C hp α s.heap) (x : Nx C own α s α' s') (ho : ∀ b, Place F b → b ∉ own) (kp : Kp s.heap s'.heap) : FR C F loc α' s'.heap := by
  obtain ⟨β, rfl, _⟩ := x.ext
  have pk : ∀ b, Place F b → ∀ o, s.heap.get? b = some o → s'.heap.get? b = some o := fun b hb o e =>
    x.keep b o e (ho b hb) (R.place_ne H hb).1 (R.place_ne H hb).2.1 (R.place_ne H hb).2.2
  refine ⟨R.new, ?_, fun i y c e => ?_⟩
  · obtain ⟨m, n, q⟩ := R.ns
    refine ⟨m, ?_, fun i y v e1 e2 => ?_⟩
    · obtain ⟨o, es, ep, e, r⟩ := n
      exact ⟨o, es, ep, pk _ (.inl rfl) o e, r⟩
    · obtain ⟨u, e, r⟩ := q i y v e1 e2
      exact ⟨u, e, r.kp kp⟩
  · obtain ⟨u, ⟨o, e1, e2⟩, r⟩ := R.cells i y c e
    refine ⟨u, ⟨o, pk c (.inr ⟨y, List.mem_of_getElem? e⟩) o e1, e2⟩, fun v e2 => ?_⟩
    obtain ⟨z, e3, r⟩ := r v e2
    exact ⟨z, e3, r.kp kp⟩

structure Rel (C : Cx) (F : FrD) (loc : List (Option V)) (hp : List Cell) (α : List Addr) (s : Shared) : Prop where
  hr : HR C hp α s.heap
  fr : FR C F loc α s.heap
  bare : Br C s
  ok : FOk F

theorem Rel.nx0 {C : Cx} {F : FrD} {loc : List (Option V)} {hp hp' : List Cell} {α α' : List Addr} {s s' : Shared} (R : Rel C F loc hp α s) (x : Nx C [] α s α' s') (H : HR C hp' α' s'.heap) : Rel C F loc hp' α' s' :=
  ⟨H, R.fr.nx R.hr x (fun _ _ h => nomatch h) (x.kp0 R.hr), x.bare R.bare, R.ok⟩

/-- a step that leaves all that stands -/
theorem Br.of {C : Cx} {s s' : Shared} (hg : (s'.gens, s'.drawn) = (s.gens, s.drawn)) (h : Br C s) : Br C s' := by
  obtain ⟨h1, h2⟩ := Prod.mk.inj hg
  exact ⟨fun l => by rw [h1]; exact h.1 l, fun l => ⟨h1.trans (h.2 l).1, h2.trans (h.2 l).2⟩⟩
theorem Nx.of {C : Cx} {own α : List Addr} {s s' : Shared} (k : ∀ b o, s.heap.get? b = some o → s'.heap.get? b = some o) (ho : s'.os = s.os) (hg : (s'.gens, s'.drawn) = (s.gens, s.drawn)) : Nx C own α s α s' :=
  ⟨⟨[], by simp, by simp⟩, fun b o e _ _ _ _ => k b o e, fun b o e => ⟨o, k b o e⟩, ho, fun i g e => by rw [(Prod.mk.inj hg).1]; exact e, fun h => h.of hg⟩
theorem Rel.ext {C : Cx} {F : FrD} {loc : List (Option V)} {hp : List Cell} {α : List Addr} {s s' : Shared} (R : Rel C F loc hp α s) (k : ∀ b o, s.heap.get? b = some o → s'.heap.get? b = some o) (hg : (s'.gens, s'.drawn) = (s.gens, s.drawn)) : Rel C F loc hp α s' :=
  ⟨R.hr.ext k, R.fr.ext k, R.bare.of hg, R.ok⟩

noncomputable def AEv (C : Cx) (k : Nat) (F : FrD) (loc : List (Option V)) (hp : List Cell) (e : Expr) (Φ : V → List Cell → Prop) : Prop :=
  ∀ (A : Around) (α : List Addr) (s : Shared) (Q : Value → Shared → Prop) (E : Value → Shared → Prop), Ok k A → Rel C F loc hp α s →
    (∀ v hp' α' s' x, Φ v hp' → Nx C [] α s α' s' → Rel C F loc hp' α' s' → VR α' s'.heap v x → Q x s') → wpAny C.M A (eval e F.env) Q E s

noncomputable def ATs (C : Cx) (k : Nat) (F : FrD) (loc : List (Option V)) (hp : List Cell) (e : Expr) (Φ : Bool → List Cell → Prop) : Prop :=
  ∀ (A : Around) (α : List Addr) (s : Shared) (Q : Bool → Shared → Prop) (E : Value → Shared → Prop), Ok k A → Rel C F loc hp α s →
    (∀ b hp' α' s', Φ b hp' → Nx C [] α s α' s' → Rel C F loc hp' α' s' → Q b s') → wpAny C.M A (isTrue e F.env (eval e F.env)) Q E s

/-- the value of a tree of two values, on a state: for operators -/
noncomputable def ATree (C : Cx) (k : Nat) (hp : List Cell) (vs : List V) (t : List Value → Sem Value) (Φ : V → List Cell → Prop) : Prop :=
  ∀ (A : Around) (α : List Addr) (s : Shared) (Q : Value → Shared → Prop) (E : Value → Shared → Prop) (us : List Value), Ok k A → HR C hp α s.heap → Br C s → VRs α s.heap vs us →
    (∀ v hp' α' s' x, Φ v hp' → Nx C [] α s α' s' → HR C hp' α' s'.heap → VR α' s'.heap v x → Q x s') → wpAny C.M A (t us) Q E s

noncomputable abbrev ACall (C : Cx) (k : Nat) (hp : List Cell) (f : Value) (vs : List V) (Φ : V → List Cell → Prop) : Prop := ATree C k hp vs (fun us => call f us) Φ

inductive Fl where
  | next | brk | ret (v : V)
noncomputable def FlR (α : List Addr) (h : Heap) : Fl → Flow → Prop
  | .next, f => f = .next
  | .brk, f => f = .brk
  | .ret v, f => ∃ x, f = .ret x ∧ VR α h v x

noncomputable def AExs (C : Cx) (k : Nat) (F : FrD) (loc : List (Option V)) (hp : List Cell) (ss : List Stmt) (Φ : Fl → List (Option V) → List Cell → Prop) : Prop :=
  ∀ (A : Around) (α : List Addr) (s : Shared) (Q : Flow → Shared → Prop) (E : Value → Shared → Prop), Ok k A → Rel C F loc hp α s →
    (∀ f loc' hp' α' s' x, Φ f loc' hp' → Nx C F.own α s α' s' → Rel C F loc' hp' α' s' → FlR α' s'.heap f x → Q x s') → wpAny C.M A (execs ss F.env) Q E s
noncomputable def AEx (C : Cx) (k : Nat) (F : FrD) (loc : List (Option V)) (hp : List Cell) (st : Stmt) (Φ : Fl → List (Option V) → List Cell → Prop) : Prop :=
  ∀ (A : Around) (α : List Addr) (s : Shared) (Q : Flow → Shared → Prop) (E : Value → Shared → Prop), Ok k A → Rel C F loc hp α s →
    (∀ f loc' hp' α' s' x, Φ f loc' hp' → Nx C F.own α s α' s' → Rel C F loc' hp' α' s' → FlR α' s'.heap f x → Q x s') → wpAny C.M A (exec st F.env) Q E s

section
variable {C : Cx} {k : Nat} {F : FrD} {loc : List (Option V)} {hp : List Cell}

theorem AEv.mono {e : Expr} {Φ Ψ : V → List Cell → Prop} (h : AEv C k F loc hp e Φ) (i : ∀ v hp', Φ v hp' → Ψ v hp') : AEv C k F loc hp e Ψ :=
  fun A α s Q E hA R hQ => h A α s Q E hA R fun v hp' α' s' x p => hQ v hp' α' s' x (i v hp' p)
theorem ATs.mono {e : Expr} {Φ Ψ : Bool → List Cell → Prop} (h : ATs C k F loc hp e Φ) (i : ∀ v hp', Φ v hp' → Ψ v hp') : ATs C k F loc hp e Ψ :=
  fun A α s Q E hA R hQ => h A α s Q E hA R fun v hp' α' s' p => hQ v hp' α' s' (i v hp' p)
theorem AExs.mono {ss : List Stmt} {Φ Ψ : Fl → List (Option V) → List Cell → Prop} (h : AExs C k F loc hp ss Φ) (i : ∀ v l hp', Φ v l hp' → Ψ v l hp') : AExs C k F loc hp ss Ψ :=
  fun A α s Q E hA R hQ => h A α s Q E hA R fun v l hp' α' s' x p => hQ v l hp' α' s' x (i v l hp' p)
theorem AEx.mono {ss : Stmt} {Φ Ψ : Fl → List (Option V) → List Cell → Prop} (h : AEx C k F loc hp ss Φ) (i : ∀ v l hp', Φ v l hp' → Ψ v l hp') : AEx C k F loc hp ss Ψ :=
  fun A α s Q E hA R hQ => h A α s Q E hA R fun v l hp' α' s' x p => hQ v l hp' α' s' x (i v l hp' p)

theorem toksRel {α : List Addr} {s : Shared} (R : Rel C F loc hp α s) (t : Nat) : Rel C F loc hp α { s with toks := t } := ⟨R.hr, R.fr, R.bare, R.ok⟩
theorem toksNx {own α : List Addr} (s : Shared) (t : Nat) : Nx C own α s α { s with toks := t } := .of (fun _ _ e => e) rfl rfl

theorem ev_int {i : Int} {n : Nat} {pos : Pos} {Φ : V → List Cell → Prop} (h : Φ (.int i) hp) : AEv C k F loc hp (.Constant (.int i) n pos) Φ := fun A α s Q E hA R hQ =>
  wpAny_Constant_int (hQ _ _ _ _ _ h (toksNx s _) (toksRel R _) ⟨_, rfl⟩)
theorem ev_str {x : Str} {n : Nat} {pos : Pos} {Φ : V → List Cell → Prop} (h : Φ (.str x) hp) : AEv C k F loc hp (.Constant (.str x) n pos) Φ := fun A α s Q E hA R hQ => by
  show wpAny _ _ (mkText x) _ _ _
  exact wpAny_mkText (hQ _ _ _ _ _ h (toksNx s _) (toksRel R _) ⟨_, rfl⟩)
theorem ev_none {n : Nat} {pos : Pos} {Φ : V → List Cell → Prop} (h : Φ .none hp) : AEv C k F loc hp (.Constant .none n pos) Φ := fun A α s Q E hA R hQ => by
  show wpAny _ _ (pure Value.none) _ _ _
  exact wpAny_pure (hQ _ _ _ _ _ h (.refl ..) R rfl)

/-- a local or a cell of the frame -/
theorem ld_at {α : List Addr} {s : Shared} (R : Rel C F loc hp α s) (A : Around) (E : Value → Shared → Prop) {i : Nat} {x : Str} {c : Option Addr} {v : V} (hi : F.names[i]? = some (x, c)) (hv : loc[i]? = some (some v)) {Q : Value → Shared → Prop}
    (h : ∀ u, VR α s.heap v u → Q u s) : wpAny C.M A (loadName F.env x) Q E s := by
  have hl := R.ok.loc _ (List.mem_of_getElem? hi)
  cases c with
  | none =>
    obtain ⟨m, n, q⟩ := R.fr.ns
    obtain ⟨u, e, r⟩ := q i x v hi hv
    exact wpAny_loadName_local R.ok.kind hl n e (h u r)
  | some c =>
    obtain ⟨u, e, r0⟩ := R.fr.cells i x c hi
    obtain ⟨y, ey, r⟩ := r0 v hv
    subst ey
    obtain ⟨q | ⟨q, nd⟩, q2⟩ := hl
    · exact wpAny_loadName_cell R.ok.kind q q2 e (h y r)
    · exact wpAny_loadName_free R.ok.kind q q2 e (h y r) nd
theorem ev_local (i : Nat) {x : Str} {c : Option Addr} {pos : Pos} {v : V} {Φ : V → List Cell → Prop} (hi : F.names[i]? = some (x, c)) (hv : loc[i]? = some (some v)) (h : Φ v hp)
    (hd : (x == ("__debug__" : Str)) = false := by decide) : AEv C k F loc hp (.Name x pos) Φ := fun A α s Q E hA R hQ =>
  wpAny_Name (ld_at R A E hi hv fun u r => hQ _ _ _ _ _ h (.refl ..) R r) hd

theorem HR.ns {C : Cx} {hp : List Cell} {α : List Addr} {h : Heap} (R : HR C hp α h) : h.Ns mainGlobals C.mg := by
  obtain ⟨o, es, ep, e, r⟩ := C.ok.g
  exact ⟨o, es, ep, R.base.keep _ _ e (by decide) (by decide), r⟩
theorem HR.nsb {C : Cx} {hp : List Cell} {α : List Addr} {h : Heap} (R : HR C hp α h) : h.Ns builtinsNs C.mb := by
  obtain ⟨o, es, ep, e, r⟩ := C.ok.b
  exact ⟨o, es, ep, R.base.keep _ _ e (by decide) (by decide), r⟩
theorem HR.nolimit {C : Cx} {hp : List Cell} {α : List Addr} {h : Heap} (R : HR C hp α h) : h.NoLimit := by
  obtain ⟨mc, ⟨o, es, ep, e, r⟩, q⟩ := C.ok.nolimit
  exact ⟨mc, ⟨o, es, ep, R.base.keep _ _ e (by decide) (by decide), r⟩, q⟩
theorem HR.K {C : Cx} {hp : List Cell} {α : List Addr} {h : Heap} (R : HR C hp α h) {a : Addr} {o : Obj} (e : (KF C.w).lookup a = some o) (n1 : a ≠ 57 := by decide) (n2 : a ≠ 76 := by decide) : h.get? a = some o :=
  R.base.keep _ _ (C.ok.K _ _ e) n1 n2

theorem ev_global {x : Str} {pos : Pos} {v : Value} {Φ : V → List Cell → Prop} (hx : F.env.kindOf x = some .globalImplicit) (e : C.mg x = some v) (h : Φ (.raw v) hp)
    (hd : (x == ("__debug__" : Str)) = false := by decide) : AEv C k F loc hp (.Name x pos) Φ := fun A α s Q E hA R hQ =>
  Calls.Name_function_global R.ok.kind hx (Calls.loadGlobal_global (env := F.env) (by rw [R.ok.glob]; exact R.hr.ns) e (hQ _ _ _ _ _ h (.refl ..) R rfl)) hd
theorem ev_builtin {x : Str} {pos : Pos} {v : Value} {Φ : V → List Cell → Prop} (hx : F.env.kindOf x = some .globalImplicit) (e : C.mg x = none) (e2 : C.mb x = some v) (h : Φ (.raw v) hp)
    (hd : (x == ("__debug__" : Str)) = false := by decide) : AEv C k F loc hp (.Name x pos) Φ := fun A α s Q E hA R hQ =>
  Calls.Name_function_global R.ok.kind hx (Calls.loadGlobal_builtin (env := F.env) (by rw [R.ok.glob]; exact R.hr.ns) e (by rw [R.ok.blt]; exact R.hr.nsb) e2 (hQ _ _ _ _ _ h (.refl ..) R rfl)) hd
end
end Mine
end

section
open PySem PySem.W PyProof.Rows
namespace Mine
noncomputable def AT1 (C : Cx) (k : Nat) (hp : List Cell) (v : V) (t : Value → Sem Value) (Φ : V → List Cell → Prop) : Prop :=
  ∀ (A : Around) (α : List Addr) (s : Shared) (Q : Value → Shared → Prop) (E : Value → Shared → Prop) (x : Value), Ok k A → HR C hp α s.heap → Br C s → VR α s.heap v x →
    (∀ v hp' α' s' x, Φ v hp' → Nx C [] α s α' s' → HR C hp' α' s'.heap → VR α' s'.heap v x → Q x s') → wpAny C.M A (t x) Q E s
noncomputable def AT2 (C : Cx) (k : Nat) (hp : List Cell) (v w : V) (t : Value → Value → Sem Value) (Φ : V → List Cell → Prop) : Prop :=
  ∀ (A : Around) (α : List Addr) (s : Shared) (Q : Value → Shared → Prop) (E : Value → Shared → Prop) (x y : Value), Ok k A → HR C hp α s.heap → Br C s → VR α s.heap v x → VR α s.heap w y →
    (∀ v hp' α' s' x, Φ v hp' → Nx C [] α s α' s' → HR C hp' α' s'.heap → VR α' s'.heap v x → Q x s') → wpAny C.M A (t x y) Q E s

section
variable {C : Cx} {k : Nat} {F : FrD} {loc : List (Option V)} {hp : List Cell}

theorem VR.nx {hp' : List Cell} {own α α' : List Addr} {s s' : Shared} (x : Nx C own α s α' s') (kp : Kp s.heap s'.heap) {v : V} {u : Value} (r : VR α s.heap v u) : VR α' s'.heap v u := by
  obtain ⟨β, rfl, _⟩ := x.ext
  exact r.kp kp

/-- two values, then a tree of both -/
theorem two {e₁ e₂ : Expr} {T : V → V → List Cell → Prop} (h : AEv C k F loc hp e₁ fun a hp1 => AEv C k F loc hp1 e₂ fun b hp2 => T a b hp2)
    {A : Around} {α : List Addr} {s : Shared} (E : Value → Shared → Prop) (hA : Ok k A) (R : Rel C F loc hp α s) {G : Value → Value → Shared → Prop}
    (g : ∀ a b hp' α' s' x y, T a b hp' → Nx C [] α s α' s' → Rel C F loc hp' α' s' → VR α' s'.heap a x → VR α' s'.heap b y → G x y s') :
    wpAny C.M A (eval e₁ F.env) (fun x s₁ => wpAny C.M A (eval e₂ F.env) (fun y s₂ => G x y s₂) E s₁) E s := by
  refine h A α s _ E hA R fun a hp1 α1 s1 x p1 n1 R1 r1 => ?_
  refine p1 A α1 s1 _ E hA R1 fun b hp2 α2 s2 y p2 n2 R2 r2 => ?_
  exact g a b hp2 α2 s2 x y p2 (n1.trans n2) R2 (r1.nx (hp' := hp) n2 (n2.kp0 R1.hr)) r2

theorem ev_bin {op : Operator} {l r : Expr} {pos : Pos} {Φ : V → List Cell → Prop} (h : AEv C k F loc hp l fun a hp1 => AEv C k F loc hp1 r fun b hp2 => AT2 C k hp2 a b (binaryOp op) Φ) :
    AEv C k F loc hp (.BinOp l op r pos) Φ := fun A α s Q E hA R hQ =>
  wpAny_BinOp (two h E hA R fun a b hp' α' s' x y t n R' ra rb => t A α' s' Q E x y hA R'.hr R'.bare ra rb fun v hp2 α2 s2 z p n2 H2 r2 => hQ v hp2 α2 s2 z p (n.trans n2) (R'.nx0 n2 H2) r2)

theorem ev_cmp {op : CmpOp} {l r : Expr} {pos : Pos} {Φ : V → List Cell → Prop} (h : AEv C k F loc hp l fun a hp1 => AEv C k F loc hp1 r fun b hp2 => AT2 C k hp2 a b (compareOp op) Φ)
    (hm : behindInMarks op r = false := by with_unfolding_all rfl) : AEv C k F loc hp (.Compare l [op] [r] pos) Φ := fun A α s Q E hA R hQ =>
  wpAny_Compare1 (two h E hA R fun a b hp' α' s' x y t n R' ra rb => t A α' s' Q E x y hA R'.hr R'.bare ra rb fun v hp2 α2 s2 z p n2 H2 r2 => hQ v hp2 α2 s2 z p (n.trans n2) (R'.nx0 n2 H2) r2) hm

/-- a test by a comparison: its value is a bool -/
theorem ts_cmp {op : CmpOp} {l r : Expr} {pos : Pos} {Φ : Bool → List Cell → Prop} (h : AEv C k F loc hp l fun a hp1 => AEv C k F loc hp1 r fun b hp2 => AT2 C k hp2 a b (compareOp op) fun v hp3 => ∃ c, v = .bool c ∧ Φ c hp3)
    (hm : behindInMarks op r = false := by with_unfolding_all rfl) : ATs C k F loc hp (.Compare l [op] [r] pos) Φ := fun A α s Q E hA R hQ =>
  wpAny_isTrue_Compare1 (two h E hA R fun a b hp' α' s' x y t n R' ra rb => t A α' s' _ E x y hA R'.hr R'.bare ra rb fun v hp2 α2 s2 z p n2 H2 r2 => by
    obtain ⟨c, rfl, p⟩ := p
    have e : z = .bool c := r2
    subst e
    exact wpAny_truthy_bool (hQ c hp2 α2 s2 p (n.trans n2) (R'.nx0 n2 H2))) hm

theorem ts_not {x : Expr} {pos : Pos} {Φ : Bool → List Cell → Prop} (h : ATs C k F loc hp x fun b hp' => Φ (!b) hp') : ATs C k F loc hp (.UnaryOp .Not x pos) Φ := fun A α s Q E hA R hQ =>
  isTrue_not (h A α s _ E hA R fun b hp' α' s' p n R' => hQ _ hp' α' s' p n R')
theorem ts_and_nil {pos : Pos} {Φ : Bool → List Cell → Prop} (h : Φ true hp) : ATs C k F loc hp (.BoolOp .And [] pos) Φ := fun A α s Q E hA R hQ => isTrue_and_nil (hQ _ _ _ _ h (.refl ..) R)
theorem ts_or_nil {pos : Pos} {Φ : Bool → List Cell → Prop} (h : Φ false hp) : ATs C k F loc hp (.BoolOp .Or [] pos) Φ := fun A α s Q E hA R hQ => isTrue_or_nil (hQ _ _ _ _ h (.refl ..) R)
theorem ts_and {x : Expr} {rest : List Expr} {pos : Pos} {Φ : Bool → List Cell → Prop} (h : ATs C k F loc hp x fun b hp' => (b = true → ATs C k F loc hp' (.BoolOp .And rest pos) Φ) ∧ (b = false → Φ false hp')) :
    ATs C k F loc hp (.BoolOp .And (x :: rest) pos) Φ := fun A α s Q E hA R hQ =>
  isTrue_and (h A α s _ E hA R fun b hp' α' s' p n R' => by
    cases b with
    | true => exact p.1 rfl A α' s' Q E hA R' fun b hp2 α2 s2 p2 n2 R2 => hQ b hp2 α2 s2 p2 (n.trans n2) R2
    | false => exact hQ false hp' α' s' (p.2 rfl) n R')
theorem ts_or {x : Expr} {rest : List Expr} {pos : Pos} {Φ : Bool → List Cell → Prop} (h : ATs C k F loc hp x fun b hp' => (b = true → Φ true hp') ∧ (b = false → ATs C k F loc hp' (.BoolOp .Or rest pos) Φ)) :
    ATs C k F loc hp (.BoolOp .Or (x :: rest) pos) Φ := fun A α s Q E hA R hQ =>
  isTrue_or (h A α s _ E hA R fun b hp' α' s' p n R' => by
    cases b with
    | true => exact hQ true hp' α' s' (p.1 rfl) n R'
    | false => exact p.2 rfl A α' s' Q E hA R' fun b hp2 α2 s2 p2 n2 R2 => hQ b hp2 α2 s2 p2 (n.trans n2) R2)
/-- the truth of a value -/
noncomputable def ATr (C : Cx) (k : Nat) (hp : List Cell) (v : V) (b : Bool) : Prop :=
  ∀ (A : Around) (α : List Addr) (s : Shared) (Q : Bool → Shared → Prop) (E : Value → Shared → Prop) (x : Value), Ok k A → HR C hp α s.heap → Br C s → VR α s.heap v x →
    (∀ s', Nx C [] α s α s' → HR C hp α s'.heap → Q b s') → wpAny C.M A (truthy x) Q E s
theorem ts_plain {e : Expr} {Φ : Bool → List Cell → Prop} (h : AEv C k F loc hp e fun v hp' => ∃ b, ATr C k hp' v b ∧ Φ b hp')
    (he : isTrue e F.env (eval e F.env) = (do let v ← eval e F.env; standAt e.pos; holding [v] (truthy v)) := by rfl) : ATs C k F loc hp e Φ := fun A α s Q E hA R hQ =>
  isTrue_plain (h A α s _ E hA R fun v hp' α' s' x p n R' r => by
    obtain ⟨b, t, p⟩ := p
    exact t A α' s' Q E x hA R'.hr R'.bare r fun s2 n2 H2 => hQ b hp' α' s2 p (n.trans n2) (R'.nx0 n2 H2)) he
theorem tr_bool {b : Bool} : ATr C k hp (.bool b) b := fun A α s Q E x hA R hb r hQ => by
  have e : x = .bool b := r
  subst e
  exact wpAny_truthy_bool (hQ s (.refl ..) R)
theorem tr_none : ATr C k hp .none false := fun A α s Q E x hA R hb r hQ => by
  have e : x = .none := r
  subst e
  exact wpAny_pure (hQ s (.refl ..) R)

theorem ev_ifexp {test body orelse : Expr} {pos : Pos} {Φ : V → List Cell → Prop} (h : ATs C k F loc hp test fun b hp' => (b = true → AEv C k F loc hp' body Φ) ∧ (b = false → AEv C k F loc hp' orelse Φ)) :
    AEv C k F loc hp (.IfExp test body orelse pos) Φ := fun A α s Q E hA R hQ =>
  wpAny_IfExp (h A α s _ E hA R fun b hp' α' s' p n R' => by
    cases b with
    | true => exact p.1 rfl A α' s' Q E hA R' fun v hp2 α2 s2 x p2 n2 R2 => hQ v hp2 α2 s2 x p2 (n.trans n2) R2
    | false => exact p.2 rfl A α' s' Q E hA R' fun v hp2 α2 s2 x p2 n2 R2 => hQ v hp2 α2 s2 x p2 (n.trans n2) R2)
theorem ev_boolop_one {op : BoolOp} {e : Expr} {pos : Pos} {Φ : V → List Cell → Prop} (h : AEv C k F loc hp e Φ) : AEv C k F loc hp (.BoolOp op [e] pos) Φ := fun A α s Q E hA R hQ => BoolOp_one (h A α s Q E hA R hQ)
theorem ev_and {e₁ e₂ : Expr} {rest : List Expr} {pos : Pos} {Φ : V → List Cell → Prop} (h : AEv C k F loc hp e₁ fun v hp' => ∃ b, ATr C k hp' v b ∧ (b = true → AEv C k F loc hp' (.BoolOp .And (e₂ :: rest) pos) Φ) ∧ (b = false → Φ v hp')) :
    AEv C k F loc hp (.BoolOp .And (e₁ :: e₂ :: rest) pos) Φ := fun A α s Q E hA R hQ =>
  BoolOp_and (h A α s _ E hA R fun v hp' α' s' x p n R' r => by
    obtain ⟨b, t, p1, p2⟩ := p
    refine t A α' s' _ E x hA R'.hr R'.bare r fun s2 n2 H2 => ?_
    have R2 := R'.nx0 n2 H2
    cases b with
    | true => exact p1 rfl A α' s2 Q E hA R2 fun v hp3 α3 s3 y p3 n3 R3 => hQ v hp3 α3 s3 y p3 ((n.trans n2).trans n3) R3
    | false => exact hQ v hp' α' s2 x (p2 rfl) (n.trans n2) R2 (r.nx (hp' := hp) n2 (n2.kp0 R'.hr)))
theorem ev_or {e₁ e₂ : Expr} {rest : List Expr} {pos : Pos} {Φ : V → List Cell → Prop} (h : AEv C k F loc hp e₁ fun v hp' => ∃ b, ATr C k hp' v b ∧ (b = true → Φ v hp') ∧ (b = false → AEv C k F loc hp' (.BoolOp .Or (e₂ :: rest) pos) Φ)) :
    AEv C k F loc hp (.BoolOp .Or (e₁ :: e₂ :: rest) pos) Φ := fun A α s Q E hA R hQ =>
  BoolOp_or (h A α s _ E hA R fun v hp' α' s' x p n R' r => by
    obtain ⟨b, t, p1, p2⟩ := p
    refine t A α' s' _ E x hA R'.hr R'.bare r fun s2 n2 H2 => ?_
    have R2 := R'.nx0 n2 H2
    cases b with
    | true => exact hQ v hp' α' s2 x (p1 rfl) (n.trans n2) R2 (r.nx (hp' := hp) n2 (n2.kp0 R'.hr))
    | false => exact p2 rfl A α' s2 Q E hA R2 fun v hp3 α3 s3 y p3 n3 R3 => hQ v hp3 α3 s3 y p3 ((n.trans n2).trans n3) R3)
theorem ev_unary {op : UnaryOp} {x : Expr} {pos : Pos} {Φ : V → List Cell → Prop} (h : AEv C k F loc hp x fun v hp' => AT1 C k hp' v (unaryOp op) Φ) : AEv C k F loc hp (.UnaryOp op x pos) Φ := fun A α s Q E hA R hQ =>
  wpAny_UnaryOp (h A α s _ E hA R fun v hp' α' s' x t n R' r => t A α' s' Q E x hA R'.hr R'.bare r fun w hp2 α2 s2 z p n2 H2 r2 => hQ w hp2 α2 s2 z p (n.trans n2) (R'.nx0 n2 H2) r2)

-- statements
theorem ex_nil {Φ : Fl → List (Option V) → List Cell → Prop} (h : Φ .next loc hp) : AExs C k F loc hp [] Φ := fun A α s Q E hA R hQ => wpAny_execs_nil (hQ _ _ _ _ _ _ h (.refl ..) R rfl)
/-- what goes on behind a statement -/
noncomputable def Then (C : Cx) (k : Nat) (F : FrD) (rest : List Stmt) (Φ : Fl → List (Option V) → List Cell → Prop) : Fl → List (Option V) → List Cell → Prop
  | .next, l, h => AExs C k F l h rest Φ
  | f, l, h => Φ f l h
theorem ex_cons {st : Stmt} {rest : List Stmt} {Φ : Fl → List (Option V) → List Cell → Prop} (h : AEx C k F loc hp st (Then C k F rest Φ)) : AExs C k F loc hp (st :: rest) Φ := fun A α s Q E hA R hQ =>
  wpAny_execs_cons (h A α s _ E hA R fun f loc' hp' α' s' x p n R' r => by
    cases f with
    | next =>
      have e : x = .next := r
      subst e
      exact p A α' s' Q E hA R' fun f l2 hp2 α2 s2 y p2 n2 R2 r2 => hQ f l2 hp2 α2 s2 y p2 (n.trans n2) R2 r2
    | brk =>
      have e : x = .brk := r
      subst e
      exact hQ .brk loc' hp' α' s' _ p n R' rfl
    | ret v =>
      obtain ⟨u, rfl, ru⟩ := r
      exact hQ (.ret v) loc' hp' α' s' _ p n R' ⟨u, rfl, ru⟩)
theorem ex_if {test : Expr} {body orelse : List Stmt} {pos : Pos} {Φ : Fl → List (Option V) → List Cell → Prop} (h : ATs C k F loc hp test fun b hp' => (b = true → AExs C k F loc hp' body Φ) ∧ (b = false → AExs C k F loc hp' orelse Φ)) :
    AEx C k F loc hp (.If test body orelse pos) Φ := fun A α s Q E hA R hQ =>
  wpAny_If (h A α s _ E hA R fun b hp' α' s' p n R' => by
    cases b with
    | true => exact p.1 rfl A α' s' Q E hA R' fun v l2 hp2 α2 s2 x p2 n2 R2 => hQ v l2 hp2 α2 s2 x p2 ((n.own (fun _ h => nomatch h)).trans n2) R2
    | false => exact p.2 rfl A α' s' Q E hA R' fun v l2 hp2 α2 s2 x p2 n2 R2 => hQ v l2 hp2 α2 s2 x p2 ((n.own (fun _ h => nomatch h)).trans n2) R2)
theorem ex_return {e : Expr} {pos : Pos} {Φ : Fl → List (Option V) → List Cell → Prop} (h : AEv C k F loc hp e fun v hp' => Φ (.ret v) loc hp') : AEx C k F loc hp (.Return (some e) pos) Φ := fun A α s Q E hA R hQ =>
  wpAny_Return_some (h A α s _ E hA R fun v hp' α' s' x p n R' r => hQ _ _ _ _ _ _ p (n.own (fun _ h => nomatch h)) R' ⟨x, rfl, r⟩)
theorem ex_break {pos : Pos} {Φ : Fl → List (Option V) → List Cell → Prop} (h : Φ .brk loc hp) : AEx C k F loc hp (.Break pos) Φ := fun A α s Q E hA R hQ =>
  wpAny_Break (hQ _ _ _ _ _ _ h (.refl ..) R rfl)
theorem ex_assert {test : Expr} {msg : Option Expr} {pos : Pos} {Φ : Fl → List (Option V) → List Cell → Prop} (h : ATs C k F loc hp test fun b hp' => b = true ∧ Φ .next loc hp') : AEx C k F loc hp (.Assert test msg pos) Φ := fun A α s Q E hA R hQ =>
  wpAny_Assert_holds (h A α s _ E hA R fun b hp' α' s' p n R' => ⟨p.1, hQ _ _ _ _ _ _ p.2 (n.own (fun _ h => nomatch h)) R' rfl⟩)
/-- an expression statement whose value is None -/
theorem ex_expr {e : Expr} {pos : Pos} {Φ : Fl → List (Option V) → List Cell → Prop} (h : AEv C k F loc hp e fun v hp' => v = .none ∧ Φ .next loc hp')
    (hi : interactive F.env = false := by rfl) (hs : swapsWith e none pos.line F.env = pure false := by rfl) : AEx C k F loc hp (.Expr e pos) Φ := fun A α s Q E hA R hQ =>
  wpAny_Expr (h A α s _ E hA R fun v hp' α' s' x p n R' r => by
    obtain ⟨rfl, p⟩ := p
    have e : x = .none := r
    subst e
    exact hQ _ _ _ _ _ _ p (n.own (fun _ h => nomatch h)) R' rfl) hi hs
end
end Mine
end

section
open PySem PySem.W PyProof.Rows
namespace Mine
section
variable {C : Cx} {k : Nat} {F : FrD} {loc : List (Option V)} {hp : List Cell}

theorem nodup_names {F : FrD} (ok : FOk F) {i j : Nat} {x : Str} {c d : Option Addr} (hi : F.names[i]? = some (x, c)) (hj : F.names[j]? = some (x, d)) : i = j := by
  have h := ok.nodup
  have e1 : (F.names.map (·.1))[i]? = some x := by rw [List.getElem?_map, hi]; rfl
  have e2 : (F.names.map (·.1))[j]? = some x := by rw [List.getElem?_map, hj]; rfl
  exact (List.getElem?_inj (List.getElem?_eq_some_iff.mp e1).1 h).mp (e1.trans e2.symm)

theorem filterMap_nodup_inj {A B : Type} (f : A → Option B) : ∀ {l : List A}, (l.filterMap f).Nodup → ∀ {i j : Nat} {a b : A} {c : B}, l[i]? = some a → l[j]? = some b → f a = some c → f b = some c → i = j
  | [], _, i, j, a, b, c, hi, _, _, _ => by simp at hi
  | x :: l, hn, i, j, a, b, c, hi, hj, ha, hb => by
    cases hx : f x with
    | none =>
      rw [List.filterMap_cons_none hx] at hn
      cases i with
      | zero => simp at hi; subst hi; rw [hx] at ha; cases ha
      | succ i =>
        cases j with
        | zero => simp at hj; subst hj; rw [hx] at hb; cases hb
        | succ j => exact congrArg _ (filterMap_nodup_inj f hn (by simpa using hi) (by simpa using hj) ha hb)
    | some d =>
      rw [List.filterMap_cons_some hx, List.nodup_cons] at hn
      cases i with
      | zero =>
        cases j with
        | zero => rfl
        | succ j =>
          simp at hi; subst hi
          rw [hx] at ha; cases ha
          exact absurd (List.mem_filterMap.mpr ⟨b, List.mem_of_getElem? (by simpa using hj), hb⟩) hn.1
      | succ i =>
        cases j with
        | zero =>
          simp at hj; subst hj
          rw [hx] at hb; cases hb
          exact absurd (List.mem_filterMap.mpr ⟨a, List.mem_of_getElem? (by simpa using hi), ha⟩) hn.1
        | succ j => exact congrArg _ (filterMap_nodup_inj f hn.2 (by simpa using hi) (by simpa using hj) ha hb)

theorem set_get {A : Type} {l : List A} {i j : Nat} {a b : A} (h : (l.set i a)[j]? = some b) : (i = j ∧ b = a) ∨ (i ≠ j ∧ l[j]? = some b) := by
  rw [List.getElem?_set] at h
  split at h
  · rename_i e
    split at h
    · cases h; exact .inl ⟨e, rfl⟩
    · cases h
  · rename_i e; exact .inr ⟨e, h⟩

/-- a name of the frame is stored -/
theorem st_at {α : List Addr} {s : Shared} (R : Rel C F loc hp α s) (A : Around) (E : Value → Shared → Prop) {i : Nat} {x : Str} {c : Option Addr} {v : V} {u : Value} (hi : F.names[i]? = some (x, c)) (hown : ∀ a, c = some a → a ∈ F.own ∧ F.env.kindOf x = some .cell) (hv : VR α s.heap v u)
    {Q : Unit → Shared → Prop} (h : ∀ s', Nx C F.own α s α s' → Rel C F (loc.set i (some v)) hp α s' → Q () s') : wpAny C.M A (storeName F.env x u) Q E s := by
  have hl := R.ok.loc _ (List.mem_of_getElem? hi)
  cases c with
  | none =>
    obtain ⟨m, n, q⟩ := R.fr.ns
    refine wpAny_storeName_local hl n (fun h' n' hs => ?_) (by
      show (F.env.scope.kind == .class || (F.env.scope.kind == .module && F.env.locals != F.env.globals)) = false
      rw [R.ok.kind]; rfl)
    have pl : Place F F.env.locals := .inl rfl
    have nimm : ∀ o, s.heap.get? F.env.locals = some o → ¬ ImmObj o := fun o e => by
      obtain ⟨o', e', q⟩ := R.fr.place pl
      rw [e] at e'; cases e'; exact place_notImm q
    have kp : Kp s.heap h' := fun b o e im => (hs.2 b (fun z => nimm o (z ▸ e) im)).trans e
    have up : ∀ {w : V} {y : Value}, VR α s.heap w y → VR α h' w y := fun r => by
      have := r.kp (β := []) kp
      rwa [List.append_nil] at this
    have there : ∀ b o, s.heap.get? b = some o → ∃ o', h'.get? b = some o' := fun b o e => by
      by_cases hb : b = F.env.locals
      · obtain ⟨o', _, _, e', _⟩ := n'; exact ⟨o', hb ▸ e'⟩
      · exact ⟨o, (hs.2 b hb).trans e⟩
    refine h _ ⟨⟨[], by simp, by simp⟩, fun b o e h1 _ _ _ => (hs.2 b (fun z => h1 (z ▸ R.ok.here))).trans e, there, rfl, fun _ _ e => e, fun z => z⟩ ⟨?_, ?_, R.bare, R.ok⟩
    · exact R.hr.sameBut hs (R.fr.place_ne R.hr pl).1 (R.fr.new _ R.ok.here) nimm
    · refine ⟨R.fr.new, ⟨_, n', fun j y w e1 e2 => ?_⟩, fun j y d e => ?_⟩
      · rcases set_get e2 with ⟨rfl, e3⟩ | ⟨ne, e3⟩
        · cases e3
          rw [hi] at e1; cases e1
          exact ⟨u, by simp, up hv⟩
        · have nx : y ≠ x := fun z => ne (nodup_names R.ok hi (z ▸ e1))
          obtain ⟨u', e4, r⟩ := q j y w e1 e3
          exact ⟨u', by simp [nx, e4], up r⟩
      · obtain ⟨z, ⟨o, e1, e2⟩, r⟩ := R.fr.cells j y d e
        have nd : d ≠ F.env.locals := fun z => by
          have := (List.nodup_cons.mp R.ok.apart).1
          exact this (List.mem_filterMap.mpr ⟨_, List.mem_of_getElem? e, by rw [z]⟩)
        refine ⟨z, ⟨o, (hs.2 d nd).trans e1, e2⟩, fun w e3 => ?_⟩
        rcases set_get e3 with ⟨rfl, _⟩ | ⟨_, e4⟩
        · rw [hi] at e; cases e
        · obtain ⟨y', e5, r5⟩ := r w e4
          exact ⟨y', e5, up r5⟩
  | some a =>
    obtain ⟨ha, hk'⟩ := hown a rfl
    obtain ⟨hk, hc⟩ := hl
    obtain ⟨u₀, ic, _⟩ := R.fr.cells i x a hi
    refine wpAny_storeName_cell R.ok.kind hk' hc ic fun h' ic' hs => ?_
    have pl : Place F a := .inr ⟨x, List.mem_of_getElem? hi⟩
    have nimm : ∀ o, s.heap.get? a = some o → ¬ ImmObj o := fun o e => by
      obtain ⟨o', e', q⟩ := R.fr.place pl
      rw [e] at e'; cases e'; exact place_notImm q
    have kp : Kp s.heap h' := fun b o e im => (hs.2 b (fun z => nimm o (z ▸ e) im)).trans e
    have up : ∀ {w : V} {y : Value}, VR α s.heap w y → VR α h' w y := fun r => by
      have := r.kp (β := []) kp
      rwa [List.append_nil] at this
    have there : ∀ b o, s.heap.get? b = some o → ∃ o', h'.get? b = some o' := fun b o e => by
      by_cases hb : b = a
      · obtain ⟨o', e', _⟩ := ic'; exact ⟨o', hb ▸ e'⟩
      · exact ⟨o, (hs.2 b hb).trans e⟩
    refine h _ ⟨⟨[], by simp, by simp⟩, fun b o e h1 _ _ _ => (hs.2 b (fun z => h1 (z ▸ ha))).trans e, there, rfl, fun _ _ e => e, fun z => z⟩ ⟨?_, ?_, R.bare, R.ok⟩
    · exact R.hr.sameBut hs (R.fr.place_ne R.hr pl).1 (R.fr.new _ ha) nimm
    · obtain ⟨m, n, q⟩ := R.fr.ns
      have nd : F.env.locals ≠ a := fun z => by
        have := (List.nodup_cons.mp R.ok.apart).1
        exact this (List.mem_filterMap.mpr ⟨_, List.mem_of_getElem? hi, by rw [z]⟩)
      refine ⟨R.fr.new, ⟨m, n.sameBut hs nd, fun j y w e1 e2 => ?_⟩, fun j y d e => ?_⟩
      · rcases set_get e2 with ⟨rfl, e3⟩ | ⟨ne, e3⟩
        · rw [hi] at e1; cases e1
        · obtain ⟨u', e4, r⟩ := q j y w e1 e3
          exact ⟨u', e4, up r⟩
      · by_cases hd : d = a
        · subst hd
          have : j = i := filterMap_nodup_inj (·.2) (List.nodup_cons.mp R.ok.apart).2 e hi rfl rfl
          subst this
          rw [hi] at e; cases e
          refine ⟨_, ic', fun w e3 => ?_⟩
          rcases set_get e3 with ⟨_, e4⟩ | ⟨ne, _⟩
          · cases e4; exact ⟨u, rfl, up hv⟩
          · exact absurd rfl ne
        · obtain ⟨z, ic2, r⟩ := R.fr.cells j y d e
          refine ⟨z, ic2.sameBut hs hd, fun w e3 => ?_⟩
          rcases set_get e3 with ⟨rfl, _⟩ | ⟨_, e4⟩
          · rw [hi] at e; cases e; exact absurd rfl hd
          · obtain ⟨y', e5, r5⟩ := r w e4
            exact ⟨y', e5, up r5⟩

theorem noCell {F : FrD} {x : Str} : ∀ a, (none : Option Addr) = some a → a ∈ F.own ∧ F.env.kindOf x = some .cell := fun _ h => nomatch h

theorem ex_assign (i : Nat) {x : Str} {c : Option Addr} {p' pos : Pos} {e : Expr} {Φ : Fl → List (Option V) → List Cell → Prop} (hi : F.names[i]? = some (x, c)) (h : AEv C k F loc hp e fun v hp' => Φ .next (loc.set i (some v)) hp')
    (hs : swapsWith e (some (.Name x p')) pos.line F.env = pure false := by rfl) (hown : ∀ a, c = some a → a ∈ F.own ∧ F.env.kindOf x = some .cell := by exact noCell) :
    AEx C k F loc hp (.Assign [.Name x p'] e pos) Φ := fun A α s Q E hA R hQ =>
  wpAny_Assign_Name (h A α s _ E hA R fun v hp' α' s' u p n R' r => st_at R' A E hi hown r fun s2 n2 R2 => hQ _ _ _ _ _ _ p ((n.own (fun _ h => nomatch h)).trans n2) R2 rfl) hs

theorem ex_aug (i : Nat) {x : Str} {c : Option Addr} {p' pos : Pos} {op : Operator} {e : Expr} {v : V} {Φ : Fl → List (Option V) → List Cell → Prop} (hi : F.names[i]? = some (x, c)) (hv : loc[i]? = some (some v))
    (h : AEv C k F loc hp e fun w hp' => AT2 C k hp' v w (inplaceOp op) fun z hp2 => Φ .next (loc.set i (some z)) hp2)
    (hown : ∀ a, c = some a → a ∈ F.own ∧ F.env.kindOf x = some .cell := by exact noCell) :
    AEx C k F loc hp (.AugAssign (.Name x p') op e pos) Φ := fun A α s Q E hA R hQ =>
  wpAny_AugAssign_Name (ld_at R A E hi hv fun u ru => h A α s _ E hA R fun w hp' α' s' y t n R' r =>
    t A α' s' _ E u y hA R'.hr R'.bare (ru.nx (hp' := hp) n (n.kp0 R.hr)) r fun z hp2 α2 s2 q p n2 H2 r2 =>
      st_at (R'.nx0 n2 H2) A E hi hown r2 fun s3 n3 R3 => hQ _ _ _ _ _ _ p (((n.trans n2).own (fun _ h => nomatch h)).trans n3) R3 rfl)
end
end Mine
end

section
open PySem PySem.W PyProof.Rows
namespace Mine
noncomputable def AArgs (C : Cx) (k : Nat) (F : FrD) (loc : List (Option V)) (hp : List Cell) (es : List Expr) (Φ : List V → List Cell → Prop) : Prop :=
  ∀ (A : Around) (α : List Addr) (s : Shared) (Q : List Value → Shared → Prop) (E : Value → Shared → Prop) (pos : Pos), Ok k A → Rel C F loc hp α s →
    (∀ vs hp' α' s' us, Φ vs hp' → Nx C [] α s α' s' → Rel C F loc hp' α' s' → VRs α' s'.heap vs us → Q us s') → wpAny C.M A (spliced (backTo pos (starEach es F.env))) Q E s

section
variable {C : Cx} {k : Nat} {F : FrD} {loc : List (Option V)} {hp : List Cell}

theorem VRs.nx {own α α' : List Addr} {s s' : Shared} (x : Nx C own α s α' s') (kp : Kp s.heap s'.heap) {v : List V} {u : List Value} (r : VRs α s.heap v u) : VRs α' s'.heap v u := by
  obtain ⟨β, rfl, _⟩ := x.ext
  exact r.kp kp

theorem args_nil {Φ : List V → List Cell → Prop} (h : Φ [] hp) : AArgs C k F loc hp [] Φ := fun A α s Q E pos hA R hQ => spliced_none (hQ _ _ _ _ _ h (.refl ..) R .nil)
theorem args_cons {e : Expr} {rest : List Expr} {Φ : List V → List Cell → Prop} (h : AEv C k F loc hp e fun v hp1 => AArgs C k F loc hp1 rest fun vs hp2 => Φ (v :: vs) hp2)
    (hs : starEach (e :: rest) F.env = (false, eval e F.env) :: starEach rest F.env := by rfl) : AArgs C k F loc hp (e :: rest) Φ := fun A α s Q E pos hA R hQ =>
  spliced_more (h A α s _ E hA R fun v hp1 α1 s1 x p n R1 r => p A α1 s1 _ E pos hA R1 fun vs hp2 α2 s2 us p2 n2 R2 r2 => hQ _ _ _ _ _ p2 (n.trans n2) R2 (.cons (r.nx (hp' := hp) n2 (n2.kp0 R1.hr)) r2)) hs

theorem HR.KIn {α : List Addr} {h : Heap} (R : HR C hp α h) : (KF C.w).In h := fun a o e =>
  R.base.keep _ _ (C.ok.K _ _ e) (fun z => by subst z; exact absurd e (by rw [show (KF C.w).lookup 57 = none from rfl]; exact fun h => nomatch h)) (fun z => by subst z; exact absurd e (by rw [show (KF C.w).lookup 76 = none from rfl]; exact fun h => nomatch h))

theorem ev_call_bi {func e : Expr} {rest : List Expr} {pos : Pos} {Φ : V → List Cell → Prop} {id : String}
    (h : AEv C k F loc hp func fun v hp1 => v = .raw (.builtin id) ∧ AArgs C k F loc hp1 (e :: rest) fun vs hp2 => ACall C k hp2 (.builtin id) vs Φ)
    (hs : starEach (e :: rest) F.env = (false, eval e F.env) :: starEach rest F.env := by rfl) (hp' : ((backTo pos (starEach rest F.env)).any fun x => x.fst) = false := by rfl)
    (hc : eval (func.Call (e :: rest) [] pos) F.env = (do let f ← eval func F.env; callWith pos f [] (backTo pos (starEach (e :: rest) F.env)) (backToKw pos (keywordEach [] F.env))) := by rfl) :
    AEv C k F loc hp (.Call func (e :: rest) [] pos) Φ := fun A α s Q E hA R hQ =>
  Call_ (h A α s _ E hA R fun v hp1 α1 s1 x p n R1 r => by
    obtain ⟨rfl, p⟩ := p
    have e : x = .builtin id := r
    subst e
    exact PyProof.Rows.callWith_builtin1 (p A α1 s1 _ E pos hA R1 fun vs hp2 α2 s2 us p2 n2 R2 r2 => p2 A α2 s2 Q E us hA R2.hr R2.bare r2 fun w hp3 α3 s3 z p3 n3 H3 r3 => hQ w hp3 α3 s3 z p3 ((n.trans n2).trans n3) (R2.nx0 n3 H3) r3) hs hp') hc

theorem ev_call_ty {func e : Expr} {rest : List Expr} {pos : Pos} {Φ : V → List Cell → Prop} {T : String}
    (h : AEv C k F loc hp func fun v hp1 => v = .raw (.type T) ∧ AArgs C k F loc hp1 (e :: rest) fun vs hp2 => ACall C k hp2 (.type T) vs Φ)
    (hs : starEach (e :: rest) F.env = (false, eval e F.env) :: starEach rest F.env := by rfl) (hp' : ((backTo pos (starEach rest F.env)).any fun x => x.fst) = false := by rfl)
    (hc : eval (func.Call (e :: rest) [] pos) F.env = (do let f ← eval func F.env; callWith pos f [] (backTo pos (starEach (e :: rest) F.env)) (backToKw pos (keywordEach [] F.env))) := by rfl) :
    AEv C k F loc hp (.Call func (e :: rest) [] pos) Φ := fun A α s Q E hA R hQ =>
  Call_ (h A α s _ E hA R fun v hp1 α1 s1 x p n R1 r => by
    obtain ⟨rfl, p⟩ := p
    have e : x = .type T := r
    subst e
    exact PyProof.Rows.callWith_type1 (p A α1 s1 _ E pos hA R1 fun vs hp2 α2 s2 us p2 n2 R2 r2 => p2 A α2 s2 Q E us hA R2.hr R2.bare r2 fun w hp3 α3 s3 z p3 n3 H3 r3 => hQ w hp3 α3 s3 z p3 ((n.trans n2).trans n3) (R2.nx0 n3 H3) r3) hs hp') hc

/-- a call of one of the text's defs -/
theorem ev_call_def {func e : Expr} {rest : List Expr} {pos : Pos} {Φ : V → List Cell → Prop} {f : Addr}
    (h : AEv C k F loc hp func fun v hp1 => v = .raw (.ref f) ∧ AArgs C k F loc hp1 (e :: rest) fun vs hp2 => ACall C k hp2 (.ref f) vs Φ)
    (hf : keepIn (KF C.w) (.ref f) = true)
    (hs : starEach (e :: rest) F.env = (false, eval e F.env) :: starEach rest F.env := by rfl) (hp' : ((backTo pos (starEach rest F.env)).any fun x => x.fst) = false := by rfl)
    (hc : eval (func.Call (e :: rest) [] pos) F.env = (do let f ← eval func F.env; callWith pos f [] (backTo pos (starEach (e :: rest) F.env)) (backToKw pos (keywordEach [] F.env))) := by rfl) :
    AEv C k F loc hp (.Call func (e :: rest) [] pos) Φ := fun A α s Q E hA R hQ =>
  Call_ (h A α s _ E hA R fun v hp1 α1 s1 x p n R1 r => by
    obtain ⟨rfl, p⟩ := p
    have e : x = .ref f := r
    subst e
    exact callWith_K (first := []) R1.hr.KIn hf (p A α1 s1 _ E pos hA R1 fun vs hp2 α2 s2 us p2 n2 R2 r2 => ⟨R2.hr.KIn, p2 A α2 s2 Q E us hA R2.hr R2.bare r2 fun w hp3 α3 s3 z p3 n3 H3 r3 => hQ w hp3 α3 s3 z p3 ((n.trans n2).trans n3) (R2.nx0 n3 H3) r3⟩) hs hp') hc

/-- a value's type, for a method -/
noncomputable def HasT (C : Cx) (v : V) (T : String) : Prop := ∀ (hp : List Cell) (α : List Addr) (s : Shared) (x : Value), HR C hp α s.heap → VR α s.heap v x → s.TypeIs x T ∧ ∀ a, x = .ref a → ∃ o, s.heap.get? a = some o ∧ o.dict = none

theorem hasT_str {x : Str} : HasT C (.str x) "str" := fun hp α s u R r => by
  obtain ⟨t, rfl⟩ := r
  exact ⟨typeIs_str _ _ _, fun a e => nomatch e⟩
theorem hasT_pat {a : Addr} {vs : Array Value} (e : (KF C.w).lookup a = some { cls := .type "re.Pattern", data := .fields vs }) (n1 : a ≠ 57 := by decide) (n2 : a ≠ 76 := by decide) : HasT C (.raw (.ref a)) "re.Pattern" := fun hp α s u R r => by
  have : u = .ref a := r
  subst this
  have h := R.K e n1 n2
  exact ⟨⟨_, h, rfl⟩, fun b q => by cases q; exact ⟨_, h, rfl⟩⟩

theorem ev_method {o : Expr} {name : Str} {apos pos : Pos} {args : List Expr} {Φ : V → List Cell → Prop} (T id : String)
    (h : AEv C k F loc hp o fun v hp1 => HasT C v T ∧ AArgs C k F loc hp1 args fun vs hp2 => ACall C k hp2 (.builtin id) (v :: vs) Φ)
    (pa : PlainAttrs T) (slot : Slot T name id) (ty : typeOf (.builtin id) = pure (.type "method_descriptor"))
    (hs : args = [] ∨ ∃ e rest, args = e :: rest ∧ starEach (e :: rest) F.env = (false, eval e F.env) :: starEach rest F.env ∧ ((backTo pos (starEach rest F.env)).any fun x => x.fst) = false)
    {pl : Sem Bool}
    (hc : eval ((o.Attribute name apos).Call args [] pos) F.env = (do let ov ← eval o F.env; standAt apos.atName; let (f, first) ← holding [ov] (getMethod ov name pl); callWith pos f first (backTo pos (starEach args F.env)) [])) :
    AEv C k F loc hp (.Call (.Attribute o name apos) args [] pos) Φ := fun A α s Q E hA R hQ =>
  MethodCall_ (pl := pl) (h A α s _ E hA R fun v hp1 α1 s1 x p n R1 r => by
    obtain ⟨ht, p⟩ := p
    obtain ⟨t1, t2⟩ := ht hp1 α1 s1 x R1.hr r
    refine getMethod_builtin t1 pa slot ty t2 ?_
    rcases hs with rfl | ⟨e, rest, rfl, h1, h2⟩
    · refine callWith_method0 ?_
      have := p A α1 s1 (fun us s2 => wpAny C.M A (call (.builtin id) (x :: us)) Q E s2) E pos hA R1 fun vs hp2 α2 s2 us p2 n2 R2 r2 => p2 A α2 s2 Q E (x :: us) hA R2.hr R2.bare (.cons (r.nx (hp' := hp) n2 (n2.kp0 R1.hr)) r2) fun w hp3 α3 s3 z p3 n3 H3 r3 => hQ w hp3 α3 s3 z p3 ((n.trans n2).trans n3) (R2.nx0 n3 H3) r3
      exact fun Γ q hΓ => this Γ q hΓ Γ q hΓ
    · exact callWith_method1 (first := [x]) (p A α1 s1 _ E pos hA R1 fun vs hp2 α2 s2 us p2 n2 R2 r2 => p2 A α2 s2 Q E (x :: us) hA R2.hr R2.bare (.cons (r.nx (hp' := hp) n2 (n2.kp0 R1.hr)) r2) fun w hp3 α3 s3 z p3 n3 H3 r3 => hQ w hp3 α3 s3 z p3 ((n.trans n2).trans n3) (R2.nx0 n3 H3) r3) h1 h2) hc

theorem Bs.there {C : Cx} {h : Heap} (B : Bs C h) {b : Addr} {o : Obj} (e : C.h₀.get? b = some o) : ∃ o', h.get? b = some o' := by
  by_cases h1 : b = 57
  · obtain ⟨ps, e', _⟩ := B.t57; exact ⟨_, h1 ▸ e'⟩
  · by_cases h2 : b = 76
    · obtain ⟨ps, e', _⟩ := B.t76; exact ⟨_, h2 ▸ e'⟩
    · exact ⟨o, B.keep b o e h1 h2⟩
theorem HR.absent {α : List Addr} {h : Heap} (R : HR C hp α h) {b : Addr} (e : h.get? b = none) : C.h₀.get? b = none := by
  cases q : C.h₀.get? b with
  | none => rfl
  | some o =>
    obtain ⟨o', e'⟩ := R.base.there q
    rw [e] at e'; cases e'
/-- a fresh list comes onto the heap -/
theorem HR.pushList {α : List Addr} {h : Heap} (R : HR C hp α h) {vs : List V} {xs : Array Value} {n : Nat} (r : VRs α h vs xs.toList) : HR C (hp ++ [some vs]) (α ++ [h.objs.size]) (h.push (listOf xs n)) := by
  have k : ∀ b o, h.get? b = some o → (h.push (listOf xs n)).get? b = some o := fun b o e => Heap.get?_push_of_some _ e
  have R' := R.ext k
  refine ⟨R'.base, by simp [R.len], ?_, fun a ha => ?_, fun i a c e1 e2 => ?_⟩
  · rw [List.nodup_append]
    refine ⟨R.nd, by simp, fun a ha b hb => ?_⟩
    simp only [List.mem_singleton] at hb
    subst hb
    exact Nat.ne_of_lt (R.lt ha)
  · rcases List.mem_append.mp ha with ha | ha
    · exact R.new a ha
    · simp only [List.mem_singleton] at ha
      subst ha
      cases q : C.h₀.get? h.objs.size with
      | none => rfl
      | some o =>
        obtain ⟨o', e'⟩ := R.base.there q
        exact absurd (Heap.lt_size e') (Nat.lt_irrefl _)
  · by_cases hi : i < α.length
    · rw [List.getElem?_append_left hi] at e1
      rw [List.getElem?_append_left (R.len ▸ hi)] at e2
      exact (R.cell i a c e1 e2).step (Kp.of k) (k a)
    · have hi' : i = α.length := by
        have := (List.getElem?_eq_some_iff.mp e1).1
        simp at this; omega
      subst hi'
      rw [List.getElem?_append_right (Nat.le_refl _)] at e1
      rw [R.len, List.getElem?_append_right (Nat.le_refl _)] at e2
      simp at e1 e2
      subst e1 e2
      exact ⟨xs, n, Heap.get?_push_size _ rfl, r.kp (Kp.of k)⟩

theorem get_size (h : Heap) : h.get? h.objs.size = none := by
  cases q : h.get? h.objs.size with
  | none => rfl
  | some o => exact absurd (Heap.lt_size q) (Nat.lt_irrefl _)
theorem get_above {h : Heap} {b : Addr} (hb : h.objs.size ≤ b) : h.get? b = none := by
  cases q : h.get? b with
  | none => rfl
  | some o => exact absurd (Heap.lt_size q) (Nat.not_lt.mpr hb)
theorem Nx.push {own α : List Addr} (s : Shared) (o : Obj) (β : List Addr) (hβ : ∀ b ∈ β, b = s.heap.objs.size) : Nx C own α s (α ++ β) { s with heap := s.heap.push o } :=
  ⟨⟨β, rfl, fun b hb => by rw [hβ b hb]; exact get_size _⟩, fun b o' e _ _ _ _ => Heap.get?_push_of_some _ e, fun b o' e => ⟨o', Heap.get?_push_of_some _ e⟩, rfl, fun _ _ e => e, fun h => h⟩
theorem VRs.length {α : List Addr} {h : Heap} {vs : List V} {us : List Value} (r : VRs α h vs us) : us.length = vs.length := by
  induction r with
  | nil => rfl
  | cons _ _ ih => simp [ih]

theorem ev_list {elts : List Expr} {pos : Pos} {Φ : V → List Cell → Prop} (h : AArgs C k F loc hp elts fun vs hp' => vs.length ≤ sizeLine ∧ Φ (.lst hp'.length) (hp' ++ [some vs])) :
    AEv C k F loc hp (.List elts pos) Φ := fun A α s Q E hA R hQ =>
  wpAny_List (h A α s _ E pos hA R fun vs hp' α' s' us p n R' r => by
    refine ⟨r.length ▸ p.1, ?_⟩
    have n2 : Nx C [] α' s' (α' ++ [s'.heap.objs.size]) { s' with heap := s'.heap.push { cls := .type "list", data := .seq us.toArray } } := .push s' _ [s'.heap.objs.size] (by simp)
    have H2 : HR C (hp' ++ [some vs]) (α' ++ [s'.heap.objs.size]) (s'.heap.push { cls := .type "list", data := .seq us.toArray }) := R'.hr.pushList (n := 0) (by simpa using r)
    exact hQ _ _ _ _ _ p.2 (n.trans n2) (R'.nx0 n2 H2) ⟨s'.heap.objs.size, by rw [← R'.hr.len, List.getElem?_append_right (Nat.le_refl _)]; simp, rfl⟩)

theorem ev_pair {a b : Expr} {j : Nat} {pos : Pos} {Φ : V → List Cell → Prop} (h : AArgs C k F loc hp [a, b] fun vs hp' => ∃ x y, vs = [.str x, .str y] ∧ Φ (.pair x y) hp') :
    AEv C k F loc hp (.Tuple [a, b] j pos) Φ := fun A α s Q E hA R hQ =>
  wpAny_Tuple (h A α s _ E pos hA R fun vs hp' α' s' us p n R' r => by
    obtain ⟨x, y, rfl, p⟩ := p
    cases r with
    | cons r1 r =>
    cases r with
    | cons r2 r =>
    cases r
    obtain ⟨t, rfl⟩ := r1
    obtain ⟨u, rfl⟩ := r2
    refine ⟨by show 2 ≤ sizeLine; decide, ?_⟩
    have n2 : Nx C [] α' s' (α' ++ []) { s' with heap := s'.heap.push { cls := .type "tuple", data := .seq [Value.str x t, Value.str y u].toArray } } := .push s' _ [] (by simp)
    rw [List.append_nil] at n2
    exact hQ _ _ _ _ _ p (n.trans n2) (R'.ext (fun b o e => Heap.get?_push_of_some _ e) rfl) ⟨s'.heap.objs.size, t, u, rfl, _, 0, Heap.get?_push_size _ rfl, rfl, rfl⟩)
end
end Mine
end

section
open PySem PySem.W PyProof.Rows
namespace Mine
section
variable {C : Cx} {k : Nat} {F : FrD} {loc : List (Option V)} {hp : List Cell} {Φ : V → List Cell → Prop}

theorem toksHR {α : List Addr} {s : Shared} (R : HR C hp α s.heap) (t : Nat) : HR C hp α ({ s with toks := t } : Shared).heap := R

theorem op_add {a b : Int} (h : Φ (.int (a + b)) hp) : AT2 C k hp (.int a) (.int b) (binaryOp .Add) Φ := fun A α s Q E x y hA R hb ⟨t, e1⟩ ⟨u, e2⟩ hQ => by
  subst e1 e2; exact add_int (hQ _ _ _ _ _ h (toksNx s _) R ⟨_, rfl⟩)
theorem op_iadd {a b : Int} (h : Φ (.int (a + b)) hp) : AT2 C k hp (.int a) (.int b) (inplaceOp .Add) Φ := fun A α s Q E x y hA R hb ⟨t, e1⟩ ⟨u, e2⟩ hQ => by
  subst e1 e2; exact iadd_int (hQ _ _ _ _ _ h (toksNx s _) R ⟨_, rfl⟩)
theorem op_mod {a b : Int} (hb0 : b ≠ 0) (h : Φ (.int (a.fmod b)) hp) : AT2 C k hp (.int a) (.int b) (binaryOp .Mod) Φ := fun A α s Q E x y hA R hb ⟨t, e1⟩ ⟨u, e2⟩ hQ => by
  subst e1 e2; exact mod_int' hb0 (hQ _ _ _ _ _ h (toksNx s _) R ⟨_, rfl⟩)
theorem op_fdiv {a b : Int} (hb0 : b ≠ 0) (hp0 : Builtin.divisionGoesByPylong a b = false) (h : Φ (.int (a.fdiv b)) hp) : AT2 C k hp (.int a) (.int b) (binaryOp .FloorDiv) Φ := fun A α s Q E x y hA R hb ⟨t, e1⟩ ⟨u, e2⟩ hQ => by
  subst e1 e2; exact floordiv_int hb0 (hQ _ _ _ _ _ h (toksNx s _) R ⟨_, rfl⟩) (.inl hp0)
theorem op_cat {a b : Str} (hz : a.length + b.length ≤ sizeLine) (h : Φ (.str (a ++ b)) hp) : AT2 C k hp (.str a) (.str b) (binaryOp .Add) Φ := fun A α s Q E x y hA R hb ⟨t, e1⟩ ⟨u, e2⟩ hQ => by
  subst e1 e2; exact add_str (fun t' tk => hQ _ _ _ _ _ h (toksNx s _) R ⟨_, rfl⟩) hz

theorem c_eq_str {a b : Str} (h : Φ (.bool (a == b)) hp) : AT2 C k hp (.str a) (.str b) (compareOp .Eq) Φ := fun A α s Q E x y hA R hb ⟨t, e1⟩ ⟨u, e2⟩ hQ => by
  subst e1 e2; exact eq_str (hQ _ _ _ _ _ h (.refl ..) R rfl)
theorem c_ne_str {a b : Str} (h : Φ (.bool (a != b)) hp) : AT2 C k hp (.str a) (.str b) (compareOp .NotEq) Φ := fun A α s Q E x y hA R hb ⟨t, e1⟩ ⟨u, e2⟩ hQ => by
  subst e1 e2; exact ne_str (hQ _ _ _ _ _ h (.refl ..) R rfl)
theorem c_gt_str {a b : Str} (h : Φ (.bool (decide (b.cps.toList < a.cps.toList))) hp) : AT2 C k hp (.str a) (.str b) (compareOp .Gt) Φ := fun A α s Q E x y hA R hb ⟨t, e1⟩ ⟨u, e2⟩ hQ => by
  subst e1 e2; exact P.gt_str (hQ _ _ _ _ _ h (.refl ..) R rfl)
theorem c_in_str {a b : Str} (h : Φ (.bool (!(Builtin.Str.occurrences b a 0 b.length 1).isEmpty)) hp) : AT2 C k hp (.str a) (.str b) (compareOp .In) Φ := fun A α s Q E x y hA R hb ⟨t, e1⟩ ⟨u, e2⟩ hQ => by
  subst e1 e2; exact in_str (hQ _ _ _ _ _ h (.refl ..) R rfl)
theorem c_nin_str {a b : Str} (h : Φ (.bool (!!(Builtin.Str.occurrences b a 0 b.length 1).isEmpty)) hp) : AT2 C k hp (.str a) (.str b) (compareOp .NotIn) Φ := fun A α s Q E x y hA R hb ⟨t, e1⟩ ⟨u, e2⟩ hQ => by
  subst e1 e2; exact notIn_str (hQ _ _ _ _ _ h (.refl ..) R rfl)
theorem c_eq_int {a b : Int} (h : Φ (.bool (a == b)) hp) : AT2 C k hp (.int a) (.int b) (compareOp .Eq) Φ := fun A α s Q E x y hA R hb ⟨t, e1⟩ ⟨u, e2⟩ hQ => by
  subst e1 e2; exact eq_int (hQ _ _ _ _ _ h (.refl ..) R rfl)
theorem c_lt_int {a b : Int} (h : Φ (.bool (decide (a < b))) hp) : AT2 C k hp (.int a) (.int b) (compareOp .Lt) Φ := fun A α s Q E x y hA R hb ⟨t, e1⟩ ⟨u, e2⟩ hQ => by
  subst e1 e2; exact lt_int (hQ _ _ _ _ _ h (.refl ..) R rfl)
theorem c_le_int {a b : Int} (h : Φ (.bool (decide (a ≤ b))) hp) : AT2 C k hp (.int a) (.int b) (compareOp .LtE) Φ := fun A α s Q E x y hA R hb ⟨t, e1⟩ ⟨u, e2⟩ hQ => by
  subst e1 e2; exact le_int (hQ _ _ _ _ _ h (.refl ..) R rfl)
theorem c_gt_int {a b : Int} (h : Φ (.bool (decide (a > b))) hp) : AT2 C k hp (.int a) (.int b) (compareOp .Gt) Φ := fun A α s Q E x y hA R hb ⟨t, e1⟩ ⟨u, e2⟩ hQ => by
  subst e1 e2; exact gt_int (hQ _ _ _ _ _ h (.refl ..) R rfl)
theorem c_ge_int {a b : Int} (h : Φ (.bool (decide (a ≥ b))) hp) : AT2 C k hp (.int a) (.int b) (compareOp .GtE) Φ := fun A α s Q E x y hA R hb ⟨t, e1⟩ ⟨u, e2⟩ hQ => by
  subst e1 e2; exact ge_int (hQ _ _ _ _ _ h (.refl ..) R rfl)

/-- is None -/
noncomputable def V.isNone : V → Bool
  | .none => true
  | _ => false
noncomputable def V.plain : V → Prop
  | .raw _ => False
  | _ => True
theorem c_is_none {v : V} (hv : v.plain) (h : Φ (.bool v.isNone) hp) : AT2 C k hp v .none (compareOp .Is) Φ := fun A α s Q E x y hA R hb r e2 hQ => by
  have e2 : y = .none := e2
  subst e2
  have fin : ∀ b, Φ (.bool b) hp → Q (.bool b) s := fun b p => hQ _ _ _ _ _ p (.refl ..) R rfl
  cases v with
  | raw w => exact hv.elim
  | none => have e : x = .none := r; subst e; exact is_none_none (fin _ h)
  | bool b => have e : x = .bool b := r; subst e; exact wpAny_is_other (by rfl) (by intro z; cases z) (fin _ h)
  | int i => obtain ⟨t, rfl⟩ := r; exact wpAny_is_other (by rfl) (by intro z; cases z) (fin _ h)
  | str i => obtain ⟨t, rfl⟩ := r; exact wpAny_is_other (by rfl) (by intro z; cases z) (fin _ h)
  | pair a b => obtain ⟨z, t, u, rfl, _⟩ := r; exact wpAny_is_other (by rfl) (by intro z; cases z) (fin _ h)
  | lst n => obtain ⟨z, _, rfl⟩ := r; exact wpAny_is_other (by rfl) (by intro z; cases z) (fin _ h)
  | obj n => obtain ⟨z, _, rfl⟩ := r; exact wpAny_is_other (by rfl) (by intro z; cases z) (fin _ h)
  | bound id n => obtain ⟨z, _, _, rfl, _⟩ := r; exact wpAny_is_other (by rfl) (by intro z; cases z) (fin _ h)
  | rng n => obtain ⟨z, _, _, _, rfl, _⟩ := r; exact wpAny_is_other (by rfl) (by intro z; cases z) (fin _ h)
  | thing => obtain ⟨z, rfl⟩ := r; exact wpAny_is_other (by rfl) (by intro z; cases z) (fin _ h)
  | mtch i => obtain ⟨z, _, _, _, _, _, _, _, _, _, rfl, _⟩ := r; exact wpAny_is_other (by rfl) (by intro z; cases z) (fin _ h)
theorem c_isnot_none {v : V} (hv : v.plain) (h : Φ (.bool (!v.isNone)) hp) : AT2 C k hp v .none (compareOp .IsNot) Φ := fun A α s Q E x y hA R hb r e2 hQ => by
  have e2 : y = .none := e2
  subst e2
  have fin : ∀ b, Φ (.bool b) hp → Q (.bool b) s := fun b p => hQ _ _ _ _ _ p (.refl ..) R rfl
  cases v with
  | raw w => exact hv.elim
  | none => have e : x = .none := r; subst e; exact isnot_none_none (fin _ h)
  | bool b => have e : x = .bool b := r; subst e; exact wpAny_isNot_other (by rfl) (by intro z; cases z) (fin _ h)
  | int i => obtain ⟨t, rfl⟩ := r; exact wpAny_isNot_other (by rfl) (by intro z; cases z) (fin _ h)
  | str i => obtain ⟨t, rfl⟩ := r; exact wpAny_isNot_other (by rfl) (by intro z; cases z) (fin _ h)
  | pair a b => obtain ⟨z, t, u, rfl, _⟩ := r; exact wpAny_isNot_other (by rfl) (by intro z; cases z) (fin _ h)
  | lst n => obtain ⟨z, _, rfl⟩ := r; exact wpAny_isNot_other (by rfl) (by intro z; cases z) (fin _ h)
  | obj n => obtain ⟨z, _, rfl⟩ := r; exact wpAny_isNot_other (by rfl) (by intro z; cases z) (fin _ h)
  | bound id n => obtain ⟨z, _, _, rfl, _⟩ := r; exact wpAny_isNot_other (by rfl) (by intro z; cases z) (fin _ h)
  | rng n => obtain ⟨z, _, _, _, rfl, _⟩ := r; exact wpAny_isNot_other (by rfl) (by intro z; cases z) (fin _ h)
  | thing => obtain ⟨z, rfl⟩ := r; exact wpAny_isNot_other (by rfl) (by intro z; cases z) (fin _ h)
  | mtch i => obtain ⟨z, _, _, _, _, _, _, _, _, _, rfl, _⟩ := r; exact wpAny_isNot_other (by rfl) (by intro z; cases z) (fin _ h)
end
end Mine
end

section
open PySem PySem.W PyProof.Rows StrLaws
namespace Mine
section
variable {C : Cx} {k : Nat} {F : FrD} {loc : List (Option V)} {hp : List Cell} {Φ : V → List Cell → Prop}

theorem F2.get {A B : Type} {R : A → B → Prop} : ∀ {l : List A} {r : List B}, F2 R l r → ∀ {i : Nat} {a : A}, l[i]? = some a → ∃ b, r[i]? = some b ∧ R a b
  | _, _, .nil, i, a, e => by simp at e
  | _, _, .cons h t, 0, a, e => by simp at e; subst e; exact ⟨_, rfl, h⟩
  | _, _, .cons h t, i + 1, a, e => by simpa using t.get (i := i) (by simpa using e)
theorem F2.length {A B : Type} {R : A → B → Prop} {l : List A} {r : List B} (h : F2 R l r) : r.length = l.length := by
  induction h with
  | nil => rfl
  | cons _ _ ih => simp [ih]
theorem F2.append {A B : Type} {R : A → B → Prop} {l l' : List A} {r r' : List B} (h : F2 R l r) (h' : F2 R l' r') : F2 R (l ++ l') (r ++ r') := by
  induction h with
  | nil => exact h'
  | cons a _ ih => exact .cons a ih
theorem F2.take {A B : Type} {R : A → B → Prop} {l : List A} {r : List B} (h : F2 R l r) : ∀ n, F2 R (l.take n) (r.take n) := by
  induction h with
  | nil => intro n; simp; exact .nil
  | cons a _ ih =>
    intro n
    cases n with
    | zero => exact .nil
    | succ n => exact .cons a (ih n)

theorem HR.lstAt {α : List Addr} {h : Heap} (R : HR C hp α h) {n : Nat} {vs : List V} {u : Value} (e : hp[n]? = some (some vs)) (r : VR α h (.lst n) u) : ∃ a xs m, u = .ref a ∧ α[n]? = some a ∧ h.get? a = some (listOf xs m) ∧ VRs α h vs xs.toList := by
  obtain ⟨a, ea, rfl⟩ := r
  obtain ⟨xs, m, e1, e2⟩ := R.cell n a _ ea e
  exact ⟨a, xs, m, rfl, ea, e1, e2⟩

/-- the tail of a subscript by an int -/
noncomputable def ASub (C : Cx) (k : Nat) (hp : List Cell) (ve se : Expr) (v w : V) (Φ : V → List Cell → Prop) : Prop := AT2 C k hp v w (fun x y => subscriptTail ve se x y) Φ
theorem ev_sub {ve se : Expr} {pos : Pos} (h : AEv C k F loc hp ve fun a hp1 => AEv C k F loc hp1 se fun b hp2 => ASub C k hp2 ve se a b Φ) : AEv C k F loc hp (.Subscript ve se pos) Φ := fun A α s Q E hA R hQ =>
  Subscript_ (two h E hA R fun a b hp' α' s' x y t n R' ra rb => t A α' s' Q E x y hA R'.hr R'.bare ra rb fun v hp2 α2 s2 z p n2 H2 r2 => hQ v hp2 α2 s2 z p (n.trans n2) (R'.nx0 n2 H2) r2)

theorem sub_list {ve se : Expr} {n : Nat} {i : Int} {vs : List V} {v : V} (e : hp[n]? = some (some vs)) (h0 : 0 ≤ i) (hi : i < 2 ^ 63) (hv : vs[i.toNat]? = some v) (h : Φ v hp)
    (hs : ∀ o i, subscripted se false o i = operate [o, i] (getItem o i) := by intro o i; rfl) : ASub C k hp ve se (.lst n) (.int i) Φ := fun A α s Q E x y hA R hb r1 r2 hQ => by
  obtain ⟨a, xs, m, rfl, ea, e1, e2⟩ := R.lstAt e r1
  obtain ⟨t, rfl⟩ := r2
  have hl : s.heap.IsList a xs := ⟨_, e1, rfl, _, rfl⟩
  obtain ⟨u, eu, ru⟩ := F2.get e2 hv
  exact tail_any hl.typeIs slot_list_getitem.lookup (wpAny_getItem_list hl h0 hi (by simpa using eu) (hQ _ _ _ _ _ h (.refl ..) R ru)) (hs _ _)

theorem sub_list_last {ve se : Expr} {n : Nat} {vs : List V} {v : V} (e : hp[n]? = some (some vs)) (hv : vs.getLast? = some v) (h : Φ v hp)
    (hs : ∀ o i, subscripted se false o i = operate [o, i] (getItem o i) := by intro o i; rfl) : ASub C k hp ve se (.lst n) (.int (-1)) Φ := fun A α s Q E x y hA R hb r1 r2 hQ => by
  obtain ⟨a, xs, m, rfl, ea, e1, e2⟩ := R.lstAt e r1
  obtain ⟨t, rfl⟩ := r2
  have hl : s.heap.IsList a xs := ⟨_, e1, rfl, _, rfl⟩
  rw [List.getLast?_eq_getElem?] at hv
  obtain ⟨u, eu, ru⟩ := F2.get e2 hv
  have hlen := F2.length e2
  have hpos : 0 < vs.length := by
    have := (List.getElem?_eq_some_iff.mp hv).1; omega
  have hsz : xs.size = vs.length := by simpa using hlen
  refine tail_any hl.typeIs slot_list_getitem.lookup (wpAny_getItem_list_neg hl (by decide) (by rw [hsz]; omega) (by decide) ?_ (hQ _ _ _ _ _ h (.refl ..) R ru)) (hs _ _)
  have : (-1 + (xs.size : Int)).toNat = vs.length - 1 := by omega
  rw [this]
  simpa using eu

theorem sub_str {ve se : Expr} {x : Str} {i : Int} {c : Nat} (h0 : 0 ≤ i) (hi : i < 2 ^ 63) (hc : x.cps[i.toNat]? = some c) (h : Φ (.str ⟨#[c]⟩) hp)
    (hs : ∀ o i, subscripted se false o i = operate [o, i] (getItem o i) := by intro o i; rfl) : ASub C k hp ve se (.str x) (.int i) Φ := fun A α s Q E u y hA R hb r1 r2 hQ => by
  obtain ⟨t, rfl⟩ := r1
  obtain ⟨t', rfl⟩ := r2
  have hlt : i.toNat < x.cps.size := (Array.getElem?_eq_some_iff.mp hc).1
  refine tail_any (typeIs_str _ _ _) F.slot_str_getitem.lookup (P.getItem_str (by simp; omega) ?_ (hQ _ _ _ _ _ h (toksNx s _) R ⟨_, rfl⟩)) (hs _ _)
  have e : seqIndex? i x.length = some i.toNat := by
    unfold seqIndex?
    have : ¬ i < 0 := by omega
    simp only [this, if_false]
    have h2 : i < (x.length : Int) := by
      show i < (x.cps.size : Int)
      omega
    simp [h0, h2]
  rw [e]; exact hc

theorem picked_eq (x : Str) (a b : Nat) (hab : a ≤ b) (hb : b ≤ x.cps.size) : (⟨((Builtin.Str.strSliceIndices (some (a : Int)) (some (b : Int)) 1 x.length).filterMap (x.cps[·]?)).toArray⟩ : Str) = ⟨((x.cps.toList.drop a).take (b - a)).toArray⟩ := by
  rw [show x.length = x.cps.size from rfl, strSliceIndices_plain hab hb, pick_run]

/-- a text cut: both ends given -/
theorem ev_cut {ve lo hi : Expr} {p pos : Pos} {x : Str} (h : AEv C k F loc hp ve fun v hp1 => ∃ x, v = .str x ∧ AEv C k F loc hp1 lo fun a hp2 => ∃ i : Nat, a = .int i ∧ AEv C k F loc hp2 hi fun b hp3 => ∃ j : Nat, b = .int j ∧ i ≤ j ∧ j ≤ x.cps.size ∧ x.cps.size ≤ sizeLine ∧
      Φ (.str ⟨((x.cps.toList.drop i).take (j - i)).toArray⟩) hp3)
    (ht : ∀ o r, letTemporaryGo ve o r = pure () := by intro _ _; rfl) : AEv C k F loc hp (.Subscript ve (.Slice (some lo) (some hi) none p) pos) Φ := fun A α s Q E hA R hQ => by
  refine wpAny_Subscript_str_slice (h A α s _ E hA R fun v hp1 α1 s1 y pp n1 R1 r1 => ?_) ht
  obtain ⟨x, rfl, pp⟩ := pp
  obtain ⟨t, rfl⟩ := r1
  rw [evalPart_some]
  refine pp A α1 s1 _ E hA R1 fun a hp2 α2 s2 y2 p2 n2 R2 r2 => ?_
  obtain ⟨i, rfl, p2⟩ := p2
  obtain ⟨ti, rfl⟩ := r2
  rw [evalPart_some]
  refine p2 A α2 s2 _ E hA R2 fun b hp3 α3 s3 y3 p3 n3 R3 r3 => ?_
  obtain ⟨j, rfl, hij, hj, hz, p3⟩ := p3
  obtain ⟨tj, rfl⟩ := r3
  refine ⟨x, t, some (i, ti), some (j, tj), rfl, rfl, rfl, ?_⟩
  have n4 : Nx C [] α3 s3 (α3 ++ []) { s3 with heap := s3.heap.push { cls := .type "slice", data := .fields #[.int i ti, .int j tj, .none] } } := .push s3 _ [] (by simp)
  rw [List.append_nil] at n4
  have R4 := R3.nx0 n4 (R3.hr.ext (fun b o e => Heap.get?_push_of_some _ e))
  have e := picked_eq x i j hij hj
  have fin : ∀ (s5 : Shared) (t' : Tok) (y : Str), y = ⟨((x.cps.toList.drop i).take (j - i)).toArray⟩ → s5 = { s3 with heap := s3.heap.push { cls := .type "slice", data := .fields #[.int i ti, .int j tj, .none] }, toks := s5.toks } → Q (.str y t') s5 := fun s5 t' y ey es => by
    rw [es]
    subst ey
    exact hQ _ _ _ _ _ p3 (((n1.trans n2).trans n3).trans (n4.trans (toksNx _ _))) (toksRel R4 _) ⟨t', rfl⟩
  unfold sliceMade
  split
  · rename_i hw
    refine fin _ _ _ ?_ rfl
    rw [← e]
    simp only [slicePicked, Option.map_some, Option.map_none, Option.getD_none, Bool.and_eq_true, beq_iff_eq] at hw
    have hl := hw.2
    rw [show x.length = x.cps.size from rfl, strSliceIndices_plain hij hj] at hl ⊢
    have hl' : j - i = x.cps.size := by simpa using hl
    have h1 : i = 0 := by omega
    have h2 : j = x.cps.size := by omega
    subst h1 h2
    rw [pick_run]
    simp only [List.drop_zero, Nat.sub_zero]
    rw [List.take_of_length_le (by simp)]

  · refine ⟨?_, fin _ _ _ e rfl⟩
    show (Array.size _) ≤ sizeLine
    have : (⟨((slicePicked x (some (↑i, ti)) (some (↑j, tj)) none).filterMap (x.cps[·]?)).toArray⟩ : Str) = _ := e
    have := congrArg (fun z : Str => z.cps.size) this
    simp at this ⊢
    rw [this]
    have : min (j - i) (x.cps.size - i) ≤ x.cps.size := by omega
    omega
end
end Mine
end

section
open PySem PySem.W PyProof.Rows
namespace Mine
noncomputable def fdOf (w : World) (a : Addr) : FuncData := match (KF w).lookup a with
  | some ⟨_, _, .func fd, _⟩ => fd
  | _ => default
noncomputable def bodyOf (w : World) (a : Addr) : List Stmt := match (fdOf w a).body with
  | .stmts b => b
  | _ => []

theorem bindL_at {kindOf : Str → Option NameKind} : ∀ {binds : List (Str × Value)} {m : Str → Option Value} {n : Str} {v : Value} {i : Nat}, (binds.map (·.1)).Nodup → binds[i]? = some (n, v) → kindOf n = some .local → bindL kindOf binds m n = some v
  | [], m, n, v, i, _, e, _ => by simp at e
  | (x, u) :: r, m, n, v, 0, hn, e, hk => by
    simp at e
    obtain ⟨rfl, rfl⟩ := e
    have hx : x ∉ r.map (·.1) := (List.nodup_cons.mp hn).1
    unfold bindL
    rw [if_pos hk]
    have keep : ∀ (r : List (Str × Value)) (m : Str → Option Value), x ∉ r.map (·.1) → m x = some u → bindL kindOf r m x = some u := by
      intro r
      induction r with
      | nil => intro m _ h; exact h
      | cons p r ih =>
        intro m hx h
        obtain ⟨y, w⟩ := p
        unfold bindL
        refine ih _ (fun z => hx (by simp [z])) ?_
        split
        · have : x ≠ y := fun z => hx (by simp [z])
          simp [this, h]
        · exact h
    exact keep r _ hx (by simp)
  | (x, u) :: r, m, n, v, i + 1, hn, e, hk => by
    unfold bindL
    exact bindL_at (i := i) (List.nodup_cons.mp hn).2 (by simpa using e) hk
theorem bindC_at {kindOf : Str → Option NameKind} : ∀ {binds : List (Str × Value)} {m : Str → Option Value} {n : Str} {v : Value} {i : Nat}, (binds.map (·.1)).Nodup → binds[i]? = some (n, v) → kindOf n ≠ some .local → bindC kindOf binds m n = some v
  | [], m, n, v, i, _, e, _ => by simp at e
  | (x, u) :: r, m, n, v, 0, hn, e, hk => by
    simp at e
    obtain ⟨rfl, rfl⟩ := e
    have hx : x ∉ r.map (·.1) := (List.nodup_cons.mp hn).1
    unfold bindC
    rw [if_neg hk]
    have keep : ∀ (r : List (Str × Value)) (m : Str → Option Value), x ∉ r.map (·.1) → m x = some u → bindC kindOf r m x = some u := by
      intro r
      induction r with
      | nil => intro m _ h; exact h
      | cons p r ih =>
        intro m hx h
        obtain ⟨y, w⟩ := p
        unfold bindC
        refine ih _ (fun z => hx (by simp [z])) ?_
        split
        · exact h
        · have : x ≠ y := fun z => hx (by simp [z])
          simp [this, h]
    exact keep r _ hx (by simp)
  | (x, u) :: r, m, n, v, i + 1, hn, e, hk => by
    unfold bindC
    exact bindC_at (i := i) (List.nodup_cons.mp hn).2 (by simpa using e) hk

/-- what is said once of a def of the text -/
structure DefOk (w : World) (a : Addr) (F : Addr → FrD) (params : List Str) : Prop where
  obj : (KF w).lookup a = some ⟨.type "function", none, .func (fdOf w a), #[]⟩
  code : ∃ c o fs t, (fdOf w a).code = .ref c ∧ (KF w).lookup c = some o ∧ o.data = .fields fs ∧ fs[1]? = some (.str (fdOf w a).qualname t) ∧ c ≠ 57 ∧ c ≠ 76
  ne57 : a ≠ 57
  ne76 : a ≠ 76
  body : (fdOf w a).body = .stmts (bodyOf w a)
  clo : (fdOf w a).closure = []
  co : (fdOf w a).scope.isCoroutine = false
  gen : (fdOf w a).scope.isGenerator = false
  kind : (fdOf w a).scope.kind = .function
  frame : ∀ L, (F L).env = callEnvC (fdOf w a) L a ∧ FOk (F L) ∧ ∀ b ∈ (F L).own, L ≤ b
  bind : ∀ us : List Value, us.length = params.length → bindArgs (fdOf w a) ⟨us, []⟩ = pure (params.zip us)
  nodup : params.Nodup
  slots : ∀ L (i : Nat) p, params[i]? = some p → ∃ c, (F L).names[i]? = some (p, c)
  cellKind : ∀ L x c, (x, some c) ∈ (F L).names → (F L).env.kindOf x = some .cell

theorem Ok.deeper {k : Nat} {A : Around} (h : Ok k A) (hk : k < 100) (env : Env) : Ok (k + 1) (A.deeper env) := by
  obtain ⟨h1, h2, h3, h4⟩ := h
  refine ⟨h1, ?_, ?_, by omega⟩
  · rw [depth_deeper]; omega
  · rw [units_deeper]; omega
theorem Ok.room {k : Nat} {A : Around} (h : Ok k A) : A.depth < recursionLimit := by
  obtain ⟨h1, h2, h3, h4⟩ := h
  show A.depth < 1000
  omega

theorem Nx.fresh {C : Cx} {own α α' : List Addr} {s s₁ s' : Shared} (x : Nx C [] α s α s₁) (y : Nx C own α s₁ α' s') (h : ∀ b ∈ own, s.heap.get? b = none) : Nx C [] α s α' s' := by
  obtain ⟨β, rfl, hβ⟩ := y.ext
  refine ⟨⟨β, rfl, fun b hb => ?_⟩, fun b o e _ h2 h3 h4 => y.keep b o (x.keep b o e (fun z => nomatch z) h2 h3 h4) (fun z => by rw [h b z] at e; cases e) h2 h3 h4, fun b o e => let ⟨o', e'⟩ := x.there b o e; y.there b o' e', y.os.trans x.os, fun i g e => y.gens i g (x.gens i g e), fun z => y.bare (x.bare z)⟩
  cases q : s.heap.get? b with
  | none => rfl
  | some o =>
    obtain ⟨o', e'⟩ := x.there b o q
    rw [hβ b hb] at e'; cases e'

section
variable {C : Cx} {k : Nat} {hp : List Cell}

theorem enter {f : Addr} {F : Addr → FrD} {params : List Str} (D : DefOk C.w f F params) {vs : List V} {Φ : V → List Cell → Prop} (hk : k < 100) (hlen : vs.length = params.length)
    (h : ∀ L, AExs C (k + 1) (F L) (vs.map some ++ List.replicate ((F L).names.length - vs.length) none) hp (bodyOf C.w f) fun fl _ hp' => ∃ v, fl = .ret v ∧ Φ v hp') : ACall C k hp (.ref f) vs Φ := fun A α s Q E us hA R hb r hQ => by
  have hul : us.length = params.length := r.length.trans hlen
  obtain ⟨c, oc, fs, tq, e1, e2, e3, e4, e5, e6⟩ := D.code
  have hF := D.frame s.heap.objs.size
  refine wpAny_call (codeAny_call_cells hA.room (R.K D.obj D.ne57 D.ne76) rfl R.nolimit ⟨c, oc, fs, tq, e1, R.K e2 e5 e6, e3, e4⟩ D.body (D.bind us hul) D.clo ?_ (fun s₁ x => ?_) D.co D.gen D.kind)
  · intro p hp'
    obtain ⟨i, hi, rfl⟩ := List.getElem_of_mem hp'
    have hi1 : i < params.length := by simp at hi; omega
    obtain ⟨c', hc'⟩ := D.slots s.heap.objs.size i params[i] (List.getElem?_eq_getElem hi1)
    have q := hF.2.1.loc _ (List.mem_of_getElem? hc')
    have en : (params.zip us)[i].1 = params[i] := by simp
    rw [en]
    cases c' with
    | none =>
      have q1 : (F s.heap.objs.size).env.kindOf params[i] = some .local := q
      rw [hF.1] at q1
      exact .inl q1
    | some c' =>
      obtain ⟨_, q2⟩ := q
      have q1 := D.cellKind _ _ _ (List.mem_of_getElem? hc')
      rw [hF.1] at q1 q2
      exact .inr ⟨q1, by
        show (List.lookup _ (callEnvC (fdOf C.w f) s.heap.objs.size f).cells).isSome = true
        rw [q2]; rfl⟩
  · obtain ⟨⟨⟨h', tk, rfl⟩, ns, keep, fresh⟩, cells, apart, above⟩ := x
    rw [← hF.1] at ns cells
    have n1 : Nx C [] α s α { s with heap := h', toks := tk } := .of keep rfl rfl
    have HR1 : HR C hp α h' := R.ext keep
    have rv : VRs α h' vs us := by
      have := r.kp (β := []) (Kp.of keep)
      rwa [List.append_nil] at this
    have hnd : ((params.zip us).map (·.1)).Nodup := by
      rw [List.map_fst_zip (by omega)]; exact D.nodup
    have at0 : ∀ (i : Nat) v, (vs.map some ++ List.replicate ((F s.heap.objs.size).names.length - vs.length) none)[i]? = some (some v) → ∃ p u, params[i]? = some p ∧ (params.zip us)[i]? = some (p, u) ∧ VR α h' v u := fun i v e => by
      by_cases hi : i < vs.length
      · rw [List.getElem?_append_left (by simpa using hi), List.getElem?_map] at e
        have e' : vs[i]? = some v := by
          cases q : vs[i]? with
          | none => rw [q] at e; cases e
          | some z => rw [q] at e; cases e; rfl
        obtain ⟨u, eu, ru⟩ := F2.get rv e'
        have hp1 : params[i]? = some params[i] := List.getElem?_eq_getElem (by omega)
        exact ⟨_, u, hp1, by rw [List.getElem?_zip_eq_some]; exact ⟨hp1, eu⟩, ru⟩
      · rw [List.getElem?_append_right (by simpa using hi)] at e
        rw [List.getElem?_replicate] at e
        split at e <;> cases e
    have FR1 : FR C (F s.heap.objs.size) (vs.map some ++ List.replicate ((F s.heap.objs.size).names.length - vs.length) none) α h' := by
      refine ⟨fun b hb => R.absent (get_above (hF.2.2 b hb)), ⟨_, ns, fun i x v e1 e2 => ?_⟩, fun i x c' e1 => ?_⟩
      · obtain ⟨p, u, q1, q2, q3⟩ := at0 i v e2
        obtain ⟨c2, q4⟩ := D.slots s.heap.objs.size i p q1
        rw [e1] at q4; cases q4
        have q := hF.2.1.loc _ (List.mem_of_getElem? e1)
        have q5 : (F s.heap.objs.size).env.kindOf x = some .local := q
        exact ⟨u, bindL_at hnd q2 q5, q3⟩
      · have q := hF.2.1.loc _ (List.mem_of_getElem? e1)
        obtain ⟨_, q2⟩ := q
        have ic := cells x c' q2
        refine ⟨_, ic, fun v e2 => ?_⟩
        obtain ⟨p, u, q1, q3, q4⟩ := at0 i v e2
        obtain ⟨c2, q5⟩ := D.slots s.heap.objs.size i p q1
        rw [e1] at q5; cases q5
        have q6 := D.cellKind _ _ _ (List.mem_of_getElem? e1)
        exact ⟨u, bindC_at hnd q3 (by rw [q6]; simp), q4⟩
    have ev : (F s.heap.objs.size).env = callEnvC (fdOf C.w f) s.heap.objs.size f := hF.1
    rw [← ev]
    refine h s.heap.objs.size (A.deeper _) α { s with heap := h', toks := tk } _ _ (hA.deeper hk _) ⟨HR1, FR1, hb, hF.2.1⟩ fun fl loc' hp' α' s' x p n2 R2 r2 => ?_
    obtain ⟨v, rfl, p⟩ := p
    obtain ⟨y, rfl, ry⟩ := r2
    exact hQ v hp' α' s' y p (n1.fresh n2 fun b hb => get_above (hF.2.2 b hb)) R2.hr ry
end
end Mine
end

section
open PySem PySem.W PyProof.Rows
namespace Mine
noncomputable def TmpObj (o : Obj) : Prop := (∃ fs, o.data = .fields fs) ∧ (o.cls = .type "list_iterator" ∨ o.cls = .type "range_iterator" ∨ o.cls = .type "str_ascii_iterator" ∨ o.cls = .type "str_iterator")
theorem TmpObj.notImm {o : Obj} (t : TmpObj o) : ¬ ImmObj o := by
  obtain ⟨⟨fs, hd⟩, hc⟩ := t
  rintro (⟨h1, _⟩ | ⟨h1, _⟩)
  · rw [h1] at hc; simp at hc
  · rcases h1 with h1 | h1 | h1 | h1 | h1 <;> rw [h1] at hc <;> simp at hc
theorem TmpObj.notPlace {o : Obj} (t : TmpObj o) : ¬ ((∃ es n, o.data = .dict es n) ∨ ∃ u, o.data = .cell u) := by
  obtain ⟨⟨fs, hd⟩, hc⟩ := t
  rintro (⟨es, n, h⟩ | ⟨u, h⟩) <;> rw [hd] at h <;> cases h

noncomputable def But (it : Addr) (h h' : Heap) : Prop := ∀ b o, b ≠ it → h.get? b = some o → h'.get? b = some o

section
variable {C : Cx} {k : Nat} {F : FrD} {loc : List (Option V)} {hp : List Cell}

theorem HR.notTmp {α : List Addr} {h : Heap} (R : HR C hp α h) {it : Addr} {o : Obj} (e : h.get? it = some o) (t : TmpObj o) : it ∉ α := fun ha => by
  obtain ⟨i, hi, rfl⟩ := List.getElem_of_mem ha
  have h1 : α[i]? = some α[i] := List.getElem?_eq_getElem hi
  obtain ⟨c, hc⟩ : ∃ c, hp[i]? = some c := ⟨hp[i]'(R.len ▸ hi), List.getElem?_eq_getElem _⟩
  have := R.cell i _ c h1 hc
  obtain ⟨⟨fs, hd⟩, _⟩ := t
  cases c with
  | some vs => obtain ⟨xs, n, e', _⟩ := this; rw [e] at e'; cases e'; cases hd
  | none => have e' : h.get? _ = some _ := this; rw [e] at e'; cases e'; cases hd
theorem kp_but {it : Addr} {h h' : Heap} {o : Obj} (b : But it h h') (e : h.get? it = some o) (t : TmpObj o) : Kp h h' := fun a o' e' im => b a o' (fun z => by subst z; rw [e] at e'; cases e'; exact t.notImm im) e'
theorem HR.but {α : List Addr} {h h' : Heap} (R : HR C hp α h) {it : Addr} {o : Obj} (b : But it h h') (e : h.get? it = some o) (t : TmpObj o) (hn : C.h₀.get? it = none) : HR C hp α h' := by
  refine ⟨R.base.step fun a o' e' q => b a o' (fun z => ?_) e', R.len, R.nd, R.new, fun i a c e1 e2 => ?_⟩
  · subst z
    rcases q with q | q
    · rw [hn] at q; cases q
    · rw [e] at e'; cases e'; exact t.notImm q
  · have := (R.cell i a c e1 e2).step (β := []) (kp_but b e t) fun o' e' => b a o' (fun z => R.notTmp (z ▸ e) t (List.mem_of_getElem? e1)) e'
    rwa [List.append_nil] at this
theorem FR.but {α : List Addr} {h h' : Heap} (R : FR C F loc α h) {it : Addr} {o : Obj} (b : But it h h') (e : h.get? it = some o) (t : TmpObj o) : FR C F loc α h' := by
  have kp := kp_but b e t
  have pk : ∀ a, Place F a → ∀ o, h.get? a = some o → h'.get? a = some o := fun a ha o' e' => b a o' (fun z => by
    obtain ⟨o2, e2, q⟩ := R.place ha
    subst z
    rw [e] at e2; cases e2
    exact t.notPlace q) e'
  refine ⟨R.new, ?_, fun i y c e => ?_⟩
  · obtain ⟨m, n, q⟩ := R.ns
    refine ⟨m, ?_, fun i y v e1 e2 => ?_⟩
    · obtain ⟨o, es, ep, e, r⟩ := n
      exact ⟨o, es, ep, pk _ (.inl rfl) o e, r⟩
    · obtain ⟨u, e, r⟩ := q i y v e1 e2
      have := r.kp (β := []) kp
      rw [List.append_nil] at this
      exact ⟨u, e, this⟩
  · obtain ⟨u, ⟨o, e1, e2⟩, r⟩ := R.cells i y c e
    refine ⟨u, ⟨o, pk c (.inr ⟨y, List.mem_of_getElem? e⟩) o e1, e2⟩, fun v e2 => ?_⟩
    obtain ⟨z, e3, r⟩ := r v e2
    have := r.kp (β := []) kp
    rw [List.append_nil] at this
    exact ⟨z, e3, this⟩
theorem Nx.but {own α α' : List Addr} {s s1 : Shared} (x : Nx C own α s α' s1) {it : Addr} {h' : Heap} (tk : Nat) (b : But it s1.heap h') (e : s.heap.get? it = none) : Nx C own α s α' { s1 with heap := h', toks := tk } := by
  have ne : ∀ a o, s.heap.get? a = some o → a ≠ it := fun a o q z => by subst z; rw [e] at q; cases q
  exact ⟨x.ext, fun a o q h1 h2 h3 h4 => b a o (ne a o q) (x.keep a o q h1 h2 h3 h4), fun a o q => let ⟨o', e'⟩ := x.there a o q; ⟨o', b a o' (ne a o q) e'⟩, x.os, x.gens, x.bare⟩
theorem Rel.but {α : List Addr} {s : Shared} (R : Rel C F loc hp α s) {it : Addr} {o : Obj} {h' : Heap} (tk : Nat) (b : But it s.heap h') (e : s.heap.get? it = some o) (t : TmpObj o) (hn : C.h₀.get? it = none) : Rel C F loc hp α { s with heap := h', toks := tk } :=
  ⟨R.hr.but b e t hn, R.fr.but b e t, R.bare, R.ok⟩

/-- an iterator over values -/
structure IterOk (C : Cx) (it : Addr) (items : List V) (I : Nat → Heap → Prop) (Sa : List Addr → Prop) (Sc : List Cell → Prop) : Prop where
  tmp : ∀ i h, I i h → ∃ o, h.get? it = some o ∧ TmpObj o
  frame : ∀ i h h', I i h → (∀ o, h.get? it = some o → h'.get? it = some o) → I i h'
  saExt : ∀ α β, Sa α → Sa (α ++ β)
  next : ∀ (A : Around) (α : List Addr) (hp : List Cell) (s : Shared) (Q : Option Value → Shared → Prop) (E : Value → Shared → Prop) (i : Nat), A.handled = none → HR C hp α s.heap → Sa α → Sc hp → I i s.heap →
    (∀ v u h' tk, items[i]? = some v → VR α h' v u → I (i + 1) h' → But it s.heap h' → Q (some u) { s with heap := h', toks := tk }) →
    (∀ h' tk, items[i]? = none → But it s.heap h' → Q none { s with heap := h', toks := tk }) → wpAny C.M A (pyNext (.ref it)) Q E s
  again : ∀ (A : Around) (s : Shared) (Q : Value → Shared → Prop) (E : Value → Shared → Prop) (i : Nat), I i s.heap → Q (.ref it) s → wpAny C.M A (pyIter (.ref it)) Q E s

/-- a value gives an iterator over items -/
noncomputable def ASrc (C : Cx) (k : Nat) (v : V) (hp : List Cell) (items : List V) (Sc : List Cell → Prop) : Prop :=
  ∀ (A : Around) (α : List Addr) (s : Shared) (Q : Value → Shared → Prop) (E : Value → Shared → Prop) (x : Value), Ok k A → HR C hp α s.heap → VR α s.heap v x →
    (∀ it s' I Sa, (∀ b o, s.heap.get? b = some o → s'.heap.get? b = some o) → s.heap.get? it = none → s'.os = s.os → (s'.gens, s'.drawn) = (s.gens, s.drawn) → I 0 s'.heap → Sa α → IterOk C it items I Sa Sc → Q (.ref it) s') → wpAny C.M A (pyIter x) Q E s

theorem src_list {n : Nat} {vs : List V} (e : hp[n]? = some (some vs)) : ASrc C k (.lst n) hp vs (fun h => h[n]? = some (some vs)) := fun A α s Q E x hA R r hQ => by
  obtain ⟨a, xs, m, rfl, ea, e1, e2⟩ := R.lstAt e r
  have hl : s.heap.IsList a xs := ⟨_, e1, rfl, _, rfl⟩
  refine wpAny_pyIter_list hl (hQ s.heap.objs.size _ (fun i h => h.IsListIter s.heap.objs.size a i) (fun α => α[n]? = some a) (fun b o q => Heap.get?_push_of_some _ q) (get_size _) rfl rfl ⟨_, Heap.get?_push_size _ rfl, rfl, rfl⟩ ea ⟨?_, ?_, ?_, ?_, ?_⟩)
  · rintro i h ⟨o, q, hc, hd⟩
    exact ⟨o, q, ⟨_, hd⟩, .inl hc⟩
  · rintro i h h' ⟨o, q, r⟩ hk
    exact ⟨o, hk o q, r⟩
  · intro α β h
    rw [List.getElem?_append_left (List.getElem?_eq_some_iff.mp h).1]; exact h
  · intro A' α' hp' s' Q' E' i hh R' sa sc st h1 h2
    obtain ⟨xs', m', q1, q2⟩ := R'.cell n a _ sa sc
    have hl' : s'.heap.IsList a xs' := ⟨_, q1, rfl, _, rfl⟩
    obtain ⟨o, q, hc, hd⟩ := id st
    have tm : TmpObj o := ⟨⟨_, hd⟩, .inl hc⟩
    cases q3 : vs[i]? with
    | some v =>
      obtain ⟨u, eu, ru⟩ := F2.get q2 q3
      refine wpAny_pyNext_list_item st hl' (x := u) (by simpa using eu) fun h' st' hs => ?_
      have bt : But s.heap.objs.size s'.heap h' := fun b o hb e => hs.extBut b o hb e
      have := ru.kp (β := []) (kp_but bt q tm)
      rw [List.append_nil] at this
      exact h1 v u h' s'.toks q3 this st' bt
    | none =>
      have hn : xs'[i]? = none := by
        have := F2.length q2
        rw [List.getElem?_eq_none_iff] at q3
        simp at this
        simp; omega
      exact wpAny_pyNext_list_end hh st hl' hn fun h' eb => h2 h' s'.toks q3 fun b o hb e => eb b o hb e
  · intro A' s' Q' E' i st h
    exact wpAny_pyIter_listiter st h

end
end Mine
end

section
open PySem PySem.W PyProof.Rows
namespace Mine
theorem letOwned {M : Model} {A : Around} {s : Shared} {Q : Unit → Shared → Prop} {E : Value → Shared → Prop} {tgt : Expr} {r : Addr} {v : Value} {o : Obj} (e : s.heap.get? r = some o) (t : TmpObj o) (h : Q () s) : wpAny M A (letOwnedTupleGo tgt (.ref r) v) Q E s := by
  obtain ⟨⟨fs, hd⟩, hc⟩ := t
  have main : ∀ a : Addr, wpAny M A (do
      let o ← load r
      match o.cls, o.data with
      | .type n, .fields vs =>
        if ["enumerate", "zip", "dict_itemiterator", "dict_reverseitemiterator", "odict_iterator", "itertools.zip_longest", "itertools.pairwise"].contains n && vs[0]? == some (rawInt a) then
          rule "for.unpacks-the-owned-tuple"
          updateField r 0 .none
      | _, _ => pure () : Sem Unit) Q E s := fun a => by
    refine wpAny_bind (wpAny_load e ?_)
    rcases hc with hc | hc | hc | hc <;>
    · rw [hc, hd]
      exact wpAny_pure h
  unfold letOwnedTupleGo
  cases tgt <;> first
    | exact wpAny_pure h
    | (cases v <;> first
        | exact wpAny_pure h
        | exact main _)

section
variable {C : Cx} {k : Nat} {F : FrD} {loc : List (Option V)} {hp : List Cell}

/-- a target takes a value -/
noncomputable def AAsg (C : Cx) (k : Nat) (F : FrD) (loc : List (Option V)) (hp : List Cell) (tgt : Expr) (v : V) (loc' : List (Option V)) : Prop :=
  ∀ (A : Around) (α : List Addr) (s : Shared) (Q : Unit → Shared → Prop) (E : Value → Shared → Prop) (u : Value), Ok k A → Rel C F loc hp α s → VR α s.heap v u →
    (∀ s', Nx C F.own α s α s' → Rel C F loc' hp α s' → Q () s') → wpAny C.M A (assign tgt F.env u) Q E s

theorem asg_name (i : Nat) {x : Str} {c : Option Addr} {p : Pos} {v : V} (hi : F.names[i]? = some (x, c)) (hown : ∀ a, c = some a → a ∈ F.own ∧ F.env.kindOf x = some .cell := by exact noCell) :
    AAsg C k F loc hp (.Name x p) v (loc.set i (some v)) := fun A α s Q E u hA R r hQ =>
  wpAny_assign_Name (st_at R A E hi hown r hQ)

theorem asg_pair (i j : Nat) {x y : Str} {c d : Option Addr} {p q pos : Pos} {n : Nat} {a b : Str} (hi : F.names[i]? = some (x, c)) (hj : F.names[j]? = some (y, d))
    (hown : ∀ a, c = some a → a ∈ F.own ∧ F.env.kindOf x = some .cell := by exact noCell) (hown' : ∀ a, d = some a → a ∈ F.own ∧ F.env.kindOf y = some .cell := by exact noCell) :
    AAsg C k F loc hp (.Tuple [.Name x p, .Name y q] n pos) (.pair a b) ((loc.set i (some (.str a))).set j (some (.str b))) := fun A α s Q E u hA R r hQ => by
  obtain ⟨z, t, t', rfl, o, m, e1, e2, e3⟩ := r
  refine wpAny_assign_Tuple hA.1 ⟨o, e1, e2, m, e3⟩ rfl rfl fun h' hx => ?_
  have keep : ∀ b o, s.heap.get? b = some o → h'.get? b = some o := fun b o e => hx b o (Nat.ne_of_lt (Heap.lt_size e)) e
  have n1 : Nx C F.own α s α { s with heap := h' } := .of keep rfl rfl
  have R1 : Rel C F loc hp α { s with heap := h' } := R.ext keep rfl
  show wpAny _ _ (do holding [Value.str b t'] (assign (.Name x p) F.env (.str a t)); do holding [] (assign (.Name y q) F.env (.str b t')); pure ()) _ _ _
  refine wpAny_bind (wpAny_holding (wpAny_assign_Name (st_at (v := .str a) R1 A E hi hown ⟨t, rfl⟩ fun s2 n2 R2 => ?_)))
  refine wpAny_bind (wpAny_holding (wpAny_assign_Name (st_at (v := .str b) R2 A E hj hown' ⟨t', rfl⟩ fun s3 n3 R3 => wpAny_pure ?_)))
  exact hQ s3 ((n1.trans n2).trans n3) R3

/-- what a turn of a loop leaves -/
noncomputable def Turn (Inv : List (Option V) → List Cell → Prop) (Φ : Fl → List (Option V) → List Cell → Prop) : Fl → List (Option V) → List Cell → Prop
  | .next, l, g => Inv l g
  | .brk, l, g => Φ .next l g
  | .ret w, l, g => Φ (.ret w) l g

theorem ex_for {items : List V} {Sc : List Cell → Prop} {tgt iter : Expr} {body : List Stmt} {pos : Pos} {Φ : Fl → List (Option V) → List Cell → Prop} (Inv : Nat → List (Option V) → List Cell → Prop)
    (h : AEv C k F loc hp iter fun v hp1 => ASrc C k v hp1 items Sc ∧ Inv 0 loc hp1) (hsc : ∀ i l g, Inv i l g → Sc g)
    (turn : ∀ i v l g, items[i]? = some v → Inv i l g → ∃ l', AAsg C k F l g tgt v l' ∧ AExs C k F l' g body (Turn (Inv (i + 1)) Φ))
    (done : ∀ l g, Inv items.length l g → Φ .next l g)
    (hs : ∀ x, foldedSetIterable iter F.env x = pure x := by intro _; rfl) :
    AEx C k F loc hp (.For tgt iter body [] pos) Φ := fun A α s Q E hA R hQ => by
  refine wpAny_For (h A α s _ E hA R fun v hp1 α1 s1 x p n1 R1 r => ?_) hs
  obtain ⟨src, inv0⟩ := p
  refine src A α1 s1 _ E x hA R1.hr r fun it s2 I Sa keep fresh hos hg st sa W => ?_
  have n2 : Nx C F.own α1 s1 α1 s2 := .of keep hos hg
  have R2 : Rel C F loc hp1 α1 s2 := R1.ext keep hg
  have hn0 : C.h₀.get? it = none := R1.hr.absent fresh
  have fresh0 : s.heap.get? it = none := by
    cases q : s.heap.get? it with
    | none => rfl
    | some o => obtain ⟨o', e'⟩ := n1.there it o q; rw [fresh] at e'; cases e'
  refine codeAny_forLoop_any (fun m s' => ∃ i α' l g, m = items.length + 1 - i ∧ i ≤ items.length ∧ Nx C F.own α s α' s' ∧ Rel C F l g α' s' ∧ Inv i l g ∧ I i s'.heap ∧ Sa α') ?_ (items.length + 1 - 0)
    ⟨0, α1, loc, hp1, rfl, Nat.zero_le _, (n1.own (fun _ h => nomatch h)).trans n2, R2, inv0, st, sa⟩
  rintro m s' ⟨i, α', l, g, rfl, hi, n, R', inv, st', sa'⟩
  obtain ⟨o, eo, tm⟩ := W.tmp _ _ st'
  refine W.next A α' g s' _ _ i hA.1 R'.hr sa' (hsc _ _ _ inv) st' (fun v u h' tk hv ru st2 bt => ?_) (fun h' tk hv bt => ?_)
  · have hlt : i < items.length := (List.getElem?_eq_some_iff.mp hv).1
    obtain ⟨l', asg, body⟩ := turn i v l g hv inv
    have R3 : Rel C F l g α' { s' with heap := h', toks := tk } := R'.but tk bt eo tm hn0
    have n3 := n.but tk bt fresh0
    obtain ⟨o2, eo2, tm2⟩ := W.tmp _ _ st2
    refine letOwned eo2 tm2 ?_
    refine asg A α' _ _ _ u hA R3 ru fun s4 n4 R4 => ?_
    refine body A α' s4 _ _ hA R4 fun fl l5 g5 α5 s5 x5 p5 n5 R5 r5 => ?_
    have n35 := n4.trans n5
    have nit : it ∉ F.own := fun z => by
      rcases R'.ok.ownIs it z with z | z
      · obtain ⟨o3, e3, q⟩ := R3.fr.place (b := it) (.inl z)
        have : o2 = o3 := Option.some.inj (eo2.symm.trans e3)
        subst this
        exact tm2.notPlace q
      · obtain ⟨p, hp, hc⟩ := List.mem_filterMap.mp z
        obtain ⟨o3, e3, q⟩ := R3.fr.place (b := it) (.inr ⟨p.1, by rw [← hc]; exact hp⟩)
        have : o2 = o3 := Option.some.inj (eo2.symm.trans e3)
        subst this
        exact tm2.notPlace q
    have nit2 : it ∉ α' := R3.hr.notTmp eo2 tm2
    have n57 : it ≠ 57 := fun z => by
      obtain ⟨ps, e', _⟩ := R3.hr.base.t57
      have : o2 = tabObj ps := Option.some.inj (eo2.symm.trans (z ▸ e'))
      rw [this] at tm2
      obtain ⟨_, c⟩ := tm2
      rcases c with c | c | c | c <;> cases c
    have n76 : it ≠ 76 := fun z => by
      obtain ⟨ps, e', _⟩ := R3.hr.base.t76
      have : o2 = tabObj ps := Option.some.inj (eo2.symm.trans (z ▸ e'))
      rw [this] at tm2
      obtain ⟨_, c⟩ := tm2
      rcases c with c | c | c | c <;> cases c
    have st5 : I (i + 1) s5.heap := W.frame _ _ _ st2 fun o e => n35.keep it o e nit nit2 n57 n76
    have sa5 : Sa α5 := by
      obtain ⟨β, e, _⟩ := n35.ext
      rw [e]; exact W.saExt _ _ sa'
    have nn := n3.trans n35
    cases fl with
    | next =>
      have e : x5 = .next := r5
      subst e
      exact ⟨items.length + 1 - (i + 1), by omega, i + 1, α5, l5, g5, rfl, hlt, nn, R5, p5, st5, sa5⟩
    | brk =>
      have e : x5 = .brk := r5
      subst e
      exact hQ .next l5 g5 α5 s5 _ p5 nn R5 rfl
    | ret w =>
      obtain ⟨y, rfl, ry⟩ := r5
      exact hQ (.ret w) l5 g5 α5 s5 _ p5 nn R5 ⟨y, rfl, ry⟩
  · have hlen : i = items.length := by
      rw [List.getElem?_eq_none_iff] at hv; omega
    subst hlen
    refine wpAny_execs_nil (hQ .next l g α' _ _ (done l g inv) (n.but tk bt fresh0) (R'.but tk bt eo tm hn0) rfl)
end
end Mine
end

section
open PySem PySem.W PyProof.Rows
namespace Mine
section
variable {C : Cx} {k : Nat} {F : FrD} {loc : List (Option V)} {hp : List Cell}

theorem ex_while {test : Expr} {body : List Stmt} {pos : Pos} {Φ : Fl → List (Option V) → List Cell → Prop} (Inv : Nat → List (Option V) → List Cell → Prop) (m : Nat) (h0 : Inv m loc hp)
    (turn : ∀ m l g, Inv m l g → ATs C k F l g test fun b g' => (b = true → AExs C k F l g' body (Turn (fun l2 g2 => ∃ m', m' < m ∧ Inv m' l2 g2) Φ)) ∧ (b = false → Φ .next l g')) :
    AEx C k F loc hp (.While test body [] pos) Φ := fun A α s Q E hA R hQ => by
  refine wpAny_While (codeAny_whileLoop (fun m s' => ∃ α' l g, Nx C F.own α s α' s' ∧ Rel C F l g α' s' ∧ Inv m l g) ?_ m ⟨α, loc, hp, .refl .., R, h0⟩)
  rintro m s' ⟨α', l, g, n, R', inv⟩
  refine turn m l g inv A α' s' _ _ hA R' fun b g' α2 s2 p n2 R2 => ?_
  have nn := n.trans (n2.own (own' := F.own) (fun _ h => nomatch h))
  cases b with
  | true =>
    refine p.1 rfl A α2 s2 _ _ hA R2 fun fl l3 g3 α3 s3 x3 p3 n3 R3 r3 => ?_
    cases fl with
    | next =>
      have e : x3 = .next := r3
      subst e
      obtain ⟨m', hm, i⟩ := p3
      exact ⟨m', hm, α3, l3, g3, nn.trans n3, R3, i⟩
    | brk =>
      have e : x3 = .brk := r3
      subst e
      exact hQ .next l3 g3 α3 s3 _ p3 (nn.trans n3) R3 rfl
    | ret w =>
      obtain ⟨y, rfl, ry⟩ := r3
      exact hQ (.ret w) l3 g3 α3 s3 _ p3 (nn.trans n3) R3 ⟨y, rfl, ry⟩
  | false =>
    exact wpAny_execs_nil (hQ .next l g' α2 s2 _ (p.2 rfl) nn R2 rfl)

/-- range(n), n a length -/
theorem call_rng {n : Nat} {Φ : V → List Cell → Prop} (h : Φ (.rng n) hp) : ACall C k hp (.type "range") [.int n] Φ := fun A α s Q E us hA R hb r hQ => by
  cases r with
  | cons r1 r =>
  cases r
  obtain ⟨t, rfl⟩ := r1
  refine call_range_1 ?_
  have n2 : Nx C [] α s (α ++ []) { s with heap := s.heap.push { cls := .type "range", data := .fields #[.int 0 s.toks, .int n t, .int 1 (s.toks + 1)] } } := .push s _ [] (by simp)
  rw [List.append_nil] at n2
  exact hQ _ _ _ _ _ h (n2.trans (toksNx _ _)) (R.ext fun b o e => Heap.get?_push_of_some _ e) ⟨_, _, _, _, rfl, Heap.get?_push_size _ rfl⟩

noncomputable def uptoV (n : Nat) : List V := (List.range n).map fun i => V.int (i : Nat)
theorem uptoV_get {n i : Nat} : (uptoV n)[i]? = if i < n then some (.int i) else none := by
  unfold uptoV
  rw [List.getElem?_map]
  by_cases h : i < n
  · simp [h]
  · simp [h]
theorem src_rng {n : Nat} (hn : n < 2 ^ 32) : ASrc C k (.rng n) hp (uptoV n) (fun _ => True) := fun A α s Q E x hA R r hQ => by
  obtain ⟨a, t, u, w, rfl, e⟩ := r
  have e0 : Builtin.Range.rangeSize 0 n 1 = n := by
    unfold Builtin.Range.rangeSize
    simp
    omega
  refine wpAny_pyIter_range e ?_ (hQ s.heap.objs.size _ (fun i h => i ≤ n ∧ IsRangeIter h s.heap.objs.size i ((n : Int) - i) 1) (fun _ => True) (fun b o q => Heap.get?_push_of_some _ q) (get_size _) rfl rfl ⟨Nat.zero_le _, by rw [e0]; simpa using Heap.get?_push_size _ rfl⟩ trivial ⟨?_, ?_, ?_, ?_, ?_⟩)
  · unfold Builtin.Range.small
    rw [e0]
    simp [Builtin.Range.rangeFitsLong]
    omega
  · rintro i h ⟨_, q⟩
    exact ⟨_, q, ⟨_, rfl⟩, .inr (.inl rfl)⟩
  · rintro i h h' ⟨q0, q⟩ hk
    exact ⟨q0, hk _ q⟩
  · intros; trivial
  · intro A' α' hp' s' Q' E' i hh R' sa sc st h1 h2
    obtain ⟨st0, st⟩ := st
    by_cases hlt : i < n
    · refine wpAny_pyNext_range_item st (by omega) fun h' st' hs => ?_
      have bt : But s.heap.objs.size s'.heap h' := fun b o hb e => hs.extBut b o hb e
      refine h1 (.int i) _ h' _ (by rw [uptoV_get, if_pos hlt]) ⟨_, rfl⟩ ⟨hlt, ?_⟩ bt
      have e1 : (i : Int) + 1 = ((i + 1 : Nat) : Int) := by omega
      have e2 : (n : Int) - i - 1 = (n : Int) - ((i + 1 : Nat) : Int) := by omega
      rw [e1, e2] at st'
      exact st'
    · exact wpAny_pyNext_range_end hh st (by omega) fun h' eb => h2 h' s'.toks (by rw [uptoV_get, if_neg hlt]) fun b o hb e => eb b o hb e
  · rintro A' s' Q' E' i ⟨_, st⟩ h
    exact wpAny_pyIter_rangeiter st h

noncomputable def signsV (x : Str) : List V := x.cps.toList.map fun c => V.str ⟨#[c]⟩
theorem signsV_get {x : Str} {i : Nat} : (signsV x)[i]? = (x.cps[i]?).map fun c => .str ⟨#[c]⟩ := by
  unfold signsV
  rw [List.getElem?_map, Array.getElem?_toList]
theorem src_str {x : Str} (hx : (x.cps.all fun c => decide (c < 128)) = true) : ASrc C k (.str x) hp (signsV x) (fun _ => True) := fun A α s Q E u hA R r hQ => by
  obtain ⟨t, rfl⟩ := r
  have et : strIterType x = "str_ascii_iterator" := by unfold strIterType; rw [if_pos hx]
  refine wpAny_pyIter_strU ?_
  rw [et]
  refine hQ s.heap.objs.size _ (fun i h => h.IsStrIter s.heap.objs.size "str_ascii_iterator" x t i) (fun _ => True) (fun b o q => Heap.get?_push_of_some _ q) (get_size _) rfl rfl ⟨_, Heap.get?_push_size _ rfl, rfl, rfl⟩ trivial ⟨?_, ?_, ?_, ?_, ?_⟩
  · rintro i h ⟨o, q, hc, hd⟩
    exact ⟨o, q, ⟨_, hd⟩, .inr (.inr (.inl hc))⟩
  · rintro i h h' ⟨o, q, r⟩ hk
    exact ⟨o, hk o q, r⟩
  · intros; trivial
  · intro A' α' hp' s' Q' E' i hh R' sa sc st h1 h2
    cases q : x.cps[i]? with
    | some c =>
      refine wpAny_pyNext_ascii_item st q fun h' st' hs => ?_
      exact h1 (.str ⟨#[c]⟩) _ h' _ (by rw [signsV_get, q]; rfl) ⟨_, rfl⟩ st' fun b o hb e => hs.extBut b o hb e
    | none => exact wpAny_pyNext_ascii_end hh st q fun h' eb => h2 h' s'.toks (by rw [signsV_get, q]; rfl) fun b o hb e => eb b o hb e
  · intro A' s' Q' E' i st h
    exact wpAny_pyIter_striter_ascii st h
end
end Mine
end

section
open PySem PySem.W PyProof.Rows
namespace Mine
section
variable {C : Cx} {k : Nat} {F : FrD} {loc : List (Option V)} {hp : List Cell}

theorem nodup_get {A : Type} {l : List A} (h : l.Nodup) {i j : Nat} {a : A} (hi : l[i]? = some a) (hj : l[j]? = some a) : i = j :=
  (List.getElem?_inj (List.getElem?_eq_some_iff.mp hi).1 h).mp (hi.trans hj.symm)

/-- a list of ours gets another content -/
theorem HR.setList {α : List Addr} {h h' : Heap} (R : HR C hp α h) {n : Nat} {a : Addr} {vs : List V} {xs : Array Value} {m : Nat} (ea : α[n]? = some a) (hs : Heap.SameBut a h h') (e : h'.get? a = some (listOf xs m)) (r : VRs α h vs xs.toList) :
    HR C (hp.set n (some vs)) α h' ∧ Kp h h' := by
  have hm : a ∈ α := List.mem_of_getElem? ea
  have kp : Kp h h' := fun b o e' im => (hs.2 b (fun z => R.notImm (z ▸ hm) e' im)).trans e'
  refine ⟨⟨R.base.step fun b o e' q => (hs.2 b (fun z => ?_)).trans e', by simp [R.len], R.nd, R.new, fun i b c e1 e2 => ?_⟩, kp⟩
  · subst z
    rcases q with q | q
    · rw [R.new _ hm] at q; cases q
    · exact R.notImm hm e' q
  · rcases set_get e2 with ⟨rfl, e3⟩ | ⟨ne, e3⟩
    · rw [ea] at e1; cases e1
      subst e3
      have := r.kp (β := []) kp
      rw [List.append_nil] at this
      exact ⟨xs, m, e, this⟩
    · have nb : b ≠ a := fun z => ne (nodup_get R.nd ea (z ▸ e1))
      have := (R.cell i b c e1 e3).step (β := []) kp fun o e' => (hs.2 b nb).trans e'
      rwa [List.append_nil] at this
theorem Nx.setList {own α : List Addr} {s : Shared} {h' : Heap} {a : Addr} {o : Obj} (hm : a ∈ α) (hs : Heap.SameBut a s.heap h') (e : h'.get? a = some o) (tk : Nat) : Nx C own α s α { s with heap := h', toks := tk } :=
  ⟨⟨[], by simp, by simp⟩, fun b o' e' _ h2 _ _ => (hs.2 b (fun z => h2 (z ▸ hm))).trans e', fun b o' e' => by
    by_cases hb : b = a
    · exact ⟨o, hb ▸ e⟩
    · exact ⟨o', (hs.2 b hb).trans e'⟩, rfl, fun _ _ e => e, fun h => h⟩

theorem call_append {n : Nat} {vs : List V} {v : V} {Φ : V → List Cell → Prop} (e : hp[n]? = some (some vs)) (hz : vs.length ≤ sizeLine) (h : Φ .none (hp.set n (some (vs ++ [v])))) : ACall C k hp (.builtin "list.append") [.lst n, v] Φ := fun A α s Q E us hA R hb r hQ => by
  cases r with
  | cons r1 r =>
  cases r with
  | cons r2 r =>
  cases r
  obtain ⟨a, xs, m, rfl, ea, e1, e2⟩ := R.lstAt e r1
  rename_i u
  refine append_at e1 (fun h' hs e' => ?_) (by have := F2.length e2; simp at this; omega)
  obtain ⟨R2, kp⟩ := R.setList (vs := vs ++ [v]) ea hs e' (by simpa using F2.append e2 (.cons r2 .nil))
  exact hQ _ _ _ _ _ h (.setList (List.mem_of_getElem? ea) hs e' _) R2 rfl

theorem call_extend {n j : Nat} {vs ws : List V} {Φ : V → List Cell → Prop} (e : hp[n]? = some (some vs)) (e' : hp[j]? = some (some ws)) (hz : vs.length + ws.length ≤ sizeLine) (h : Φ .none (hp.set n (some (vs ++ ws)))) : ACall C k hp (.builtin "list.extend") [.lst n, .lst j] Φ := fun A α s Q E us hA R hb r hQ => by
  cases r with
  | cons r1 r =>
  cases r with
  | cons r2 r =>
  cases r
  obtain ⟨a, xs, m, rfl, ea, e1, e2⟩ := R.lstAt e r1
  obtain ⟨b, ys, m', rfl, eb, e3, e4⟩ := R.lstAt e' r2
  have hsz' : xs.size + ys.size ≤ sizeLine := by
    have h1 := F2.length e2
    have h2 := F2.length e4
    simp at h1 h2; omega
  refine call_meets PySem.F.slot_list_extend ⟨_, e1, rfl⟩ PySem.F.entry_list_extend (PySem.F.args_list_extend_2 _ _) (AutoSeq1.list_extend_list_list_0 a xs m b ys m' (extend_door hsz') (Nat.le_trans (Nat.le_add_right _ _) hsz')) ⟨e1, e3, ?_⟩
  have hs : Heap.SameBut a s.heap (s.heap.update a (Obj.mapSeq fun x => x ++ ys)) := Heap.SameBut.update ..
  have e5 : (s.heap.update a (Obj.mapSeq fun x => x ++ ys)).get? a = some (listOf (xs ++ ys) (if (xs ++ ys).size == xs.size then m else m + 1)) := by
    rw [Heap.get?_update_self _ e1 (by rw [mapSeq_app]; rfl), mapSeq_app]
  obtain ⟨R2, kp⟩ := R.setList (vs := vs ++ ws) ea hs e5 (by simpa using F2.append e2 e4)
  exact hQ _ _ _ _ _ h (.setList (List.mem_of_getElem? ea) hs e5 _) R2 rfl

/-- what stood stands -/
noncomputable def Le (g g' : List Cell) : Prop := ∀ (n : Nat) c, g[n]? = some c → g'[n]? = some c
theorem Le.refl (g : List Cell) : Le g g := fun _ _ h => h
theorem Le.trans {a b c : List Cell} (x : Le a b) (y : Le b c) : Le a c := fun n e h => y n e (x n e h)
theorem Le.app (g e : List Cell) : Le g (g ++ e) := fun n c h => by
  rw [List.getElem?_append_left (List.getElem?_eq_some_iff.mp h).1]; exact h
theorem Le.set {g g' : List Cell} (x : Le g g') {n : Nat} {c : Cell} (hn : g.length ≤ n) : Le g (g'.set n c) := fun m d h => by
  have := (List.getElem?_eq_some_iff.mp h).1
  rw [List.getElem?_set_ne (by omega)]
  exact x m d h
theorem Le.len {g g' : List Cell} (x : Le g g') : g.length ≤ g'.length := by
  rcases Nat.lt_or_ge g'.length g.length with h | h
  · have := x g'.length g[g'.length] (List.getElem?_eq_getElem h)
    have := (List.getElem?_eq_some_iff.mp this).1
    omega
  · exact h
theorem at_end (g : List Cell) (c : Cell) : (g ++ [c])[g.length]? = some c := by simp
theorem at_set {g : List Cell} {n : Nat} {c d : Cell} (h : g[n]? = some c) : (g.set n d)[n]? = some d := by
  rw [List.getElem?_set_self (List.getElem?_eq_some_iff.mp h).1]
theorem at_set_ne {g : List Cell} {n m : Nat} {c d : Cell} (hne : n ≠ m) (h : g[m]? = some c) : (g.set n d)[m]? = some c := by
  rw [List.getElem?_set_ne hne]; exact h
end
end Mine
end

section
open PySem PySem.W PyProof.Rows
namespace Mine
noncomputable def testsT (ifs : List Expr) (env : Env) : Sem Bool := forIn ifs true fun c r => if r = true then do let ok ← isTrue c env (eval c env); pure (ForInStep.yield ok) else pure (ForInStep.yield r)

section
variable {C : Cx} {k : Nat} {F : FrD} {loc : List (Option V)} {hp : List Cell}

noncomputable def ATests (C : Cx) (k : Nat) (F : FrD) (loc : List (Option V)) (hp : List Cell) (ifs : List Expr) (Φ : Bool → List Cell → Prop) : Prop :=
  ∀ (A : Around) (α : List Addr) (s : Shared) (Q : Bool → Shared → Prop) (E : Value → Shared → Prop), Ok k A → Rel C F loc hp α s →
    (∀ b hp' α' s', Φ b hp' → Nx C [] α s α' s' → Rel C F loc hp' α' s' → Q b s') → wpAny C.M A (testsT ifs F.env) Q E s
theorem tests_nil {Φ : Bool → List Cell → Prop} (h : Φ true hp) : ATests C k F loc hp [] Φ := fun A α s Q E hA R hQ => wpAny_tests_nil (hQ _ _ _ _ h (.refl ..) R)
theorem tests_one {c : Expr} {Φ : Bool → List Cell → Prop} (h : ATs C k F loc hp c Φ) : ATests C k F loc hp [c] Φ := fun A α s Q E hA R hQ => wpAny_tests_one (h A α s Q E hA R hQ)

theorem compLoop_any {prog : Program} {w : World} {A : Around} {R : Result → Shared → Prop} {s : Shared} {elt target iter : Expr} {ifs : List Expr} {scope : Scope} {pos : Pos} {it acc : Value} {env : Env} (I : Nat → Shared → Prop)
    (turn : ∀ n s, I n s → wpAny (model prog w) A (pyNext it) (fun r s₁ => match r with
      | none => R (.ok .next) s₁
      | some v => wpAny (model prog w) A (letOwnedTupleGo target it v) (fun _ s₀ => wpAny (model prog w) A (assign target env v) (fun _ s₂ =>
          wpAny (model prog w) A (testsT ifs env) (fun ok s₃ =>
            if ok = true then wpAny (model prog w) A (eval elt env) (fun x s₄ =>
              wpAny (model prog w) A (call (.builtin "list.append") [acc, x]) (fun _ s₅ => ∃ m, m < n ∧ I m s₅) (notedBy (model prog w) A env fun e s' => R (.error e) s') s₄) (notedBy (model prog w) A env fun e s' => R (.error e) s') s₃
            else ∃ m, m < n ∧ I m s₃) (notedBy (model prog w) A env fun e s' => R (.error e) s') s₂) (notedBy (model prog w) A env fun e s' => R (.error e) s') s₀) (notedBy (model prog w) A env fun e s' => R (.error e) s') s₁) (notedBy (model prog w) A env fun e s' => R (.error e) s') s)
    (n : Nat) (h : I n s) :
    codeAny (model prog w) A (.compLoop (.ListComp elt [⟨target, iter, ifs, 0⟩] scope pos) 0 it acc env) R s := by
  refine codeAny_loop rfl I (fun n s hI => ?_) n h
  show wpAny _ A ((compTurn (.ListComp elt [⟨target, iter, ifs, 0⟩] scope pos) 0 it acc env).onRaise (fun x => do noteFrame x env; theTreesLotGoes x)) _ _ s
  refine wpAny_noted ?_
  rw [compTurn_list]
  refine wpAny_bind (wpAny_standAt (wpAny_bind (wpAny_mono (turn n s hI) (fun r s₁ h₁ => ?_) fun _ _ h' => h')))
  cases r with
  | none => exact wpAny_pure h₁
  | some v =>
    refine wpAny_bind (wpAny_mono h₁ (fun _ s₀ h₀ => ?_) fun _ _ h' => h')
    refine wpAny_bind (wpAny_mono h₀ (fun _ s₂ h₂ => wpAny_bind (wpAny_mono h₂ (fun ok s₃ h₃ => ?_) fun _ _ h' => h')) fun _ _ h' => h')
    cases ok with
    | false => exact wpAny_pure ⟨rfl, h₃⟩
    | true =>
      simp only [if_true] at h₃ ⊢
      exact wpAny_bind (wpAny_bind (wpAny_mono h₃ (fun x s₄ h₄ => wpAny_bind (wpAny_mono h₄ (fun _ s₅ h₅ => wpAny_pure (wpAny_pure ⟨rfl, h₅⟩)) fun _ _ h' => h')) fun _ _ h' => h'))

theorem Nx.freshT {own α α1 α' : List Addr} {s s₁ s' : Shared} (x : Nx C [] α s α1 s₁) (y : Nx C own α1 s₁ α' s') (h : ∀ b ∈ own, s.heap.get? b = none) : Nx C [] α s α' s' := by
  obtain ⟨β, rfl, hβ⟩ := x.ext
  obtain ⟨γ, rfl, hγ⟩ := y.ext
  refine ⟨⟨β ++ γ, by simp, fun b hb => ?_⟩, fun b o e _ h2 h3 h4 => y.keep b o (x.keep b o e (fun z => nomatch z) h2 h3 h4) (fun z => by rw [h b z] at e; cases e) (fun z => ?_) h3 h4, fun b o e => let ⟨o', e'⟩ := x.there b o e; y.there b o' e', y.os.trans x.os, fun i g e => y.gens i g (x.gens i g e), fun z => y.bare (x.bare z)⟩
  · rcases List.mem_append.mp hb with hb | hb
    · exact hβ b hb
    · cases q : s.heap.get? b with
      | none => rfl
      | some o =>
        obtain ⟨o', e'⟩ := x.there b o q
        rw [hγ b hb] at e'; cases e'
  · rcases List.mem_append.mp z with z | z
    · exact h2 z
    · rw [hβ b z] at e; cases e

/-- what is said once of a comprehension -/
structure CompOk (F : FrD) (scope : Scope) (cl : List (Str × Addr)) (FC : Addr → FrD) : Prop where
  clos : closureFor scope F.env = pure cl
  kind : scope.kind = .function
  names : ∀ y ∈ scope.names, y.2 = .local → scope.names.lookup y.1 = some .local
  nocell : ∀ y ∈ scope.names, y.2 ≠ .cell
  env : ∀ a, (FC a).env = compEnvC scope cl a F.env
  ok : ∀ a, (∀ x c, (x, some c) ∈ F.names → c ≠ a) → FOk (FC a)
  own : ∀ a, (FC a).own = [a]
  cells : ∀ a (i : Nat) x c, (FC a).names[i]? = some (x, some c) → ∃ j : Nat, F.names[j]? = some (x, some c)

noncomputable def Lc0 (F : FrD) (loc : List (Option V)) (FC : Addr → FrD) (lc : List (Option V)) : Prop := ∀ a, (∀ (i : Nat) x, (FC a).names[i]? = some (x, none) → ∀ v, lc[i]? ≠ some (some v)) ∧
  ∀ (i : Nat) x c v, (FC a).names[i]? = some (x, some c) → lc[i]? = some (some v) → ∀ j : Nat, F.names[j]? = some (x, some c) → loc[j]? = some (some v)

theorem comp_core {elt tgt iter : Expr} {ifs : List Expr} {scope : Scope} {pos : Pos} {cl : List (Str × Addr)} {FC : Addr → FrD} (H : CompOk F scope cl FC) {items : List V} {Sc : List Cell → Prop} {I : Nat → Heap → Prop} {Sa : List Addr → Prop} {it : Addr} (W : IterOk C it items I Sa Sc)
    (p : V → Bool) (f : V → V) (LI : List (Option V) → Prop) {lc0 : List (Option V)} (hl0 : LI lc0) (hlc : Lc0 F loc FC lc0) (hsc : ∀ g, Le hp g → Sc g) (hsz : items.length ≤ sizeLine)
    (turn : ∀ a v lc g, v ∈ items → LI lc → Le hp g → ∃ lc', LI lc' ∧ AAsg C k (FC a) lc g tgt v lc' ∧ ATests C k (FC a) lc' g ifs fun b g' => Le g g' ∧ b = p v ∧ (b = true → AEv C k (FC a) lc' g' elt fun w g'' => Le g' g'' ∧ w = f v))
    {A : Around} {α : List Addr} {s : Shared} {E : Value → Shared → Prop} (hA : Ok k A) (R : Rel C F loc hp α s) (st : I 0 s.heap) (sa : Sa α) {RR : Value → Addr → Result → Shared → Prop}
    {s0 : Shared} {α0 : List Addr} (n0 : Nx C [] α0 s0 α s) (fresh : s0.heap.get? it = none) (hn0 : C.h₀.get? it = none)
    (hR : ∀ a D α' g s' lc', s0.heap.get? a = none → Nx C [] α0 s0 α' s' → Rel C (FC a) lc' g α' s' → Le hp g → α'[hp.length]? = some D → g[hp.length]? = some (some ((items.filter p).map f)) → RR (.ref D) a (.ok .next) s') :
    wpAny C.M A (newList []) (fun acc s₃ => wpAny C.M A (newFunctionEnv scope F.env.globals cl [] F.env.qual none .none (some F.env)) (fun cenv s₄ =>
      codeAny C.M A (.compStart (.ListComp elt [⟨tgt, iter, ifs, 0⟩] scope pos) 0 (.ref it) acc { cenv with scope := relabel scope F.env }) (RR acc cenv.locals) s₄) E s₃) E s := by
  refine wpAny_newObj_type (wpAny_newFunctionEnv H.nocell (by intro y hy; simp at hy) (fun h₁ hns₁ hsb₁ => ?_) H.kind)
  dsimp only at hns₁ hsb₁ ⊢
  generalize hH2 : s.heap.push { cls := .type "list", dict := none, data := .seq ([] : List Value).toArray } = H2 at hns₁ hsb₁ ⊢
  have hC : H2.objs.size = s.heap.objs.size + 1 := by rw [← hH2, Heap.size_push]
  have nD : s.heap.get? s.heap.objs.size = none := get_size _
  have na : s.heap.get? H2.objs.size = none := get_above (by rw [hC]; exact Nat.le_succ _)
  have keep2 : ∀ b o, H2.get? b = some o → h₁.get? b = some o := fun b o e => hsb₁.extBut b o (Nat.ne_of_lt (Heap.lt_size e)) (Heap.get?_push_of_some _ e)
  have keep1 : ∀ b o, s.heap.get? b = some o → H2.get? b = some o := fun b o e => hH2 ▸ Heap.get?_push_of_some _ e
  have keep : ∀ b o, s.heap.get? b = some o → h₁.get? b = some o := fun b o e => keep2 b o (keep1 b o e)
  have na0 : s0.heap.get? H2.objs.size = none := by
    cases q : s0.heap.get? H2.objs.size with
    | none => rfl
    | some o => obtain ⟨o', e'⟩ := n0.there _ o q; rw [na] at e'; cases e'
  have HR1 : HR C (hp ++ [some []]) (α ++ [s.heap.objs.size]) h₁ := by
    have := R.hr.pushList (vs := []) (xs := #[]) (n := 0) .nil
    exact HR.ext (h := H2) (hH2 ▸ this) keep2
  have n1 : Nx C [] α s (α ++ [s.heap.objs.size]) { s with heap := h₁, toks := s.toks + ([] : List (Str × Value)).length } :=
    ⟨⟨[s.heap.objs.size], rfl, fun b hb => by rw [List.mem_singleton.mp hb]; exact nD⟩, fun b o e _ _ _ _ => keep b o e, fun b o e => ⟨o, keep b o e⟩, rfl, fun _ _ e => e, fun h => h⟩
  have apart : ∀ x c, (x, some c) ∈ F.names → c ≠ H2.objs.size := fun x c hm z => by
    obtain ⟨o, e, _⟩ := R.fr.place (b := c) (.inr ⟨x, hm⟩)
    rw [z, na] at e; cases e
  have FR1 : FR C (FC H2.objs.size) lc0 (α ++ [s.heap.objs.size]) h₁ := by
    refine ⟨fun b hb => ?_, ⟨_, by rw [H.env]; exact hns₁, fun i x v e1 e2 => absurd e2 ((hlc H2.objs.size).1 i x e1 v)⟩, fun i x c e1 => ?_⟩
    · rw [H.own, List.mem_singleton] at hb
      subst hb
      exact R.hr.absent na
    · obtain ⟨j, ej⟩ := H.cells _ i x c e1
      obtain ⟨u, ic, r⟩ := R.fr.cells j x c ej
      refine ⟨u, ic.keeps keep, fun v e2 => ?_⟩
      obtain ⟨y, ey, ry⟩ := r v ((hlc H2.objs.size).2 i x c v e1 e2 j ej)
      exact ⟨y, ey, ry.kp (Kp.of keep)⟩
  have R1 : Rel C (FC H2.objs.size) lc0 (hp ++ [some []]) (α ++ [s.heap.objs.size]) { s with heap := h₁, toks := s.toks + ([] : List (Str × Value)).length } := ⟨HR1, FR1, R.bare, H.ok _ apart⟩
  have st1 : I 0 h₁ := W.frame _ _ _ st fun o e => keep _ o e
  have hown : ∀ b ∈ (FC H2.objs.size).own, s0.heap.get? b = none := fun b hb => by
    rw [H.own, List.mem_singleton] at hb
    subst hb; exact na0
  have loop : codeAny C.M A (.compLoop (.ListComp elt [⟨tgt, iter, ifs, 0⟩] scope pos) 0 (.ref it) (.ref s.heap.objs.size) (FC H2.objs.size).env) (RR (.ref s.heap.objs.size) H2.objs.size) { s with heap := h₁, toks := s.toks + ([] : List (Str × Value)).length } := by
    refine compLoop_any (fun m s' => ∃ i α' lc g, m = items.length + 1 - i ∧ i ≤ items.length ∧ Nx C [] α0 s0 α' s' ∧ Rel C (FC H2.objs.size) lc g α' s' ∧ LI lc ∧ Le hp g ∧ α'[hp.length]? = some s.heap.objs.size ∧
        g[hp.length]? = some (some (((items.take i).filter p).map f)) ∧ I i s'.heap ∧ Sa α') ?_ (items.length + 1 - 0)
      ⟨0, _, lc0, _, rfl, Nat.zero_le _, n0.trans n1, R1, hl0, Le.app _ _, by rw [← R.hr.len]; simp, by simp, st1, W.saExt _ _ sa⟩
    rintro m s' ⟨i, α', lc, g, rfl, hi, n, R', li, le, eD, eg, st', sa'⟩
    obtain ⟨o, eo, tm⟩ := W.tmp _ _ st'
    refine W.next A α' g s' _ _ i hA.1 R'.hr sa' (hsc _ le) st' (fun v u h' tk hv ru st2 bt => ?_) (fun h' tk hv bt => ?_)
    · have hlt : i < items.length := (List.getElem?_eq_some_iff.mp hv).1
      have R3 : Rel C (FC H2.objs.size) lc g α' { s' with heap := h', toks := tk } := R'.but tk bt eo tm hn0
      have n3 := n.but tk bt fresh
      obtain ⟨o2, eo2, tm2⟩ := W.tmp _ _ st2
      refine letOwned eo2 tm2 ?_
      obtain ⟨lc', li', asg, tests⟩ := turn H2.objs.size v lc g (List.mem_of_getElem? hv) li le
      have keepIt : ∀ {s4 : Shared} {α4 own : List Addr}, Nx C own α' { s' with heap := h', toks := tk } α4 s4 → it ∉ own → I (i + 1) s4.heap := fun n4 nit => W.frame _ _ _ st2 fun o e => n4.keep it o e nit (R3.hr.notTmp eo2 tm2)
        (fun z => by
          obtain ⟨ps, e', _⟩ := R3.hr.base.t57
          have : o2 = tabObj ps := Option.some.inj (eo2.symm.trans (z ▸ e'))
          rw [this] at tm2
          obtain ⟨_, c⟩ := tm2
          rcases c with c | c | c | c <;> cases c)
        (fun z => by
          obtain ⟨ps, e', _⟩ := R3.hr.base.t76
          have : o2 = tabObj ps := Option.some.inj (eo2.symm.trans (z ▸ e'))
          rw [this] at tm2
          obtain ⟨_, c⟩ := tm2
          rcases c with c | c | c | c <;> cases c)
      have nit : it ∉ (FC H2.objs.size).own := fun z => by
        rw [H.own, List.mem_singleton] at z
        obtain ⟨o3, e3, q⟩ := R3.fr.place (b := it) (.inl (by rw [z, H.env]; rfl))
        have : o2 = o3 := Option.some.inj (eo2.symm.trans e3)
        subst this
        exact tm2.notPlace q
      have tk1 : items.take (i + 1) = items.take i ++ [v] := by rw [List.take_add_one, hv]; rfl
      refine asg A α' _ _ _ u hA R3 ru fun s4 n4 R4 => ?_
      refine tests A α' s4 _ _ hA R4 fun b g5 α5 s5 p5 n5 R5 => ?_
      obtain ⟨le5, rfl, pe⟩ := p5
      have n45 : Nx C (FC H2.objs.size).own α' { s' with heap := h', toks := tk } α5 s5 := n4.trans (n5.own fun _ h => nomatch h)
      have saOf : ∀ {α6 : List Addr} {own : List Addr} {s6 s7 : Shared}, Nx C own α' s6 α6 s7 → Sa α6 ∧ α6[hp.length]? = some s.heap.objs.size := fun nn => by
        obtain ⟨β, e, _⟩ := nn.ext
        rw [e]
        exact ⟨W.saExt _ _ sa', by rw [List.getElem?_append_left (List.getElem?_eq_some_iff.mp eD).1]; exact eD⟩
      cases hp' : p v with
      | false =>
        simp only [Bool.false_eq_true, if_false]
        refine ⟨items.length + 1 - (i + 1), by omega, i + 1, α5, lc', g5, rfl, hlt, n3.freshT n45 hown, R5, li', le.trans le5, (saOf n45).2, ?_, keepIt n45 nit, (saOf n45).1⟩
        rw [tk1, List.filter_append, le5 _ _ eg]
        simp [hp']
      | true =>
        simp only [if_true]
        refine pe hp' A α5 s5 _ _ hA R5 fun w g6 α6 s6 y p6 n6 R6 r6 => ?_
        obtain ⟨le6, rfl⟩ := p6
        have n46 := n45.trans (n6.own (own' := (FC H2.objs.size).own) fun _ h => nomatch h)
        have eg6 := le6 _ _ (le5 _ _ eg)
        have hz : (((items.take i).filter p).map f).length ≤ sizeLine := by
          rw [List.length_map]
          have := List.length_filter_le p (items.take i)
          rw [List.length_take] at this
          omega
        refine call_append (Φ := fun q0 g7 => q0 = .none ∧ g7 = g6.set hp.length (some ((((items.take i).filter p).map f) ++ [f v]))) eg6 hz ?_ A α6 s6 _ _ [.ref s.heap.objs.size, y] hA R6.hr R6.bare (.cons ⟨_, (saOf n46).2, rfl⟩ (.cons r6 .nil)) fun z g7 α7 s7 q p7 n7 H7 r7 => ?_
        · exact ⟨rfl, rfl⟩
        · obtain ⟨rfl, rfl⟩ := p7
          have n47 := n46.trans (n7.own (own' := (FC H2.objs.size).own) fun _ h => nomatch h)
          refine ⟨items.length + 1 - (i + 1), by omega, i + 1, α7, lc', _, rfl, hlt, n3.freshT n47 hown, R6.nx0 n7 H7, li', ((le.trans le5).trans le6).set (Nat.le_refl _), (saOf n47).2, ?_, keepIt n47 nit, (saOf n47).1⟩
          rw [at_set eg6, tk1, List.filter_append]
          simp [hp']
    · have hlen : i = items.length := by
        rw [List.getElem?_eq_none_iff] at hv; omega
      subst hlen
      rw [List.take_length] at eg
      exact hR _ _ α' g _ lc na0 (n.but tk bt fresh) (R'.but tk bt eo tm hn0) le eD eg
  refine codeAny_compStart_list ?_ ?_
  · show codeAny _ _ (.compLoop _ 0 (.ref it) _ (compEnvC scope cl H2.objs.size F.env)) _ _
    rw [← H.env]; exact loop
  · refine W.again _ _ _ _ 0 st1 ?_
    show codeAny _ _ (.compLoop _ 0 (.ref it) _ (compEnvC scope cl H2.objs.size F.env)) _ _
    rw [← H.env]; exact loop

theorem Nx.sameFresh {α α' : List Addr} {s s1 : Shared} (x : Nx C [] α s α' s1) {a : Addr} {h' : Heap} (tk : Nat) (b : Heap.SameBut a s1.heap h') (e : s.heap.get? a = none) : Nx C [] α s α' { s1 with heap := h', toks := tk } :=
  x.but tk (fun c o hc e' => b.extBut c o hc e') e

theorem FR.of {α : List Addr} {h h' : Heap} (R : FR C F loc α h) (kp : Kp h h') (pk : ∀ b, Place F b → ∀ o, h.get? b = some o → h'.get? b = some o) : FR C F loc α h' := by
  refine ⟨R.new, ?_, fun i y c e => ?_⟩
  · obtain ⟨m, n, q⟩ := R.ns
    refine ⟨m, ?_, fun i y v e1 e2 => ?_⟩
    · obtain ⟨o, es, ep, e, r⟩ := n
      exact ⟨o, es, ep, pk _ (.inl rfl) o e, r⟩
    · obtain ⟨u, e, r⟩ := q i y v e1 e2
      have := r.kp (β := []) kp
      rw [List.append_nil] at this
      exact ⟨u, e, this⟩
  · obtain ⟨u, ⟨o, e1, e2⟩, r⟩ := R.cells i y c e
    refine ⟨u, ⟨o, pk c (.inr ⟨y, List.mem_of_getElem? e⟩) o e1, e2⟩, fun v e2 => ?_⟩
    obtain ⟨z, e3, r⟩ := r v e2
    have := r.kp (β := []) kp
    rw [List.append_nil] at this
    exact ⟨z, e3, this⟩

/-- a comprehension as a value -/
theorem ev_comp {elt tgt iter : Expr} {ifs : List Expr} {scope : Scope} {pos : Pos} {cl : List (Str × Addr)} {FC : Addr → FrD} (H : CompOk F scope cl FC) {items : List V} {Sc : List Cell → Prop}
    (p : V → Bool) (f : V → V) (LI : List (Option V) → Prop) {lc0 : List (Option V)} {Φ : V → List Cell → Prop} (hl0 : LI lc0) (hlc : Lc0 F loc FC lc0) (hsz : items.length ≤ sizeLine)
    (h : AEv C k F loc hp iter fun v hp1 => ASrc C k v hp1 items Sc ∧ (∀ g, Le hp1 g → Sc g) ∧
      (∀ a v lc g, v ∈ items → LI lc → Le hp1 g → ∃ lc', LI lc' ∧ AAsg C k (FC a) lc g tgt v lc' ∧ ATests C k (FC a) lc' g ifs fun b g' => Le g g' ∧ b = p v ∧ (b = true → AEv C k (FC a) lc' g' elt fun w g'' => Le g' g'' ∧ w = f v)) ∧
      ∀ g, Le hp1 g → g[hp1.length]? = some (some ((items.filter p).map f)) → Φ (.lst hp1.length) g)
    (hs : ∀ x, foldedSetIterable iter F.env x = pure x := by intro _; rfl) :
    AEv C k F loc hp (.ListComp elt [⟨tgt, iter, ifs, 0⟩] scope pos) Φ := fun A α s Q E hA R hQ => by
  rw [eval_ListComp]
  refine wpAny_comprehension_free (use := none) rfl hs H.clos H.kind H.names (h A α s _ E hA R fun v hp1 α1 s1 x q n1 R1 r => ?_)
  obtain ⟨src, hsc, turn, fin⟩ := q
  refine src A α1 s1 _ E x hA R1.hr r fun it s2 I Sa keep fresh hos hg st sa W => ?_
  have n2 : Nx C [] α1 s1 α1 s2 := .of keep hos hg
  refine comp_core H W p f LI hl0 hlc hsc hsz turn hA (R1.ext keep hg) st sa (RR := fun acc a => compPost C.M A E none Q acc a) n2 fresh (R1.hr.absent fresh) fun a D α' g s' lc' na n R' le eD eg => ?_
  obtain ⟨m, ns, _⟩ := R'.fr.ns
  rw [H.env] at ns
  refine ⟨m, ns, fun h' hs' => ?_⟩
  have n' : Nx C [] α1 s1 α' { s' with heap := h' } := n.sameFresh s'.toks hs' na
  have place : Place (FC a) a := .inl (by rw [H.env]; rfl)
  have H' : HR C g α' h' := R'.hr.sameBut hs' (R'.fr.place_ne R'.hr place).1 (R1.hr.absent na) fun o e => by
    obtain ⟨o', e', q⟩ := R'.fr.place place
    rw [e] at e'; cases e'; exact place_notImm q
  exact hQ _ _ _ _ _ (fin g le eg) (n1.trans n') (R1.nx0 n' H') ⟨D, eD, rfl⟩

/-- a comprehension stored under a name -/
theorem ex_assign_comp (i : Nat) {x : Str} {c : Option Addr} {p' ppos : Pos} {elt tgt iter : Expr} {ifs : List Expr} {scope : Scope} {pos : Pos} {cl : List (Str × Addr)} {FC : Addr → FrD} (H : CompOk F scope cl FC) {items : List V} {Sc : List Cell → Prop}
    (p : V → Bool) (f : V → V) (LI : List (Option V) → Prop) {lc0 : List (Option V)} {Φ : Fl → List (Option V) → List Cell → Prop} (hi : F.names[i]? = some (x, c)) (hl0 : LI lc0) (hlc : Lc0 F loc FC lc0) (hsz : items.length ≤ sizeLine)
    (hsw : swapsWith (.ListComp elt [⟨tgt, iter, ifs, 0⟩] scope pos) (some (.Name x p')) ppos.line F.env = pure true)
    (h : AEv C k F loc hp iter fun v hp1 => ASrc C k v hp1 items Sc ∧ (∀ g, Le hp1 g → Sc g) ∧
      (∀ a v lc g, v ∈ items → LI lc → Le hp1 g → ∃ lc', LI lc' ∧ AAsg C k (FC a) lc g tgt v lc' ∧ ATests C k (FC a) lc' g ifs fun b g' => Le g g' ∧ b = p v ∧ (b = true → AEv C k (FC a) lc' g' elt fun w g'' => Le g' g'' ∧ w = f v)) ∧
      ∀ g, Le hp1 g → g[hp1.length]? = some (some ((items.filter p).map f)) → Φ .next (loc.set i (some (.lst hp1.length))) g)
    (hs : ∀ x, foldedSetIterable iter F.env x = pure x := by intro _; rfl)
    (hown : ∀ a, c = some a → a ∈ F.own ∧ F.env.kindOf x = some .cell := by exact noCell) :
    AEx C k F loc hp (.Assign [.Name x p'] (.ListComp elt [⟨tgt, iter, ifs, 0⟩] scope pos) ppos) Φ := fun A α s Q E hA R hQ => by
  rw [exec_Assign_Name_used _ _ _ _ hsw]
  refine wpAny_bind (wpAny_standAt (wpAny_bind ?_))
  show wpAny _ A (do let _ ← comprehension (.ListComp elt [⟨tgt, iter, ifs, 0⟩] scope pos) scope F.env _ (newList []) false (eval iter F.env) (some (assign (.Name x p') F.env))) _ _ s
  refine wpAny_bind (wpAny_mono (wpAny_comprehension_free (use := some (assign (.Name x p') F.env)) (Q := fun _ s' => Q .next s') rfl hs H.clos H.kind H.names
    (h A α s _ E hA R fun v hp1 α1 s1 x q n1 R1 r => ?_)) (fun _ s' hq => wpAny_pure (wpAny_pure hq)) fun _ _ e => e)
  obtain ⟨src, hsc, turn, fin⟩ := q
  refine src A α1 s1 _ E x hA R1.hr r fun it s2 I Sa keep fresh hos hg st sa W => ?_
  have n2 : Nx C [] α1 s1 α1 s2 := .of keep hos hg
  refine comp_core H W p f LI hl0 hlc hsc hsz turn hA (R1.ext keep hg) st sa (RR := fun acc a => compPost C.M A E (some (assign (.Name _ p') F.env)) (fun _ s' => Q .next s') acc a) n2 fresh (R1.hr.absent fresh) fun a D α' g s' lc' na n R' le eD eg => ?_
  have Rf : Rel C F loc g α' s' := R1.nx0 n R'.hr
  have place : Place (FC a) a := .inl (by rw [H.env]; rfl)
  show wpAny _ A (assign (.Name _ p') F.env (.ref D)) _ _ _
  refine asg_name (k := k) i hi hown A α' s' _ E _ hA Rf (v := .lst hp1.length) ⟨D, eD, rfl⟩ fun s3 n3 R3 => ?_
  have nF : a ∉ F.own := fun z => by
    rcases R.ok.ownIs a z with z | z
    · obtain ⟨o, e, _⟩ := R1.fr.place (b := a) (.inl z); rw [na] at e; cases e
    · obtain ⟨pp, hpp, hc⟩ := List.mem_filterMap.mp z
      obtain ⟨o, e, _⟩ := R1.fr.place (b := a) (.inr ⟨pp.1, by rw [← hc]; exact hpp⟩)
      rw [na] at e; cases e
  have ne := R'.fr.place_ne R'.hr place
  obtain ⟨m, ns, _⟩ := R'.fr.ns
  rw [H.env] at ns
  have keepA : ∀ o, s'.heap.get? a = some o → s3.heap.get? a = some o := fun o e => n3.keep a o e nF ne.1 ne.2.1 ne.2.2
  obtain ⟨o, es, ep, e1, e2, e3⟩ := ns
  refine ⟨m, ⟨o, es, ep, keepA o e1, e2, e3⟩, fun h' hs' => ?_⟩
  have n13 : Nx C F.own α1 s1 α' s3 := (n.own (fun _ h => nomatch h)).trans n3
  have n' : Nx C F.own α1 s1 α' { s3 with heap := h' } := n13.but s3.toks (fun c o hc e' => hs'.extBut c o hc e') na
  have im : ∀ o', s3.heap.get? a = some o' → ¬ ImmObj o' := fun o' e' => by
    have : o = o' := Option.some.inj ((keepA o e1).symm.trans e')
    subst this
    exact not_imm_dict e2
  have H' : HR C g α' h' := R3.hr.sameBut hs' ne.1 (R1.hr.absent na) im
  have kp : Kp s3.heap h' := fun b o' e' i' => (hs'.2 b (fun z => im o' (z ▸ e') i')).trans e'
  have F' : FR C F (loc.set i (some (.lst hp1.length))) α' h' := R3.fr.of kp fun b hb o' e' => (hs'.2 b (fun z => by
    subst z
    rcases hb with hb | ⟨y, hb⟩
    · exact nF (hb ▸ R.ok.here)
    · obtain ⟨o, e, _⟩ := R1.fr.place (b := b) (.inr ⟨y, hb⟩); rw [na] at e; cases e)).trans e'
  exact hQ .next _ g α' _ .next (fin g le eg) ((n1.own (fun _ h => nomatch h)).trans n') ⟨H', F', R3.bare, R.ok⟩ rfl
end
end Mine
end

section
open PySem PySem.W PyProof.Rows
namespace Mine
theorem Cx.mgK (C : Cx) {x : Str} {v : Value} (e : nsIn (KF C.w) mainGlobals x = some (some v)) : C.mg x = some v := mg_of C.ok.K C.ok.g e
theorem Cx.mgN (C : Cx) {x : Str} (e : nsIn (KF C.w) mainGlobals x = some none) : C.mg x = none := mg_none_of C.ok.K C.ok.g e
theorem Cx.mbK (C : Cx) {x : Str} {v : Value} (hn : x ≠ "__name__") (e : bootBuiltins x = some v) : C.mb x = some v := (C.ok.builtins x hn).trans e

/-- frames without cells -/
noncomputable def frD (w : World) (f : Addr) (names : List Str) (L : Addr) : FrD := { env := callEnvC (fdOf w f) L f, names := names.map fun x => (x, none), own := [L] }

theorem frD_ok {w : World} {f : Addr} {names : List Str} (L : Addr) (hk : (fdOf w f).scope.kind = .function) (hg : (fdOf w f).globals = mainGlobals) (hb : (fdOf w f).builtins = builtinsNs)
    (hn : names.Nodup) (hl : (names.all fun x => (fdOf w f).scope.names.lookup x == some .local) = true) : FOk (frD w f names L) where
  kind := hk
  glob := hg
  blt := hb
  nodup := by
    show ((names.map fun x => (x, (none : Option Addr))).map (·.1)).Nodup
    rw [List.map_map]
    have : ((fun p : Str × Option Addr => p.1) ∘ fun x => (x, (none : Option Addr))) = id := rfl
    rw [this, List.map_id]; exact hn
  here := List.mem_singleton.mpr rfl
  loc := fun p hp => by
    obtain ⟨x, hx, rfl⟩ := List.mem_map.mp hp
    exact eq_of_beq (List.all_eq_true.mp hl x hx)
  apart := by
    have : (frD w f names L).names.filterMap (·.2) = [] := by
      show (names.map fun x => (x, (none : Option Addr))).filterMap (·.2) = []
      induction names with
      | nil => rfl
      | cons a l ih => simp
    rw [this]; simp
  ownIs := fun b hb => .inl (List.mem_singleton.mp hb)

theorem defOk_plain {w : World} {f : Addr} {names params : List Str} (obj : (KF w).lookup f = some ⟨.type "function", none, .func (fdOf w f), #[]⟩)
    (code : ∃ c o fs t, (fdOf w f).code = .ref c ∧ (KF w).lookup c = some o ∧ o.data = .fields fs ∧ fs[1]? = some (.str (fdOf w f).qualname t) ∧ c ≠ 57 ∧ c ≠ 76)
    (ne57 : f ≠ 57) (ne76 : f ≠ 76) (body : (fdOf w f).body = .stmts (bodyOf w f)) (clo : (fdOf w f).closure = []) (co : (fdOf w f).scope.isCoroutine = false) (gen : (fdOf w f).scope.isGenerator = false)
    (kind : (fdOf w f).scope.kind = .function) (hg : (fdOf w f).globals = mainGlobals) (hb : (fdOf w f).builtins = builtinsNs)
    (hn : names.Nodup) (hl : (names.all fun x => (fdOf w f).scope.names.lookup x == some .local) = true)
    (bind : ∀ us : List Value, us.length = params.length → bindArgs (fdOf w f) ⟨us, []⟩ = pure (params.zip us)) (nodup : params.Nodup) (slots : params <+: names) : DefOk w f (frD w f names) params where
  obj := obj
  code := code
  ne57 := ne57
  ne76 := ne76
  body := body
  clo := clo
  co := co
  gen := gen
  kind := kind
  frame := fun L => ⟨rfl, frD_ok L kind hg hb hn hl, fun b hb => by rw [List.mem_singleton.mp hb]; exact Nat.le_refl _⟩
  bind := bind
  nodup := nodup
  slots := fun L i p h => ⟨none, by
    show (names.map fun x => (x, (none : Option Addr)))[i]? = _
    rw [List.getElem?_map, (show names[i]? = some p by obtain ⟨t, rfl⟩ := slots; rw [List.getElem?_append_left (List.getElem?_eq_some_iff.mp h).1]; exact h)]; rfl⟩
  cellKind := fun L x c h => by
    obtain ⟨y, _, e⟩ := List.mem_map.mp h
    cases e

theorem d_quote (w : World) : DefOk w 89 (frD w 89 ["s"]) ["s"] :=
  defOk_plain rfl ⟨88, _, _, _, rfl, rfl, rfl, rfl, by decide, by decide⟩ (by decide) (by decide) rfl rfl rfl rfl rfl rfl rfl (by decide) (by rfl)
    (fun us h => by match us, h with | [u0], _ => rfl) (by decide) ⟨_, rfl⟩
theorem d_quotedata (w : World) : DefOk w 106 (frD w 106 ["data"]) ["data"] :=
  defOk_plain rfl ⟨105, _, _, _, rfl, rfl, rfl, rfl, by decide, by decide⟩ (by decide) (by decide) rfl rfl rfl rfl rfl rfl rfl (by decide) (by rfl)
    (fun us h => by match us, h with | [u0], _ => rfl) (by decide) ⟨_, rfl⟩
theorem d_join (w : World) : DefOk w 81 (frD w 81 ["split_command"]) ["split_command"] :=
  defOk_plain rfl ⟨80, _, _, _, rfl, rfl, rfl, rfl, by decide, by decide⟩ (by decide) (by decide) rfl rfl rfl rfl rfl rfl rfl (by decide) (by rfl)
    (fun us h => by match us, h with | [u0], _ => rfl) (by decide) ⟨_, rfl⟩
theorem d_escape (w : World) : DefOk w 55 (frD w 55 ["pattern"]) ["pattern"] :=
  defOk_plain rfl ⟨54, _, _, _, rfl, rfl, rfl, rfl, by decide, by decide⟩ (by decide) (by decide) rfl rfl rfl rfl rfl rfl rfl (by decide) (by rfl)
    (fun us h => by match us, h with | [u0], _ => rfl) (by decide) ⟨_, rfl⟩
theorem d_translate (w : World) : DefOk w 43 (frD w 43 ["pat", "STAR", "parts"]) ["pat"] :=
  defOk_plain rfl ⟨42, _, _, _, rfl, rfl, rfl, rfl, by decide, by decide⟩ (by decide) (by decide) rfl rfl rfl rfl rfl rfl rfl (by decide) (by rfl)
    (fun us h => by match us, h with | [u0], _ => rfl) (by decide) ⟨_, rfl⟩
theorem d_tr (w : World) : DefOk w 62 (frD w 62 ["pat", "STAR", "QUESTION_MARK", "res", "add", "i", "n", "c", "j", "stuff", "chunks", "k", "chunk"]) ["pat", "STAR", "QUESTION_MARK"] :=
  defOk_plain rfl ⟨61, _, _, _, rfl, rfl, rfl, rfl, by decide, by decide⟩ (by decide) (by decide) rfl rfl rfl rfl rfl rfl rfl (by decide) (by rfl)
    (fun us h => by match us, h with | [u0, u1, u2], _ => rfl) (by decide) ⟨_, rfl⟩
theorem d_jtp (w : World) : DefOk w 69 (frD w 69 ["inp", "STAR", "res", "add", "i", "n", "fixed"]) ["inp", "STAR"] :=
  defOk_plain rfl ⟨68, _, _, _, rfl, rfl, rfl, rfl, by decide, by decide⟩ (by decide) (by decide) rfl rfl rfl rfl rfl rfl rfl (by decide) (by rfl)
    (fun us h => by match us, h with | [u0, u1], _ => rfl) (by decide) ⟨_, rfl⟩
theorem d_sent (w : World) : DefOk w 123 (frD w 123 ["line", "sent", "ahead", "sign", "part"]) ["line"] :=
  defOk_plain rfl ⟨122, _, _, _, rfl, rfl, rfl, rfl, by decide, by decide⟩ (by decide) (by decide) rfl rfl rfl rfl rfl rfl rfl (by decide) (by rfl)
    (fun us h => by match us, h with | [u0], _ => rfl) (by decide) ⟨_, rfl⟩
theorem d_parts (w : World) : DefOk w 130 (frD w 130 ["sent", "special", "parts", "inner", "sign", "part"]) ["sent"] :=
  defOk_plain rfl ⟨129, _, _, _, rfl, rfl, rfl, rfl, by decide, by decide⟩ (by decide) (by decide) rfl rfl rfl rfl rfl rfl rfl (by decide) (by rfl)
    (fun us h => by match us, h with | [u0], _ => rfl) (by decide) ⟨_, rfl⟩
theorem d_law (w : World) : DefOk w 140 (frD w 140 ["script", "words", "line", "parts"]) ["script"] :=
  defOk_plain rfl ⟨139, _, _, _, rfl, rfl, rfl, rfl, by decide, by decide⟩ (by decide) (by decide) rfl rfl rfl rfl rfl rfl rfl (by decide) (by rfl)
    (fun us h => by match us, h with | [u0], _ => rfl) (by decide) ⟨_, rfl⟩
end Mine
end

section
open PySem PySem.W PyProof.Rows
namespace Mine
noncomputable def frC (w : World) (f : Addr) (cell : Str) (names : List Str) (L : Addr) : FrD := { env := callEnvC (fdOf w f) L f, names := names.map fun x => (x, if x == cell then some (L + 1) else none), own := [L, L + 1] }

theorem filterMap_cell (cell : Str) (c : Addr) : ∀ (names : List Str), names.Nodup → (names.map fun x => (x, if x == cell then some c else none)).filterMap (·.2) = if cell ∈ names then [c] else []
  | [], _ => rfl
  | x :: r, h => by
    have h2 := List.nodup_cons.mp h
    rw [List.map_cons]
    by_cases e : x = cell
    · subst e
      rw [List.filterMap_cons_some (b := c) (by simp), filterMap_cell _ c r h2.2]
      simp [h2.1]
    · rw [List.filterMap_cons_none (by simp [e]), filterMap_cell _ c r h2.2]
      have : ¬ cell = x := fun z => e z.symm
      simp [this]

theorem frC_ok {w : World} {f : Addr} {cell : Str} {names : List Str} (L : Addr) (hk : (fdOf w f).scope.kind = .function) (hg : (fdOf w f).globals = mainGlobals) (hb : (fdOf w f).builtins = builtinsNs)
    (hn : names.Nodup) (hc : cell ∈ names) (hl : (names.all fun x => (fdOf w f).scope.names.lookup x == some (if x == cell then .cell else .local)) = true)
    (hcell : (callEnvC (fdOf w f) L f).cells = [(cell, L + 1)]) : FOk (frC w f cell names L) where
  kind := hk
  glob := hg
  blt := hb
  nodup := by
    show ((names.map fun x => (x, if x == cell then some (L + 1) else none)).map (·.1)).Nodup
    rw [List.map_map]
    have : ((fun p : Str × Option Addr => p.1) ∘ fun x => (x, if x == cell then some (L + 1) else none)) = id := rfl
    rw [this, List.map_id]; exact hn
  here := List.mem_cons_self
  loc := fun p hp => by
    obtain ⟨x, hx, rfl⟩ := List.mem_map.mp hp
    have h := eq_of_beq (List.all_eq_true.mp hl x hx)
    by_cases e : x = cell
    · subst e
      simp only [beq_self_eq_true, if_true] at h ⊢
      refine ⟨.inl h, ?_⟩
      show List.lookup x (callEnvC (fdOf w f) L f).cells = _
      rw [hcell]; simp
    · have e' : (x == cell) = false := by simp [e]
      simp only [e', Bool.false_eq_true, if_false] at h ⊢
      exact h
  apart := by
    show (L :: (names.map fun x => (x, if x == cell then some (L + 1) else none)).filterMap (·.2)).Nodup
    rw [filterMap_cell _ _ _ hn, if_pos hc]
    simp [Nat.ne_of_lt (Nat.lt_succ_self L)]
  ownIs := fun b hb => by
    show b = L ∨ b ∈ (names.map fun x => (x, if x == cell then some (L + 1) else none)).filterMap (·.2)
    rw [filterMap_cell _ _ _ hn, if_pos hc]
    simpa [frC] using hb

theorem defOk_cell {w : World} {f : Addr} {cell : Str} {names params : List Str} (obj : (KF w).lookup f = some ⟨.type "function", none, .func (fdOf w f), #[]⟩)
    (code : ∃ c o fs t, (fdOf w f).code = .ref c ∧ (KF w).lookup c = some o ∧ o.data = .fields fs ∧ fs[1]? = some (.str (fdOf w f).qualname t) ∧ c ≠ 57 ∧ c ≠ 76)
    (ne57 : f ≠ 57) (ne76 : f ≠ 76) (body : (fdOf w f).body = .stmts (bodyOf w f)) (clo : (fdOf w f).closure = []) (co : (fdOf w f).scope.isCoroutine = false) (gen : (fdOf w f).scope.isGenerator = false)
    (kind : (fdOf w f).scope.kind = .function) (hg : (fdOf w f).globals = mainGlobals) (hb : (fdOf w f).builtins = builtinsNs)
    (hn : names.Nodup) (hc : cell ∈ names) (hl : (names.all fun x => (fdOf w f).scope.names.lookup x == some (if x == cell then .cell else .local)) = true) (hcell : ∀ L, (callEnvC (fdOf w f) L f).cells = [(cell, L + 1)])
    (bind : ∀ us : List Value, us.length = params.length → bindArgs (fdOf w f) ⟨us, []⟩ = pure (params.zip us)) (nodup : params.Nodup) (slots : params <+: names) : DefOk w f (frC w f cell names) params where
  obj := obj
  code := code
  ne57 := ne57
  ne76 := ne76
  body := body
  clo := clo
  co := co
  gen := gen
  kind := kind
  frame := fun L => ⟨rfl, frC_ok L kind hg hb hn hc hl (hcell L), fun b hb => by
    simp [frC] at hb
    rcases hb with rfl | rfl
    · exact Nat.le_refl _
    · exact Nat.le_succ _⟩
  bind := bind
  nodup := nodup
  slots := fun L i p h => ⟨if p == cell then some (L + 1) else none, by
    show (names.map fun x => (x, if x == cell then some (L + 1) else none))[i]? = _
    rw [List.getElem?_map, (show names[i]? = some p by obtain ⟨t, rfl⟩ := slots; rw [List.getElem?_append_left (List.getElem?_eq_some_iff.mp h).1]; exact h)]; rfl⟩
  cellKind := fun L x c h => by
    obtain ⟨y, hy, e⟩ := List.mem_map.mp h
    have h := eq_of_beq (List.all_eq_true.mp hl y hy)
    by_cases q : y = cell
    · have : x = y := by simpa using (congrArg Prod.fst e).symm
      subst this
      subst q
      simp only [beq_self_eq_true, if_true] at h; exact h
    · simp [q] at e

theorem d_words (w : World) : DefOk w 111 (frC w 111 "role" ["script", "numbers", "pieces", "words", "role", "v", "kind", "rest", "code"]) ["script"] :=
  defOk_cell rfl ⟨110, _, _, _, rfl, rfl, rfl, rfl, by decide, by decide⟩ (by decide) (by decide) rfl rfl rfl rfl rfl rfl rfl (by decide) (by decide) (by rfl) (fun L => rfl)
    (fun us h => by match us, h with | [u0], _ => rfl) (by decide) ⟨_, rfl⟩
theorem d_line (w : World) : DefOk w 116 (frC w 116 "part" ["words", "line", "role", "k", "risky", "bare", "sign", "part"]) ["words"] :=
  defOk_cell rfl ⟨115, _, _, _, rfl, rfl, rfl, rfl, by decide, by decide⟩ (by decide) (by decide) rfl rfl rfl rfl rfl rfl rfl (by decide) (by decide) (by rfl) (fun L => rfl)
    (fun us h => by match us, h with | [u0], _ => rfl) (by decide) ⟨_, rfl⟩
theorem d_text (w : World) : DefOk w 135 (frC w 135 "parts" ["parts", "stars", "text", "k"]) ["parts"] :=
  defOk_cell rfl ⟨134, _, _, _, rfl, rfl, rfl, rfl, by decide, by decide⟩ (by decide) (by decide) rfl rfl rfl rfl rfl rfl rfl (by decide) (by decide) (by rfl) (fun L => rfl)
    (fun us h => by match us, h with | [u0], _ => rfl) (by decide) ⟨_, rfl⟩
end Mine
end

section
open PySem PySem.W PyProof.Rows PySem.Sre
namespace Mine
noncomputable def stepN : Nat → Sre.M → Sre.M
  | 0, m => m
  | n + 1, m => stepN n m.step
theorem step_done {m : Sre.M} (h : m.outcome.isSome = true) : m.step = m := by unfold Sre.M.step; rw [if_pos h]
theorem stepN_done {m : Sre.M} (h : m.outcome.isSome = true) : ∀ n, stepN n m = m
  | 0 => rfl
  | n + 1 => by show stepN n m.step = m; rw [step_done h, stepN_done h n]
theorem runFor_eq : ∀ n (m : Sre.M), m.runFor n = stepN n m
  | 0, m => rfl
  | n + 1, m => by
    show (if m.outcome.isSome then m else m.step.runFor n) = stepN n m.step
    by_cases h : m.outcome.isSome = true
    · rw [if_pos h, step_done h, stepN_done h]
    · rw [if_neg h, runFor_eq n]
theorem stepN_add : ∀ a b (m : Sre.M), stepN (a + b) m = stepN b (stepN a m)
  | 0, b, m => by rw [Nat.zero_add]; rfl
  | a + 1, b, m => by rw [Nat.succ_add]; exact stepN_add a b m.step

/-- the machine gets from one state to another -/
noncomputable def Gets (n : Nat) (m m' : Sre.M) : Prop := ∃ k, k ≤ n ∧ stepN k m = m'
theorem Gets.refl (m : Sre.M) : Gets 0 m m := ⟨0, Nat.le_refl _, rfl⟩
theorem Gets.trans {a b : Nat} {m m' m'' : Sre.M} (x : Gets a m m') (y : Gets b m' m'') : Gets (a + b) m m'' := by
  obtain ⟨i, hi, rfl⟩ := x
  obtain ⟨j, hj, rfl⟩ := y
  exact ⟨i + j, by omega, stepN_add ..⟩
theorem Gets.mono {a b : Nat} {m m' : Sre.M} (x : Gets a m m') (h : a ≤ b) : Gets b m m' := by
  obtain ⟨i, hi, e⟩ := x; exact ⟨i, by omega, e⟩

section
variable {prog : Program} {w : World} {A : Around} {E : Value → Shared → Prop} {s : Shared}
open Builtin.Re
theorem drive {Q : Sre.M → Shared → Prop} : ∀ (k n : Nat) (m : Sre.M), n < 4 * k → (stepN n m).outcome.isSome = true → Q (stepN n m) s → wpAny (model prog w) A (reDrive k m) Q E s
  | 0, n, m, h, _, _ => by omega
  | k + 1, n, m, h, ho, hq => by
    unfold reDrive
    dsimp only
    rw [show reTurnSteps = 4 from rfl, runFor_eq]
    by_cases hd : (stepN 4 m).outcome.isSome = true
    · rw [if_pos hd]
      refine wpAny_pure ?_
      rcases Nat.le_total n 4 with h4 | h4
      · obtain ⟨d, e⟩ := Nat.exists_eq_add_of_le h4
        have : stepN 4 m = stepN n m := by
          rw [e, stepN_add, stepN_done ho]
        rw [this]; exact hq
      · obtain ⟨d, rfl⟩ := Nat.exists_eq_add_of_le h4
        rw [stepN_add, stepN_done hd] at hq
        exact hq
    · rw [if_neg hd]
      have h4 : 4 ≤ n := by
        rcases Nat.le_total 4 n with h4 | h4
        · exact h4
        · obtain ⟨d, e⟩ := Nat.exists_eq_add_of_le h4
          exact absurd (by rw [e, stepN_add, stepN_done ho]; exact ho) hd
      obtain ⟨d, rfl⟩ := Nat.exists_eq_add_of_le h4
      rw [stepN_add] at ho hq
      exact wpAny_bind (wpAny_rule (drive k d (stepN 4 m) (by omega) ho hq))

theorem runToEnd {Q : Option Sre.M → Shared → Prop} {n : Nat} {m m' : Sre.M} (g : Gets n m m') (hn : n ≤ 1000000000) {b : Bool} (ho : m'.outcome = some (if b then .matched else .failed))
    (hq : Q (if b then some m' else none) s) : wpAny (model prog w) A (reRunToEnd m) Q E s := by
  obtain ⟨k, hk, e⟩ := g
  unfold reRunToEnd
  refine wpAny_bind (drive (2 ^ 64) k m (Nat.lt_of_le_of_lt (Nat.le_trans hk hn) (by decide)) (by rw [e, ho]; rfl) ?_)
  rw [e]
  refine wpAny_bind (wpAny_forIn_list _ (fun _ _ s' => s' = s) _ (fun i rest b' s' h => ?_) (fun b' s' h => ?_) _ _ rfl)
  · subst h
    split
    · exact wpAny_bind (wpAny_rule (wpAny_pure rfl))
    · exact wpAny_pure rfl
  · subst h
    rw [ho]
    cases b with
    | true => exact wpAny_pure hq
    | false => exact wpAny_pure hq
end
end Mine
end

section
open PySem PySem.W PyProof.Rows PySem.Sre
namespace Mine
noncomputable def code1 : Array Nat := #[14, 17, 4, 1, 1, 21, 9, 0, 604043296, 1, 0, 0, 0, 0, 0, 8, 4, 0, 13, 14, 21, 9, 0, 604043296, 1, 0, 0, 0, 0, 0, 8, 4, 0, 1]
noncomputable def safe1 (c : Nat) : Bool := (decide (c < 256) && (code1.getD (6 + (1 + c / 32)) 0).testBit (c % 32)) || Sre.isWord c

theorem set1a (c : Nat) (seen : Sre.Seen) : ∃ seen', inSet code1 c 34 5 true seen = .ok (!safe1 c, seen') := by
  rw [show inSet code1 c 34 5 true seen = inSet code1 c 33 6 false (seen.add 21) from rfl]
  rw [show inSet code1 c 33 6 false (seen.add 21) = (if decide (c < 256) && (code1.getD (6 + (1 + c / 32)) 0).testBit (c % 32) then .ok (false, (seen.add 21).add 9) else inSet code1 c 32 15 false ((seen.add 21).add 9)) from rfl]
  unfold safe1
  by_cases h1 : (decide (c < 256) && (code1.getD (6 + (1 + c / 32)) 0).testBit (c % 32)) = true
  · rw [if_pos h1, h1]; exact ⟨_, rfl⟩
  · rw [if_neg h1, eq_false_of_ne_true h1]
    generalize (seen.add 21).add 9 = t
    rw [show inSet code1 c 32 15 false t = (do if ← category 4 c then pure (false, (t.add 8).add 59) else inSet code1 c 31 17 false ((t.add 8).add 59)) from rfl]
    rw [show category 4 c = .ok (isWord c != false) from rfl]
    cases hw : isWord c with
    | true => exact ⟨_, rfl⟩
    | false => exact ⟨_, rfl⟩
theorem set1b (c : Nat) (seen : Sre.Seen) : ∃ seen', inSet code1 c 34 20 true seen = .ok (!safe1 c, seen') := by
  rw [show inSet code1 c 34 20 true seen = inSet code1 c 33 21 false (seen.add 21) from rfl]
  rw [show inSet code1 c 33 21 false (seen.add 21) = (if decide (c < 256) && (code1.getD (21 + (1 + c / 32)) 0).testBit (c % 32) then .ok (false, (seen.add 21).add 9) else inSet code1 c 32 30 false ((seen.add 21).add 9)) from rfl]
  have h7 : (decide (c < 256) && (code1.getD (21 + (1 + c / 32)) 0).testBit (c % 32)) = (decide (c < 256) && (code1.getD (6 + (1 + c / 32)) 0).testBit (c % 32)) := by
    by_cases hc : c < 256
    · have hk : ∀ k, k < 8 → code1.getD (21 + (1 + k)) 0 = code1.getD (6 + (1 + k)) 0 := by decide
      rw [hk (c / 32) (by omega)]
    · simp [hc]
  rw [h7]
  unfold safe1
  by_cases h1 : (decide (c < 256) && (code1.getD (6 + (1 + c / 32)) 0).testBit (c % 32)) = true
  · rw [if_pos h1, h1]; exact ⟨_, rfl⟩
  · rw [if_neg h1, eq_false_of_ne_true h1]
    generalize (seen.add 21).add 9 = t
    rw [show inSet code1 c 32 30 false t = (do if ← category 4 c then pure (false, (t.add 8).add 59) else inSet code1 c 31 32 false ((t.add 8).add 59)) from rfl]
    rw [show category 4 c = .ok (isWord c != false) from rfl]
    cases hw : isWord c with
    | true => exact ⟨_, rfl⟩
    | false => exact ⟨_, rfl⟩

noncomputable def code2 : Array Nat := #[14, 14, 4, 1, 1, 9, 0, 64, 0, 1342177280, 0, 0, 0, 0, 0, 17, 0, 13, 11, 9, 0, 64, 0, 1342177280, 0, 0, 0, 0, 0, 17, 1, 1]
noncomputable def good2 (c : Nat) : Bool := c == 38 || c == 124 || c == 126
theorem good2_bits (c : Nat) : (decide (c < 256) && (code2.getD (5 + (1 + c / 32)) 0).testBit (c % 32)) = good2 c := by
  by_cases hc : c < 256
  · have h : ∀ c : Fin 256, (decide (c.1 < 256) && (code2.getD (5 + (1 + c.1 / 32)) 0).testBit (c.1 % 32)) = good2 c.1 := by decide +kernel
    exact h ⟨c, hc⟩
  · have : good2 c = false := by simp [good2]; omega
    rw [this]; simp [hc]
theorem set2a (c : Nat) (seen : Sre.Seen) : ∃ seen', inSet code2 c 32 5 true seen = .ok (good2 c, seen') := by
  rw [show inSet code2 c 32 5 true seen = (if decide (c < 256) && (code2.getD (5 + (1 + c / 32)) 0).testBit (c % 32) then .ok (true, (seen.add 9)) else .ok (false, (seen.add 9).add 0)) from rfl]
  rw [good2_bits]
  cases good2 c <;> exact ⟨_, rfl⟩
theorem set2b (c : Nat) (seen : Sre.Seen) : ∃ seen', inSet code2 c 32 19 true seen = .ok (good2 c, seen') := by
  rw [show inSet code2 c 32 19 true seen = (if decide (c < 256) && (code2.getD (19 + (1 + c / 32)) 0).testBit (c % 32) then .ok (true, (seen.add 9)) else .ok (false, (seen.add 9).add 0)) from rfl]
  have h7 : (decide (c < 256) && (code2.getD (19 + (1 + c / 32)) 0).testBit (c % 32)) = (decide (c < 256) && (code2.getD (5 + (1 + c / 32)) 0).testBit (c % 32)) := by
    by_cases hc : c < 256
    · have hk : ∀ k, k < 8 → code2.getD (19 + (1 + k)) 0 = code2.getD (5 + (1 + k)) 0 := by decide
      rw [hk (c / 32) (by omega)]
    · simp [hc]
  rw [h7, good2_bits]
  cases good2 c <;> exact ⟨_, rfl⟩

noncomputable def code3 : Array Nat := #[14, 4, 0, 1, 1, 6, 1, 16, 46, 1]
noncomputable def code4 : Array Nat := #[14, 9, 4, 1, 2, 16, 10, 16, 13, 0, 7, 7, 16, 13, 16, 10, 15, 18, 5, 16, 10, 15, 13, 11, 16, 13, 5, 5, 0, 16, 10, 1, 15, 2, 0, 1]
noncomputable def good4 (c : Nat) : Bool := c == 10 || c == 13
theorem set4 (c : Nat) (seen : Sre.Seen) : ∃ seen', inSet code4 c 36 5 true seen = .ok (good4 c, seen') := by
  rw [show inSet code4 c 36 5 true seen = (if c == 10 then .ok (true, seen.add 16) else if c == 13 then .ok (true, (seen.add 16).add 16) else .ok (false, ((seen.add 16).add 16).add 0)) from rfl]
  unfold good4
  cases h : c == 10 with
  | true => exact ⟨_, rfl⟩
  | false =>
    cases h2 : c == 13 <;> exact ⟨_, rfl⟩

/-- the first place from s on whose sign is good -/
noncomputable def nextGood (good : Nat → Bool) (text : Array Nat) : (fuel s : Nat) → Option Nat
  | 0, _ => none
  | fuel + 1, s => if s ≥ text.size then none else if good (text.getD s 0) then some s else nextGood good text fuel (s + 1)

theorem admitted_eq {m : Sre.M} {good : Nat → Bool} (hg : ∀ c seen, ∃ seen', inSet m.code c m.code.size 5 true seen = .ok (good c, seen')) (hl : m.lim = m.text.size) :
    ∀ fuel s seen, ∃ seen', M.admitted m fuel s seen = .ok (nextGood good m.text fuel s, seen')
  | 0, s, seen => ⟨_, rfl⟩
  | fuel + 1, s, seen => by
    unfold M.admitted nextGood
    rw [hl]
    by_cases h : s ≥ m.text.size
    · rw [if_pos h, if_pos h]; exact ⟨_, rfl⟩
    · rw [if_neg h, if_neg h]
      obtain ⟨t, e⟩ := hg (m.text.getD s 0) seen
      rw [e]
      cases good (m.text.getD s 0) with
      | true => exact ⟨_, rfl⟩
      | false => exact admitted_eq hg hl fuel (s + 1) t
end Mine
end

section
open PySem PySem.W PyProof.Rows PySem.Sre
namespace Mine
noncomputable def m0 (code text : Array Nat) (groups pc pos lastStart : Nat) : Sre.M :=
  { code, text, lim := text.size, start := pos, lastStart, pc, pos, handed := pos, marks := Array.replicate (2 * groups) none, seen := ({} : Sre.Seen).add 14 }

theorem fs1 (text : Array Nat) (p : Nat) : forSearch code1 text 0 p text.size false = if (decide (p > text.size) || decide (text.size - p < 1)) = true then (m0 code1 text 0 18 p 0).say false else (m0 code1 text 0 18 p text.size).attemptFrom p true := rfl
theorem fs2 (text : Array Nat) (p : Nat) : forSearch code2 text 1 p text.size false = if (decide (p > text.size) || decide (text.size - p < 1)) = true then (m0 code2 text 1 15 p 0).say false else (m0 code2 text 1 15 p text.size).attemptFrom p true := rfl
theorem fs3 (text : Array Nat) (p : Nat) : forSearch code3 text 0 p text.size false = if (decide (p > text.size) || decide (text.size - p < 1)) = true then (m0 code3 text 0 5 p 0).say false else (m0 code3 text 0 5 p text.size).attemptFrom p true := rfl
theorem fs4 (text : Array Nat) (p : Nat) : forSearch code4 text 0 p text.size false = if (decide (p > text.size) || decide (text.size - p < 1)) = true then (m0 code4 text 0 10 p 0).say false else (m0 code4 text 0 10 p text.size).attemptFrom p true := rfl

theorem af_some {m : Sre.M} {good : Nat → Bool} (hg : ∀ c seen, ∃ seen', inSet m.code c m.code.size 5 true seen = .ok (good c, seen')) (hl : m.lim = m.text.size) (hf : m.hasFirstSet = true) (s : Nat) (first : Bool) :
    ∃ seen', m.attemptFrom s first = match nextGood good m.text (m.text.size + 1 - s) s with
      | some b => { m with mustAdvance := false, seen := seen' }.attemptAt b first
      | none => { m with seen := seen' }.say false := by
  obtain ⟨t, e⟩ := admitted_eq hg hl (m.lim + 1 - s) s m.seen
  refine ⟨t, ?_⟩
  unfold Sre.M.attemptFrom
  rw [hf, e, hl]
  simp only [Bool.not_true, Bool.false_eq_true, if_false]
  cases nextGood good m.text (m.text.size + 1 - s) s <;> rfl

theorem say_false {m : Sre.M} (h1 : m.frames = []) (h2 : m.outcome = none) : ∃ m', Gets 1 (m.say false) m' ∧ m'.outcome = some .failed := by
  refine ⟨_, ⟨1, Nat.le_refl _, rfl⟩, ?_⟩
  show (Sre.M.step _).outcome = _
  unfold Sre.M.step
  simp [Sre.M.say, h1, h2]


/-- a state that goes on -/
structure Go (m : Sre.M) : Prop where
  o : m.outcome = none
  a : m.answer = none
  pc : decide (m.pc < m.code.size) = true

theorem Go.step {m : Sre.M} (g : Go m) : m.step = m.exec := by
  unfold Sre.M.step
  rw [g.o, g.a]
  simp only [Option.isSome_none, Bool.false_eq_true, if_false]
  rw [if_pos (of_decide_eq_true g.pc)]

theorem step_in {m : Sre.M} (g : Go m) (hop : m.word 0 = 13) (hp : m.pos < m.lim) {b : Bool} {t : Sre.Seen} (ha : accepts m.code m.pc (m.text.getD m.pos 0) (m.seen.add 13) = .ok (b, t)) :
    m.step = if b then { m with seen := t, pc := m.pc + itemWidth m.code m.pc, pos := m.pos + 1 } else { m with seen := t }.say false := by
  rw [g.step]; unfold Sre.M.exec; rw [hop]
  simp only [show ops[13]? = some Op.IN from rfl]
  rw [if_neg (Nat.not_le.mpr hp), ha]
  cases b <;> rfl
theorem step_lit {m : Sre.M} (g : Go m) (hop : m.word 0 = 16) (c : Nat) (hc : m.code.getD (m.pc + 1) 0 = c) (hc0 : m.code.getD m.pc 0 = 16) :
    m.step = if m.pos < m.lim ∧ m.text.getD m.pos 0 = c then { m with seen := m.seen.add 16, pc := m.pc + 2, pos := m.pos + 1 } else { m with seen := m.seen.add 16 }.say false := by
  rw [g.step]; unfold Sre.M.exec; rw [hop]
  simp only [show ops[16]? = some Op.LITERAL from rfl]
  have ha : accepts m.code m.pc (m.text.getD m.pos 0) (m.seen.add 16) = .ok (m.text.getD m.pos 0 == c, m.seen.add 16) := by
    unfold accepts; rw [hc0, hc]; rfl
  have hw : itemWidth m.code m.pc = 2 := by unfold itemWidth; rw [hc0]; rfl
  by_cases hp : m.pos < m.lim
  · rw [if_neg (Nat.not_le.mpr hp), ha]
    by_cases e : m.text.getD m.pos 0 = c
    · rw [if_pos ⟨hp, e⟩, show (m.text.getD m.pos 0 == c) = true from by simp [e]]
      simp only [hw]
    · rw [if_neg (fun z => e z.2), show (m.text.getD m.pos 0 == c) = false from by simpa using e]
  · rw [if_pos (Nat.not_lt.mp hp), if_neg (fun z => hp z.1)]
theorem step_at {m : Sre.M} (g : Go m) (hop : m.word 0 = 6) (hk : m.word 1 = 1) :
    m.step = if (m.pos == 0 || m.text.getD (m.pos - 1) 0 == 10) = true then { m with seen := (m.seen.add 6).add 44, pc := m.pc + 2 } else { m with seen := (m.seen.add 6).add 44 }.say false := by
  rw [g.step]; unfold Sre.M.exec; rw [hop]
  simp only [show ops[6]? = some Op.AT from rfl]
  rw [show ({ m with seen := m.seen.add 6 } : Sre.M).word 1 = 1 from hk]
  rfl
theorem step_mark {m : Sre.M} (g : Go m) (hop : m.word 0 = 17) (k : Nat) (hk : m.word 1 = k) : m.step = ({ m with seen := m.seen.add 17 } : Sre.M).mark k := by
  subst hk; rw [g.step]; unfold Sre.M.exec; rw [hop]; rfl
theorem step_jump {m : Sre.M} (g : Go m) (hop : m.word 0 = 15) : m.step = { m with seen := m.seen.add 15, pc := m.pc + 1 + m.word 1 } := by
  rw [g.step]; unfold Sre.M.exec; rw [hop]; rfl
theorem step_succ {m : Sre.M} (g : Go m) (hop : m.word 0 = 1) (h1 : m.wholeText = false) (h2 : m.mustAdvance = false) : m.step = ({ m with seen := m.seen.add 1, handed := m.pos } : Sre.M).say true := by
  rw [g.step]; unfold Sre.M.exec; rw [hop]
  simp only [show ops[1]? = some Op.SUCCESS from rfl, h1, h2, Bool.false_and, Bool.or_false, Bool.and_false, Bool.false_eq_true, if_false]
theorem step_branch {m : Sre.M} (g : Go m) (hop : m.word 0 = 7) : m.step = ({ m with seen := m.seen.add 7 } : Sre.M).alternative (m.pc + 1) (m.keep m.inner.isSome) := by
  rw [g.step]; unfold Sre.M.exec; rw [hop]; rfl
theorem step_not {m : Sre.M} (g : Go m) (hop : m.word 0 = 5) (h2 : m.word 2 = 0) (hi : m.inner = none) :
    m.step = ({ m with seen := m.seen.add 5 } : Sre.M).attempt { wait := .lookNot, pc := m.pc, pos := m.pos, outermost := m.outermost, kept := { lastmark := m.lastmark, lastindex := m.lastindex, whole := false, marks := #[] } } (m.pc + 3) m.pos false := by
  rw [g.step]; unfold Sre.M.exec; rw [hop]
  simp only [show ops[5]? = some Op.ASSERT_NOT from rfl]
  rw [show ({ m with seen := m.seen.add 5 } : Sre.M).word 2 = 0 from h2]
  rw [if_neg (Nat.not_lt_zero _)]
  simp only [hi]
  rfl
theorem step_ans {m : Sre.M} (ho : m.outcome = none) {b : Bool} (ha : m.answer = some b) {f : Sre.Frame} {rest : List Sre.Frame} (hf : m.frames = f :: rest) :
    m.step = Sre.M.resume { m with answer := none, frames := rest, weight := m.weight - (1 + f.kept.marks.size), pc := f.pc, pos := f.pos, outermost := f.outermost } f b := by
  unfold Sre.M.step
  rw [ho, ha, hf]
  simp only [Option.isSome_none, Bool.false_eq_true, if_false]
theorem step_end {m : Sre.M} (ho : m.outcome = none) {b : Bool} (ha : m.answer = some b) (hf : m.frames = []) : m.step = { m with outcome := some (if b then .matched else .failed) } := by
  unfold Sre.M.step
  rw [ho, ha, hf]
  simp only [Option.isSome_none, Bool.false_eq_true, if_false]

theorem Gets.one {m m' m'' : Sre.M} {n : Nat} (e : m.step = m') (g : Gets n m' m'') : Gets (n + 1) m m'' := by
  obtain ⟨k, hk, e2⟩ := g
  exact ⟨k + 1, by omega, by show stepN k m.step = _; rw [e]; exact e2⟩


noncomputable def rs (code text : Array Nat) (ls b pc pos handed : Nat) (out : Bool) (marks : Array (Option Nat)) (lm li : Int) (frames : List Sre.Frame) (weight : Nat) (answer : Option Bool) (seen : Sre.Seen) : Sre.M :=
  { code, text, lim := text.size, start := b, lastStart := ls, pc, pos, handed, outermost := out, marks, lastmark := lm, lastindex := li, frames, weight, answer, seen }
noncomputable abbrev fr0 (pc b : Nat) (first : Bool) : Sre.Frame := { wait := .nextStart, pc, pos := b, outermost := first }

/-- the answer yes behind the frame of the start -/
theorem yes_end {code text : Array Nat} {ls b pc pos handed pc0 w : Nat} {out first : Bool} {marks : Array (Option Nat)} {lm li : Int} {t : Sre.Seen} :
    ∃ m', Gets 2 (rs code text ls b pc pos handed out marks lm li [fr0 pc0 b first] w (some true) t) m' ∧ m'.outcome = some .matched ∧ m'.start = b ∧ m'.handed = handed ∧ m'.marks = marks ∧ m'.lastmark = lm ∧ m'.lastindex = li := by
  refine ⟨_, Gets.one (step_ans (m := rs code text ls b pc pos handed out marks lm li [fr0 pc0 b first] w (some true) t) rfl rfl rfl)
    (Gets.one (step_end (m := rs code text ls b pc0 b handed first marks lm li [] (w - 1) (some true) t) rfl rfl rfl) (.refl _)), rfl, rfl, rfl, rfl, rfl, rfl⟩

theorem run1 (text : Array Nat) (b ls : Nat) (t : Sre.Seen) (hb : b < text.size) (hg : safe1 (text.getD b 0) = false) :
    ∃ m', Gets 10 (rs code1 text ls b 18 b b true #[] (-1) (-1) [fr0 18 b true] 1 none t) m' ∧ m'.outcome = some .matched ∧ m'.start = b ∧ m'.handed = b + 1 := by
  obtain ⟨t1, e1⟩ := set1b (text.getD b 0) (t.add 13)
  rw [hg] at e1
  have s1 : (rs code1 text ls b 18 b b true #[] (-1) (-1) [fr0 18 b true] 1 none t).step = rs code1 text ls b 33 (b + 1) b true #[] (-1) (-1) [fr0 18 b true] 1 none t1 := by
    rw [step_in (m := rs code1 text ls b 18 b b true #[] (-1) (-1) [fr0 18 b true] 1 none t) ⟨rfl, rfl, rfl⟩ rfl hb (b := true) (t := t1) e1]; rfl
  have s2 : (rs code1 text ls b 33 (b + 1) b true #[] (-1) (-1) [fr0 18 b true] 1 none t1).step = rs code1 text ls b 33 (b + 1) (b + 1) true #[] (-1) (-1) [fr0 18 b true] 1 (some true) (t1.add 1) := by
    rw [step_succ ⟨rfl, rfl, rfl⟩ rfl rfl rfl]; rfl
  obtain ⟨m', g, h⟩ := yes_end
  exact ⟨m', (Gets.one s1 (Gets.one s2 g)).mono (by decide), h.1, h.2.1, h.2.2.1⟩
theorem run2 (text : Array Nat) (b ls : Nat) (t : Sre.Seen) (hb : b < text.size) (hg : good2 (text.getD b 0) = true) :
    ∃ m', Gets 10 (rs code2 text ls b 15 b b true #[none, none] (-1) (-1) [fr0 15 b true] 1 none t) m' ∧ m'.outcome = some .matched ∧ m'.start = b ∧ m'.handed = b + 1 ∧ m'.marks = #[some b, some (b + 1)] ∧ m'.lastmark = 1 ∧ m'.lastindex = 1 := by
  obtain ⟨t1, e1⟩ := set2b (text.getD b 0) ((t.add 17).add 13)
  rw [hg] at e1
  have s0 : (rs code2 text ls b 15 b b true #[none, none] (-1) (-1) [fr0 15 b true] 1 none t).step = rs code2 text ls b 17 b b true #[some b, none] 0 (-1) [fr0 15 b true] 1 none (t.add 17) := by
    rw [step_mark ⟨rfl, rfl, rfl⟩ rfl 0 rfl]; rfl
  have s1 : (rs code2 text ls b 17 b b true #[some b, none] 0 (-1) [fr0 15 b true] 1 none (t.add 17)).step = rs code2 text ls b 29 (b + 1) b true #[some b, none] 0 (-1) [fr0 15 b true] 1 none t1 := by
    rw [step_in (m := rs code2 text ls b 17 b b true #[some b, none] 0 (-1) [fr0 15 b true] 1 none (t.add 17)) ⟨rfl, rfl, rfl⟩ rfl hb (b := true) (t := t1) e1]; rfl
  have s2 : (rs code2 text ls b 29 (b + 1) b true #[some b, none] 0 (-1) [fr0 15 b true] 1 none t1).step = rs code2 text ls b 31 (b + 1) b true #[some b, some (b + 1)] 1 1 [fr0 15 b true] 1 none (t1.add 17) := by
    rw [step_mark ⟨rfl, rfl, rfl⟩ rfl 1 rfl]; rfl
  have s3 : (rs code2 text ls b 31 (b + 1) b true #[some b, some (b + 1)] 1 1 [fr0 15 b true] 1 none (t1.add 17)).step = rs code2 text ls b 31 (b + 1) (b + 1) true #[some b, some (b + 1)] 1 1 [fr0 15 b true] 1 (some true) ((t1.add 17).add 1) := by
    rw [step_succ ⟨rfl, rfl, rfl⟩ rfl rfl rfl]; rfl
  obtain ⟨m', g, h⟩ := yes_end
  exact ⟨m', (Gets.one s0 (Gets.one s1 (Gets.one s2 (Gets.one s3 g)))).mono (by decide), h.1, h.2.1, h.2.2.1, h.2.2.2.1, h.2.2.2.2.1, h.2.2.2.2.2⟩
end Mine
end

section
open PySem PySem.W PyProof.Rows PySem.Sre
namespace Mine
noncomputable abbrev frB (pc b : Nat) : Sre.Frame := { wait := .nextBranch, pc, pos := b, outermost := true, kept := {} }
noncomputable abbrev frN (b : Nat) : Sre.Frame := { wait := .lookNot, pc := 26, pos := b, outermost := true, kept := {} }

section
variable (text : Array Nat) (b ls : Nat)
noncomputable abbrev R4s (pc pos handed : Nat) (out : Bool) (frames : List Sre.Frame) (w : Nat) (ans : Option Bool) (t : Sre.Seen) : Sre.M := rs code4 text ls b pc pos handed out #[] (-1) (-1) frames w ans t

theorem b4_start (t : Sre.Seen) : (R4s text b ls 10 b b true [fr0 10 b true] 1 none t).step = R4s text b ls 12 b b true [frB 11 b, fr0 10 b true] 2 none (t.add 7) := by
  rw [step_branch ⟨rfl, rfl, rfl⟩ rfl]; rfl
theorem b4_lit {pc pos handed w : Nat} {out : Bool} {fr : List Sre.Frame} {t : Sre.Seen} (hpc : decide (pc < 36) = true) (h0 : code4.getD pc 0 = 16) (c : Nat) (h1 : code4.getD (pc + 1) 0 = c) :
    (R4s text b ls pc pos handed out fr w none t).step = if pos < text.size ∧ text.getD pos 0 = c then R4s text b ls (pc + 2) (pos + 1) handed out fr w none (t.add 16) else R4s text b ls pc pos handed out fr w (some false) (t.add 16) := by
  rw [step_lit (m := R4s text b ls pc pos handed out fr w none t) ⟨rfl, rfl, hpc⟩ h0 c h1 h0]; rfl
theorem b4_jump {pc pos handed w : Nat} {out : Bool} {fr : List Sre.Frame} {t : Sre.Seen} (hpc : decide (pc < 36) = true) (h0 : code4.getD pc 0 = 15) (h1 : pc + 1 + code4.getD (pc + 1) 0 = 35) :
    (R4s text b ls pc pos handed out fr w none t).step = R4s text b ls 35 pos handed out fr w none (t.add 15) := by
  rw [step_jump (m := R4s text b ls pc pos handed out fr w none t) ⟨rfl, rfl, hpc⟩ h0]
  show rs code4 text ls b (pc + 1 + code4.getD (pc + 1) 0) pos handed out #[] (-1) (-1) fr w none (t.add 15) = _
  rw [h1]
theorem b4_succ {pos handed w : Nat} {fr : List Sre.Frame} {t : Sre.Seen} : (R4s text b ls 35 pos handed true fr w none t).step = R4s text b ls 35 pos pos true fr w (some true) (t.add 1) := by
  rw [step_succ ⟨rfl, rfl, rfl⟩ rfl rfl rfl]; rfl
theorem b4_yes {pc pos handed k w : Nat} {fr : List Sre.Frame} {t : Sre.Seen} : (R4s text b ls pc pos handed true (frB k b :: fr) (w + 1) (some true) t).step = R4s text b ls k b handed true fr w (some true) t := by
  rw [step_ans (m := R4s text b ls pc pos handed true (frB k b :: fr) (w + 1) (some true) t) rfl rfl rfl]; rfl
theorem b4_no1 {pc pos handed : Nat} {fr : List Sre.Frame} {t : Sre.Seen} : (R4s text b ls pc pos handed true (frB 11 b :: fr) 2 (some false) t).step = R4s text b ls 19 b b true (frB 18 b :: fr) 2 none t := by
  rw [step_ans (m := R4s text b ls pc pos handed true (frB 11 b :: fr) 2 (some false) t) rfl rfl rfl]; rfl
theorem b4_no2 {pc pos handed : Nat} {fr : List Sre.Frame} {t : Sre.Seen} : (R4s text b ls pc pos handed true (frB 18 b :: fr) 2 (some false) t).step = R4s text b ls 24 b b true (frB 23 b :: fr) 2 none t := by
  rw [step_ans (m := R4s text b ls pc pos handed true (frB 18 b :: fr) 2 (some false) t) rfl rfl rfl]; rfl
theorem b4_not {pos handed : Nat} {fr : List Sre.Frame} {t : Sre.Seen} : (R4s text b ls 26 pos handed true fr 2 none t).step = R4s text b ls 29 pos pos false (frN pos :: fr) 3 none (t.add 5) := by
  rw [step_not ⟨rfl, rfl, rfl⟩ rfl rfl rfl]; rfl
theorem b4_notno {pc pos handed p : Nat} {out : Bool} {fr : List Sre.Frame} {t : Sre.Seen} : (R4s text b ls pc pos handed out (frN p :: fr) 3 (some false) t).step = R4s text b ls 32 p handed true fr 2 none t := by
  rw [step_ans (m := R4s text b ls pc pos handed out (frN p :: fr) 3 (some false) t) rfl rfl rfl]; rfl

/-- how far the match goes -/
noncomputable def end4 : Nat := if text.getD b 0 = 13 ∧ b + 1 < text.size ∧ text.getD (b + 1) 0 = 10 then b + 2 else b + 1

theorem run4 (t : Sre.Seen) (hb : b < text.size) (hg : good4 (text.getD b 0) = true) :
    ∃ m', Gets 30 (R4s text b ls 10 b b true [fr0 10 b true] 1 none t) m' ∧ m'.outcome = some .matched ∧ m'.start = b ∧ m'.handed = end4 text b := by
  have fin : ∀ {k pos : Nat} {t : Sre.Seen}, ∃ m', Gets 4 (R4s text b ls 35 pos b true [frB k b, fr0 10 b true] 2 none t) m' ∧ m'.outcome = some .matched ∧ m'.start = b ∧ m'.handed = pos := fun {k pos t} => by
    obtain ⟨m', g, h⟩ := yes_end (code := code4) (text := text) (ls := ls) (b := b) (pc := k) (pos := b) (handed := pos) (pc0 := 10) (w := 1) (out := true) (first := true) (marks := #[]) (lm := -1) (li := -1) (t := t.add 1)
    exact ⟨m', .one (b4_succ text b ls) (.one (b4_yes text b ls) g), h.1, h.2.1, h.2.2.1⟩
  have hc : text.getD b 0 = 10 ∨ text.getD b 0 = 13 := by
    unfold good4 at hg
    rw [Bool.or_eq_true, beq_iff_eq, beq_iff_eq] at hg
    exact hg
  rcases hc with hc | hc
  · have e : end4 text b = b + 1 := by unfold end4; rw [if_neg (by rw [hc]; intro z; cases z.1)]
    rw [e]
    obtain ⟨m', g, h⟩ := fin (k := 18) (pos := b + 1) (t := (((t.add 7).add 16).add 16).add 15)
    have s1 := b4_lit text b ls (pc := 12) (pos := b) (handed := b) (w := 2) (out := true) (fr := [frB 11 b, fr0 10 b true]) (t := t.add 7) rfl rfl 13 rfl
    rw [if_neg (by rw [hc]; intro z; cases z.2)] at s1
    have s2 := b4_lit text b ls (pc := 19) (pos := b) (handed := b) (w := 2) (out := true) (fr := [frB 18 b, fr0 10 b true]) (t := (t.add 7).add 16) rfl rfl 10 rfl
    rw [if_pos ⟨hb, hc⟩] at s2
    exact ⟨m', (Gets.one (b4_start text b ls t) (.one s1 (.one (b4_no1 text b ls) (.one s2 (.one (b4_jump text b ls rfl rfl rfl) g))))).mono (by decide), h⟩
  · have s1 := b4_lit text b ls (pc := 12) (pos := b) (handed := b) (w := 2) (out := true) (fr := [frB 11 b, fr0 10 b true]) (t := t.add 7) rfl rfl 13 rfl
    rw [if_pos ⟨hb, hc⟩] at s1
    have s2 := b4_lit text b ls (pc := 14) (pos := b + 1) (handed := b) (w := 2) (out := true) (fr := [frB 11 b, fr0 10 b true]) (t := (t.add 7).add 16) rfl rfl 10 rfl
    by_cases hn : b + 1 < text.size ∧ text.getD (b + 1) 0 = 10
    · rw [if_pos hn] at s2
      have e : end4 text b = b + 2 := by unfold end4; rw [if_pos ⟨hc, hn⟩]
      rw [e]
      obtain ⟨m', g, h⟩ := fin (k := 11) (pos := b + 2) (t := (((t.add 7).add 16).add 16).add 15)
      exact ⟨m', (Gets.one (b4_start text b ls t) (.one s1 (.one s2 (.one (b4_jump text b ls rfl rfl rfl) g)))).mono (by decide), h⟩
    · rw [if_neg hn] at s2
      have e : end4 text b = b + 1 := by unfold end4; rw [if_neg (fun z => hn z.2)]
      rw [e]
      have s3 := b4_lit text b ls (pc := 19) (pos := b) (handed := b) (w := 2) (out := true) (fr := [frB 18 b, fr0 10 b true]) (t := ((t.add 7).add 16).add 16) rfl rfl 10 rfl
      rw [if_neg (by rw [hc]; intro z; cases z.2)] at s3
      have s4 := b4_lit text b ls (pc := 24) (pos := b) (handed := b) (w := 2) (out := true) (fr := [frB 23 b, fr0 10 b true]) (t := (((t.add 7).add 16).add 16).add 16) rfl rfl 13 rfl
      rw [if_pos ⟨hb, hc⟩] at s4
      have s5 := b4_lit text b ls (pc := 29) (pos := b + 1) (handed := b + 1) (w := 3) (out := false) (fr := [frN (b + 1), frB 23 b, fr0 10 b true]) (t := (((((t.add 7).add 16).add 16).add 16).add 16).add 5) rfl rfl 10 rfl
      rw [if_neg hn] at s5
      obtain ⟨m', g, h⟩ := yes_end (code := code4) (text := text) (ls := ls) (b := b) (pc := 23) (pos := b) (handed := b + 1) (pc0 := 10) (w := 1) (out := true) (first := true) (marks := #[]) (lm := -1) (li := -1) (t := ((((((((t.add 7).add 16).add 16).add 16).add 16).add 5).add 16).add 15).add 1)
      exact ⟨m', (Gets.one (b4_start text b ls t) (.one s1 (.one s2 (.one (b4_no1 text b ls) (.one s3 (.one (b4_no2 text b ls) (.one s4 (.one (b4_not text b ls) (.one s5 (.one (b4_notno text b ls) (.one (b4_jump text b ls rfl rfl rfl)
        (.one (b4_succ text b ls) (.one (b4_yes text b ls) g))))))))))))).mono (by decide), h.1, h.2.1, h.2.2.1⟩
end

section
variable (text : Array Nat)
noncomputable def ok3 (s : Nat) : Bool := (s == 0 || text.getD (s - 1) 0 == 10) && text.getD s 0 == 46
noncomputable def next3 : (fuel s : Nat) → Option Nat
  | 0, _ => none
  | fuel + 1, s => if s ≥ text.size then none else if ok3 text s then some s else next3 fuel (s + 1)

theorem run3 : ∀ (fuel s : Nat) (first : Bool) (t : Sre.Seen), s ≤ text.size → fuel = text.size + 1 - s →
    ∃ m', Gets (4 * fuel + 5) (rs code3 text text.size s 5 s s first #[] (-1) (-1) [fr0 5 s first] 1 none t) m' ∧ match next3 text fuel s with
      | some b => m'.outcome = some .matched ∧ m'.start = b ∧ m'.handed = b + 1
      | none => m'.outcome = some .failed
  | 0, s, first, t, hs, hf => by omega
  | fuel + 1, s, first, t, hs, hf => by
    have s0 := step_at (m := rs code3 text text.size s 5 s s first #[] (-1) (-1) [fr0 5 s first] 1 none t) ⟨rfl, rfl, rfl⟩ rfl rfl
    have s1 := step_lit (m := rs code3 text text.size s 7 s s first #[] (-1) (-1) [fr0 5 s first] 1 none ((t.add 6).add 44)) ⟨rfl, rfl, rfl⟩ rfl 46 rfl rfl
    -- the answer no
    have no : ∀ (pc pos : Nat) (t : Sre.Seen), next3 text (fuel + 1) s = next3 text fuel (s + 1) ∨ s = text.size → ∃ m', Gets (4 * fuel + 7) (rs code3 text text.size s pc pos s first #[] (-1) (-1) [fr0 5 s first] 1 (some false) t) m' ∧ match next3 text (fuel + 1) s with
      | some b => m'.outcome = some .matched ∧ m'.start = b ∧ m'.handed = b + 1
      | none => m'.outcome = some .failed := fun pc pos t hn => by
      have sa := step_ans (m := rs code3 text text.size s pc pos s first #[] (-1) (-1) [fr0 5 s first] 1 (some false) t) rfl rfl rfl
      by_cases hlt : s < text.size
      · rcases hn with hn | hn
        · rw [hn]
          obtain ⟨m', g, h⟩ := run3 fuel (s + 1) false t hlt (by omega)
          refine ⟨m', Gets.mono (Gets.one (sa.trans ?_) g) (by omega), h⟩
          unfold Sre.M.resume
          show (if s < text.size then _ else _) = _
          rw [if_pos hlt]; rfl
        · omega
      · have e : next3 text (fuel + 1) s = none := by unfold next3; rw [if_pos (Nat.not_lt.mp hlt)]
        rw [e]
        have se := step_end (m := rs code3 text text.size s 5 s s first #[] (-1) (-1) [] 0 (some false) t) (b := false) rfl rfl rfl
        have sb : (rs code3 text text.size s pc pos s first #[] (-1) (-1) [fr0 5 s first] 1 (some false) t).step = rs code3 text text.size s 5 s s first #[] (-1) (-1) [] 0 (some false) t := by
          rw [sa]
          unfold Sre.M.resume
          show (if s < text.size then _ else _) = _
          rw [if_neg hlt]; rfl
        exact ⟨_, Gets.mono (Gets.one sb (Gets.one se (.refl _))) (by omega), rfl⟩
    by_cases h1 : (s == 0 || text.getD (s - 1) 0 == 10) = true
    · have s0' : (rs code3 text text.size s 5 s s first #[] (-1) (-1) [fr0 5 s first] 1 none t).step = rs code3 text text.size s 7 s s first #[] (-1) (-1) [fr0 5 s first] 1 none ((t.add 6).add 44) := by
        rw [s0]; exact if_pos h1
      by_cases h2 : s < text.size ∧ text.getD s 0 = 46
      · have s1' : (rs code3 text text.size s 7 s s first #[] (-1) (-1) [fr0 5 s first] 1 none ((t.add 6).add 44)).step = rs code3 text text.size s 9 (s + 1) s first #[] (-1) (-1) [fr0 5 s first] 1 none (((t.add 6).add 44).add 16) := by
          rw [s1]; exact if_pos h2
        have s2 : (rs code3 text text.size s 9 (s + 1) s first #[] (-1) (-1) [fr0 5 s first] 1 none (((t.add 6).add 44).add 16)).step = rs code3 text text.size s 9 (s + 1) (s + 1) first #[] (-1) (-1) [fr0 5 s first] 1 (some true) ((((t.add 6).add 44).add 16).add 1) := by
          rw [step_succ ⟨rfl, rfl, rfl⟩ rfl rfl rfl]; rfl
        obtain ⟨m', g, h⟩ := yes_end (code := code3) (text := text) (ls := text.size) (b := s) (pc := 9) (pos := s + 1) (handed := s + 1) (pc0 := 5) (w := 1) (out := first) (first := first) (marks := #[]) (lm := -1) (li := -1) (t := ((((t.add 6).add 44).add 16).add 1))
        have e : next3 text (fuel + 1) s = some s := by
          unfold next3; rw [if_neg (Nat.not_le.mpr h2.1), if_pos (by unfold ok3; rw [h1, h2.2]; rfl)]
        rw [e]
        exact ⟨m', Gets.mono (.one s0' (.one s1' (.one s2 g))) (by omega), h.1, h.2.1, h.2.2.1⟩
      · have s1' : (rs code3 text text.size s 7 s s first #[] (-1) (-1) [fr0 5 s first] 1 none ((t.add 6).add 44)).step = rs code3 text text.size s 7 s s first #[] (-1) (-1) [fr0 5 s first] 1 (some false) (((t.add 6).add 44).add 16) := by
          rw [s1]; exact if_neg h2
        obtain ⟨m', g, h⟩ := no 7 s (((t.add 6).add 44).add 16) (by
          by_cases hlt : s < text.size
          · left
            conv => lhs; unfold next3
            rw [if_neg (Nat.not_le.mpr hlt), if_neg (by
              unfold ok3; rw [h1]
              intro z
              exact h2 ⟨hlt, by simpa using z⟩)]
          · right; omega)
        exact ⟨m', Gets.mono (.one s0' (.one s1' g)) (by omega), h⟩
    · have s0' : (rs code3 text text.size s 5 s s first #[] (-1) (-1) [fr0 5 s first] 1 none t).step = rs code3 text text.size s 5 s s first #[] (-1) (-1) [fr0 5 s first] 1 (some false) ((t.add 6).add 44) := by
        rw [s0]; exact if_neg h1
      obtain ⟨m', g, h⟩ := no 5 s ((t.add 6).add 44) (by
        by_cases hlt : s < text.size
        · left
          conv => lhs; unfold next3
          rw [if_neg (Nat.not_le.mpr hlt), if_neg (by
            unfold ok3; rw [eq_false_of_ne_true h1]
            intro z; cases z)]
        · right; omega)
      exact ⟨m', Gets.mono (.one s0' g) (by omega), h⟩
end

/-- what a search finds: start and end -/
noncomputable def Finds (code : Array Nat) (groups : Nat) (text : Array Nat) (p : Nat) (r : Option (Nat × Nat)) : Prop :=
  ∃ m', Gets 900000000 (forSearch code text groups p text.size false) m' ∧ match r with
    | some (b, e) => m'.outcome = some .matched ∧ m'.start = b ∧ m'.handed = e ∧ b < e ∧ e ≤ text.size ∧ p ≤ b ∧ (groups = 1 → m'.marks = #[some b, some e] ∧ m'.lastmark = 1 ∧ m'.lastindex = 1)
    | none => m'.outcome = some .failed

theorem nextGood_some {good : Nat → Bool} {text : Array Nat} : ∀ {fuel s b : Nat}, nextGood good text fuel s = some b → b < text.size ∧ good (text.getD b 0) = true ∧ s ≤ b
  | 0, s, b, h => by cases h
  | fuel + 1, s, b, h => by
    unfold nextGood at h
    by_cases h1 : s ≥ text.size
    · rw [if_pos h1] at h; cases h
    · rw [if_neg h1] at h
      by_cases h2 : good (text.getD s 0) = true
      · rw [if_pos h2] at h; cases h; exact ⟨Nat.not_le.mp h1, h2, Nat.le_refl _⟩
      · rw [if_neg h2] at h
        have := nextGood_some h
        exact ⟨this.1, this.2.1, by omega⟩
theorem say_end {m : Sre.M} (h1 : m.frames = []) (h2 : m.outcome = none) : ∃ m', Gets 900000000 (m.say false) m' ∧ m'.outcome = some .failed := by
  obtain ⟨m', g, h⟩ := say_false h1 h2
  exact ⟨m', g.mono (by decide), h⟩

theorem finds1 (text : Array Nat) (p : Nat) : Finds code1 0 text p ((nextGood (fun c => !safe1 c) text (text.size + 1 - p) p).map fun b => (b, b + 1)) := by
  unfold Finds; rw [fs1]
  by_cases h : (decide (p > text.size) || decide (text.size - p < 1)) = true
  · rw [if_pos h]
    have hp : p ≥ text.size := by simp at h; omega
    have e : nextGood (fun c => !safe1 c) text (text.size + 1 - p) p = none := by
      cases q : text.size + 1 - p with
      | zero => rfl
      | succ n => unfold nextGood; rw [if_pos hp]
    rw [e]; exact say_end rfl rfl
  · rw [if_neg h]
    obtain ⟨t, e⟩ := af_some (m := m0 code1 text 0 18 p text.size) (good := fun c => !safe1 c) set1a rfl rfl p true
    rw [e, show (m0 code1 text 0 18 p text.size).text = text from rfl]
    cases q : nextGood (fun c => !safe1 c) text (text.size + 1 - p) p with
    | none => exact say_end rfl rfl
    | some b =>
      obtain ⟨h1, h2, h3⟩ := nextGood_some q
      obtain ⟨m', g, h⟩ := run1 text b text.size t h1 (by simpa using h2)
      exact ⟨m', g.mono (by decide), h.1, h.2.1, h.2.2, Nat.lt_succ_self _, h1, h3, fun z => by cases z⟩
theorem finds2 (text : Array Nat) (p : Nat) : Finds code2 1 text p ((nextGood good2 text (text.size + 1 - p) p).map fun b => (b, b + 1)) := by
  unfold Finds; rw [fs2]
  by_cases h : (decide (p > text.size) || decide (text.size - p < 1)) = true
  · rw [if_pos h]
    have hp : p ≥ text.size := by simp at h; omega
    have e : nextGood good2 text (text.size + 1 - p) p = none := by
      cases q : text.size + 1 - p with
      | zero => rfl
      | succ n => unfold nextGood; rw [if_pos hp]
    rw [e]; exact say_end rfl rfl
  · rw [if_neg h]
    obtain ⟨t, e⟩ := af_some (m := m0 code2 text 1 15 p text.size) (good := good2) set2a rfl rfl p true
    rw [e, show (m0 code2 text 1 15 p text.size).text = text from rfl]
    cases q : nextGood good2 text (text.size + 1 - p) p with
    | none => exact say_end rfl rfl
    | some b =>
      obtain ⟨h1, h2, h3⟩ := nextGood_some q
      obtain ⟨m', g, h⟩ := run2 text b text.size t h1 h2
      exact ⟨m', g.mono (by decide), h.1, h.2.1, h.2.2.1, Nat.lt_succ_self _, h1, h3, fun _ => h.2.2.2⟩
theorem end4_bounds {text : Array Nat} {b : Nat} (hb : b < text.size) : b < end4 text b ∧ end4 text b ≤ text.size := by
  unfold end4
  by_cases h : text.getD b 0 = 13 ∧ b + 1 < text.size ∧ text.getD (b + 1) 0 = 10
  · rw [if_pos h]; exact ⟨by omega, h.2.1⟩
  · rw [if_neg h]; exact ⟨by omega, hb⟩
theorem finds4 (text : Array Nat) (p : Nat) : Finds code4 0 text p ((nextGood good4 text (text.size + 1 - p) p).map fun b => (b, end4 text b)) := by
  unfold Finds; rw [fs4]
  by_cases h : (decide (p > text.size) || decide (text.size - p < 1)) = true
  · rw [if_pos h]
    have hp : p ≥ text.size := by simp at h; omega
    have e : nextGood good4 text (text.size + 1 - p) p = none := by
      cases q : text.size + 1 - p with
      | zero => rfl
      | succ n => unfold nextGood; rw [if_pos hp]
    rw [e]; exact say_end rfl rfl
  · rw [if_neg h]
    obtain ⟨t, e⟩ := af_some (m := m0 code4 text 0 10 p text.size) (good := good4) set4 rfl rfl p true
    rw [e, show (m0 code4 text 0 10 p text.size).text = text from rfl]
    cases q : nextGood good4 text (text.size + 1 - p) p with
    | none => exact say_end rfl rfl
    | some b =>
      obtain ⟨h1, h2, h3⟩ := nextGood_some q
      obtain ⟨m', g, h⟩ := run4 text b text.size t h1 h2
      exact ⟨m', g.mono (by decide), h.1, h.2.1, h.2.2, (end4_bounds h1).1, (end4_bounds h1).2, h3, fun z => by cases z⟩
theorem next3_some {text : Array Nat} : ∀ {fuel s b : Nat}, next3 text fuel s = some b → b < text.size ∧ s ≤ b
  | 0, s, b, h => by cases h
  | fuel + 1, s, b, h => by
    unfold next3 at h
    by_cases h1 : s ≥ text.size
    · rw [if_pos h1] at h; cases h
    · rw [if_neg h1] at h
      by_cases h2 : ok3 text s = true
      · rw [if_pos h2] at h; cases h; exact ⟨Nat.not_le.mp h1, Nat.le_refl _⟩
      · rw [if_neg h2] at h
        have := next3_some h
        exact ⟨this.1, by omega⟩
theorem finds3 (text : Array Nat) (p : Nat) (hz : text.size ≤ 100000000) : Finds code3 0 text p ((next3 text (text.size + 1 - p) p).map fun b => (b, b + 1)) := by
  unfold Finds; rw [fs3]
  by_cases h : (decide (p > text.size) || decide (text.size - p < 1)) = true
  · rw [if_pos h]
    have hp : p ≥ text.size := by simp at h; omega
    have e : next3 text (text.size + 1 - p) p = none := by
      cases q : text.size + 1 - p with
      | zero => rfl
      | succ n => unfold next3; rw [if_pos hp]
    rw [e]; exact say_end rfl rfl
  · rw [if_neg h]
    have hp : p ≤ text.size := by simp at h; omega
    obtain ⟨m', g, h⟩ := run3 text (text.size + 1 - p) p true (({} : Sre.Seen).add 14) hp rfl
    refine ⟨m', g.mono (by omega), ?_⟩
    cases q : next3 text (text.size + 1 - p) p with
    | none => rw [q] at h; exact h
    | some b =>
      rw [q] at h
      obtain ⟨h1, h3⟩ := next3_some q
      exact ⟨h.1, h.2.1, h.2.2, Nat.lt_succ_self _, h1, h3, fun z => by cases z⟩
end Mine
end

section
open PySem PySem.W PyProof.Rows PySem.Sre
namespace Mine
theorem pa_pat : PlainAttrs "re.Pattern" :=
  ⟨⟨"object.__getattribute__", by rw [typeLookup_type, builtinLookup_eq_fast]; kernel_rfl, by decide +kernel⟩, by rw [typeLookup_type, builtinLookup_eq_fast]; kernel_rfl⟩
theorem slot_sub : Slot "re.Pattern" "sub" "re.Pattern.sub" :=
  .of (owner := "re.Pattern") (n := "sub") (by rw [typeLookup_type, builtinLookup_eq_fast]; kernel_rfl) (by decide +kernel) (by decide +kernel) (by decide +kernel)
    (by first | exact .inl (by decide +kernel) | exact .inr (by decide +kernel)) (by rw [isSubtype_type]; kernel_rfl)
theorem type_sub : typeOf (.builtin "re.Pattern.sub") = pure (.type "method_descriptor") := by show builtinType _ = _; rw [builtinType_eq_fast]; kernel_rfl
theorem entry_sub : entryFor table "re.Pattern.sub" = some Builtin.«re.Pattern.sub» := entryFor_of_tree (by kernel_rfl)
theorem entry_loop : entryFor table "re.Pattern.sub.loop" = some Builtin.«re.Pattern.sub.loop» := entryFor_of_tree (by kernel_rfl)
theorem entry_search : entryFor table "re.Pattern.search" = some Builtin.«re.Pattern.search» := entryFor_of_tree (by kernel_rfl)
theorem owner_pat : Manifest.owners.lookup (String.ofList ['n', 'r', 'e', 't', 't', 'a', 'P', '.', 'e', 'r'].reverse) = some Manifest.sig_re_Pattern := by kernel_rfl
theorem args_sub (a b c : Value) : argsOk "re.Pattern.sub" ⟨[a, b, c], []⟩ := by
  unfold argsOk; rw [signature?_of (id := "re.Pattern.sub") (n := ['b', 'u', 's']) (o := ['n', 'r', 'e', 't', 't', 'a', 'P', '.', 'e', 'r']) (by kernel_rfl) owner_pat]; kernel_rfl
theorem pa_match : PlainAttrs "re.Match" :=
  ⟨⟨"object.__getattribute__", by rw [typeLookup_type, builtinLookup_eq_fast]; kernel_rfl, by decide +kernel⟩, by rw [typeLookup_type, builtinLookup_eq_fast]; kernel_rfl⟩
theorem slot_group : Slot "re.Match" "group" "re.Match.group" :=
  .of (owner := "re.Match") (n := "group") (by rw [typeLookup_type, builtinLookup_eq_fast]; kernel_rfl) (by decide +kernel) (by decide +kernel) (by decide +kernel)
    (by first | exact .inl (by decide +kernel) | exact .inr (by decide +kernel)) (by rw [isSubtype_type]; kernel_rfl)
theorem type_group : typeOf (.builtin "re.Match.group") = pure (.type "method_descriptor") := by show builtinType _ = _; rw [builtinType_eq_fast]; kernel_rfl
theorem entry_group : entryFor table "re.Match.group" = some Builtin.«re.Match.group» := entryFor_of_tree (by kernel_rfl)
theorem owner_match : Manifest.owners.lookup (String.ofList ['h', 'c', 't', 'a', 'M', '.', 'e', 'r'].reverse) = some Manifest.sig_re_Match := by kernel_rfl
theorem args_group (a b : Value) : argsOk "re.Match.group" ⟨[a, b], []⟩ := by
  unfold argsOk; rw [signature?_of (id := "re.Match.group") (n := ['p', 'u', 'o', 'r', 'g']) (o := ['h', 'c', 't', 'a', 'M', '.', 'e', 'r']) (by kernel_rfl) owner_match]; kernel_rfl
theorem slot_tr : Slot "str" "translate" "str.translate" :=
  .of (owner := "str") (n := "translate") (by rw [typeLookup_type, builtinLookup_eq_fast]; kernel_rfl) (by decide +kernel) (by decide +kernel) (by decide +kernel)
    (by first | exact .inl (by decide +kernel) | exact .inr (by decide +kernel)) (by rw [isSubtype_type]; kernel_rfl)
theorem quiet_loop (args : Args) : (Code.builtin "re.Pattern.sub.loop" args).quiet = true := plainId_quiet (by decide +kernel) args
theorem quiet_search (args : Args) : (Code.builtin "re.Pattern.search" args).quiet = true := plainId_quiet (by decide +kernel) args
theorem quiet_append (args : Args) : (Code.builtin "list.append" args).quiet = true := plainId_quiet (by decide +kernel) args
end Mine
end

section
open PySem PySem.W PyProof.Rows PySem.Sre
open Builtin.Re
namespace Mine
structure Pat (h : Heap) (a tup : Addr) (code : Array Nat) (groups : Nat) : Prop where
  obj : ∃ o pv, h.get? a = some o ∧ o.data = .fields pv ∧ reRawNat (pv.getD 6 .none) = 0 ∧ pv.getD 5 .none = .ref tup ∧ reRawNat (pv.getD 2 .none) = groups
  tup : ∃ o items n, h.get? tup = some o ∧ o.data = .seq items n ∧ (items.map reRawOf).map (·.toNat) = code

section
variable {prog : Program} {w : World} {A : Around} {E : Value → Shared → Prop} {s : Shared}

theorem wp_whole {a tup : Addr} {code : Array Nat} {groups : Nat} {x : Str} {t : Tok} {Q : ReTarget → Shared → Prop} (P : Pat s.heap a tup code groups)
    (h : Q ⟨.ref a, .str x t, code, x.cps, 0, groups, 0, x.cps.size⟩ s) : wpAny (model prog w) A (reWholeTarget (.ref a) (.str x t)) Q E s := by
  obtain ⟨o, pv, e1, e2, e3, e4, e5⟩ := P.obj
  obtain ⟨o', items, n, f1, f2, f3⟩ := P.tup
  unfold reWholeTarget
  refine wpAny_bind (wpAny_fieldsOf e1 e2 ?_)
  refine wpAny_bind (wpAny_of_eq (a := (x.cps, 0)) rfl ?_)
  dsimp only
  rw [e3, e4, e5]
  refine wpAny_bind (wpAny_of_eq (a := ()) rfl ?_)
  unfold reRawItems
  refine wpAny_bind (wpAny_bind (wpAny_seqItems f1 f2 (wpAny_pure ?_)))
  refine wpAny_pure ?_
  simp only [Option.getD_some]
  rw [f3]
  exact h

theorem wp_found {a tup : Addr} {code : Array Nat} {groups : Nat} {x : Str} {t : Tok} {p : Nat} {r : Option (Nat × Nat)} (f : Finds code groups x.cps p r) {Q : Option Sre.M → Shared → Prop}
    (h : ∀ m, (match r with
      | some (b, e) => m.start = b ∧ m.handed = e ∧ (groups = 1 → m.marks = #[some b, some e] ∧ m.lastmark = (1 : Int) ∧ m.lastindex = (1 : Int))
      | none => True) → Q (r.map fun _ => m) s) :
    wpAny (model prog w) A (reRunToEnd (Sre.forSearch code x.cps groups p x.cps.size false)) Q E s := by
  obtain ⟨m', g, hm⟩ := f
  cases r with
  | none =>
    exact runToEnd g (by decide) (b := false) hm (h m' trivial)
  | some be =>
    obtain ⟨b, e⟩ := be
    exact runToEnd g (by decide) (b := true) hm.1 (h m' ⟨hm.2.1, hm.2.2.1, hm.2.2.2.2.2.2⟩)

/-- a match object, no group -/
theorem wp_match0 {pat str : Value} {pos lim : Nat} {m : Sre.M} {Q : Value → Shared → Prop} (h : ∀ s' y, (∀ b o, s.heap.get? b = some o → s'.heap.get? b = some o) → s'.os = s.os → (s'.gens, s'.drawn) = (s.gens, s.drawn) → Q (.ref y) s') :
    wpAny (model prog w) A (reNewMatch pat str 0 pos lim m) Q E s := by
  unfold reNewMatch
  dsimp only
  refine wpAny_bind (wpAny_newTuple (wpAny_newObj_type (h _ _ ?_ rfl rfl) ?_) (by show 2 ≤ sizeLine; decide))
  · exact fun b o e => Heap.get?_push_of_some _ (Heap.get?_push_of_some _ e)
  · show (6 : Nat) ≤ sizeLine + 2; decide
/-- a match object, one group -/
theorem wp_match1 {α : List Addr} {pat : Value} {x : Str} {t : Tok} {pos lim b e : Nat} {m : Sre.M} {Q : Value → Shared → Prop} (hm : m.start = b ∧ m.handed = e ∧ m.marks = #[some b, some e] ∧ m.lastmark = 1 ∧ m.lastindex = 1) (hbe : b < e)
    (h : ∀ s' y, (∀ b o, s.heap.get? b = some o → s'.heap.get? b = some o) → s'.os = s.os → (s'.gens, s'.drawn) = (s.gens, s.drawn) → VR α s'.heap (.mtch ⟨x.cps.extract b e⟩) (.ref y) → Q (.ref y) s') :
    wpAny (model prog w) A (reNewMatch pat (.str x t) 1 pos lim m) Q E s := by
  obtain ⟨h1, h2, h3, h4, h5⟩ := hm
  unfold reNewMatch
  rw [h1, h2, h3, h4, h5]
  dsimp only
  rw [if_neg (show ¬ _ from by
    simp [List.range, List.range.loop]
    omega)]
  refine wpAny_bind (wpAny_newTuple (wpAny_newObj_type (h _ _ ?_ rfl rfl ?_) ?_) (by show 4 ≤ sizeLine; decide))
  · exact fun b o e => Heap.get?_push_of_some _ (Heap.get?_push_of_some _ e)
  · exact ⟨_, _, _, _, _, _, _, _, _, _, rfl, Heap.get?_push_size _ rfl, rfl, ⟨rfl, rfl⟩, rfl, rfl, ⟨_, _, Heap.get?_push_of_some _ (Heap.get?_push_size _ rfl), rfl, rfl⟩, Int.natCast_nonneg _, Int.natCast_nonneg _, rfl⟩
  · show (6 : Nat) ≤ sizeLine + 2; decide
end
end Mine
end

section
open PySem PySem.W PyProof.Rows PySem.Sre
open Builtin.Re
namespace Mine
noncomputable def Ok.in1 {k : Nat} {A : Around} (h : Ok k A) (hk : k < 100) : Ok (k + 1) A.in1 := by
  obtain ⟨h1, h2, h3, h4⟩ := h
  exact ⟨h1, by show A.depth ≤ _; omega, by show A.units + 1 ≤ _; omega, by omega⟩

section
variable {C : Cx} {k : Nat} {F : FrD} {loc : List (Option V)} {hp : List Cell}

theorem set_same {l : List Cell} {n : Nat} {c : Cell} (h : l[n]? = some c) : l.set n c = l := by
  apply List.ext_getElem?
  intro i
  by_cases hi : n = i
  · subst hi; rw [List.getElem?_set_self (List.getElem?_eq_some_iff.mp h).1, h]
  · rw [List.getElem?_set_ne hi]
/-- a list of strings is joined -/
theorem call_join {n : Nat} {sep : Str} {xs : List Str} {Φ : V → List Cell → Prop} (e : hp[n]? = some (some (xs.map V.str))) (hz : (xs.map (·.length)).sum + xs.length * sep.length ≤ sizeLine) (h : Φ (.str (Str.join sep xs)) hp) :
    ACall C k hp (.builtin "str.join") [.str sep, .lst n] Φ := fun A α s Q E us hA R hb r hQ => by
  cases r with
  | cons r1 r =>
  cases r with
  | cons r2 r =>
  cases r
  obtain ⟨t, rfl⟩ := r1
  obtain ⟨a, ys, m, rfl, ea, e1, e2⟩ := R.lstAt e r2
  have hl : ∃ l : List (Str × Tok), strValues l = ys.toList ∧ l.map (·.1) = xs := by
    generalize ys.toList = zs at e2
    clear e e1 hz h
    revert zs
    induction xs with
    | nil => intro zs e2; cases e2; exact ⟨[], rfl, rfl⟩
    | cons x xs ih =>
      intro zs e2
      cases e2 with
      | cons h1 h2 =>
        obtain ⟨u, rfl⟩ := h1
        obtain ⟨l, rfl, rfl⟩ := ih _ h2
        exact ⟨(x, u) :: l, rfl, rfl⟩
  obtain ⟨l, hl1, rfl⟩ := hl
  have e3 : s.heap.IsList a (strValues l).toArray := by rw [hl1]; exact ⟨_, e1, rfl, _, rfl⟩
  refine SC.join e3 rfl ?_ fun t' tk => ?_
  · unfold JoinOk Builtin.Str.tooLong
    rw [StrLaws.joinTotal]
    simpa using hz
  · have : Txt.join sep (l.map (·.1)) = Str.join sep (l.map (·.1)) := by unfold Txt.join; exact StrLaws.glued_eq_join _ _
    rw [this]
    exact hQ _ _ _ _ _ h (toksNx s _) R ⟨_, rfl⟩

/-- a string is pushed behind a list of ours -/
theorem push_piece {A : Around} {α : List Addr} {s : Shared} {Q : Unit → Shared → Prop} {E : Value → Shared → Prop} {n : Nat} {D : Addr} {vs : List V} {v : V} {u : Value} (R : HR C hp α s.heap) (ea : α[n]? = some D) (e : hp[n]? = some (some vs)) (r : VR α s.heap v u)
    (hz : vs.length ≤ 1000000) (h : ∀ h', Nx C [] α s α { s with heap := h' } → HR C (hp.set n (some (vs ++ [v]))) α h' → Kp s.heap h' → Q () { s with heap := h' }) :
    wpAny C.M A (updateSeq D (·.push u)) Q E s := by
  obtain ⟨a, xs, m, q, ea', e1, e2⟩ := R.lstAt (u := .ref D) e ⟨D, ea, rfl⟩
  cases q
  have hs0 := F2.length e2
  have hsz : xs.size ≤ sizeLine := by
    simp at hs0
    rw [sizeLine_eq]; omega
  refine wpAny_updateSeq e1 rfl ?_ hsz (by simp; exact hsz)
  have hs : Heap.SameBut D s.heap (s.heap.update D (Obj.mapSeq (·.push u))) := Heap.SameBut.update ..
  have e' : (s.heap.update D (Obj.mapSeq (·.push u))).get? D = some (listOf (xs.push u) (m + 1)) := by
    rw [Heap.get?_update_self _ e1 (by rw [mapSeq_push]; rfl), mapSeq_push]
  obtain ⟨R2, kp⟩ := R.setList (vs := vs ++ [v]) ea hs e' (by simpa using F2.append e2 (.cons r .nil))
  exact h _ (.setList (List.mem_of_getElem? ea) hs e' s.toks) R2 kp

noncomputable def subOut (find : Nat → Option (Nat × Nat)) (rep : Str → Str) (text : Array Nat) : Nat → Nat → List Str
  | 0, _ => []
  | fuel + 1, done => match find done with
    | some (b, e) => (if done < b then [⟨text.extract done b⟩] else []) ++ rep ⟨text.extract b e⟩ :: subOut find rep text fuel e
    | none => if done < text.size then [⟨text.extract done text.size⟩] else []

noncomputable def itemT (way : Int) (repl pattern string : Value) (groups lim : Nat) (m : Sre.M) : Sem Value :=
  if way == 0 then pure repl else do
    let found ← reNewMatch pattern string groups 0 lim m
    holding [found] (if way == 1 then call repl [found] else do reExpand repl (← reFound found))

/-- what puts the piece in -/
noncomputable def AItem (C : Cx) (k : Nat) (P : Heap → Prop) (way : Int) (repl pattern : Value) (x : Str) (t : Tok) (groups : Nat) (rep : Str → Str) : Prop :=
  ∀ (A : Around) (α : List Addr) (hp : List Cell) (s : Shared) (Q : Value → Shared → Prop) (E : Value → Shared → Prop) (m : Sre.M) (b e : Nat), Ok k A → HR C hp α s.heap → Br C s → P s.heap →
    m.start = b ∧ m.handed = e ∧ (groups = 1 → m.marks = #[some b, some e] ∧ m.lastmark = (1 : Int) ∧ m.lastindex = (1 : Int)) → b < e → e ≤ x.cps.size →
    (∀ u α' s', Nx C [] α s α' s' → HR C hp α' s'.heap → Q (.str (rep ⟨x.cps.extract b e⟩) u) s') → wpAny C.M A (itemT way repl pattern (.str x t) groups x.cps.size m) Q E s

theorem Nx.len {own α α' : List Addr} {s s' : Shared} (x : Nx C own α s α' s') {n : Nat} {a : Addr} (h : α[n]? = some a) : α'[n]? = some a := by
  obtain ⟨β, rfl, _⟩ := x.ext
  rw [List.getElem?_append_left (List.getElem?_eq_some_iff.mp h).1]; exact h

theorem item_bind {A : Around} {s : Shared} {Q : Fin → Shared → Prop} {E : Value → Shared → Prop} {way : Int} {repl pattern string : Value} {groups lim : Nat} {m : Sre.M} {K : Value → Sem Fin}
    (h : wpAny C.M A (itemT way repl pattern string groups lim m) (fun u s' => wpAny C.M A (K u) Q E s') E s) :
    wpAny C.M A (if (way == 0) = true then (do let item ← pure repl; K item) else do
      let found ← reNewMatch pattern string groups 0 lim m
      let item ← holding [found] (if (way == 1) = true then call repl [found] else do reExpand repl (← reFound found))
      K item) Q E s := by
  unfold itemT at h
  by_cases hw : (way == 0) = true
  · rw [if_pos hw] at h ⊢
    exact wpAny_bind h
  · rw [if_neg hw] at h ⊢
    have := wpAny_bind h
    simp only [bind_assoc] at this
    exact this

theorem wp_slice {A : Around} {s : Shared} {Q : Value → Shared → Prop} {E : Value → Shared → Prop} {text : Array Nat} {b e : Nat} (hz : text.size ≤ 100000) (h : Q (.str ⟨text.extract b e⟩ s.toks) { s with toks := s.toks + 1 }) : wpAny C.M A (reSlice text 0 b e) Q E s := by
  unfold reSlice
  simp only [beq_self_eq_true, if_true]
  refine wpAny_mkStr h ?_
  show (text.extract b e).size ≤ sizeLine
  rw [Array.size_extract, sizeLine_eq]
  omega

theorem subOut_some {find : Nat → Option (Nat × Nat)} {rep : Str → Str} {text : Array Nat} {fuel done b e : Nat} (h : find done = some (b, e)) :
    subOut find rep text (fuel + 1) done = (if done < b then [⟨text.extract done b⟩] else []) ++ rep ⟨text.extract b e⟩ :: subOut find rep text fuel e := by
  conv => lhs; unfold subOut
  rw [h]
theorem subOut_none {find : Nat → Option (Nat × Nat)} {rep : Str → Str} {text : Array Nat} {fuel done : Nat} (h : find done = none) :
    subOut find rep text (fuel + 1) done = if done < text.size then [⟨text.extract done text.size⟩] else [] := by
  conv => lhs; unfold subOut
  rw [h]

theorem wp_end {A : Around} {α : List Addr} {s : Shared} {E : Value → Shared → Prop} {Q : Fin → Shared → Prop} {text : Array Nat} {D : Addr} {j : Nat} {i : Int} {vs : List Str} (hA : Ok k A) (R : HR C hp α s.heap) (hb : Br C s) (ea : α[j]? = some D) (e : hp[j]? = some (some (vs.map V.str)))
    (hz : (vs.map (·.length)).sum ≤ 1000000) (hx : text.size ≤ 100000) (hQ : ∀ u α' s', Nx C [] α s α' s' → HR C hp α' s'.heap → Q (.done (.ret (.str (Str.join ⟨#[]⟩ vs) u))) s') :
    wpAny C.M A (do
      let joiner ← reSlice text 0 0 0
      let xs ← seqItems? (.ref D)
      if (xs.getD #[]).isEmpty = true then (do
        let t ← pure joiner
        if false = true then (do
          let p ← holding [t] (do
            let c ← mkInt i
            newTuple [t, c])
          ret p) else ret t)
      else (do
        let t ← call (.builtin (if ((0 : Nat) == 0) = true then "str.join" else "bytes.join")) [joiner, .ref D]
        if false = true then (do
          let p ← holding [t] (do
            let c ← mkInt i
            newTuple [t, c])
          ret p) else ret t)) Q E s := by
  obtain ⟨a, xs, m, q, ea', e1, e2⟩ := R.lstAt (u := .ref D) e ⟨D, ea, rfl⟩
  cases q
  refine wpAny_bind (wp_slice hx ?_)
  have e0 : text.extract 0 0 = #[] := by simp
  rw [e0]
  refine wpAny_bind (wpAny_seqItems (s := { s with toks := s.toks + 1 }) e1 rfl ?_)
  have hlen := F2.length e2
  by_cases hem : ((some xs).getD #[]).isEmpty = true
  · rw [if_pos hem]
    have : vs = [] := by
      have h0 : xs.size = 0 := by simpa using hem
      simp [h0] at hlen
      exact List.eq_nil_of_length_eq_zero hlen.symm
    subst this
    exact wpAny_bind (wpAny_pure (wpAny_pure (hQ _ α _ (toksNx s _) R)))
  · rw [if_neg hem]
    refine wpAny_bind (call_join (k := k) (sep := ⟨#[]⟩) (xs := vs) (Φ := fun v hp' => v = .str (Str.join ⟨#[]⟩ vs) ∧ hp' = hp) e ?_ ⟨rfl, rfl⟩ A α { s with toks := s.toks + 1 } _ _ [_, _] hA R hb (.cons ⟨_, rfl⟩ (.cons ⟨D, ea, rfl⟩ .nil)) fun v hp' α' s' y p n2 R2 r2 => ?_)
    · have : (⟨#[]⟩ : Str).length = 0 := rfl
      rw [this, sizeLine_eq]; omega
    · obtain ⟨rfl, rfl⟩ := p
      obtain ⟨u, rfl⟩ := r2
      exact wpAny_pure (hQ u α' s' ((toksNx s _).trans n2) R2)

theorem sub_loop {P : Heap → Prop} {way : Int} {repl : Value} {a tup : Addr} {code : Array Nat} {groups : Nat} {x : Str} {t : Tok} {find : Nat → Option (Nat × Nat)} {rep : Str → Str}
    (hP : ∀ h h', P h → Kp h h' → P h') (hw : way ≠ 0 ∨ ∃ y u, repl = .str y u)
    (pat : ∀ (hp : List Cell) (α : List Addr) (h : Heap), HR C hp α h → Pat h a tup code groups) (hk : k < 99) (item : AItem C (k + 1) P way repl (.ref a) x t groups rep)
    (hx : x.cps.size ≤ 100000) (hf : ∀ p, Finds code groups x.cps p (find p)) (hr : ∀ y : Str, 0 < y.length → (rep y).length ≤ 2 * y.length) {j : Nat} {D : Addr} :
    ∀ (fuel n done : Nat) (vs : List Str) (A : Around) (α : List Addr) (hp : List Cell) (s : Shared) (RR : Result → Shared → Prop), Ok k A → HR C hp α s.heap → Br C s → P s.heap → α[j]? = some D → hp[j]? = some (some (vs.map V.str)) →
      done ≤ x.cps.size → x.cps.size + 1 - done ≤ fuel → vs.length ≤ 2 * done → (vs.map (·.length)).sum ≤ 2 * done →
      (∀ u α' s' zs, Nx C [] α s α' s' → HR C (hp.set j (some zs)) α' s'.heap → RR (.ok (.ret (.str (Str.join ⟨#[]⟩ (vs ++ subOut find rep x.cps fuel done)) u))) s') →
      codeAny C.M A (.builtin "re.Pattern.sub.loop" ⟨[.ref a, .str x t, repl, rawInt way, rawInt 0, rawInt n, rawInt done, rawInt done, .bool false, .ref D, .bool false], []⟩) RR s
  | 0, n, done, vs, A, α, hp, s, RR, hA, R, hb, p, ea, e, hd, hfu, hl, hsum, hQ => by omega
  | fuel + 1, n, done, vs, A, α, hp, s, RR, hA, R, hb, p, ea, e, hd, hfu, hl, hsum, hQ => by
    refine codeAny_builtin entry_loop ?_
    rw [Around.under_plainId (by decide +kernel) _]
    have e' : hp[j]? = some (some (vs.map V.str)) := e
    have nextOk : ∀ (s1 : Shared) (α1 : List Addr) (hp1 : List Cell) (vs1 : List Str) (b e : Nat) (m : Sre.M), find done = some (b, e) → done ≤ b → b < e → e ≤ x.cps.size →
        (m.start = b ∧ m.handed = e ∧ (groups = 1 → m.marks = #[some b, some e] ∧ m.lastmark = (1 : Int) ∧ m.lastindex = (1 : Int))) →
        Nx C [] α s α1 s1 → HR C hp1 α1 s1.heap → Br C s1 → P s1.heap → (∀ zs, hp1.set j zs = hp.set j zs) → hp1[j]? = some (some (vs1.map V.str)) →
        vs1 = vs ++ (if done < b then [⟨x.cps.extract done b⟩] else []) →
        wpAny C.M A.in1 (itemT way repl (.ref a) (.str x t) groups x.cps.size m) (fun item s2 => wpAny C.M A.in1 (if (item != Value.none) = true then (do
            updateSeq D fun x => x.push item
            again (Code.builtin "re.Pattern.sub.loop" ⟨[Value.ref a, Value.str x t, repl, Value.int way 0, Value.int 0 0, Value.int (n + 1) 0, Value.int m.handed 0, Value.int m.handed 0, Value.bool (m.handed == b), Value.ref D, Value.bool false], []⟩))
          else again (Code.builtin "re.Pattern.sub.loop" ⟨[Value.ref a, Value.str x t, repl, Value.int way 0, Value.int 0 0, Value.int (n + 1) 0, Value.int m.handed 0, Value.int m.handed 0, Value.bool (m.handed == b), Value.ref D, Value.bool false], []⟩))
          (fun fin s' => match fin with | .done f => RR (.ok f) s' | .again c' => c'.quiet = true ∧ codeAny C.M A c' RR s') (fun e s' => RR (.error e) s') s2) (fun e s' => RR (.error e) s') s1 := by
      intro s1 α1 hp1 vs1 b e m hfd hdb hbe hes hm n1 R1 hb1 p1 hset e1 hv1
      refine item A.in1 α1 hp1 s1 _ _ m b e (hA.in1 (by omega)) R1 hb1 p1 hm hbe hes fun u α2 s2 n2 R2 => ?_
      rw [if_pos (by rfl)]
      have ea2 := n2.len (n1.len ea)
      have hlen1 : vs1.length ≤ vs.length + (b - done) := by
        rw [hv1]
        by_cases hdb2 : done < b
        · rw [if_pos hdb2, List.length_append, List.length_singleton]; omega
        · rw [if_neg hdb2, List.append_nil]; omega
      refine wpAny_bind (push_piece (v := .str (rep ⟨x.cps.extract b e⟩)) R2 ea2 e1 ⟨u, rfl⟩ (by rw [List.length_map]; omega) fun h3 n3 R3 kp3 => ?_)
      refine wpAny_pure ⟨quiet_loop _, ?_⟩
      obtain ⟨hm1, hm2, _⟩ := hm
      rw [hm2, show (e == b) = false from by simp; omega]
      have ysz : (⟨x.cps.extract b e⟩ : Str).length = e - b := by show (x.cps.extract b e).size = _; rw [Array.size_extract]; omega
      have hrl := hr ⟨x.cps.extract b e⟩ (by rw [ysz]; omega)
      rw [ysz] at hrl
      have hs1 : (vs1.map (·.length)).sum ≤ 2 * done + (b - done) := by
        rw [hv1]
        by_cases hdb2 : done < b
        · rw [if_pos hdb2]
          have : (⟨x.cps.extract done b⟩ : Str).length = b - done := by show (x.cps.extract done b).size = _; rw [Array.size_extract]; omega
          simp only [List.map_append, List.map_cons, List.map_nil, List.sum_append, List.sum_cons, List.sum_nil, this]
          omega
        · rw [if_neg hdb2, List.append_nil]; omega
      have n13 := (n1.trans n2).trans n3
      have p3 : P h3 := hP _ _ (hP _ _ p1 (n2.kp0 R1)) kp3
      refine sub_loop hP hw pat hk item hx hf hr fuel (n + 1) e (vs1 ++ [rep ⟨x.cps.extract b e⟩]) A α2 (hp1.set j (some (vs1.map V.str ++ [.str (rep ⟨x.cps.extract b e⟩)]))) { s2 with heap := h3 } RR hA R3 (n13.bare hb) p3 ea2 ?_ hes (by omega) ?_ ?_ ?_
      · rw [at_set e1, List.map_append]; rfl
      · rw [List.length_append, List.length_singleton]; omega
      · simp only [List.map_append, List.map_cons, List.map_nil, List.sum_append, List.sum_cons, List.sum_nil]
        omega
      · intro u4 α4 s4 zs n4 R4
        have := hQ u4 α4 s4 zs (n13.trans n4) (by rw [List.set_set, hset] at R4; exact R4)
        rw [subOut_some hfd, ← List.append_assoc, ← hv1, List.append_cons] at this
        exact this
    unfold Builtin.«re.Pattern.sub.loop»
    dsimp only [rawInt]
    refine wpAny_bind (wp_whole (pat hp α s.heap R) ?_)
    dsimp only
    have lit : ∀ {Kf : PUnit → Sem Fin} {Qf : Fin → Shared → Prop} {Ef : Value → Shared → Prop}, wpAny C.M A.in1 (Kf ⟨⟩) Qf Ef s → wpAny C.M A.in1 (if (way == 0) = true then (do let r ← reLiteralCannotBeTurned repl; Kf r) else Kf ⟨⟩) Qf Ef s := fun hq => by
      by_cases h0 : (way == 0) = true
      · rw [if_pos h0]
        rcases hw with hw | ⟨y, u, rfl⟩
        · exact absurd (by simpa using h0) hw
        · exact wpAny_bind (wpAny_of_eq (a := ()) rfl hq)
      · rw [if_neg h0]; exact hq
    refine lit ?_
    refine wpAny_bind ?_
    rw [if_neg (by simp)]
    unfold reNextFound
    dsimp only [Int.toNat_natCast]
    refine wp_found (a := a) (tup := tup) (t := t) (hf done) fun m hm => ?_
    have hfd := hf done
    cases q : find done with
    | none =>
      rw [q] at hm
      dsimp only [Option.map_none]
      by_cases hdl : done < x.cps.size
      · rw [if_pos hdl]
        refine wpAny_bind (wp_slice hx ?_)
        refine wpAny_bind (push_piece (s := { s with toks := s.toks + 1 }) (v := .str ⟨x.cps.extract done x.cps.size⟩) (toksHR R _) ea e' ⟨_, rfl⟩ (by rw [List.length_map]; omega) fun h3 n3 R3 kp3 => ?_)
        refine wp_end (hA.in1 (by omega)) R3 hb ea (vs := vs ++ [⟨x.cps.extract done x.cps.size⟩]) (by rw [at_set e', List.map_append]; rfl) ?_ hx fun u α4 s4 n4 R4 => ?_
        · have : (⟨x.cps.extract done x.cps.size⟩ : Str).length = x.cps.size - done := by show (x.cps.extract done x.cps.size).size = _; rw [Array.size_extract]; omega
          simp only [List.map_append, List.map_cons, List.map_nil, List.sum_append, List.sum_cons, List.sum_nil, this]
          omega
        · have := hQ u α4 s4 _ (((toksNx s _).trans n3).trans n4) R4
          rw [subOut_none q, if_pos hdl] at this
          exact this
      · rw [if_neg hdl]
        refine wp_end (hA.in1 (by omega)) R hb ea e' (by omega) hx fun u α4 s4 n4 R4 => ?_
        have := hQ u α4 s4 (vs.map V.str) n4 (by rw [set_same e']; exact R4)
        rw [subOut_none q, if_neg hdl, List.append_nil] at this
        exact this
    | some be =>
      obtain ⟨b, e⟩ := be
      rw [q] at hm hfd
      obtain ⟨m0, _, hm0⟩ := hfd
      have hbe := hm0.2.2.2.1
      have hes := hm0.2.2.2.2.1
      have hdb := hm0.2.2.2.2.2.1
      dsimp only [Option.map_some, Int.toNat_natCast] at hm ⊢
      rw [hm.1]
      by_cases hdb2 : done < b
      · rw [if_pos hdb2]
        refine wpAny_bind (wp_slice hx ?_)
        refine wpAny_bind (push_piece (s := { s with toks := s.toks + 1 }) (v := .str ⟨x.cps.extract done b⟩) (toksHR R _) ea e' ⟨_, rfl⟩ (by rw [List.length_map]; omega) fun h3 n3 R3 kp3 => ?_)
        refine item_bind (nextOk _ α _ (vs ++ [⟨x.cps.extract done b⟩]) b e m q hdb hbe hes hm ((toksNx s _).trans n3) R3 hb (hP _ _ p kp3) (fun zs => by rw [List.set_set]) ?_ (by rw [if_pos hdb2]))
        rw [at_set e', List.map_append]; rfl
      · rw [if_neg hdb2]
        exact item_bind (nextOk s α hp vs b e m q hdb hbe hes hm (.refl ..) R hb p (fun _ => rfl) e' (by rw [if_neg hdb2, List.append_nil]))
end
end Mine
end

section
open PySem PySem.W PyProof.Rows PySem.Sre
open Builtin.Re
namespace Mine
section
variable {C : Cx} {k : Nat} {F : FrD} {loc : List (Option V)} {hp : List Cell}

theorem nocall_str : typeLookup (.type "str") "__call__" = pure none := by rw [typeLookup_type, builtinLookup_eq_fast]; kernel_rfl

theorem item_lit {P : Heap → Prop} {y : Str} {u : Tok} {pat : Value} {x : Str} {t : Tok} {groups : Nat} : AItem C k P 0 (.str y u) pat x t groups (fun _ => y) := fun A α hp s Q E m b e hA R hb p hm hbe hes hQ => by
  unfold itemT
  rw [if_pos (by rfl)]
  exact wpAny_pure (hQ u α s (.refl ..) R)

theorem call_sub_lit {a tup : Addr} {code : Array Nat} {groups : Nat} {x y : Str} {find : Nat → Option (Nat × Nat)} {Φ : V → List Cell → Prop} (hk : k < 99)
    (pat : ∀ (hp : List Cell) (α : List Addr) (h : Heap), HR C hp α h → Pat h a tup code groups) (ht : HasT C (.raw (.ref a)) "re.Pattern")
    (hy : y.cps.contains 92 = false) (hy2 : y.length ≤ 2) (hx : x.cps.size ≤ 100000) (hf : ∀ p, Finds code groups x.cps p (find p))
    (h : ∀ zs, Φ (.str (Str.join ⟨#[]⟩ (subOut find (fun _ => y) x.cps (x.cps.size + 1) 0))) (hp ++ [some zs])) :
    ACall C k hp (.builtin "re.Pattern.sub") [.raw (.ref a), .str y, .str x] Φ := fun A α s Q E us hA R hb r hQ => by
  cases r with
  | cons r1 r =>
  cases r with
  | cons r2 r =>
  cases r with
  | cons r3 r =>
  cases r
  obtain ⟨u, rfl⟩ := r2
  obtain ⟨t, rfl⟩ := r3
  obtain ⟨hT, _⟩ := ht hp α s _ R r1
  cases r1
  refine wpAny_call (codeAny_call_builtin slot_sub.plain entry_sub (slot_sub.check _ _ _ _ _ _ _ _ hT (args_sub _ _ _) ?_))
  unfold Builtin.«re.Pattern.sub» reSubstitute
  dsimp only
  refine wpAny_bind (wpAny_of_eq (a := [some (.str y u), some (.str x t), none]) (by rfl) ?_)
  dsimp only
  refine wpAny_bind (wpAny_pure ?_)
  refine wpAny_bind (wpAny_specialOf (typeIs_str _ _ _) nocall_str ?_)
  rw [if_neg (by simp)]
  refine wpAny_bind (wpAny_of_eq (a := some y) rfl ?_)
  dsimp only
  refine wpAny_bind (wpAny_pure ?_)
  rw [if_neg (by simp), hy, if_pos (by rfl)]
  refine wpAny_bind (wpAny_pure ?_)
  refine wpAny_bind (wpAny_holding (wp_whole (pat hp α s.heap R) ?_))
  rw [if_neg (by intro z; cases z)]
  refine wpAny_bind (wpAny_newList ?_ (by rw [List.length_nil]; exact Nat.zero_le _))
  refine wpAny_pure ⟨quiet_loop _, ?_⟩
  have H1 : HR C (hp ++ [some []]) (α ++ [s.heap.objs.size]) (s.heap.push { cls := .type "list", data := .seq ([] : List Value).toArray }) := R.pushList (vs := []) (n := 0) .nil
  have n1 : Nx C [] α s (α ++ [s.heap.objs.size]) { s with heap := s.heap.push { cls := .type "list", data := .seq ([] : List Value).toArray } } := .push s _ [s.heap.objs.size] (by simp)
  have hlen : (hp ++ [some []] : List Cell)[hp.length]? = some (some []) := at_end _ _
  refine sub_loop (P := fun _ => True) (way := 0) (repl := .str y u) (fun _ _ _ _ => trivial) (.inr ⟨y, u, rfl⟩) pat hk item_lit hx hf (fun z hz => by omega) (j := hp.length) (D := s.heap.objs.size) (x.cps.size + 1) 0 0 [] A _ _ _ _ hA H1 hb trivial
    (by rw [← R.len]; simp) hlen (Nat.zero_le _) (by omega) (by simp) (by simp) fun u' α' s' zs n2 R2 => ?_
  rw [List.nil_append]
  refine hQ _ _ α' s' _ (h zs) (n1.trans n2) ?_ ⟨u', rfl⟩
  rw [List.set_append_right _ _ (Nat.le_refl _), Nat.sub_self] at R2
  exact R2
end
end Mine
end

section
open PySem PySem.W PyProof.Rows PySem.Sre
open Builtin.Re
namespace Mine
section
variable {prog : Program} {w : World} {A : Around} {E : Value → Shared → Prop} {s : Shared}

theorem wpAny_isType {a : Addr} {oa : Obj} {Q : Bool → Shared → Prop} (ea : s.heap.get? a = some oa) (hnc : ∀ c, oa.data ≠ .cls c) (h : Q false s) : wpAny (model prog w) A (PySem.isType (.ref a)) Q E s := by
  unfold PySem.isType
  refine wpAny_bind (wpAny_loadPart ea (wpAny_pure ?_))
  cases q : oa.data with
  | cls c => exact absurd q (hnc c)
  | _ => exact h
theorem bound_call {x a : Addr} {T id : String} {o oa : Obj} {rest : List Value} {sig : Manifest.Signature} {Q : Value → Shared → Prop} (e : s.heap.get? x = some o) (hc : o.cls = .type "builtin_function_or_method") (hd : o.data = .fields #[.builtin id, .ref a])
    (ea : s.heap.get? a = some oa) (hca : oa.cls = .type T) (hnc : ∀ c, oa.data ≠ .cls c) (hsig : Manifest.signature? id = some sig) (hkind : builtinKind id = some .method) (hva : Manifest.varargsMethods.contains id = false)
    (hsub : isSubtype (.type T) (.type "module") = pure false) (hck : Bind.checkArgs id { sig with full := s!"{Bind.lastOf T}.{Bind.lastOf id}" } ⟨.ref a :: rest, []⟩ = pure ()) (hq : ∀ args, (Code.builtin id args).quiet = true)
    (h : codeAny (model prog w) A (.builtin id ⟨.ref a :: rest, []⟩) (fun r s' => match r with | .ok (.ret v) => Q v s' | .ok _ => False | .error e => E e s') s) : wpAny (model prog w) A (call (.ref x) rest) Q E s := by
  refine wpAny_call (codeAny_of_tree ?_)
  show wpAny _ A.in1 (callAny (.ref x) ⟨rest, []⟩) _ _ s
  simp only [callAny]
  refine wpAny_bind (wpAny_load e ?_)
  rw [hc, hd]
  simp only [show (Value.type "builtin_function_or_method" == Value.type "method" || Value.type "builtin_function_or_method" == Value.type "builtin_function_or_method" || Value.type "builtin_function_or_method" == Value.type "method-wrapper") = true by decide, if_true]
  show wpAny _ _ (if (Value.type "builtin_function_or_method" != Value.type "method") = true then _ else _) _ _ _
  rw [if_pos (by decide)]
  refine wpAny_bind ?_
  unfold checkBoundCall
  rw [hsig, hkind]
  dsimp only
  rw [if_neg (by decide)]
  refine wpAny_bind (wpAny_isInstance (T := T) ⟨oa, ea, hca⟩ hsub ?_)
  rw [hva]
  rw [if_neg (by decide)]
  refine wpAny_bind ?_
  refine wpAny_isType ea hnc ?_
  rw [if_neg (by decide)]
  refine wpAny_bind (wpAny_typeOf (T := T) ⟨oa, ea, hca⟩ ?_)
  exact wpAny_of_eq hck (wpAny_pure ⟨hq _, h⟩)
end
end Mine
end

section
open PySem PySem.W PyProof.Rows
open Sem (wp)
namespace Mine
theorem look_append : typeLookup (.type "list") "append" = pure (some (.builtin "list.append")) := F.slot_list_append.lookup
theorem look_get : typeLookup (.type "method_descriptor") "__get__" = pure (some (.builtin "method_descriptor.__get__")) := by rw [typeLookup_type, builtinLookup_eq_fast]; kernel_rfl
theorem look_set : typeLookup (.type "method_descriptor") "__set__" = pure none := by rw [typeLookup_type, builtinLookup_eq_fast]; kernel_rfl
theorem look_delete : typeLookup (.type "method_descriptor") "__delete__" = pure none := by rw [typeLookup_type, builtinLookup_eq_fast]; kernel_rfl
theorem slot_mget : Slot "method_descriptor" "__get__" "method_descriptor.__get__" :=
  .of (owner := "method_descriptor") (n := "__get__") look_get (by decide +kernel) (by decide +kernel) (by decide +kernel)
    (by first | exact .inl (by decide +kernel) | exact .inr (by decide +kernel)) (by rw [isSubtype_type]; kernel_rfl)
theorem entry_mget : entryFor table "method_descriptor.__get__" = some Builtin.«method_descriptor.__get__» := entryFor_of_tree (by kernel_rfl)
theorem args_mget (a b c : Value) : argsOk "method_descriptor.__get__" ⟨[a, b, c], []⟩ := by unfold argsOk; kernel_rfl
theorem subtype_list : isSubtype (.type "list") (.type "list") = pure true := by rw [isSubtype_type]; kernel_rfl

section
variable {prog : Program} {w : World} {A : Around} {E : Value → Shared → Prop} {s : Shared}
noncomputable def boundObj (a : Addr) : Obj := { cls := .type "builtin_function_or_method", data := .fields #[.builtin "list.append", .ref a] }
theorem mget_append {a : Addr} {o : Obj} {P : Fin → Shared → Prop} (e : s.heap.get? a = some o) (hc : o.cls = .type "list") (h : P (.done (.ret (.ref s.heap.objs.size))) { s with heap := s.heap.push (boundObj a) }) :
    wpAny (model prog w) A (Builtin.«method_descriptor.__get__» ⟨[.builtin "list.append", .ref a, .type "list"], []⟩) P E s := by
  unfold Builtin.«method_descriptor.__get__»
  refine wpAny_bind (wpAny_of_eq (a := (.builtin "list.append", some (.ref a), some (.type "list"))) (by first | rfl | kernel_rfl) ?_)
  dsimp only
  rw [if_neg (by decide +kernel)]
  refine wpAny_bind (m := _) ?_
  refine wpAny_bind (m := _) (wpAny_of_eq (a := ((PySem.Str.ofString "append"), Value.type "list")) (by kernel_rfl) ?_)
  dsimp only
  refine wpAny_bind (wpAny_isInstance (T := "list") ⟨o, e, hc⟩ subtype_list ?_)
  rw [if_neg (by decide)]
  exact wpAny_pure (wpAny_bind (wpAny_newObj_type (wpAny_pure h) (by show (2 : Nat) ≤ sizeLine + 2; decide)))

theorem ga_append {a : Addr} {xs : Array Value} {k : Nat} {u : Tok} {P : Fin → Shared → Prop} (e : s.heap.get? a = some { cls := .type "list", data := .seq xs k })
    (h : P (.done (.ret (.ref s.heap.objs.size))) { s with heap := s.heap.push (boundObj a) }) :
    wpAny (model prog w) A (Builtin.«object.__getattribute__» ⟨[.ref a, .str "append" u], []⟩) P E s := by
  unfold Builtin.«object.__getattribute__»
  refine wpAny_bind (wpAny_of_eq (a := (.ref a, [.str "append" u])) rfl ?_)
  dsimp only
  refine wpAny_bind (wpAny_of_eq (a := (PySem.Str.ofString "append")) rfl ?_)
  refine wpAny_bind (wpAny_typeOf (T := "list") ⟨_, e, rfl⟩ ?_)
  refine wpAny_bind (m := Builtin.ObjectAttr.find _ _ _) ?_
  unfold Builtin.ObjectAttr.find
  refine wpAny_bind (wpAny_of_eq look_append ?_)
  refine wpAny_bind (wpAny_specialOf_val F.type_list_append look_get ?_)
  refine wpAny_bind (m := Builtin.ObjectAttr.dataDescriptor? _ _) ?_
  unfold Builtin.ObjectAttr.dataDescriptor?
  refine wpAny_bind (m := Builtin.ObjectAttr.takesStores _) ?_
  unfold Builtin.ObjectAttr.takesStores
  refine wpAny_bind (wpAny_specialOf_val F.type_list_append look_set ?_)
  rw [if_neg (by decide)]
  refine wpAny_bind (wpAny_specialOf_val F.type_list_append look_delete ?_)
  refine wpAny_pure ?_
  rw [if_neg (by decide)]
  refine wpAny_pure ?_
  dsimp only
  unfold Builtin.ObjectAttr.ownThenClass
  refine wpAny_bind (m := Builtin.ObjectAttr.inOwnDict _ _) ?_
  unfold Builtin.ObjectAttr.inOwnDict Builtin.ObjectAttr.ownDict
  dsimp only
  refine wpAny_bind (wpAny_bind (wpAny_loadPart e ?_))
  dsimp only
  unfold instanceDict
  refine wpAny_bind (wpAny_loadPart e ?_)
  dsimp only
  rw [if_pos (by rfl)]
  refine wpAny_pure ?_
  refine wpAny_pure ?_
  dsimp only
  refine wpAny_bind (m := Builtin.ObjectAttr.copiedAttributeGuard _ _) ?_
  unfold Builtin.ObjectAttr.copiedAttributeGuard
  dsimp only
  rw [if_neg (by decide)]
  refine wpAny_pure ?_
  unfold Builtin.ObjectAttr.byTheClass
  dsimp only
  refine wpAny_bind (wpAny_rule (wpAny_pure ?_))
  dsimp only
  unfold Builtin.ObjectAttr.bindTo
  dsimp only
  refine wpAny_bind (wpAny_holding ?_)
  exact wpAny_call_entry slot_mget F.type_list_append entry_mget (mget_append e rfl ⟨_, rfl, wpAny_pure h⟩) (args_mget _ _ _)
end
end Mine
end

section
open PySem PySem.W PyProof.Rows
open Sem (wp)
open PySem.Calls
namespace Mine
section
variable {prog : Program} {w : World} {A : Around} {E : Value → Shared → Prop} {s : Shared}
theorem getAttr_append {a : Addr} {xs : Array Value} {k : Nat} {Q : Value → Shared → Prop} (e : s.heap.get? a = some { cls := .type "list", data := .seq xs k })
    (h : ∀ tk, Q (.ref s.heap.objs.size) { s with heap := s.heap.push (boundObj a), toks := tk }) :
    wpAny (model prog w) A (getAttr (.ref a) "append" true) Q E s := by
  unfold getAttr
  refine wpAny_bind (wpAny_mkText ?_)
  unfold getAttrBy
  refine wpAny_holding ?_
  refine wpAny_bind (wpAny_typeOf (T := "list") ⟨_, e, rfl⟩ ?_)
  refine wpAny_bind (wpAny_of_eq F.slot_list_getattribute.lookup ?_)
  dsimp only
  rw [if_neg (by decide)]
  unfold getAttrByItsOwn
  refine wpAny_bind (wpAny_of_eq (a := none) rfl ?_)
  refine wpAny_bind (wpAny_attempt (wpAny_holding ?_))
  unfold callGetattribute
  rw [if_neg (by decide)]
  unfold boundAndCalled
  refine wpAny_bind (wpAny_of_eq (F.slot_list_getattribute.bind (.ref a)) ?_)
  dsimp only
  refine wpAny_call_entry F.slot_list_getattribute ⟨_, e, rfl⟩ am_entry_list_getattribute (ga_append (s := { s with toks := s.toks + 1 }) e ⟨_, rfl, ?_⟩) (F.args_list_getattribute_2 _ _)
  exact wpAny_of_eq rfl (h _)

theorem callWith_bd {pos : Pos} {u : Addr} {env : Env} {e : Expr} {rest : List Expr} {Q : Value → Shared → Prop}
    (h : wpAny (model prog w) A (spliced (backTo pos (starEach (e :: rest) env))) (fun vs s₁ => (∃ o fs, s₁.heap.get? u = some o ∧ o.cls = .type "builtin_function_or_method" ∧ o.data = .fields fs) ∧ wpAny (model prog w) A (call (.ref u) vs) Q E s₁) E s)
    (he : starEach (e :: rest) env = (false, eval e env) :: starEach rest env := by rfl) (hplain : (backTo pos (starEach rest env)).any (·.1) = false := by rfl) :
    wpAny (model prog w) A (callWith pos (.ref u) [] (backTo pos (starEach (e :: rest) env)) []) Q E s := by
  rw [he] at h ⊢
  have hp : (backTo pos ((false, eval e env) :: starEach rest env)).any (·.1) = false := by show (false || (backTo pos (starEach rest env)).any (·.1)) = false; rw [hplain]; rfl
  have h2 : wpAny (model prog w) A (evalArgs (.ref u) true (backTo pos ((false, eval e env) :: starEach rest env)) []) (fun a s₁ => (∃ o fs, s₁.heap.get? u = some o ∧ o.cls = .type "builtin_function_or_method" ∧ o.data = .fields fs) ∧ wpAny (model prog w) A (call (.ref u) a.pos a.kw) Q E s₁) E s := evalArgs_plain (f := .ref u) h
  unfold callWith
  refine wpAny_bind (wpAny_holding (wpAny_mono h2 (fun x s₁ h₁ => wpAny_bind (wpAny_standAt ?_)) fun _ _ x => x))
  obtain ⟨⟨o, fs, ho, hc, hd⟩, hcall⟩ := h₁
  simp only [hp, List.any_nil, Bool.or_false]
  refine wpAny_bind (m := keeperOf (.ref u)) ?_
  unfold keeperOf
  refine wpAny_bind (wpAny_load ho ?_)
  rw [hc, hd]
  simp only [show (Value.type "builtin_function_or_method" != Value.type "method") = true by decide, show (Value.type "builtin_function_or_method" == Value.type "builtin_function_or_method" || Value.type "builtin_function_or_method" == Value.type "method-wrapper") = true by decide, if_true]
  refine wpAny_pure ?_
  exact wpAny_bind (wpAny_mono hcall (fun r s₂ hr => wpAny_bind (wpAny_holding (wpAny_point (wpAny_pure hr)))) fun _ _ x => x)
end
section
variable {C : Cx} {k : Nat} {F : FrD} {loc : List (Option V)} {hp : List Cell} {Φ : V → List Cell → Prop}

theorem pushNx {own α : List Addr} (s : Shared) (o : Obj) (tk : Nat) : Nx C own α s α { s with heap := s.heap.push o, toks := tk } := .of (fun _ _ e => Heap.get?_push_of_some _ e) rfl rfl

theorem ev_attr_append (i : Nat) {x : Str} {c : Option Addr} {np pos : Pos} {n : Nat} {vs : List V} (hi : F.names[i]? = some (x, c)) (hv : loc[i]? = some (some (.lst n))) (e : hp[n]? = some (some vs)) (h : Φ (.bound "list.append" n) hp)
    (hd : (x == ("__debug__" : Str)) = false := by decide) : AEv C k F loc hp (.Attribute (.Name x np) "append" pos) Φ := fun A α s Q E hA R hQ =>
  Attribute_name (ev_local i (Φ := fun v hp' => v = .lst n ∧ hp' = hp) hi hv ⟨rfl, rfl⟩ hd A α s _ E hA R fun v hp' α' s' u p n1 R1 r1 => by
    obtain ⟨rfl, rfl⟩ := p
    obtain ⟨a, xs, m, rfl, ea, e1, e2⟩ := R1.hr.lstAt e r1
    refine getAttr_append e1 fun tk => ?_
    have n2 : Nx C [] α' s' α' { s' with heap := s'.heap.push (boundObj a), toks := tk } := pushNx s' _ tk
    exact hQ _ _ _ _ _ h (n1.trans n2) (R1.ext (s' := { s' with heap := s'.heap.push (boundObj a), toks := tk }) (fun b o e => Heap.get?_push_of_some _ e) rfl)
      ⟨_, a, _, rfl, ea, Heap.get?_push_size _ rfl, rfl, rfl⟩)

/-- a builtin method object -/
noncomputable def IsBd (C : Cx) (v : V) : Prop := ∀ (hp : List Cell) (α : List Addr) (s : Shared) (x : Value), HR C hp α s.heap → VR α s.heap v x → ∃ u o fs, x = .ref u ∧ s.heap.get? u = some o ∧ o.cls = .type "builtin_function_or_method" ∧ o.data = .fields fs
theorem isBd_bound {id : String} {n : Nat} : IsBd C (.bound id n) := fun hp α s x R r => by
  obtain ⟨y, a, o, rfl, _, e, hc, hd⟩ := r
  exact ⟨y, o, _, rfl, e, hc, hd⟩
theorem isBd_raw {a : Addr} {fs : Array Value} (e : (KF C.w).lookup a = some { cls := .type "builtin_function_or_method", data := .fields fs }) (n1 : a ≠ 57 := by decide) (n2 : a ≠ 76 := by decide) : IsBd C (.raw (.ref a)) := fun hp α s x R r => by
  have : x = .ref a := r
  subst this
  exact ⟨a, _, _, rfl, R.K e n1 n2, rfl, rfl⟩

/-- the call of a value that is first in the list -/
noncomputable def ACallV (C : Cx) (k : Nat) (hp : List Cell) (f : V) (vs : List V) (Φ : V → List Cell → Prop) : Prop :=
  ∀ (A : Around) (α : List Addr) (s : Shared) (Q : Value → Shared → Prop) (E : Value → Shared → Prop) (x : Value) (us : List Value), Ok k A → HR C hp α s.heap → Br C s → VR α s.heap f x → VRs α s.heap vs us →
    (∀ v hp' α' s' y, Φ v hp' → Nx C [] α s α' s' → HR C hp' α' s'.heap → VR α' s'.heap v y → Q y s') → wpAny C.M A (call x us) Q E s

theorem ev_call_bd {func e : Expr} {rest : List Expr} {pos : Pos}
    (h : AEv C k F loc hp func fun v hp1 => IsBd C v ∧ AArgs C k F loc hp1 (e :: rest) fun vs hp2 => ACallV C k hp2 v vs Φ)
    (hs : starEach (e :: rest) F.env = (false, eval e F.env) :: starEach rest F.env := by rfl) (hp' : ((backTo pos (starEach rest F.env)).any fun x => x.fst) = false := by rfl)
    (hc : eval (func.Call (e :: rest) [] pos) F.env = (do let f ← eval func F.env; callWith pos f [] (backTo pos (starEach (e :: rest) F.env)) (backToKw pos (keywordEach [] F.env))) := by rfl) :
    AEv C k F loc hp (.Call func (e :: rest) [] pos) Φ := fun A α s Q E hA R hQ =>
  Call_ (h A α s _ E hA R fun v hp1 α1 s1 x p n R1 r => by
    obtain ⟨bd, p⟩ := p
    obtain ⟨u, o, fs, rfl, eu, hcu, hdu⟩ := bd hp1 α1 s1 x R1.hr r
    refine callWith_bd (p A α1 s1 _ E pos hA R1 fun vs hp2 α2 s2 us p2 n2 R2 r2 => ?_) hs hp'
    have ru := r.nx (hp' := hp) n2 (n2.kp0 R1.hr)
    obtain ⟨u', o', fs', eq, eu', hcu', hdu'⟩ := bd hp2 α2 s2 (.ref u) R2.hr ru
    cases eq
    refine ⟨⟨o', fs', eu', hcu', hdu'⟩, p2 A α2 s2 Q E (.ref u) us hA R2.hr R2.bare ru r2 fun w hp3 α3 s3 z p3 n3 H3 r3 => hQ w hp3 α3 s3 z p3 ((n.trans n2).trans n3) (R2.nx0 n3 H3) r3⟩) hc

theorem sig_append : Manifest.signature? "list.append" = Manifest.sig_list.lookup (String.ofList ['d', 'n', 'e', 'p', 'p', 'a'].reverse) :=
  signature?_of (id := "list.append") (n := ['d', 'n', 'e', 'p', 'p', 'a']) (o := ['t', 's', 'i', 'l']) (by kernel_rfl) F.owner_list
theorem sub_list_module : isSubtype (.type "list") (.type "module") = pure false := by rw [isSubtype_type]; kernel_rfl

theorem callV_append {n : Nat} {vs : List V} {v : V} (e : hp[n]? = some (some vs)) (hz : vs.length ≤ sizeLine) (h : Φ .none (hp.set n (some (vs ++ [v])))) : ACallV C k hp (.bound "list.append" n) [v] Φ := fun A α s Q E x us hA R hb r r2 hQ => by
  cases r2 with
  | cons rv r2 =>
  cases r2
  rename_i u
  obtain ⟨y, a, o, rfl, ea, ey, hcy, hdy⟩ := r
  obtain ⟨a', xs, m, q, ea', e1, e2⟩ := R.lstAt (u := .ref a) e ⟨a, ea, rfl⟩
  cases q
  have hsz : xs.size ≤ sizeLine := by
    have := F2.length e2
    simp at this; omega
  refine bound_call (T := "list") (id := "list.append") (sig := ⟨.oneArg, "list.append", "append", .self, [⟨"object", .posOnly, true⟩]⟩) ey hcy hdy e1 rfl (by intro c z; cases z) (by rw [sig_append]; kernel_rfl) (by decide +kernel) (by decide +kernel) sub_list_module (by kernel_rfl) quiet_append ?_
  refine codeAny_builtin PySem.F.entry_list_append ?_
  rw [Around.under_plainId (by decide +kernel) _]
  show wpAny _ _ (updateSeq a (·.push u) >>= fun _ => ret .none) _ _ s
  refine wpAny_bind ?_
  refine wpAny_updateSeq e1 rfl (wpAny_pure ?_)
  have hs : Heap.SameBut a s.heap (s.heap.update a (Obj.mapSeq (·.push u))) := Heap.SameBut.update ..
  have e' : (s.heap.update a (Obj.mapSeq (·.push u))).get? a = some (listOf (xs.push u) (m + 1)) := by
    rw [Heap.get?_update_self _ e1 (by rw [mapSeq_push]; rfl), mapSeq_push]
  obtain ⟨R2, kp⟩ := R.setList (vs := vs ++ [v]) ea hs e' (by simpa using F2.append e2 (.cons rv .nil))
  exact hQ _ _ _ _ _ h (.setList (List.mem_of_getElem? ea) hs e' s.toks) R2 rfl
end
end Mine
end

section
open PySem PySem.W PyProof.Rows PySem.Sre
open Builtin.Re
namespace Mine
section
variable {prog : Program} {w : World} {A : Around} {E : Value → Shared → Prop} {s : Shared}
theorem wp_target {a tup : Addr} {code : Array Nat} {groups : Nat} {x : Str} {t : Tok} {Q : ReTarget → Shared → Prop} (P : Pat s.heap a tup code groups) (hx : x.cps.size ≤ 100000)
    (h : Q ⟨.ref a, .str x t, code, x.cps, 0, groups, 0, x.cps.size⟩ s) : wpAny (model prog w) A (reTarget "re.Pattern.search" "search" ⟨[.ref a, .str x t], []⟩) Q E s := by
  obtain ⟨o, pv, e1, e2, e3, e4, e5⟩ := P.obj
  obtain ⟨o', items, n, f1, f2, f3⟩ := P.tup
  unfold reTarget
  dsimp only
  refine wpAny_bind (wpAny_of_eq (a := [some (.str x t), none, none]) (by rfl) ?_)
  dsimp only
  refine wpAny_bind (wpAny_pure ?_)
  refine wpAny_bind (wpAny_pure ?_)
  refine wpAny_bind (wpAny_fieldsOf e1 e2 ?_)
  refine wpAny_bind (wpAny_of_eq (a := (x.cps, 0)) rfl ?_)
  dsimp only
  rw [e3, e4, e5]
  refine wpAny_bind (wpAny_of_eq (a := ()) rfl ?_)
  unfold reRawItems
  refine wpAny_bind (wpAny_bind (wpAny_seqItems f1 f2 (wpAny_pure ?_)))
  refine wpAny_pure ?_
  simp only [Option.getD_some]
  rw [f3]
  have c1 : min (Int.toNat 0) x.cps.size = 0 := by simp
  have c2 : min (Int.toNat (2 ^ 63 - 1)) x.cps.size = x.cps.size := by
    have : (2 ^ 63 - 1 : Int).toNat = 9223372036854775807 := by decide
    rw [this]; omega
  rw [c1, c2]
  exact h
end
section
variable {C : Cx} {k : Nat} {F : FrD} {loc : List (Option V)} {hp : List Cell} {Φ : V → List Cell → Prop}
theorem sig_search : Manifest.signature? "re.Pattern.search" = Manifest.sig_re_Pattern.lookup (String.ofList ['h', 'c', 'r', 'a', 'e', 's'].reverse) :=
  signature?_of (id := "re.Pattern.search") (n := ['h', 'c', 'r', 'a', 'e', 's']) (o := ['n', 'r', 'e', 't', 't', 'a', 'P', '.', 'e', 'r']) (by kernel_rfl) owner_pat
theorem sub_pat_module : isSubtype (.type "re.Pattern") (.type "module") = pure false := by rw [isSubtype_type]; kernel_rfl

theorem callV_search {u a tup : Addr} {code : Array Nat} {x : Str} {r : Option (Nat × Nat)} (e : (KF C.w).lookup u = some { cls := .type "builtin_function_or_method", data := .fields #[.builtin "re.Pattern.search", .ref a] })
    {vs : Array Value} (ea : (KF C.w).lookup a = some { cls := .type "re.Pattern", data := .fields vs })
    (pat : ∀ (hp : List Cell) (α : List Addr) (h : Heap), HR C hp α h → Pat h a tup code 0) (hx : x.cps.size ≤ 100000) (hf : Finds code 0 x.cps 0 r)
    (h : Φ (if r.isNone then .none else .thing) hp) (n1 : u ≠ 57 := by decide) (n2 : u ≠ 76 := by decide) (n3 : a ≠ 57 := by decide) (n4 : a ≠ 76 := by decide) : ACallV C k hp (.raw (.ref u)) [.str x] Φ := fun A α s Q E y us hA R hb r1 r2 hQ => by
  cases r2 with
  | cons rv r2 =>
  cases r2
  obtain ⟨t, rfl⟩ := rv
  have r1 : y = .ref u := r1
  subst r1
  refine bound_call (T := "re.Pattern") (id := "re.Pattern.search") (sig := ⟨.keywords, "Pattern.search", "search", .self, [⟨"string", .posOrKw, true⟩, ⟨"pos", .posOrKw, false⟩, ⟨"endpos", .posOrKw, false⟩]⟩) (R.K e n1 n2) rfl rfl (R.K ea n3 n4) rfl (by intro c z; cases z)
    (by rw [sig_search]; kernel_rfl) (by decide +kernel) (by decide +kernel) sub_pat_module (by kernel_rfl) quiet_search ?_
  refine codeAny_builtin entry_search ?_
  rw [Around.under_plainId (by decide +kernel) _]
  unfold Builtin.«re.Pattern.search»
  refine wpAny_bind (wp_target (pat hp α s.heap R) hx ?_)
  unfold reAnswer
  dsimp only
  refine wpAny_bind (wp_found (a := a) (tup := tup) (t := t) hf fun m hm => ?_)
  cases r with
  | none => exact wpAny_pure (hQ _ _ α s _ h (.refl ..) R rfl)
  | some be =>
    dsimp only [Option.map_some]
    refine wpAny_bind (wp_match0 fun s' z keep ho hg => wpAny_pure ?_)
    exact hQ _ _ α s' _ h (.of keep ho hg) (R.ext keep) ⟨z, rfl⟩
end
end Mine
end

section
open PySem PySem.W PyProof.Rows PySem.Calls
namespace Mine
section
variable {C : Cx} {k : Nat} {F : FrD} {loc : List (Option V)} {hp : List Cell} {Φ : V → List Cell → Prop}

theorem tr_str {x : Str} (hz : x.length ≤ sizeLine) : ATr C k hp (.str x) (decide (x.length ≠ 0)) := fun A α s Q E u hA R hb r hQ => by
  obtain ⟨t, rfl⟩ := r
  rw [sizeLine_eq] at hz
  refine P.truthy_str (by omega) ?_
  have e : (((x.length : Int) != 0) : Bool) = decide (x.length ≠ 0) := by
    by_cases h : x.length = 0
    · rw [h]; rfl
    · have : (x.length : Int) ≠ 0 := by omega
      rw [bne_iff_ne.mpr this, decide_eq_true h]
  rw [e]
  exact hQ _ (toksNx s _) R
theorem tr_lst {n : Nat} {vs : List V} (e : hp[n]? = some (some vs)) (hz : vs.length ≤ sizeLine) : ATr C k hp (.lst n) (!vs.isEmpty) := fun A α s Q E u hA R hb r hQ => by
  obtain ⟨a, xs, m, rfl, ea, e1, e2⟩ := R.lstAt e r
  have hl : s.heap.IsList a xs := ⟨_, e1, rfl, _, rfl⟩
  have hs := F2.length e2
  rw [sizeLine_eq] at hz
  simp at hs
  refine wpAny_truthy_list hl (by omega) ?_
  have : xs.isEmpty = vs.isEmpty := by
    cases vs with
    | nil => simp at hs; simp [hs]
    | cons a l => simp at hs; simp [Array.isEmpty, hs]
  rw [this]
  exact hQ _ (toksNx s _) R

theorem call_len_str {x : Str} (hz : x.length ≤ sizeLine) (h : Φ (.int x.length) hp) : ACall C k hp (.builtin "len") [.str x] Φ := fun A α s Q E us hA R hb r hQ => by
  cases r with
  | cons r1 r =>
  cases r
  obtain ⟨t, rfl⟩ := r1
  rw [sizeLine_eq] at hz
  exact P.len_str (by omega) (hQ _ _ _ _ _ h (toksNx s _) R ⟨_, rfl⟩)
theorem call_len_lst {n : Nat} {vs : List V} (e : hp[n]? = some (some vs)) (hz : vs.length ≤ sizeLine) (h : Φ (.int vs.length) hp) : ACall C k hp (.builtin "len") [.lst n] Φ := fun A α s Q E us hA R hb r hQ => by
  cases r with
  | cons r1 r =>
  cases r
  obtain ⟨a, xs, m, rfl, ea, e1, e2⟩ := R.lstAt e r1
  have hl : s.heap.IsList a xs := ⟨_, e1, rfl, _, rfl⟩
  have hs := F2.length e2
  rw [sizeLine_eq] at hz
  simp at hs
  exact Calls.call_len_list hl (by omega) (hQ _ _ _ _ _ h (toksNx s _) R ⟨_, by rw [hs]⟩)
theorem op_neg {a : Int} (h : Φ (.int (-a)) hp) : AT1 C k hp (.int a) (unaryOp .USub) Φ := fun A α s Q E x hA R hb ⟨t, e1⟩ hQ => by
  subst e1; exact neg_int (hQ _ _ _ _ _ h (toksNx s _) R ⟨_, rfl⟩)

theorem strsAre {α : List Addr} {h : Heap} : ∀ {ys : List Str} {vs : List Value}, VRs α h (ys.map V.str) vs → StrsAre vs ys
  | [], _, .nil => .nil
  | y :: ys, _, .cons r1 r2 => by obtain ⟨t, rfl⟩ := r1; exact .cons y t (strsAre r2)
theorem intsAre {α : List Addr} {h : Heap} : ∀ {ys : List Int} {vs : List Value}, VRs α h (ys.map V.int) vs → IntsAre vs ys
  | [], _, .nil => .nil
  | y :: ys, _, .cons r1 r2 => by obtain ⟨t, rfl⟩ := r1; exact .cons y t (intsAre r2)
theorem c_in_strs {n : Nat} {x : Str} {ys : List Str} (e : hp[n]? = some (some (ys.map V.str))) (h : Φ (.bool (ys.any (· == x))) hp) : AT2 C k hp (.str x) (.lst n) (compareOp .In) Φ := fun A α s Q E u y hA R hb r1 r2 hQ => by
  obtain ⟨t, rfl⟩ := r1
  obtain ⟨a, xs, m, rfl, ea, e1, e2⟩ := R.lstAt e r2
  exact in_list_strs (vs := xs.toList) (show s.heap.IsList a xs.toList.toArray from by rw [show xs.toList.toArray = xs from by simp]; exact ⟨_, e1, rfl, _, rfl⟩) (strsAre e2) (hQ _ _ _ _ _ h (.refl ..) R rfl)
theorem c_in_ints {n : Nat} {x : Int} {ys : List Int} (e : hp[n]? = some (some (ys.map V.int))) (h : Φ (.bool (ys.any (· == x))) hp) : AT2 C k hp (.int x) (.lst n) (compareOp .In) Φ := fun A α s Q E u y hA R hb r1 r2 hQ => by
  obtain ⟨t, rfl⟩ := r1
  obtain ⟨a, xs, m, rfl, ea, e1, e2⟩ := R.lstAt e r2
  exact in_list_ints (vs := xs.toList) (show s.heap.IsList a xs.toList.toArray from by rw [show xs.toList.toArray = xs from by simp]; exact ⟨_, e1, rfl, _, rfl⟩) (intsAre e2) (hQ _ _ _ _ _ h (.refl ..) R rfl)
theorem c_in_pair {x a b : Str} (h : Φ (.bool ([a, b].any (· == x))) hp) : AT2 C k hp (.str x) (.pair a b) (compareOp .In) Φ := fun A α s Q E u y hA R hb r1 r2 hQ => by
  obtain ⟨t, rfl⟩ := r1
  obtain ⟨z, t1, t2, rfl, o, n, e1, e2, e3⟩ := r2
  exact in_tuple_strs (items := #[.str a t1, .str b t2]) ⟨o, e1, e2, n, e3⟩ (.cons _ _ (.cons _ _ .nil)) (hQ _ _ _ _ _ h (.refl ..) R rfl)

/-- identity with an object of ours -/
theorem c_is_obj {v : V} {n : Nat} (hv : v = .obj n ∨ ∃ x, v = .str x) (h : Φ (.bool (match v with | .obj _ => true | _ => false)) hp) : AT2 C k hp v (.obj n) (compareOp .Is) Φ := fun A α s Q E x y hA R hb r1 r2 hQ => by
  obtain ⟨b, eb, rfl⟩ := r2
  rcases hv with rfl | ⟨z, rfl⟩
  · obtain ⟨a, ea, rfl⟩ := r1
    rw [eb] at ea; cases ea
    exact wpAny_is_ref_self (hQ _ _ _ _ _ h (.refl ..) R rfl)
  · obtain ⟨t, rfl⟩ := r1
    exact wpAny_is_other (by rfl) (by intro z; cases z) (hQ _ _ _ _ _ h (.refl ..) R rfl)
theorem c_isnot_obj {v : V} {n : Nat} (hv : v = .obj n ∨ ∃ x, v = .str x) (h : Φ (.bool (!(match v with | .obj _ => true | _ => false))) hp) : AT2 C k hp v (.obj n) (compareOp .IsNot) Φ := fun A α s Q E x y hA R hb r1 r2 hQ => by
  obtain ⟨b, eb, rfl⟩ := r2
  rcases hv with rfl | ⟨z, rfl⟩
  · obtain ⟨a, ea, rfl⟩ := r1
    rw [eb] at ea; cases ea
    exact wpAny_isNot_ref_self (hQ _ _ _ _ _ h (.refl ..) R rfl)
  · obtain ⟨t, rfl⟩ := r1
    exact wpAny_isNot_other (by rfl) (by intro z; cases z) (hQ _ _ _ _ _ h (.refl ..) R rfl)
end
end Mine
end

section
open PySem PySem.W PyProof.Rows PySem.Calls StrLaws
namespace Mine
section
variable {C : Cx} {k : Nat} {F : FrD} {loc : List (Option V)} {hp : List Cell} {Φ : V → List Cell → Prop}

-- f-strings
noncomputable def AFs (C : Cx) (k : Nat) (F : FrD) (loc : List (Option V)) (hp : List Cell) (out : Str) (es : List Expr) (Φ : V → List Cell → Prop) : Prop :=
  ∀ (A : Around) (α : List Addr) (s : Shared) (Q : Value → Shared → Prop) (E : Value → Shared → Prop), Ok k A → Rel C F loc hp α s →
    (∀ v hp' α' s' x, Φ v hp' → Nx C [] α s α' s' → Rel C F loc hp' α' s' → VR α' s'.heap v x → Q x s') → wpAny C.M A (joinParts out (evalEach es F.env)) Q E s
theorem fs_nil {out : Str} (hz : out.length ≤ sizeLine) (h : Φ (.str out) hp) : AFs C k F loc hp out [] Φ := fun A α s Q E hA R hQ =>
  joinParts_nil (hQ _ _ _ _ _ h (toksNx s _) (toksRel R _) ⟨_, rfl⟩) hz
theorem fs_cons {out : Str} {e : Expr} {rest : List Expr} (h : AEv C k F loc hp e fun v hp1 => ∃ y, v = .str y ∧ (out ++ y).length ≤ sizeLine ∧ AFs C k F loc hp1 (out ++ y) rest Φ) : AFs C k F loc hp out (e :: rest) Φ := fun A α s Q E hA R hQ => by
  show wpAny _ _ (joinParts out (eval e F.env :: evalEach rest F.env)) _ _ _
  refine joinParts_cons (h A α s _ E hA R fun v hp1 α1 s1 x p n1 R1 r => ?_)
  obtain ⟨y, rfl, hz, p⟩ := p
  obtain ⟨t, rfl⟩ := r
  exact ⟨hz, p A α1 s1 Q E hA R1 fun w hp2 α2 s2 z p2 n2 R2 r2 => hQ w hp2 α2 s2 z p2 (n1.trans n2) R2 r2⟩
theorem ev_fstr {v₁ v₂ : Expr} {rest : List Expr} {pos : Pos} (h : AFs C k F loc hp Str.empty (v₁ :: v₂ :: rest) Φ) : AEv C k F loc hp (.JoinedStr (v₁ :: v₂ :: rest) pos) Φ := fun A α s Q E hA R hQ =>
  JoinedStr_many (h A α s Q E hA R hQ)
theorem ev_fmt {e : Expr} {pos : Pos} (h : AEv C k F loc hp e fun v hp1 => ∃ y, v = .str y ∧ y.length ≤ sizeLine ∧ Φ (.str y) hp1) : AEv C k F loc hp (.FormattedValue e (-1) none pos) Φ := fun A α s Q E hA R hQ =>
  FormattedValue_plain (h A α s _ E hA R fun v hp1 α1 s1 x p n1 R1 r => by
    obtain ⟨y, rfl, hz, p⟩ := p
    obtain ⟨t, rfl⟩ := r
    have fin : ∀ t' tk, Q (.str y t') { s1 with toks := tk } := fun t' tk => hQ _ _ _ _ _ p (n1.trans (toksNx s1 tk)) (toksRel R1 tk) ⟨t', rfl⟩
    exact wpAny_formatField_str (fin _ s1.toks) (fin _ _) hz)

-- two names at once
theorem ex_assign2 (i j : Nat) {x y : Str} {p q : Pos} {n : Nat} {tpos : Pos} {e₁ e₂ : Expr} {m : Nat} {vpos pos : Pos} {Ψ : Fl → List (Option V) → List Cell → Prop} (hi : F.names[i]? = some (x, none)) (hj : F.names[j]? = some (y, none))
    (h : AArgs C k F loc hp [e₁, e₂] fun vs hp' => ∃ a b, vs = [a, b] ∧ Ψ .next ((loc.set j (some b)).set i (some a)) hp')
    (hw : swappedStores [.Tuple [.Name x p, .Name y q] n tpos] (.Tuple [e₁, e₂] m vpos) F.env = pure (some [x, y]))
    (hs : swapsWithSole [.Tuple [.Name x p, .Name y q] n tpos] (.Tuple [e₁, e₂] m vpos) pos.line F.env = pure false := by rfl) :
    AEx C k F loc hp (.Assign [.Tuple [.Name x p, .Name y q] n tpos] (.Tuple [e₁, e₂] m vpos) pos) Ψ := fun A α s Q E hA R hQ => by
  refine Assign_Tuple_swapped (names := [x, y]) ?_ hs hw
  refine wpAny_Tuple (h A α s _ E vpos hA R fun vs hp' α' s' us p n1 R1 r => ?_)
  obtain ⟨a, b, rfl, p⟩ := p
  cases r with
  | cons r1 r =>
  cases r with
  | cons r2 r =>
  cases r
  rename_i u1 u2
  refine ⟨by show 2 ≤ sizeLine; decide, ?_⟩
  have n2 : Nx C [] α' s' (α' ++ []) { s' with heap := s'.heap.push { cls := .type "tuple", data := .seq [u1, u2].toArray } } := .push s' _ [] (by simp)
  rw [List.append_nil] at n2
  have R2 : Rel C F loc hp' α' { s' with heap := s'.heap.push { cls := .type "tuple", data := .seq [u1, u2].toArray } } := R1.ext (fun b o e => Heap.get?_push_of_some _ e) rfl
  refine unpackItems_tuple (items := #[u1, u2]) hA.1 ⟨_, Heap.get?_push_size _ rfl, rfl, _, rfl⟩ fun h' hx => ?_
  have keep3 : ∀ b o, (s'.heap.push { cls := .type "tuple", data := .seq [u1, u2].toArray }).get? b = some o → h'.get? b = some o := fun b o e => hx b o (Nat.ne_of_lt (Heap.lt_size e)) e
  have n3 : Nx C F.own α' s' α' { s' with heap := h' } := .of (fun b o e => keep3 b o (Heap.get?_push_of_some _ e)) rfl rfl
  have R3 : Rel C F loc hp' α' { s' with heap := h' } := R1.ext (fun b o e => keep3 b o (Heap.get?_push_of_some _ e)) rfl
  have k3 : Kp s'.heap h' := Kp.of fun b o e => keep3 b o (Heap.get?_push_of_some _ e)
  have up : ∀ {v : V} {u : Value}, VR α' s'.heap v u → VR α' h' v u := fun r => by
    have := r.kp (β := []) k3
    rwa [List.append_nil] at this
  show wpAny _ _ (do holding [u1] (bindName F.env y u2); do holding [] (bindName F.env x u1); pure ()) _ _ _
  refine wpAny_bind (wpAny_holding (wpAny_bindName (st_at (v := b) R3 A E hj noCell (up r2) fun s4 n4 R4 => ?_)))
  have r1' : VR α' s4.heap a u1 := by
    have kp4 : Kp h' s4.heap := n4.kp R3.hr fun c hc o e => R3.fr.notImm R3.ok hc e
    have := (up r1).kp (β := []) kp4
    rwa [List.append_nil] at this
  refine wpAny_bind (wpAny_holding (wpAny_bindName (st_at (v := a) R4 A E hi noCell r1' fun s5 n5 R5 => wpAny_pure ?_)))
  exact hQ _ _ _ _ _ _ p ((n1.own (fun _ h => nomatch h)).trans ((n3.trans n4).trans n5)) R5 rfl

-- a chain of two
theorem ts_chain {l r₁ r₂ : Expr} {op₁ op₂ : CmpOp} {pos : Pos} {Ψ : Bool → List Cell → Prop}
    (h : AEv C k F loc hp l fun a hp1 => AEv C k F loc hp1 r₁ fun b hp2 => AT2 C k hp2 a b (compareOp op₁) fun v hp3 => hp3 = hp2 ∧ ∃ c, v = .bool c ∧ (c = false → Ψ false hp2) ∧ (c = true → AEv C k F loc hp2 r₂ fun d hp4 => AT2 C k hp4 b d (compareOp op₂) fun v hp5 => ∃ c, v = .bool c ∧ Ψ c hp5))
    (hm : lastMarks [op₁, op₂] [r₁, r₂] = false := by with_unfolding_all rfl) : ATs C k F loc hp (.Compare l [op₁, op₂] [r₁, r₂] pos) Ψ := fun A α s Q E hA R hQ => by
  refine isTrue_chain ?_ hm
  refine h A α s _ E hA R fun a hp1 α1 s1 x p1 n1 R1 ra => ?_
  show wpAny _ _ (testChain pos x [op₁, op₂] [eval r₁ F.env, eval r₂ F.env]) _ _ _
  refine test_link (p1 A α1 s1 _ E hA R1 fun b hp2 α2 s2 y p2 n2 R2 rb => ?_)
  refine p2 A α2 s2 _ E x y hA R2.hr R2.bare (ra.nx (hp' := hp) n2 (n2.kp0 R1.hr)) rb fun v hp3 α3 s3 z p3 n3 H3 r3 => ?_
  obtain ⟨rfl, c, rfl, pf, pt⟩ := p3
  have e : z = .bool c := r3
  subst e
  have R3 := R2.nx0 n3 H3
  refine wpAny_truthy_bool ?_
  cases c with
  | false =>
    simp only [Bool.false_eq_true, if_false]
    exact hQ false _ _ _ (pf rfl) ((n1.trans n2).trans n3) R3
  | true =>
    simp only [if_true]
    refine test_last (pt rfl A α3 s3 _ E hA R3 fun d hp4 α4 s4 w p4 n4 R4 rd => ?_)
    refine p4 A α4 s4 _ E y w hA R4.hr R4.bare ((rb.nx (hp' := hp) n3 (n3.kp0 R2.hr)).nx (hp' := hp) n4 (n4.kp0 R3.hr)) rd fun v hp5 α5 s5 q p5 n5 H5 r5 => ?_
    obtain ⟨c, rfl, p5⟩ := p5
    have e : q = .bool c := r5
    subst e
    exact wpAny_truthy_bool (hQ c hp5 α5 s5 p5 ((((n1.trans n2).trans n3).trans n4).trans n5) (R4.nx0 n5 H5))

-- lists
theorem op_lists {i j : Nat} {vs ws : List V} (e : hp[i]? = some (some vs)) (e' : hp[j]? = some (some ws)) (hz : vs.length + ws.length ≤ sizeLine) (h : Φ (.lst hp.length) (hp ++ [some (vs ++ ws)])) :
    AT2 C k hp (.lst i) (.lst j) (binaryOp .Add) Φ := fun A α s Q E x y hA R hb r1 r2 hQ => by
  obtain ⟨a, xs, m, rfl, ea, e1, e2⟩ := R.lstAt e r1
  obtain ⟨b, ys, m', rfl, eb, e3, e4⟩ := R.lstAt e' r2
  have hsz : xs.size + ys.size ≤ sizeLine := by
    have h1 := F2.length e2
    have h2 := F2.length e4
    simp at h1 h2; omega
  refine concat_meets ⟨_, e1, rfl⟩ ⟨_, e3, rfl⟩ noFill_list_add seq_list_add PySem.F.slot_list_add PySem.F.entry_list_add (PySem.F.args_list_add_2 _ _) (list_addW a b xs ys m m' none none #[] #[] hsz) ⟨e1, e3, ?_⟩
  have H2 : HR C (hp ++ [some (vs ++ ws)]) (α ++ [s.heap.objs.size]) (s.heap.push { cls := .type "list", data := .seq (xs ++ ys) }) := R.pushList (n := 0) (by simpa using F2.append e2 e4)
  have n2 : Nx C [] α s (α ++ [s.heap.objs.size]) { s with heap := s.heap.push { cls := .type "list", data := .seq (xs ++ ys) } } := .push s _ [s.heap.objs.size] (by simp)
  exact hQ _ _ _ _ _ h n2 H2 ⟨_, by rw [← R.len, List.getElem?_append_right (Nat.le_refl _)]; simp, rfl⟩

/-- the items of a list of Nones and strings -/
noncomputable def optV : Option Str → V
  | none => .none
  | some x => .str x
theorem Ok.cline {A : Around} (h : Ok k A) : A.units < cLine := by
  obtain ⟨_, _, h3, h4⟩ := h
  show A.units < 9900
  omega
theorem eqAt_opt {A : Around} {s : Shared} {α : List Addr} {a b : Option Str} {x y : Value} (r1 : VR α s.heap (optV a) x) (r2 : VR α s.heap (optV b) y) : SeqAt.EqAt A s x y (decide (a = b)) := by
  cases a with
  | none =>
    have e1 : x = .none := r1
    subst e1
    cases b with
    | none =>
      have e2 : y = .none := r2
      subst e2
      exact SeqAt.EqAt.same _
    | some b =>
      obtain ⟨t, rfl⟩ := r2
      exact SeqAt.EqAt.none_str _ _
  | some a =>
    obtain ⟨t, rfl⟩ := r1
    cases b with
    | none =>
      have e2 : y = .none := r2
      subst e2
      exact SeqAt.EqAt.str_none _ _
    | some b =>
      obtain ⟨u, rfl⟩ := r2
      have := SeqAt.EqAt.str_str (A := A) (s := s) a t b u
      have e : (decide (some a = some b)) = (a == b) := by
        by_cases h : a = b
        · simp [h]
        · simp [h]
      rw [e]; exact this
theorem c_eq_opts {i j : Nat} {xs ys : List (Option Str)} (e : hp[i]? = some (some (xs.map optV))) (e' : hp[j]? = some (some (ys.map optV))) (h : Φ (.bool (decide (xs = ys))) hp) : AT2 C k hp (.lst i) (.lst j) (compareOp .Eq) Φ := fun A α s Q E x y hA R hb r1 r2 hQ => by
  obtain ⟨a, us, m, rfl, ea, e1, e2⟩ := R.lstAt e r1
  obtain ⟨b, ws, m', rfl, eb, e3, e4⟩ := R.lstAt e' r2
  have h1 := F2.length e2
  have h2 := F2.length e4
  simp at h1 h2
  have fin : ∀ c, c = decide (xs = ys) → Q (.bool c) s := fun c hc => by subst hc; exact hQ _ _ _ _ _ h (.refl ..) R rfl
  by_cases hl : xs.length = ys.length
  · refine SeqAt.eq_listAt (items := us) (items2 := ws) (e := fun n => decide (xs[n]? = ys[n]?)) ⟨_, e1, rfl, _, rfl⟩ ⟨_, e3, rfl, _, rfl⟩ (by omega) hA.cline (fun n q1 q2 => ?_) (fin _ ?_)
    · have hx : n < xs.length := by omega
      have hy : n < ys.length := by omega
      obtain ⟨u, eu, ru⟩ := F2.get e2 (i := n) (a := optV xs[n]) (by rw [List.getElem?_map, List.getElem?_eq_getElem hx]; rfl)
      obtain ⟨v, ev, rv⟩ := F2.get e4 (i := n) (a := optV ys[n]) (by rw [List.getElem?_map, List.getElem?_eq_getElem hy]; rfl)
      have eu' : us[n] = u := by
        have : us.toList[n]? = some us[n] := by simp [q1]
        rw [this] at eu; exact Option.some.inj eu
      have ev' : ws[n] = v := by
        have : ws.toList[n]? = some ws[n] := by simp [q2]
        rw [this] at ev; exact Option.some.inj ev
      rw [eu', ev', List.getElem?_eq_getElem hx, List.getElem?_eq_getElem hy]
      have := eqAt_opt (A := A.in1) ru rv
      have e5 : decide (some xs[n] = some ys[n]) = decide (xs[n] = ys[n]) := by
        by_cases q : xs[n] = ys[n] <;> simp [q]
      rw [e5]; exact this
    · rw [Bool.eq_iff_iff, List.all_eq_true, decide_eq_true_iff]
      refine ⟨fun h => ?_, fun h n _ => by rw [h]; simp⟩
      apply List.ext_getElem? 
      intro n
      by_cases hn : n < us.size
      · simpa using h n (by simpa using hn)
      · rw [List.getElem?_eq_none (by omega), List.getElem?_eq_none (by omega)]
  · refine SeqAt.eq_list_lengthsAt (items := us) (items2 := ws) ⟨_, e1, rfl, _, rfl⟩ ⟨_, e3, rfl, _, rfl⟩ (by simp; omega) hA.cline (fin _ ?_)
    rw [eq_comm, decide_eq_false_iff_not]
    intro z
    exact hl (by rw [z])
theorem c_eq_nil {i j : Nat} {vs : List V} (e : hp[i]? = some (some vs)) (e' : hp[j]? = some (some [])) (h : Φ (.bool vs.isEmpty) hp) : AT2 C k hp (.lst i) (.lst j) (compareOp .Eq) Φ := fun A α s Q E x y hA R hb r1 r2 hQ => by
  obtain ⟨a, us, m, rfl, ea, e1, e2⟩ := R.lstAt e r1
  obtain ⟨b, ws, m', rfl, eb, e3, e4⟩ := R.lstAt e' r2
  have h1 : us.size = vs.length := by
    have := F2.length e2
    rw [Array.length_toList] at this; exact this
  have h2 : ws.size = 0 := by
    have := F2.length e4
    rw [Array.length_toList] at this; exact this
  cases vs with
  | nil =>
    refine SeqAt.eq_listAt (items := us) (items2 := ws) (e := fun _ => true) ⟨_, e1, rfl, _, rfl⟩ ⟨_, e3, rfl, _, rfl⟩ (by rw [h1, h2]; rfl) hA.cline (fun n q1 q2 => by omega) ?_
    have : (List.range us.size).all (fun _ => true) = true := by simp
    rw [this]
    exact hQ _ _ _ _ _ h (.refl ..) R rfl
  | cons v vs =>
    refine SeqAt.eq_list_lengthsAt (items := us) (items2 := ws) ⟨_, e1, rfl, _, rfl⟩ ⟨_, e3, rfl, _, rfl⟩ (by rw [h1, h2]; rfl) hA.cline ?_
    exact hQ _ _ _ _ _ h (.refl ..) R rfl
theorem c_ne_nil {i j : Nat} {vs : List V} (e : hp[i]? = some (some vs)) (e' : hp[j]? = some (some [])) (h : Φ (.bool (!vs.isEmpty)) hp) : AT2 C k hp (.lst i) (.lst j) (compareOp .NotEq) Φ := fun A α s Q E x y hA R hb r1 r2 hQ => by
  obtain ⟨a, us, m, rfl, ea, e1, e2⟩ := R.lstAt e r1
  obtain ⟨b, ws, m', rfl, eb, e3, e4⟩ := R.lstAt e' r2
  have h1 : us.size = vs.length := by
    have := F2.length e2
    rw [Array.length_toList] at this; exact this
  have h2 : ws.size = 0 := by
    have := F2.length e4
    rw [Array.length_toList] at this; exact this
  cases vs with
  | nil =>
    refine (SeqAt.RcNeAt.lists (items := us) (items2 := ws) (e := fun _ => true) ⟨_, e1, rfl, _, rfl⟩ ⟨_, e3, rfl, _, rfl⟩ (by rw [h1, h2]; rfl) hA.cline (fun n q1 q2 => by omega)) C.prog C.w E Q ?_
    have : (List.range us.size).all (fun _ => true) = true := by simp
    rw [this]
    exact hQ _ _ _ _ _ h (.refl ..) R rfl
  | cons v vs =>
    refine (SeqAt.RcNeAt.lists_lengths (items := us) (items2 := ws) ⟨_, e1, rfl, _, rfl⟩ ⟨_, e3, rfl, _, rfl⟩ (by rw [h1, h2]; rfl) hA.cline) C.prog C.w E Q ?_
    exact hQ _ _ _ _ _ h (.refl ..) R rfl
end
end Mine
end

section
open PySem PySem.W PyProof.Rows PySem.Calls
namespace Mine
noncomputable def spec45 : List Nat := [40, 41, 91, 93, 123, 125, 63, 42, 43, 45, 124, 94, 36, 92, 46, 38, 126, 35, 32, 9, 10, 13, 11, 12]
noncomputable def Ent (e : DictEntry) (c : Nat) : Prop := ∃ t u, e = ⟨c, .int c t, .str ⟨#[92, c]⟩ u⟩

theorem d45 (w : World) : ∃ es n, (KF w).lookup 45 = some ⟨.type "dict", none, .dict es n, #[]⟩ ∧ F2 Ent es.toList spec45 := by
  refine ⟨_, _, rfl, ?_⟩
  repeat (first | exact .nil | refine .cons ⟨_, _, rfl⟩ ?_)

theorem find45 {c : Nat} : ∀ {l : List DictEntry} {cs : List Nat}, F2 Ent l cs → (c ∈ cs → ∃ e t, l.find? (fun e => Value.isInt c e.key) = some e ∧ e.val = .str ⟨#[92, c]⟩ t) ∧ (c ∉ cs → l.find? (fun e => Value.isInt c e.key) = none)
  | _, _, .nil => ⟨fun h => (nomatch h), fun _ => rfl⟩
  | e :: l, d :: cs, .cons h r => by
    obtain ⟨t, u, rfl⟩ := h
    by_cases q : c = d
    · subst q
      exact ⟨fun _ => ⟨_, u, by rw [List.find?_cons_of_pos (by simp [Value.isInt])], rfl⟩, fun z => absurd List.mem_cons_self z⟩
    · have ih := find45 (c := c) r
      have hn : ¬ (Value.isInt (c : Int) (Value.int (d : Int) t)) = true := by
        simp [Value.isInt]; omega
      rw [List.find?_cons_of_neg (p := fun e : DictEntry => Value.isInt c e.key) (a := ⟨d, .int d t, .str ⟨#[92, d]⟩ u⟩) hn]
      exact ⟨fun z => ih.1 ((List.mem_cons.mp z).resolve_left q), fun z => ih.2 fun y => z (List.mem_cons_of_mem _ y)⟩

theorem F2.mem {A B : Type} {R : A → B → Prop} : ∀ {l : List A} {r : List B}, F2 R l r → ∀ {a : A}, a ∈ l → ∃ b, b ∈ r ∧ R a b
  | _, _, .nil, a, h => (nomatch h)
  | _, _, .cons h t, a, m => by
    rcases List.mem_cons.mp m with rfl | m
    · exact ⟨_, List.mem_cons_self, h⟩
    · obtain ⟨b, hb, hr⟩ := t.mem m
      exact ⟨b, List.mem_cons_of_mem _ hb, hr⟩
theorem hash45 : ∀ c ∈ spec45, hashInt (c : Int) = c := by decide
theorem map45 (C : Cx) {hp : List Cell} {α : List Addr} {h : Heap} (R : HR C hp α h) : ∃ f, h.MapOf (intKind C.prog C.w) 45 f ∧ ∀ c : Nat, (c ∈ spec45 → ∃ t, f c = some (.str ⟨#[92, c]⟩ t)) ∧ (c ∉ spec45 → f c = none) := by
  obtain ⟨es, n, e, hf⟩ := d45 C.w
  refine ⟨fun k => findBy Value.isInt es k, ⟨_, es, n, R.K e, ⟨rfl, rfl, rfl⟩, rfl, fun e he => ?_, fun k => rfl⟩, fun c => ?_⟩
  · obtain ⟨c, hc, t, u, rfl⟩ := F2.mem hf (Array.mem_toList_iff.mpr he)
    refine ⟨c, by simp [intKind, Value.isInt], ?_⟩
    exact (hash45 c hc).symm
  · have q := find45 (c := c) hf
    refine ⟨fun z => ?_, fun z => ?_⟩
    · obtain ⟨e, t, e1, e2⟩ := q.1 z
      refine ⟨t, ?_⟩
      unfold findBy
      show (es.find? _).map _ = _
      rw [← Array.find?_toList, e1]
      simp [e2]
    · unfold findBy
      show (es.find? _).map _ = _
      rw [← Array.find?_toList, q.2 z]
      rfl

inductive MapR | keep | esc
theorem sub_lookup : isSubtype (.type "KeyError") (.type "LookupError") = pure true := by rw [isSubtype_type]; kernel_rfl
section
variable {C : Cx} {k : Nat} {hp : List Cell}
open Builtin.Str

theorem wp_table {A : Around} {α : List Addr} {s : Shared} {E : Value → Shared → Prop} {Q : Mapped → Shared → Prop} (hA : A.handled = none) (R : HR C hp α s.heap) (c : Nat)
    (h : ∀ s', Nx C [] α s α s' → HR C hp α s'.heap → Q (if c ∈ spec45 then .text ⟨#[92, c]⟩ else .keep) s') : wpAny C.M A (tableLookup (.ref 45) c) Q E s := by
  unfold tableLookup
  obtain ⟨f, hm, hf⟩ := map45 C R
  refine wpAny_bind (wpAny_attempt (wpAny_bind (wpAny_mkInt ?_)))
  by_cases hc : c ∈ spec45
  · obtain ⟨t, ht⟩ := (hf c).1 hc
    refine wpAny_getItem_slot (s := { s with toks := s.toks + 1 }) hm.typeIs (by decide) F.slot_dict_getitem (call_meetsIn F.slot_dict_getitem hm.typeIs F.entry_dict_getitem (F.args_dict_getitem_2 _ _) (meets_dict_getitem (intKind C.prog C.w) (k := (c : Int)) 45 (intKind_is ..)) ⟨f, _, hm, ht, ?_⟩)
    dsimp only [wants]
    refine wpAny_bind (wpAny_of_eq (a := none) rfl ?_)
    dsimp only
    refine wpAny_bind (wpAny_of_eq (a := some ⟨#[92, c]⟩) rfl ?_)
    dsimp only
    refine wpAny_pure ?_
    rw [if_pos hc] at h
    exact h _ (toksNx s _) R
  · have ht := (hf c).2 hc
    refine wpAny_getItem_slot (s := { s with toks := s.toks + 1 }) hm.typeIs (by decide) F.slot_dict_getitem (call_meetsIn F.slot_dict_getitem hm.typeIs F.entry_dict_getitem (F.args_dict_getitem_2 _ _) (meets_dict_getitem_missing (intKind C.prog C.w) (k := (c : Int)) 45 (intKind_is ..) (by decide)) ⟨hA, f, hm, ht, fun h' e hx => ?_⟩)
    dsimp only [wants]
    obtain ⟨ob, t, e1, e2, e3⟩ := hx.there
    refine wpAny_bind (wpAny_isInstance (T := "KeyError") ⟨ob, e1, e2⟩ sub_lookup ?_)
    rw [if_pos rfl]
    refine wpAny_bind (wpAny_rule (wpAny_pure ?_))
    rw [if_neg hc] at h
    exact h _ (.of hx.keeps rfl rfl) (R.ext hx.keeps)

noncomputable def escP (c : Nat) : List Nat := if c ∈ spec45 then [92, c] else [c]

/-- one sign -/
theorem call_translate1 {c : Nat} {Φ : V → List Cell → Prop} (h : Φ (.str ⟨(escP c).toArray⟩) hp) : ACall C k hp (.builtin "str.translate") [.str ⟨#[c]⟩, .raw (.ref 45)] Φ := fun A α s Q E us hA R hb r hQ => by
  cases r with
  | cons r1 r =>
  cases r with
  | cons r2 r =>
  cases r
  obtain ⟨t, rfl⟩ := r1
  cases r2
  refine wpAny_call (codeAny_call_builtin F.slot_str_translate.plain F.entry_str_translate (F.slot_str_translate.check _ _ _ _ _ _ _ _ (typeIs_str _ _ _) (F.args_str_translate_2 _ _) ?_))
  unfold Builtin.«str.translate»
  refine wpAny_bind (wpAny_of_eq (a := (.str ⟨#[c]⟩ t, ⟨#[c]⟩, .ref 45)) rfl ?_)
  dsimp only
  rw [if_neg (show ¬ ((⟨#[c]⟩ : Str).length == 0) = true from by show ¬ ((1 : Nat) == 0) = true; decide)]
  refine wpAny_bind (wpAny_forIn_array' _ (fun rest b s' => (rest = [c] ∧ b = ([], 0, decide (c < 128), [], false) ∧ s' = s) ∨ (rest = [] ∧ b.1 = [⟨(escP c).toArray⟩] ∧ b.2.1 ≤ 2 ∧ Nx C [] α s α s' ∧ HR C hp α s'.heap)) _ ?_ ?_ _ _ (.inl ⟨rfl, by simp, rfl⟩))
  · rintro x rest b s' (⟨h1, rfl, rfl⟩ | ⟨h1, _⟩)
    · cases h1
      dsimp only
      rw [if_neg (show ¬ tooLong 0 = true from by decide)]
      have e1 : c ∈ spec45 → [(⟨#[92, c]⟩ : Str)] = [⟨(escP c).toArray⟩] := fun hc => by unfold escP; rw [if_pos hc]
      have e2 : c ∉ spec45 → [(⟨#[c]⟩ : Str)] = [⟨(escP c).toArray⟩] := fun hc => by unfold escP; rw [if_neg hc]
      by_cases h128 : c < 128
      · rw [decide_eq_true h128, if_pos rfl]
        dsimp only [List.lookup]
        refine wpAny_bind (wp_table (A := A.in1) hA.1 R c fun s1 n1 R1 => ?_)
        by_cases hc : c ∈ spec45
        · rw [if_pos hc]
          dsimp only
          rw [if_neg (show ¬ ((⟨#[92, c]⟩ : Str).length == 1 && (#[92, c] : Array Nat).all fun x => decide (x < 128)) = true from by
            rw [show ((⟨#[92, c]⟩ : Str).length == 1) = false from rfl]; simp)]
          dsimp only
          refine wpAny_bind (wpAny_pure ?_)
          dsimp only
          refine wpAny_bind (wpAny_rule ?_)
          rw [if_neg (by decide)]
          refine wpAny_bind (wp_table (A := A.in1) hA.1 R1 c fun s2 n2 R2 => ?_)
          rw [if_pos hc]
          dsimp only
          exact wpAny_pure (.inr ⟨rfl, e1 hc, by show 0 + 2 ≤ 2; decide, n1.trans n2, R2⟩)
        · rw [if_neg hc]
          dsimp only
          refine wpAny_bind (wpAny_pure ?_)
          dsimp only
          exact wpAny_pure (.inr ⟨rfl, e2 hc, by show 0 + 1 ≤ 2; decide, n1, R1⟩)
      · rw [decide_eq_false h128, if_neg (by decide), if_neg (by decide)]
        refine wpAny_bind (wp_table (A := A.in1) hA.1 R c fun s1 n1 R1 => ?_)
        by_cases hc : c ∈ spec45
        · rw [if_pos hc]
          dsimp only
          exact wpAny_pure (.inr ⟨rfl, e1 hc, by show 0 + 2 ≤ 2; decide, n1, R1⟩)
        · rw [if_neg hc]
          dsimp only
          exact wpAny_pure (.inr ⟨rfl, e2 hc, by show 0 + 1 ≤ 2; decide, n1, R1⟩)
    · cases h1
  · rintro b s' (⟨h1, _⟩ | ⟨_, h2, h3, n1, R1⟩)
    · cases h1
    · obtain ⟨pieces, total, fast, known, drop⟩ := b
      dsimp only at h2 h3 ⊢
      subst h2
      rw [if_neg (show ¬ tooLong total = true from by unfold tooLong; rw [sizeLine_eq]; simp; omega)]
      have e3 : (List.foldl (fun acc (p : Str) => acc ++ p.cps) #[] [(⟨(escP c).toArray⟩ : Str)].reverse) = (escP c).toArray := by simp
      rw [e3]
      refine wpAny_bind (wpAny_mkStr (wpAny_pure ?_) ?_)
      · exact hQ _ _ α _ _ h (n1.trans (toksNx s' _)) R1 ⟨_, rfl⟩
      · show (escP c).toArray.size ≤ sizeLine
        rw [sizeLine_eq]
        unfold escP
        split <;> simp
end
end Mine
end

section
open PySem PySem.W PyProof.Rows PySem.Calls StrLaws
namespace Mine
section
variable {C : Cx} {k : Nat} {F : FrD} {loc : List (Option V)} {hp : List Cell} {Φ : V → List Cell → Prop}

noncomputable def HasTh (C : Cx) (hp : List Cell) (v : V) (T : String) : Prop := ∀ (α : List Addr) (s : Shared) (x : Value), HR C hp α s.heap → VR α s.heap v x → s.TypeIs x T ∧ ∀ a, x = .ref a → ∃ o, s.heap.get? a = some o ∧ o.dict = none
theorem hasTh_lst {n : Nat} {vs : List V} (e : hp[n]? = some (some vs)) : HasTh C hp (.lst n) "list" := fun α s x R r => by
  obtain ⟨a, xs, m, rfl, ea, e1, e2⟩ := R.lstAt e r
  exact ⟨⟨_, e1, rfl⟩, fun b q => by cases q; exact ⟨_, e1, rfl⟩⟩
theorem HasT.here {v : V} {T : String} (h : HasT C v T) : HasTh C hp v T := fun α s x R r => h hp α s x R r
theorem hasTh_mtch {x : Str} : HasTh C hp (.mtch x) "re.Match" := fun α s u R r => by
  obtain ⟨y, o, fs, tp, tx, tt, a, b, c, d, rfl, e1, e2, e3, r⟩ := r
  exact ⟨⟨o, e1, e2⟩, fun z q => by cases q; exact ⟨o, e1, e3.2⟩⟩

theorem ev_meth {o : Expr} {name : Str} {apos pos : Pos} {args : List Expr} (T id : String)
    (h : AEv C k F loc hp o fun v hp1 => HasTh C hp1 v T ∧ AArgs C k F loc hp1 args fun vs hp2 => ACall C k hp2 (.builtin id) (v :: vs) Φ)
    (pa : PlainAttrs T) (slot : Slot T name id) (ty : typeOf (.builtin id) = pure (.type "method_descriptor"))
    (hs : args = [] ∨ ∃ e rest, args = e :: rest ∧ starEach (e :: rest) F.env = (false, eval e F.env) :: starEach rest F.env ∧ ((backTo pos (starEach rest F.env)).any fun x => x.fst) = false)
    {pl : Sem Bool}
    (hc : eval ((o.Attribute name apos).Call args [] pos) F.env = (do let ov ← eval o F.env; standAt apos.atName; let (f, first) ← holding [ov] (getMethod ov name pl); callWith pos f first (backTo pos (starEach args F.env)) [])) :
    AEv C k F loc hp (.Call (.Attribute o name apos) args [] pos) Φ := fun A α s Q E hA R hQ =>
  MethodCall_ (pl := pl) (h A α s _ E hA R fun v hp1 α1 s1 x p n R1 r => by
    obtain ⟨ht, p⟩ := p
    obtain ⟨t1, t2⟩ := ht α1 s1 x R1.hr r
    refine getMethod_builtin t1 pa slot ty t2 ?_
    rcases hs with rfl | ⟨e, rest, rfl, h1, h2⟩
    · refine callWith_method0 ?_
      have := p A α1 s1 (fun us s2 => wpAny C.M A (call (.builtin id) (x :: us)) Q E s2) E pos hA R1 fun vs hp2 α2 s2 us p2 n2 R2 r2 => p2 A α2 s2 Q E (x :: us) hA R2.hr R2.bare (.cons (r.nx (hp' := hp) n2 (n2.kp0 R1.hr)) r2) fun w hp3 α3 s3 z p3 n3 H3 r3 => hQ w hp3 α3 s3 z p3 ((n.trans n2).trans n3) (R2.nx0 n3 H3) r3
      exact fun Γ q hΓ => this Γ q hΓ Γ q hΓ
    · exact callWith_method1 (first := [x]) (p A α1 s1 _ E pos hA R1 fun vs hp2 α2 s2 us p2 n2 R2 r2 => p2 A α2 s2 Q E (x :: us) hA R2.hr R2.bare (.cons (r.nx (hp' := hp) n2 (n2.kp0 R1.hr)) r2) fun w hp3 α3 s3 z p3 n3 H3 r3 => hQ w hp3 α3 s3 z p3 ((n.trans n2).trans n3) (R2.nx0 n3 H3) r3) h1 h2) hc

theorem call_chr {i : Int} (h0 : 0 ≤ i) (hi : i ≤ 0x10FFFF) (h : Φ (.str ⟨#[i.toNat]⟩) hp) : ACall C k hp (.builtin "chr") [.int i] Φ := fun A α s Q E us hA R hb r hQ => by
  cases r with
  | cons r1 r =>
  cases r
  obtain ⟨t, rfl⟩ := r1
  exact P.chr_of_int (by simp; omega) (hQ _ _ _ _ _ h (toksNx s _) R ⟨_, rfl⟩)
theorem call_isalnum {x : Str} (h : Φ (.bool (Txt.isalnum x)) hp) : ACall C k hp (.builtin "str.isalnum") [.str x] Φ := fun A α s Q E us hA R hb r hQ => by
  cases r with
  | cons r1 r =>
  cases r
  obtain ⟨t, rfl⟩ := r1
  exact SC.isalnum (hQ _ _ _ _ _ h (.refl ..) R rfl)
theorem sub_str_str : isSubtype (.type "str") (.type "str") = pure true := by rw [isSubtype_type]; kernel_rfl
theorem type_type_str : typeOf (.type "str") = pure (.type "type") := by first | rfl | kernel_rfl
theorem call_isi_str {x : Str} (h : Φ (.bool true) hp) : ACall C k hp (.builtin "isinstance") [.str x, .raw (.type "str")] Φ := fun A α s Q E us hA R hb r hQ => by
  cases r with
  | cons r1 r =>
  cases r with
  | cons r2 r =>
  cases r
  obtain ⟨t, rfl⟩ := r1
  cases r2
  exact call_isinstance (isinstance_true (Tx := "str") type_type_str sub_str_str) ⟨typeIs_str _ _ _, hQ _ _ _ _ _ h (.refl ..) R rfl⟩

/-- a text from a place on -/
theorem ev_from {ve lo : Expr} {p pos : Pos} (h : AEv C k F loc hp ve fun v hp1 => ∃ x, v = .str x ∧ AEv C k F loc hp1 lo fun a hp2 => ∃ i : Nat, a = .int i ∧ i ≤ x.cps.size ∧ x.cps.size ≤ sizeLine ∧
      Φ (.str ⟨(x.cps.toList.drop i).toArray⟩) hp2)
    (ht : ∀ o r, letTemporaryGo ve o r = pure () := by intro _ _; rfl) : AEv C k F loc hp (.Subscript ve (.Slice (some lo) none none p) pos) Φ := fun A α s Q E hA R hQ => by
  refine wpAny_Subscript_str_slice (h A α s _ E hA R fun v hp1 α1 s1 y pp n1 R1 r1 => ?_) ht
  obtain ⟨x, rfl, pp⟩ := pp
  obtain ⟨t, rfl⟩ := r1
  rw [evalPart_some]
  refine pp A α1 s1 _ E hA R1 fun a hp2 α2 s2 y2 p2 n2 R2 r2 => ?_
  obtain ⟨i, rfl, hj, hz, p3⟩ := p2
  obtain ⟨ti, rfl⟩ := r2
  rw [evalPart_none]
  refine wpAny_pure ⟨x, t, some (i, ti), none, rfl, rfl, rfl, ?_⟩
  have n4 : Nx C [] α2 s2 (α2 ++ []) { s2 with heap := s2.heap.push { cls := .type "slice", data := .fields #[.int i ti, .none, .none] } } := .push s2 _ [] (by simp)
  rw [List.append_nil] at n4
  have R4 := R2.nx0 n4 (R2.hr.ext (fun b o e => Heap.get?_push_of_some _ e))
  have e0 : Builtin.Str.strSliceIndices (some (i : Int)) none 1 x.length = Builtin.Str.strSliceIndices (some (i : Int)) (some (x.cps.size : Int)) 1 x.length := by
    have hx : x.length = x.cps.size := rfl
    rw [hx]
    show PySem.sliceRange _ (x.cps.size : Int) 1 = PySem.sliceRange _ (max 0 (min (if ((x.cps.size : Nat) : Int) < 0 then (x.cps.size : Int) + x.cps.size else x.cps.size) (x.cps.size : Int))) 1
    congr 1
    omega
  have e := picked_eq x i x.cps.size hj (Nat.le_refl _)
  rw [← e0] at e
  have et : (x.cps.toList.drop i).take (x.cps.size - i) = x.cps.toList.drop i := List.take_of_length_le (by simp)
  rw [et] at e
  have fin : ∀ (s5 : Shared) (t' : Tok) (y : Str), y = ⟨(x.cps.toList.drop i).toArray⟩ → s5 = { s2 with heap := s2.heap.push { cls := .type "slice", data := .fields #[.int i ti, .none, .none] }, toks := s5.toks } → Q (.str y t') s5 := fun s5 t' y ey es => by
    rw [es]
    subst ey
    exact hQ _ _ _ _ _ p3 ((n1.trans n2).trans (n4.trans (toksNx _ _))) (toksRel R4 _) ⟨t', rfl⟩
  unfold sliceMade
  split
  · rename_i hw
    refine fin _ _ _ ?_ rfl
    simp only [slicePicked, Option.map_some, Option.map_none, Option.getD_none, Bool.and_eq_true, beq_iff_eq] at hw
    have hl := hw.2
    rw [e0, show x.length = x.cps.size from rfl, strSliceIndices_plain hj (Nat.le_refl _)] at hl
    have hl' : x.cps.size - i = x.cps.size := by simpa using hl
    have h1 : i = 0 ∨ x.cps.size = 0 := by omega
    rcases h1 with rfl | h1
    · simp
    · have : x.cps = #[] := by simpa using h1
      obtain ⟨c⟩ := x
      simp at this
      subst this
      simp
  · refine ⟨?_, fin _ _ _ e rfl⟩
    show (Array.size _) ≤ sizeLine
    have : (⟨((slicePicked x (some (↑i, ti)) none none).filterMap (x.cps[·]?)).toArray⟩ : Str) = _ := e
    have := congrArg (fun z : Str => z.cps.size) this
    simp at this ⊢
    rw [this]
    omega
end
end Mine
end

section
open PySem PySem.W PyProof.Rows PySem.Calls StrLaws
namespace Mine
section
variable {C : Cx} {k : Nat} {F : FrD} {loc : List (Option V)} {hp : List Cell} {Φ : V → List Cell → Prop}

theorem wp_const {A : Around} {s : Shared} {E : Value → Shared → Prop} {Q : Value → Shared → Prop} {x : Str} {n : Nat} {pos : Pos} {env : Env} (h : Q (.str x s.toks) { s with toks := s.toks + 1 }) : wpAny C.M A (eval (.Constant (.str x) n pos) env) Q E s := by
  show wpAny _ _ (mkText x) _ _ _
  exact wpAny_mkText h

theorem wp_replace {A : Around} {α : List Addr} {s : Shared} {E : Value → Shared → Prop} {Q : Value → Shared → Prop} (R : Rel C F loc hp α s) (i : Nat) {x : Str} {c : Option Addr} {np apos pos p1 p2 : Pos} {v y z : Str} {n1 n2 : Nat}
    (hi : F.names[i]? = some (x, c)) (hv : loc[i]? = some (some (.str v))) (ht : 0 < s.toks) (hyz : (y == z) = false) (hz : v.length ≤ 1048576) (hz2 : z.length ≤ 14)
    (h : ∀ t' tk, Q (.str (Txt.replace v y z) t') { s with toks := tk })
    (hd : (x == ("__debug__" : Str)) = false := by decide) {pl : Sem Bool}
    (hc : eval (((Expr.Name x np).Attribute "replace" apos).Call [.Constant (.str y) n1 p1, .Constant (.str z) n2 p2] [] pos) F.env = (do let ov ← eval (.Name x np) F.env; standAt apos.atName; let (f, first) ← holding [ov] (getMethod ov "replace" pl); callWith pos f first (backTo pos (starEach [.Constant (.str y) n1 p1, .Constant (.str z) n2 p2] F.env)) []) := by rfl) :
    wpAny C.M A (eval (.Call (.Attribute (.Name x np) "replace" apos) [.Constant (.str y) n1 p1, .Constant (.str z) n2 p2] [] pos) F.env) Q E s :=
  MethodCall_ (pl := pl) (wpAny_Name (ld_at R A E hi hv fun u ru => by
    obtain ⟨t, rfl⟩ := ru
    refine getMethod_builtin (typeIs_str _ _ _) PySem.F.plainAttrs_str PySem.F.slot_str_replace PySem.F.type_str_replace (fun _ e => nomatch e) ?_
    refine callWith_method1 (first := [.str v t]) (spliced_more (wp_const (spliced_more (wp_const (spliced_none ?_)) rfl)) rfl) rfl rfl
    exact SC.replaceW (by show (s.toks : Nat) ≠ 0; omega) (by show (s.toks : Nat) + 1 ≠ 0; omega) (by show (s.toks : Nat) ≠ s.toks + 1; omega) hyz hz hz2 fun t' tk => h t' tk) hd) hc

/-- a sign laid ahead of a text with signs replaced -/
theorem ev_cat_replace (i : Nat) {x : Str} {c : Option Addr} {np apos pos p0 p1 p2 bpos : Pos} {v w y z : Str} {n0 n1 n2 : Nat}
    (hi : F.names[i]? = some (x, c)) (hv : loc[i]? = some (some (.str v))) (hyz : (y == z) = false) (hz : v.length ≤ 1048576) (hz2 : z.length ≤ 14) (hz3 : w.length + (Txt.replace v y z).length ≤ sizeLine)
    (h : Φ (.str (w ++ Txt.replace v y z)) hp)
    (hd : (x == ("__debug__" : Str)) = false := by decide) {pl : Sem Bool}
    (hc : eval (((Expr.Name x np).Attribute "replace" apos).Call [.Constant (.str y) n1 p1, .Constant (.str z) n2 p2] [] pos) F.env = (do let ov ← eval (.Name x np) F.env; standAt apos.atName; let (f, first) ← holding [ov] (getMethod ov "replace" pl); callWith pos f first (backTo pos (starEach [.Constant (.str y) n1 p1, .Constant (.str z) n2 p2] F.env)) []) := by rfl) :
    AEv C k F loc hp (.BinOp (.Constant (.str w) n0 p0) .Add (.Call (.Attribute (.Name x np) "replace" apos) [.Constant (.str y) n1 p1, .Constant (.str z) n2 p2] [] pos) bpos) Φ := fun A α s Q E hA R hQ => by
  refine wpAny_BinOp (wp_const ?_)
  refine wp_replace (s := { s with toks := s.toks + 1 }) (toksRel R _) i hi hv (Nat.succ_pos _) hyz hz hz2 (fun t' tk => ?_) hd (pl := pl) hc
  refine add_str (fun t2 tk2 => ?_) hz3
  exact hQ _ _ α _ _ h ((toksNx s tk).trans (toksNx _ tk2)) (toksRel R _) ⟨t2, rfl⟩

/-- if '-' not in stuff: stuff = stuff.replace(..) -/
theorem ex_if_replace (i : Nat) {x : Str} {np np2 np3 apos pos p0 p1 p2 cpos ipos apos2 : Pos} {v w y z : Str} {n0 n1 n2 : Nat} {orelse : List Stmt} {Ψ : Fl → List (Option V) → List Cell → Prop}
    (hi : F.names[i]? = some (x, none)) (hv : loc[i]? = some (some (.str v))) (hyz : (y == z) = false) (hz : v.length ≤ 1048576) (hz2 : z.length ≤ 14)
    (hno : (Builtin.Str.occurrences v w 0 v.length 1).isEmpty = true)
    (h : Ψ .next (loc.set i (some (.str (Txt.replace v y z)))) hp)
    (hs : swapsWith (.Call (.Attribute (.Name x np) "replace" apos) [.Constant (.str y) n1 p1, .Constant (.str z) n2 p2] [] pos) (some (.Name x np3)) apos2.line F.env = pure false := by rfl)
    (hd : (x == ("__debug__" : Str)) = false := by decide) {pl : Sem Bool}
    (hc : eval (((Expr.Name x np).Attribute "replace" apos).Call [.Constant (.str y) n1 p1, .Constant (.str z) n2 p2] [] pos) F.env = (do let ov ← eval (.Name x np) F.env; standAt apos.atName; let (f, first) ← holding [ov] (getMethod ov "replace" pl); callWith pos f first (backTo pos (starEach [.Constant (.str y) n1 p1, .Constant (.str z) n2 p2] F.env)) []) := by rfl) :
    AEx C k F loc hp (.If (.Compare (.Constant (.str w) n0 p0) [.NotIn] [.Name x np2] cpos)
      [.Assign [.Name x np3] (.Call (.Attribute (.Name x np) "replace" apos) [.Constant (.str y) n1 p1, .Constant (.str z) n2 p2] [] pos) apos2] orelse ipos) Ψ := fun A α s Q E hA R hQ => by
  refine wpAny_If (wpAny_isTrue_Compare1 (wp_const ?_) (by with_unfolding_all rfl))
  refine wpAny_Name (ld_at (s := { s with toks := s.toks + 1 }) (toksRel R _) A E hi hv fun u ru => ?_) hd
  obtain ⟨t, rfl⟩ := ru
  refine notIn_str ?_
  rw [hno]
  refine wpAny_truthy_bool ?_
  show wpAny _ _ (execs [_] F.env) _ _ _
  refine wpAny_execs_cons (wpAny_Assign_Name (wp_replace (s := { s with toks := s.toks + 1 }) (toksRel R _) i hi hv (Nat.succ_pos _) hyz hz hz2 (fun t' tk => ?_) hd (pl := pl) hc) hs)
  refine st_at (s := { s with toks := tk }) (v := .str (Txt.replace v y z)) (toksRel R _) A E hi noCell ⟨t', rfl⟩ fun s2 n2 R2 => ?_
  exact wpAny_execs_nil (hQ _ _ _ _ _ _ h ((toksNx s tk).trans n2) R2 rfl)

/-- a text that a global holds -/
theorem ev_global_str {x : Str} {pos : Pos} {y : Str} {t : Tok} (hx : F.env.kindOf x = some .globalImplicit) (e : C.mg x = some (.str y t)) (h : Φ (.str y) hp)
    (hd : (x == ("__debug__" : Str)) = false := by decide) : AEv C k F loc hp (.Name x pos) Φ := fun A α s Q E hA R hQ =>
  Calls.Name_function_global R.ok.kind hx (Calls.loadGlobal_global (env := F.env) (by rw [R.ok.glob]; exact R.hr.ns) e (hQ _ _ _ _ _ h (.refl ..) R ⟨t, rfl⟩)) hd

/-- group(1) -/
theorem call_group {x : Str} (h : Φ (.str x) hp) (hz : x.length ≤ sizeLine) : ACall C k hp (.builtin "re.Match.group") [.mtch x, .int 1] Φ := fun A α s Q E us hA R hb r hQ => by
  cases r with
  | cons r1 r =>
  cases r with
  | cons r2 r =>
  cases r
  obtain ⟨u, rfl⟩ := r2
  obtain ⟨y, o, fs, tp, tx, tt, a, b, c, d, rfl, e1, e2, ⟨e3, e4⟩, e5, e6, ⟨o2, n2, f1, f2, f3⟩, h0, h1, e7⟩ := r1
  refine wpAny_call (codeAny_call_builtin slot_group.plain entry_group (slot_group.check _ _ _ _ _ _ _ _ ⟨o, e1, e2⟩ (args_group _ _) ?_))
  unfold Builtin.«re.Match.group»
  refine wpAny_bind (wpAny_of_eq (a := ()) rfl ?_)
  dsimp only
  unfold Builtin.Re.reFound
  refine wpAny_bind (wpAny_bind (wpAny_fieldsOf e1 e3 ?_))
  have e6' : fs.getD 5 .none = .ref tp := by rw [Array.getD_eq_getD_getElem?, e6]; rfl
  have e5' : fs.getD 0 .none = .str tx tt := by rw [Array.getD_eq_getD_getElem?, e5]; rfl
  rw [e6']
  unfold Builtin.Re.reRawItems
  refine wpAny_bind (wpAny_bind (wpAny_seqItems f1 f3 (wpAny_pure (wpAny_pure ?_))))
  unfold Builtin.Re.reGroupNumber
  refine wpAny_bind (wpAny_bind ?_)
  refine wpAny_of_eq (a := some 1) rfl ?_
  rw [if_pos (by rfl)]
  refine wpAny_bind (wpAny_of_eq (a := 1) rfl ?_)
  dsimp only
  rw [if_neg (show ¬ _ from by simp)]
  refine wpAny_pure ?_
  unfold Builtin.Re.reGroupText
  dsimp only
  rw [e5']
  have g2 : (Array.map Builtin.Re.reRawOf ((some #[Value.int a 0, Value.int b 0, Value.int c 0, Value.int d 0]).getD #[])).getD (2 * Int.toNat 1) (-1) = c := by simp [Builtin.Re.reRawOf]
  have g3 : (Array.map Builtin.Re.reRawOf ((some #[Value.int a 0, Value.int b 0, Value.int c 0, Value.int d 0]).getD #[])).getD (2 * Int.toNat 1 + 1) (-1) = d := by simp [Builtin.Re.reRawOf]
  rw [g2, g3, if_neg (show ¬ _ from by simp; omega)]
  refine wpAny_bind (wpAny_bind (wpAny_of_eq (a := (tx.cps, 0)) rfl ?_))
  dsimp only
  unfold Builtin.Re.reSlice
  simp only [beq_self_eq_true, if_true]
  rw [← e7] at h hz
  refine wpAny_mkStr (wpAny_pure ?_) hz
  exact hQ _ _ α _ _ h (toksNx s _) R ⟨_, rfl⟩
end
end Mine
end

section
open PySem PySem.W PyProof.Rows PySem.Calls
open Sem (wp)
namespace Mine
theorem called_object : TypeCalled "object" "object.__new__" "object.__init__" where
  notType := by decide
  canCreate := by decide +kernel
  mro := ⟨.type "object", [], by rw [mroOf_type]; kernel_rfl⟩
  made := by kernel_rfl
  plain := by decide +kernel
  sub := by rw [isSubtype_type]; kernel_rfl
  init := .of (owner := "object") (n := "__init__") (by rw [typeLookup_type, builtinLookup_eq_fast]; kernel_rfl) (by decide +kernel) (by decide +kernel) (by decide +kernel)
    (by first | exact .inl (by decide +kernel) | exact .inr (by decide +kernel)) (by rw [isSubtype_type]; kernel_rfl)
theorem typeCall_object : checkTypeCall "object" ⟨[], []⟩ = pure () := by kernel_rfl
theorem check_object_new : checkBuiltinCall "object.__new__" ⟨[.type "object"], []⟩ = pure () := by kernel_rfl
theorem args_object_init (a : Value) : argsOk "object.__init__" ⟨[a], []⟩ := by unfold argsOk; kernel_rfl
theorem type_object : PySem.isType (.type "object") = pure true := by first | rfl | kernel_rfl
theorem made_object : Bind.madeHere "object.__new__" (.type "object") = pure () := by kernel_rfl

theorem meets_object_new : Meets (Builtin.«object.__new__» ⟨[.type "object"], []⟩) (fun _ R s => R (.ok (.ret (.ref s.heap.objs.size))) { s with heap := s.heap.push { cls := .type "object", data := .plain } }) :=
  Meets.of_wp fun prog w A R s hs => by
    unfold Builtin.«object.__new__»
    dsimp only
    refine wpAny_bind (wpAny_of_eq (a := true) type_object ?_)
    rw [if_neg (by decide)]
    rw [if_neg (show ¬ _ from by decide +kernel)]
    refine wpAny_bind (wpAny_of_eq (a := ()) made_object ?_)
    rw [if_neg (by decide)]
    rw [if_neg (show ¬ typeHasDict (.type "object") = true from by decide +kernel)]
    refine wpAny_bind (wpAny_pure ?_)
    refine wpAny_bind (wpAny_newObj_type ?_ True.intro)
    rw [if_neg (show ¬ _ from by decide +kernel)]
    exact wpAny_pure ⟨_, rfl, hs⟩
theorem meets_object_init (v : Value) : Meets (Builtin.«object.__init__» ⟨[v], []⟩) (fun _ R s => R (.ok (.ret .none)) s) :=
  Meets.of_wp fun prog w A R s hs => wpAny_pure ⟨_, rfl, hs⟩

section
variable {C : Cx} {k : Nat} {F : FrD} {loc : List (Option V)} {hp : List Cell} {Φ : V → List Cell → Prop}

theorem HR.pushObj {α : List Addr} {h : Heap} (R : HR C hp α h) : HR C (hp ++ [none]) (α ++ [h.objs.size]) (h.push { cls := .type "object", data := .plain }) := by
  have k : ∀ b o, h.get? b = some o → (h.push { cls := .type "object", data := .plain }).get? b = some o := fun b o e => Heap.get?_push_of_some _ e
  have R' := R.ext k
  refine ⟨R'.base, by simp [R.len], ?_, fun a ha => ?_, fun i a c e1 e2 => ?_⟩
  · rw [List.nodup_append]
    refine ⟨R.nd, by simp, fun a ha b hb => ?_⟩
    simp only [List.mem_singleton] at hb
    subst hb
    exact Nat.ne_of_lt (R.lt ha)
  · rcases List.mem_append.mp ha with ha | ha
    · exact R.new a ha
    · simp only [List.mem_singleton] at ha
      subst ha
      exact R.absent (get_size _)
  · by_cases hi : i < α.length
    · rw [List.getElem?_append_left hi] at e1
      rw [List.getElem?_append_left (R.len ▸ hi)] at e2
      exact (R.cell i a c e1 e2).step (Kp.of k) (k a)
    · have hi' : i = α.length := by
        have := (List.getElem?_eq_some_iff.mp e1).1
        simp at this; omega
      subst hi'
      rw [List.getElem?_append_right (Nat.le_refl _)] at e1
      rw [R.len, List.getElem?_append_right (Nat.le_refl _)] at e2
      simp at e1 e2
      subst e1 e2
      exact Heap.get?_push_size _ rfl

/-- object() -/
theorem ev_object {func : Expr} {pos : Pos} (h : AEv C k F loc hp func fun v hp1 => v = .raw (.type "object") ∧ Φ (.obj hp1.length) (hp1 ++ [none]))
    (hc : eval (func.Call [] [] pos) F.env = (do let f ← eval func F.env; callWith pos f [] (backTo pos (starEach [] F.env)) (backToKw pos (keywordEach [] F.env))) := by rfl) :
    AEv C k F loc hp (.Call func [] [] pos) Φ := fun A α s Q E hA R hQ =>
  Call_ (h A α s _ E hA R fun v hp1 α1 s1 x p n R1 r => by
    obtain ⟨rfl, p⟩ := p
    have e : x = .type "object" := r
    subst e
    refine PyProof.Rows.callWith_type0 ?_
    refine callType_meets called_object typeCall_object check_object_new PySem.F.entry_object_new PySem.F.entry_object_init meets_object_new (Q₁ := fun obj s' => obj = .ref s1.heap.objs.size ∧ s' = { s1 with heap := s1.heap.push { cls := .type "object", data := .plain } }) ⟨rfl, rfl⟩ fun obj s' hq => ?_
    obtain ⟨rfl, rfl⟩ := hq
    refine ⟨⟨_, Heap.get?_push_size _ rfl, rfl⟩, args_object_init _, _, meets_object_init _, rfl, ?_⟩
    have n2 : Nx C [] α1 s1 (α1 ++ [s1.heap.objs.size]) { s1 with heap := s1.heap.push { cls := .type "object", data := .plain } } := .push s1 _ [s1.heap.objs.size] (by simp)
    exact hQ _ _ _ _ _ p (n.trans n2) (R1.nx0 n2 R1.hr.pushObj) ⟨s1.heap.objs.size, by rw [← R1.hr.len, List.getElem?_append_right (Nat.le_refl _)]; simp, rfl⟩) hc
end
end Mine
end

section
open PySem PySem.W StrLaws
namespace Mine
noncomputable def repl1 (c : Nat) (z : List Nat) (l : List Nat) : List Nat := l.flatMap fun k => if k = c then z else [k]
theorem repl1_free (c : Nat) (z : List Nat) : ∀ l : List Nat, c ∉ l → repl1 c z l = l
  | [], _ => rfl
  | k :: r, h => by
    have h1 : ¬ k = c := fun e => h (e ▸ List.mem_cons_self ..)
    have h2 : c ∉ r := fun m => h (List.mem_cons_of_mem _ m)
    unfold repl1
    rw [List.flatMap_cons, if_neg h1]
    show k :: repl1 c z r = _
    rw [repl1_free c z r h2]
theorem repl1_app (c : Nat) (z a b : List Nat) : repl1 c z (a ++ b) = repl1 c z a ++ repl1 c z b := List.flatMap_append
theorem repl1_join (c : Nat) (z : Array Nat) : ∀ parts : List Str, (∀ p ∈ parts, c ∉ p.cps.toList) → repl1 c z.toList (Str.join ⟨#[c]⟩ parts).cps.toList = (Str.join ⟨z⟩ parts).cps.toList
  | [], _ => rfl
  | [p], h => repl1_free c _ _ (h p (List.mem_singleton.mpr rfl))
  | p :: q :: r, h => by
    have ih := repl1_join c z (q :: r) fun a ha => h a (List.mem_cons_of_mem _ ha)
    show repl1 c z.toList (p ++ ⟨#[c]⟩ ++ Str.join ⟨#[c]⟩ (q :: r)).cps.toList = (p ++ ⟨z⟩ ++ Str.join ⟨z⟩ (q :: r)).cps.toList
    simp only [Str.cps_append, Array.toList_append]
    rw [repl1_app, repl1_app, ih, repl1_free c _ _ (h p (List.mem_cons_self ..))]
    show p.cps.toList ++ repl1 c z.toList [c] ++ _ = _
    have : repl1 c z.toList [c] = z.toList := by simp [repl1]
    rw [this]
theorem replace_flat (x : Str) (c : Nat) (z : Array Nat) : (Txt.replace x ⟨#[c]⟩ ⟨z⟩).cps.toList = repl1 c z.toList x.cps.toList := by
  rw [replace_one, ← repl1_join c z _ (split_free x c), join_split]
theorem repl1_len (c : Nat) (z : List Nat) (m : Nat) (hz : z.length ≤ m) (hm : 1 ≤ m) : ∀ l : List Nat, (repl1 c z l).length ≤ m * l.length
  | [] => by simp [repl1]
  | k :: r => by
    have ih := repl1_len c z m hz hm r
    unfold repl1 at ih ⊢
    rw [List.flatMap_cons, List.length_append, List.length_cons, Nat.mul_succ]
    have : (if k = c then z else [k]).length ≤ m := by split; exact hz; exact hm
    omega
theorem replace_len (x : Str) (c : Nat) (z : Array Nat) (m : Nat) (hz : z.size ≤ m) (hm : 1 ≤ m) : (Txt.replace x ⟨#[c]⟩ ⟨z⟩).length ≤ m * x.cps.size := by
  show (Txt.replace x ⟨#[c]⟩ ⟨z⟩).cps.size ≤ _
  rw [← Array.length_toList, replace_flat, ← Array.length_toList]
  exact repl1_len c z.toList m (by simpa using hz) hm _
theorem str_ext {x y : Str} (h : x.cps.toList = y.cps.toList) : x = y := by
  cases x; cases y; congr 1; exact Array.toList_inj.mp h
end Mine
end

section
open PySem PySem.W PyProof.Rows PySem.Calls
namespace Mine
theorem nextGood_none {good : Nat → Bool} {text : Array Nat} : ∀ {fuel s : Nat}, text.size < fuel + s → (nextGood good text fuel s = none ↔ ∀ i, s ≤ i → i < text.size → good (text.getD i 0) = false)
  | 0, s, h => ⟨fun _ i h1 h2 => by omega, fun _ => rfl⟩
  | fuel + 1, s, h => by
    unfold nextGood
    by_cases h1 : s ≥ text.size
    · rw [if_pos h1]
      exact ⟨fun _ i h2 h3 => by omega, fun _ => rfl⟩
    · rw [if_neg h1]
      by_cases h2 : good (text.getD s 0) = true
      · rw [if_pos h2]
        refine ⟨fun z => (by cases z), fun z => ?_⟩
        have := z s (Nat.le_refl _) (by omega)
        rw [h2] at this; cases this
      · rw [if_neg h2, nextGood_none (by omega)]
        refine ⟨fun z i h3 h4 => ?_, fun z i h3 h4 => z i (by omega) h4⟩
        rcases Nat.lt_or_ge s i with h5 | h5
        · exact z i h5 h4
        · have : i = s := by omega
          subst this
          exact eq_false_of_ne_true h2

noncomputable def allSafe (x : Str) : Bool := x.cps.toList.all safe1
theorem nextGood_safe (x : Str) : (nextGood (fun c => !safe1 c) x.cps (x.cps.size + 1 - 0) 0).isNone = allSafe x := by
  have h := nextGood_none (good := fun c => !safe1 c) (text := x.cps) (fuel := x.cps.size + 1 - 0) (s := 0) (by omega)
  rw [Bool.eq_iff_iff, Option.isNone_iff_eq_none, h]
  unfold allSafe
  rw [List.all_eq_true]
  constructor
  · intro z c hc
    obtain ⟨i, hi, rfl⟩ := List.getElem_of_mem hc
    have := z i (Nat.zero_le _) (by simpa using hi)
    simp at hi
    rw [Array.getD_eq_getD_getElem?, Array.getElem?_eq_getElem hi] at this
    simpa using this
  · intro z i _ hi
    rw [Array.getD_eq_getD_getElem?, Array.getElem?_eq_getElem hi]
    have := z x.cps[i] (by simp)
    simp [this]

noncomputable def quoteS (x : Str) : Str := if x.length = 0 then ⟨#[39, 39]⟩ else if allSafe x then x else ⟨#[39]⟩ ++ Txt.replace x ⟨#[39]⟩ ⟨#[39, 34, 39, 34, 39]⟩ ++ ⟨#[39]⟩

theorem pat1 (C : Cx) : ∀ (hp : List Cell) (α : List Addr) (h : Heap), HR C hp α h → Pat h 74 73 code1 0 := fun hp α h R =>
  ⟨⟨_, _, R.K (a := 74) rfl, rfl, rfl, rfl, rfl⟩, ⟨_, _, _, R.K (a := 73) rfl, rfl, by decide +kernel⟩⟩
theorem pat2 (C : Cx) : ∀ (hp : List Cell) (α : List Addr) (h : Heap), HR C hp α h → Pat h 36 35 code2 1 := fun hp α h R =>
  ⟨⟨_, _, R.K (a := 36) rfl, rfl, rfl, rfl, rfl⟩, ⟨_, _, _, R.K (a := 35) rfl, rfl, by decide +kernel⟩⟩
theorem pat3 (C : Cx) : ∀ (hp : List Cell) (α : List Addr) (h : Heap), HR C hp α h → Pat h 94 93 code3 0 := fun hp α h R =>
  ⟨⟨_, _, R.K (a := 94) rfl, rfl, rfl, rfl, rfl⟩, ⟨_, _, _, R.K (a := 93) rfl, rfl, by decide +kernel⟩⟩
theorem pat4 (C : Cx) : ∀ (hp : List Cell) (α : List Addr) (h : Heap), HR C hp α h → Pat h 99 98 code4 0 := fun hp α h R =>
  ⟨⟨_, _, R.K (a := 99) rfl, rfl, rfl, rfl, rfl⟩, ⟨_, _, _, R.K (a := 98) rfl, rfl, by decide +kernel⟩⟩

theorem len_replace39 (x : Str) (hx : x.cps.size ≤ 1000) : (Txt.replace x ⟨#[39]⟩ ⟨#[39, 34, 39, 34, 39]⟩).length ≤ 10000 := by
  have := replace_len x 39 #[39, 34, 39, 34, 39] 5 (by decide) (by decide)
  omega
section
variable {C : Cx} {k : Nat} {hp : List Cell} {Φ : V → List Cell → Prop}

theorem w_quote {x : Str} (hk : k < 90) (hx : x.cps.size ≤ 1000) (h : Φ (.str (quoteS x)) hp) : ACall C k hp (.ref 89) [.str x] Φ := by
  refine enter (d_quote C.w) (by omega) rfl fun L => ?_
  have hz : x.length ≤ sizeLine := by show x.cps.size ≤ _; rw [sizeLine_eq]; omega
  refine ex_cons (ex_if (ts_not (ts_plain (ev_local 0 rfl rfl ⟨_, tr_str hz, ?_⟩))))
  refine ⟨fun h0 => ?_, fun h0 => ?_⟩
  · have h0' : x.length = 0 := by simpa using h0
    refine ex_cons (ex_return (ev_str ⟨_, rfl, ?_⟩))
    unfold quoteS at h
    rw [if_pos h0'] at h
    exact h
  · have h0' : ¬ x.length = 0 := by simpa using h0
    refine ex_nil ?_
    refine ex_cons (ex_if (ts_cmp (ev_call_bd (ev_global rfl (C.mgK (by rfl)) ⟨isBd_raw rfl, args_cons (ev_local 0 rfl rfl (args_nil (callV_search (a := 74) rfl rfl (pat1 C) (by omega) (finds1 x.cps 0) (ev_none ?_))))⟩))))
    have hn := nextGood_safe x
    cases q : nextGood (fun c => !safe1 c) x.cps (x.cps.size + 1 - 0) 0 with
    | none =>
      rw [q] at hn
      refine c_is_none (v := .none) trivial ⟨true, rfl, fun _ => ?_, fun z => by cases z⟩
      refine ex_cons (ex_return (ev_local 0 rfl rfl ⟨_, rfl, ?_⟩))
      unfold quoteS at h
      have hn' : allSafe x = true := hn.symm
      rw [if_neg h0', if_pos hn'] at h
      exact h
    | some b =>
      rw [q] at hn
      refine c_is_none (v := .thing) trivial ⟨false, rfl, (fun z => by cases z), fun _ => ?_⟩
      refine ex_nil ?_
      have hl := len_replace39 x hx
      refine ex_cons (ex_return (ev_bin (ev_cat_replace 0 rfl rfl (by decide) (by show x.cps.size ≤ _; omega) (by decide) (by rw [sizeLine_eq]; show 1 + (Txt.replace x ⟨#[39]⟩ ⟨#[39, 34, 39, 34, 39]⟩).length ≤ _; omega) (ev_str (op_cat ?_ ⟨_, rfl, ?_⟩)))))
      · rw [sizeLine_eq]
        show (⟨#[39]⟩ ++ Txt.replace x ⟨#[39]⟩ ⟨#[39, 34, 39, 34, 39]⟩ : Str).length + 1 ≤ _
        rw [Str.length_append]
        show 1 + _ + 1 ≤ _
        omega
      · unfold quoteS at h
        have hn' : allSafe x = false := hn.symm
        rw [if_neg h0', if_neg (by rw [hn']; decide)] at h
        exact h
end
end Mine
end

section
open PySem PySem.W PyProof.Rows PySem.Calls
namespace Mine
noncomputable def find4 (x : Str) (p : Nat) : Option (Nat × Nat) := (nextGood good4 x.cps (x.cps.size + 1 - p) p).map fun b => (b, end4 x.cps b)
noncomputable def find3 (x : Str) (p : Nat) : Option (Nat × Nat) := (next3 x.cps (x.cps.size + 1 - p) p).map fun b => (b, b + 1)
noncomputable def find2 (x : Str) (p : Nat) : Option (Nat × Nat) := (nextGood good2 x.cps (x.cps.size + 1 - p) p).map fun b => (b, b + 1)
noncomputable def subS (find : Str → Nat → Option (Nat × Nat)) (rep : Str → Str) (x : Str) : Str := Str.join ⟨#[]⟩ (subOut (find x) rep x.cps (x.cps.size + 1) 0)
noncomputable def sub4 (x : Str) : Str := subS find4 (fun _ => ⟨#[13, 10]⟩) x
noncomputable def sub3 (x : Str) : Str := subS find3 (fun _ => ⟨#[46, 46]⟩) x

theorem join_nil_len : ∀ xs : List Str, (Str.join ⟨#[]⟩ xs).length = (xs.map (·.length)).sum
  | [] => rfl
  | [x] => by simp [Str.join]
  | x :: y :: r => by
    have ih := join_nil_len (y :: r)
    show (x ++ ⟨#[]⟩ ++ Str.join ⟨#[]⟩ (y :: r)).length = _
    rw [Str.length_append, Str.length_append, ih]
    show x.length + 0 + _ = _
    simp
theorem subOut_len {find : Nat → Option (Nat × Nat)} {rep : Str → Str} {text : Array Nat} (hf : ∀ p b e, find p = some (b, e) → p ≤ b ∧ b < e ∧ e ≤ text.size) (hr : ∀ y : Str, 0 < y.length → (rep y).length ≤ 2 * y.length) :
    ∀ (fuel done : Nat), ((subOut find rep text fuel done).map (·.length)).sum ≤ 2 * (text.size - done)
  | 0, done => by simp [subOut]
  | fuel + 1, done => by
    cases q : find done with
    | none =>
      rw [subOut_none q]
      by_cases h : done < text.size
      · rw [if_pos h]
        have : (⟨text.extract done text.size⟩ : Str).length = text.size - done := by show (text.extract done text.size).size = _; rw [Array.size_extract]; omega
        simp only [List.map_cons, List.map_nil, List.sum_cons, List.sum_nil, this]
        omega
      · rw [if_neg h]; simp
    | some be =>
      obtain ⟨b, e⟩ := be
      rw [subOut_some q]
      obtain ⟨h1, h2, h3⟩ := hf _ _ _ q
      have ih := subOut_len hf hr fuel e
      have ysz : (⟨text.extract b e⟩ : Str).length = e - b := by show (text.extract b e).size = _; rw [Array.size_extract]; omega
      have hrl := hr ⟨text.extract b e⟩ (by rw [ysz]; omega)
      rw [ysz] at hrl
      simp only [List.map_append, List.map_cons, List.sum_append, List.sum_cons]
      have h4 : (((if done < b then [(⟨text.extract done b⟩ : Str)] else []).map (·.length)).sum) ≤ b - done := by
        by_cases h : done < b
        · rw [if_pos h]
          have : (⟨text.extract done b⟩ : Str).length = b - done := by show (text.extract done b).size = _; rw [Array.size_extract]; omega
          simp [this]
        · rw [if_neg h]; simp
      omega
theorem find4_ok (x : Str) (p b e : Nat) (h : find4 x p = some (b, e)) : p ≤ b ∧ b < e ∧ e ≤ x.cps.size := by
  unfold find4 at h
  cases q : nextGood good4 x.cps (x.cps.size + 1 - p) p with
  | none => rw [q] at h; cases h
  | some c =>
    rw [q] at h
    cases h
    obtain ⟨h1, h2, h3⟩ := nextGood_some q
    exact ⟨h3, end4_bounds h1⟩
theorem sub4_len (x : Str) : (sub4 x).length ≤ 2 * x.cps.size := by
  unfold sub4 subS
  rw [join_nil_len]
  have := subOut_len (find := find4 x) (rep := fun _ => ⟨#[13, 10]⟩) (text := x.cps) (find4_ok x) (fun y hy => by show 2 ≤ _; omega) (x.cps.size + 1) 0
  omega

section
variable {C : Cx} {k : Nat} {hp : List Cell} {Φ : V → List Cell → Prop}

theorem w_quotedata {x : Str} (hk : k < 90) (hx : x.cps.size ≤ 1000) (h : ∀ g, Le hp g → Φ (.str (sub3 (sub4 x))) g) : ACall C k hp (.ref 106) [.str x] Φ := by
  refine enter (d_quotedata C.w) (by omega) rfl fun L => ?_
  have h4 := sub4_len x
  have h4' : (sub4 x).cps.size ≤ 2 * x.cps.size := h4
  refine ex_cons (ex_return (ev_meth "re.Pattern" "re.Pattern.sub" (ev_global rfl (C.mgK (by rfl)) ⟨(hasT_pat rfl).here, args_cons (ev_str (args_cons (ev_meth "re.Pattern" "re.Pattern.sub" (ev_global rfl (C.mgK (by rfl)) ⟨(hasT_pat rfl).here, args_cons (ev_global_str rfl (C.mgK (by rfl)) (args_cons (ev_local 0 rfl rfl (args_nil ?_))))⟩)
    pa_pat slot_sub type_sub (.inr ⟨_, _, rfl, rfl, rfl⟩) rfl)))⟩) pa_pat slot_sub type_sub (.inr ⟨_, _, rfl, rfl, rfl⟩) rfl))
  refine call_sub_lit (by omega) (pat4 C) (hasT_pat rfl) (by decide +kernel) (by decide) (by omega) (find := find4 x) (fun p => finds4 x.cps p) fun zs => ?_
  refine args_nil ?_
  refine call_sub_lit (x := sub4 x) (by omega) (pat3 C) (hasT_pat rfl) (by decide +kernel) (by decide) (by omega) (find := find3 (sub4 x)) (fun p => finds3 (sub4 x).cps p (by omega)) fun zs2 => ?_
  exact ⟨_, rfl, h _ ((Le.app _ _).trans (Le.app _ _))⟩
end
end Mine
end

section
open PySem PySem.W PyProof.Rows PySem.Calls
namespace Mine
theorem boot_isinstance : bootBuiltins "isinstance" = some (.builtin "isinstance") := by decide +kernel
theorem boot_str : bootBuiltins "str" = some (.type "str") := by decide +kernel
theorem boot_len : bootBuiltins "len" = some (.builtin "len") := by decide +kernel
theorem boot_chr : bootBuiltins "chr" = some (.builtin "chr") := by decide +kernel
theorem boot_range : bootBuiltins "range" = some (.type "range") := by decide +kernel
theorem boot_object : bootBuiltins "object" = some (.type "object") := by decide +kernel
section
variable {C : Cx} {k : Nat} {hp : List Cell} {Φ : V → List Cell → Prop}

theorem w_escape {c : Nat} (hk : k < 90) (h : Φ (.str ⟨(escP c).toArray⟩) hp) : ACall C k hp (.ref 55) [.str ⟨#[c]⟩] Φ := by
  refine enter (d_escape C.w) (by omega) rfl fun L => ?_
  refine ex_cons (ex_if (ts_plain (ev_call_bi (ev_builtin rfl (C.mgN (by rfl)) (C.mbK (by decide) boot_isinstance) ⟨rfl, args_cons (ev_local 0 rfl rfl (args_cons (ev_builtin rfl (C.mgN (by rfl)) (C.mbK (by decide) boot_str) (args_nil ?_))))⟩))))
  refine call_isi_str ⟨true, tr_bool, fun _ => ?_, fun z => by cases z⟩
  refine ex_cons (ex_return (ev_meth "str" "str.translate" (ev_local 0 rfl rfl ⟨hasT_str.here, args_cons (ev_global rfl (C.mgK (by rfl)) (args_nil ?_))⟩) PySem.F.plainAttrs_str PySem.F.slot_str_translate PySem.F.type_str_translate (.inr ⟨_, _, rfl, rfl, rfl⟩) rfl))
  exact call_translate1 ⟨_, rfl, h⟩
end
end Mine
end

section
open PySem PySem.W PyProof.Rows PySem.Calls
namespace Mine
section
variable {C : Cx}

/-- the law's context, once more, where nothing else moves -/
noncomputable def Cx.still (C : Cx) (s : Shared) (ok : H0 C.w C.mg C.mb s.heap) : Cx := { prog := C.prog, w := C.w, mg := C.mg, mb := C.mb, h₀ := s.heap, ok := ok, loud := false, g₀ := s.gens, d₀ := s.drawn }

theorem H0.at {C : Cx} {h : Heap} (keep : ∀ b o, C.h₀.get? b = some o → b ≠ 57 → b ≠ 76 → h.get? b = some o) (t57 : ∃ ps, h.get? 57 = some (tabObj ps)) (t76 : ∃ ps, h.get? 76 = some (tabObj ps)) : H0 C.w C.mg C.mb h where
  K := fun a o e => keep _ _ (C.ok.K _ _ e) (fun z => by subst z; exact absurd e (by rw [show (KF C.w).lookup 57 = none from rfl]; exact fun h => nomatch h)) (fun z => by subst z; exact absurd e (by rw [show (KF C.w).lookup 76 = none from rfl]; exact fun h => nomatch h))
  g := by obtain ⟨o, es, ep, e, r⟩ := C.ok.g; exact ⟨o, es, ep, keep _ _ e (by decide) (by decide), r⟩
  b := by obtain ⟨o, es, ep, e, r⟩ := C.ok.b; exact ⟨o, es, ep, keep _ _ e (by decide) (by decide), r⟩
  nolimit := by obtain ⟨mc, ⟨o, es, ep, e, r⟩, q⟩ := C.ok.nolimit; exact ⟨mc, ⟨o, es, ep, keep _ _ e (by decide) (by decide), r⟩, q⟩
  builtins := C.ok.builtins
  bm := by
    obtain ⟨bm, ob, h1, h2, h3, h4, h5, h6⟩ := C.ok.bm
    have ne : ∀ P : Addr, (∃ ps, C.h₀.get? P = some (tabObj ps)) → bm ≠ P := fun P ⟨ps, e⟩ z => by
      rw [z, e] at h3; cases h3; cases h4
    exact ⟨bm, ob, h1, h2, keep _ _ h3 (ne 57 C.ok.t57) (ne 76 C.ok.t76), h4, h5, h6⟩
  t57 := t57
  t76 := t76

theorem quote_still {s : Shared} {A : Around} {E : Value → Shared → Prop} {k : Nat} (hk : k < 90) (hA : Ok k A) (keep : ∀ b o, C.h₀.get? b = some o → b ≠ 57 → b ≠ 76 → s.heap.get? b = some o)
    (t57 : ∃ ps, s.heap.get? 57 = some (tabObj ps) ∧ (ps = #[] ∨ ∃ c, ps = #[rawInt 63, rawInt 46, .ref c] ∧ (∃ o, s.heap.get? c = some o ∧ o.cls = .type "code" ∧ ∃ fs, o.data = .fields fs) ∧ s.heap.CodeRec (.ref c) "_translate.<locals>.<lambda>"))
    (t76 : ∃ ps, s.heap.get? 76 = some (tabObj ps) ∧ (ps = #[] ∨ ∃ c, ps = #[rawInt 109, rawInt 20, .ref c])) {x : Str} {t : Tok} (hx : x.cps.size ≤ 1000) {Q : Value → Shared → Prop}
    (hQ : ∀ t' s', Keeps s s' → Q (.str (quoteS x) t') s') : wpAny C.M A (call (.ref 89) [.str x t]) Q E s := by
  let C' : Cx := C.still s (.at keep (let ⟨ps, e, _⟩ := t57; ⟨ps, e⟩) (let ⟨ps, e, _⟩ := t76; ⟨ps, e⟩))
  have B : Bs C' s.heap := ⟨fun b o e _ _ => e, (by
    obtain ⟨ps, e, r⟩ := t57
    refine ⟨ps, e, r.imp id ?_⟩
    rintro ⟨c, r1, r2⟩
    exact ⟨c, r1, r2⟩), t76, fun _ => ⟨rfl, rfl⟩⟩
  have H : HR C' [] [] s.heap := ⟨B, rfl, List.nodup_nil, (fun a h => nomatch h), (fun i a c h _ => by simp at h)⟩
  refine w_quote (C := C') (k := k) (hp := []) (Φ := fun v _ => v = .str (quoteS x)) hk hx rfl A [] s Q E [.str x t] hA H ⟨(fun z => by cases z), fun _ => ⟨rfl, rfl⟩⟩ (.cons ⟨t, rfl⟩ .nil) fun v hp' α' s' y p n H' r => ?_
  subst p
  obtain ⟨t', rfl⟩ := r
  have hb := n.bare ⟨(fun z => by cases z), fun _ => ⟨rfl, rfl⟩⟩
  obtain ⟨hg, hd⟩ := hb.2 rfl
  refine hQ t' s' ⟨s'.heap, s'.toks, ?_, fun b o e => ?_⟩
  · have ho := n.os
    obtain ⟨h1, g1, d1, t1, o1⟩ := s
    obtain ⟨h2, g2, d2, t2, o2⟩ := s'
    have hg' : g2 = g1 := hg
    have hd' : d2 = d1 := hd
    have ho' : o2 = o1 := ho
    subst hg' hd' ho'
    rfl
  · obtain ⟨q1, q2⟩ := H'.base.quiet rfl
    by_cases h1 : b = 57
    · subst h1; exact q1.trans e
    · by_cases h2 : b = 76
      · subst h2; exact q2.trans e
      · exact n.keep b o e (fun z => nomatch z) (fun z => nomatch z) h1 h2
end
end Mine
end

section
open PySem PySem.W PyProof.Rows PySem.Calls
set_option maxHeartbeats 4000000
namespace Mine
section
variable {C : Cx} {k : Nat} {hp : List Cell} {Φ : V → List Cell → Prop}

theorem code80 {α : List Addr} {h : Heap} (R : HR C hp α h) : CodeHd h 80 76 := ⟨_, _, _, _, _, _, _, _, _, R.K (a := 80) rfl, rfl, rfl, rfl, rfl, rfl, rfl, rfl, rfl, by decide⟩

/-- a code table grows -/
theorem HR.tab {α : List Addr} {h h' : Heap} (R : HR C hp α h) (hl : C.loud = true) {P : Addr} (hP : P = 57 ∨ P = 76) (hk : ∀ b o, b ≠ P → h.get? b = some o → h'.get? b = some o)
    (t57 : ∃ ps, h'.get? 57 = some (tabObj ps) ∧ (ps = #[] ∨ ∃ c, ps = #[rawInt 63, rawInt 46, .ref c] ∧ (∃ o, h'.get? c = some o ∧ o.cls = .type "code" ∧ ∃ fs, o.data = .fields fs) ∧ h'.CodeRec (.ref c) "_translate.<locals>.<lambda>"))
    (t76 : ∃ ps, h'.get? 76 = some (tabObj ps) ∧ (ps = #[] ∨ ∃ c, ps = #[rawInt 109, rawInt 20, .ref c])) : HR C hp α h' := by
  have tP : ∃ ps, h.get? P = some (tabObj ps) := by
    rcases hP with rfl | rfl
    · obtain ⟨ps, e, _⟩ := R.base.t57; exact ⟨ps, e⟩
    · obtain ⟨ps, e, _⟩ := R.base.t76; exact ⟨ps, e⟩
  obtain ⟨ps, eP⟩ := tP
  have kp : Kp h h' := fun b o e im => hk b o (fun z => by subst z; rw [eP] at e; cases e; exact not_imm_tab im) e
  refine ⟨⟨fun b o e n1 n2 => hk b o (by rcases hP with rfl | rfl; exact n1; exact n2) (R.base.keep b o e n1 n2), t57, t76, fun l => by rw [hl] at l; cases l⟩, R.len, R.nd, R.new, fun i a c e1 e2 => ?_⟩
  have := (R.cell i a c e1 e2).step (β := []) kp fun o e => hk a o (fun z => by
    subst z
    have hc := R.cell i a c e1 e2
    cases c with
    | some vs => obtain ⟨xs, n, e', _⟩ := hc; rw [eP] at e'; cases e'
    | none => have e' : h.get? _ = some _ := hc; rw [eP] at e'; cases e') e
  rwa [List.append_nil] at this

theorem passing_all (n : Nat) : passing (fun _ => true) n 0 = List.range n := by
  unfold passing; rw [List.drop_zero]; simp

theorem w_join {n : Nat} {xs : List Str} (hk : k < 80) (hl' : C.loud = true) (e : hp[n]? = some (some (xs.map V.str))) (hxs : ∀ x ∈ xs, x.cps.size ≤ 1000) (hn : xs.length ≤ 1000) (h : Φ (.str (Str.join ⟨#[32]⟩ (xs.map quoteS))) hp) : ACall C k hp (.ref 81) [.lst n] Φ := by
  refine enter (d_join C.w) (by omega) rfl fun L => ?_
  refine ex_cons (ex_return ?_)
  intro A α s Q E hA R hQ
  refine MethodCall_ (pl := ?pl) (wp_const ?_) ?hc
  case hc => rfl
  refine getMethod_builtin (typeIs_str _ _ _) PySem.F.plainAttrs_str PySem.F.slot_str_join PySem.F.type_str_join (fun _ e => nomatch e) ?_
  refine callWith_method1 (first := [.str " " s.toks]) ?_ (by rfl) (by rfl)
  refine spliced_more ?_ (by rfl)
  have R1 : Rel C (frD C.w 81 ["split_command"] L) [some (.lst n)] hp α { s with toks := s.toks + 1 } := toksRel R _
  refine wpAny_GeneratorExp_walksQD (cl := []) hA.1 rfl rfl (by decide) rfl rfl rfl hA.room ?_ (fun x => rfl)
  refine wpAny_Name (ld_at R1 A E (i := 0) rfl rfl fun u ru => ?_) (by decide)
  obtain ⟨a, ys, m, rfl, ea, e1, e2⟩ := R1.hr.lstAt e ru
  have hl : s.heap.IsList a ys := ⟨_, e1, rfl, _, rfl⟩
  refine wpAny_pyIter_list (s := { s with toks := s.toks + 1 }) hl ?_
  have RI : HR C hp α (s.heap.push { cls := .type "list_iterator", data := .fields #[.ref a, .int 0 0] }) := R.hr.ext fun b o e => Heap.get?_push_of_some _ e
  generalize hH2 : s.heap.push { cls := .type "list_iterator", data := .fields #[.ref a, .int 0 0] } = H2 at RI
  have kI : ∀ b o, s.heap.get? b = some o → H2.get? b = some o := fun b o e => hH2 ▸ Heap.get?_push_of_some _ e
  have gI : H2.get? s.heap.objs.size = some { cls := .type "list_iterator", data := .fields #[.ref a, .int 0 0] } := hH2 ▸ Heap.get?_push_size _ rfl
  show H2.NoLimit ∧ _
  refine ⟨RI.nolimit, ?_⟩
  obtain ⟨ps, eps, rps⟩ := RI.base.t76
  refine wpAny_mono (Q := fun _ s₃ => ∃ h3 tk, s₃ = { s with heap := h3, toks := tk } ∧ (∀ b o, b ≠ 76 → H2.get? b = some o → h3.get? b = some o) ∧ (∃ ps, h3.get? 76 = some (tabObj ps) ∧ (ps = #[] ∨ ∃ c, ps = #[rawInt 109, rawInt 20, .ref c]))) (E := E) ?_ (fun code s₃ hc => ?_) (fun _ _ e => e)
  · have tri : TriplesOk ps.toList := by
      rcases rps with rfl | ⟨c, rfl⟩ <;> exact trivial
    have ic := (code80 RI).code eps tri
    rcases rps with rfl | ⟨c, rfl⟩
    · refine wpAny_genexprCodeX (s := { s with heap := H2, toks := s.toks + 1 }) rfl ic ((code80 RI).tab eps) rfl fun c' h' tk hx hge hlt hcode hrec htab _ => ?_
      exact ⟨h', tk, rfl, fun b o hb e => hx b o hb e, _, htab.2, .inr ⟨c', rfl⟩⟩
    · exact wpAny_genexprCode_hit (s := { s with heap := H2, toks := s.toks + 1 }) rfl ic rfl ⟨H2, _, rfl, fun _ _ _ e => e, _, eps, .inr ⟨c, rfl⟩⟩
  · obtain ⟨h3, tk, rfl, k3, t76⟩ := hc
    have t57 : ∃ ps, h3.get? 57 = some (tabObj ps) ∧ (ps = #[] ∨ ∃ c, ps = #[rawInt 63, rawInt 46, .ref c] ∧ (∃ o, h3.get? c = some o ∧ o.cls = .type "code" ∧ ∃ fs, o.data = .fields fs) ∧ h3.CodeRec (.ref c) "_translate.<locals>.<lambda>") := by
      obtain ⟨q, eq, rq⟩ := RI.base.t57
      refine ⟨q, k3 _ _ (by decide) eq, rq.imp id ?_⟩
      rintro ⟨c, r1, ⟨o, r3, r4, fs, r5⟩, c', o', fs', t', q1, q2, q3⟩
      cases q1
      have nc : c ≠ 76 := fun z => by rw [z, eps] at r3; cases r3; cases r4
      exact ⟨c, r1, ⟨o, k3 _ _ nc r3, r4, fs, r5⟩, c, o', fs', t', rfl, k3 _ _ nc q2, q3⟩
    have R3 : HR C hp α h3 := RI.tab hl' (.inr rfl) k3 t57 t76
    have hgs : h3.Ns mainGlobals C.mg := R3.ns
    obtain ⟨bm, ob, b1, b2, b3, b4, b5, b6⟩ := C.ok.bm
    have bn : bm ≠ 57 ∧ bm ≠ 76 := by
      constructor
      · rintro rfl; obtain ⟨q, eq⟩ := C.ok.t57; rw [eq] at b3; cases b3; cases b4
      · rintro rfl; obtain ⟨q, eq⟩ := C.ok.t76; rw [eq] at b3; cases b3; cases b4
    refine wpAny_builtinsFor hgs b1 b2 (R3.base.keep _ _ b3 bn.1 bn.2) b4 b5 b6 ?_
    have ne76 : ∀ {b : Addr} {o : Obj}, H2.get? b = some o → o.cls ≠ .none → b ≠ 76 := fun e hn z => by
      rw [z, eps] at e; cases e; exact hn rfl
    have eI : h3.get? s.heap.objs.size = some { cls := .type "list_iterator", data := .fields #[.ref a, .int 0 0] } := k3 _ _ (ne76 gI (by intro z; cases z)) gI
    have eL : h3.get? a = some (listOf ys m) := k3 _ _ (ne76 (kI _ _ e1) (by intro z; cases z)) (kI _ _ e1)
    have hne : a ≠ s.heap.objs.size := Nat.ne_of_lt (Heap.lt_size e1)
    have hlen : ys.size = xs.length := by
      have := F2.length e2
      simpa using this
    refine ⟨s.heap.objs.size, [s.heap.objs.size, a], [s.heap.objs.size], ys.size, fun i v => ys[i]? = some v, fun i h => h.IsListIter s.heap.objs.size a i ∧ h.IsList a ys, fun _ => true,
      fun i y => ∃ x t, xs[i]? = some x ∧ y = .str (quoteS x) t, rfl, fun A' hA' => Walks.list hA' _ _ hne ys, ⟨⟨_, eI, rfl, rfl⟩, ⟨_, eL, rfl, _, rfl⟩⟩, fun b hb => ?_, R3.nolimit, fun hb => ?_, fun href hk3 => ⟨?_, ?_⟩, ?_⟩
    · rcases List.mem_cons.mp hb with rfl | hb
      · exact Heap.lt_size eI
      · rw [List.mem_singleton.mp hb]; exact Heap.lt_size eL
    · have hs : cStatics < s.heap.objs.size := by
        obtain ⟨mc, hns, _⟩ := R.hr.nolimit
        exact hns.lt
      rw [List.mem_singleton.mp hb] at hs
      exact Nat.lt_irrefl _ hs
    · intro A' E' i v s₂ m₂ hA' _ _ hP hns hm hkp
      exact wpAny_pure ⟨rfl, s₂.heap, s₂.toks, rfl, fun _ _ e => e⟩
    · intro A' E' i v s₂ m₂ hA' hd hu hP _ hns hm hkp
      have k2 : ∀ b o, b ≠ s.heap.objs.size → h3.get? b = some o → s₂.heap.get? b = some o := fun b o hb e => hkp b (List.mem_range.mpr (Heap.lt_size e)) (by simpa using hb) o (hk3 b o e)
      obtain ⟨ha1, ha2, ha3, ha4⟩ := hA
      have okA : Ok (k + 2) A' := ⟨hA', by omega, by omega, by omega⟩
      have keep0 : ∀ b o, C.h₀.get? b = some o → b ≠ 57 → b ≠ 76 → s₂.heap.get? b = some o := fun b o e n1 n2 => k2 b o (fun z => by
        obtain ⟨o', e'⟩ := R.hr.base.there e
        exact absurd (Heap.lt_size e') (by rw [z]; exact Nat.lt_irrefl _)) (R3.base.keep b o e n1 n2)
      have hv : ∃ x t, xs[i]? = some x ∧ v = .str x t := by
        have hP' : ys.toList[i]? = some v := by simpa using hP
        have hi : i < xs.length := by rw [← hlen]; exact (Array.getElem?_eq_some_iff.mp hP).1
        obtain ⟨u, eu, ru⟩ := F2.get e2 (i := i) (a := .str xs[i]) (by rw [List.getElem?_map, List.getElem?_eq_getElem hi]; rfl)
        rw [hP'] at eu
        cases eu
        obtain ⟨t, rfl⟩ := ru
        exact ⟨_, t, List.getElem?_eq_getElem hi, rfl⟩
      obtain ⟨x, t, hx, rfl⟩ := hv
      have it57 : ∀ b : Addr, (∃ ps, h3.get? b = some (tabObj ps)) → b ≠ s.heap.objs.size := fun b ⟨ps, e⟩ z => by
        rw [z, eI] at e; cases e
      have s57 : ∃ ps, s₂.heap.get? 57 = some (tabObj ps) ∧ (ps = #[] ∨ ∃ c, ps = #[rawInt 63, rawInt 46, .ref c] ∧ (∃ o, s₂.heap.get? c = some o ∧ o.cls = .type "code" ∧ ∃ fs, o.data = .fields fs) ∧ s₂.heap.CodeRec (.ref c) "_translate.<locals>.<lambda>") := by
        obtain ⟨q, eq, rq⟩ := t57
        refine ⟨q, k2 _ _ (it57 _ ⟨q, eq⟩) eq, rq.imp id ?_⟩
        rintro ⟨c, r1, ⟨o, r3, r4, fs, r5⟩, c', o', fs', t', q1, q2, q3⟩
        cases q1
        have nc : c ≠ s.heap.objs.size := fun z => by rw [z, eI] at r3; cases r3; simp at r4
        exact ⟨c, r1, ⟨o, k2 _ _ nc r3, r4, fs, r5⟩, c, o', fs', t', rfl, k2 _ _ nc q2, q3⟩
      have s76 : ∃ ps, s₂.heap.get? 76 = some (tabObj ps) ∧ (ps = #[] ∨ ∃ c, ps = #[rawInt 109, rawInt 20, .ref c]) := by
        obtain ⟨q, eq, rq⟩ := t76
        exact ⟨q, k2 _ _ (it57 _ ⟨q, eq⟩) eq, rq⟩
      have h0 : H0 C.w C.mg C.mb s₂.heap := .at keep0 (let ⟨ps, e, _⟩ := s57; ⟨ps, e⟩) (let ⟨ps, e, _⟩ := s76; ⟨ps, e⟩)
      refine Call_ (Calls.Name_function_global rfl rfl (Calls.loadGlobal_global (mg := C.mg) h0.g (C.mgK (v := .ref 89) (by rfl)) ?_) (by decide)) rfl
      refine callWith_K (K := KF C.w) (first := []) h0.K rfl (spliced_more (wpAny_Name (wpAny_loadName_local rfl rfl hns hm ?_) (by decide)) rfl) rfl rfl
      refine spliced_none ⟨h0.K, ?_⟩
      refine quote_still (C := C) (k := k + 2) (by omega) okA keep0 s57 s76 (hxs x (List.mem_of_getElem? hx)) fun t' s' hk' => ?_
      exact ⟨⟨x, t', hx, rfl⟩, hk'⟩
    · intro a₂ h₅ tk₂ gs hgs hlt hsz keep₅ W St
      refine spliced_none ?_
      have hlp : (passing (fun _ => true) ys.size 0).length = xs.length := by rw [passing_all]; simpa using hlen
      refine SC.joinGen (s := { s with heap := h₅, gens := s.gens.push gs, toks := tk₂ }) W.in4_2 (fun i s' st => st.1.typeIs) St (fun b hb => ?_) List.mem_cons_self (fun i v hv => ?_) (fun s' l hm hit => ?_) (by rw [hlp, sizeLine_eq]; omega)
      · have l1 : a₂ < h₅.objs.size := by rw [hsz]; exact Nat.lt_succ_self _
        have l2 : h3.objs.size < h₅.objs.size := Nat.lt_trans hlt l1
        rcases List.mem_cons.mp hb with q | hb
        · rw [q]; exact l1
        · rcases List.mem_cons.mp hb with q | hb
          · rw [q]; exact l2
          · exact Nat.lt_trans (List.mem_range.mp hb) l2
      · obtain ⟨_, _, x, t, _, rfl⟩ := hv
        exact ⟨_, t, rfl⟩
      · have el : l.map (·.1) = xs.map quoteS := by
          obtain ⟨hz, hj⟩ := hit
          rw [hlp] at hz
          have hll : l.length = xs.length := by simpa [strValues] using hz
          apply List.ext_getElem (by simpa using hll)
          intro j h1 h2
          have hjl : j < l.length := by simpa using h1
          have e3 : (strValues l).toArray[j]? = some (.str l[j].1 l[j].2) := by simp [strValues, hjl]
          obtain ⟨i, hi, x, t, hx, hy⟩ := hj j _ e3
          rw [passing_all] at hi
          have hij : i = j := by
            have hjr : j < (List.range ys.size).length := by simp; omega
            rw [List.getElem?_eq_getElem hjr] at hi
            simpa using hi.symm
          subst hij
          have hjx : i < xs.length := by omega
          rw [List.getElem?_eq_getElem hjx] at hx
          cases hx
          have : l[i].1 = quoteS xs[i] := by injection hy
          simpa using this
        rw [el]
        have hjo : (xs.map quoteS).map (·.length) = xs.map (fun x => (quoteS x).length) := by rw [List.map_map]; rfl
        have hsum : ∀ zs : List Str, (∀ x ∈ zs, x.cps.size ≤ 1000) → (zs.map (fun x => (quoteS x).length)).sum ≤ 5002 * zs.length := by
          intro zs hzs
          induction zs with
          | nil => simp
          | cons x zs ih =>
            have h1 := ih fun y hy => hzs y (List.mem_cons_of_mem _ hy)
            have h2 := hzs x List.mem_cons_self
            have h3 : (quoteS x).length ≤ 5002 := by
              unfold quoteS
              have hr := replace_len x 39 #[39, 34, 39, 34, 39] 5 (by decide) (by decide)
              split
              · show 2 ≤ _; decide
              · split
                · show x.cps.size ≤ _; omega
                · rw [Str.length_append, Str.length_append]
                  show 1 + _ + 1 ≤ _
                  omega
            simp only [List.map_cons, List.sum_cons, List.length_cons, Nat.mul_succ]
            omega
        refine ⟨?_, fun t' tk' => ?_⟩
        · unfold JoinOk Builtin.Str.tooLong
          rw [StrLaws.joinTotal, hjo]
          have := hsum xs hxs
          have hsp : (" " : Str).length = 1 := rfl
          rw [hsp]
          simp only [List.length_map, sizeLine_eq, Bool.not_eq_true', decide_eq_false_iff_not, Nat.not_lt]
          omega
        · have ej : Txt.join (" " : Str) (xs.map quoteS) = Str.join ⟨#[32]⟩ (xs.map quoteS) := by unfold Txt.join; exact StrLaws.glued_eq_join _ _
          rw [ej]
          have keepAll : ∀ b o, s.heap.get? b = some o → b ≠ 76 → s'.heap.get? b = some o := fun b o e hb => by
            have e3 := k3 b o hb (kI b o e)
            have e5 := keep₅ b o e3
            refine hm.heap b o (fun z => ?_) e5
            rcases List.mem_cons.mp z with rfl | z
            · exact absurd (Heap.lt_size e3) (Nat.lt_irrefl _)
            · rw [List.mem_singleton.mp z] at e
              rw [get_size] at e; cases e
          have tmI : TmpObj { cls := .type "list_iterator", data := .fields #[.ref a, .int 0 0] } := ⟨⟨_, rfl⟩, .inl rfl⟩
          have bt : But s.heap.objs.size h3 s'.heap := fun b o hb e => hm.heap b o (fun z => by
            rcases List.mem_cons.mp z with rfl | z
            · exact absurd (Heap.lt_size e) (Nat.lt_irrefl _)
            · exact hb (List.mem_singleton.mp z)) (keep₅ b o e)
          have R5 : HR C hp α s'.heap := R3.but bt eI tmI (R.hr.absent (get_size _))
          have hgen : ∀ (i : Nat) (g : GenState), s.gens[i]? = some g → s'.gens[i]? = some g := fun i g e => by
            have hi := (Array.getElem?_eq_some_iff.mp e).1
            have e2 : (s.gens.push gs)[i]? = some g := by rw [Array.getElem?_push_lt hi]; rw [← e]; exact (Array.getElem?_eq_getElem hi).symm
            rcases hm.gens with q | ⟨⟨_, q⟩, _⟩
            · rw [q]; exact e2
            · rw [q i (by show i ≠ s.gens.size; omega)]; exact e2
          have nn : Nx C [] α s α s' := ⟨⟨[], by simp, by simp⟩, fun b o e _ _ _ h76 => keepAll b o e h76, fun b o e => by
            by_cases hb : b = 76
            · subst hb
              obtain ⟨q, eq, _⟩ := R5.base.t76
              exact ⟨_, eq⟩
            · exact ⟨o, keepAll b o e hb⟩, hm.os, hgen, fun hbr => ⟨fun l => GenOnlyQ.bare hm.gens (fun y hy => by
              rcases Array.mem_push.mp hy with hy | rfl
              · exact hbr.1 l y hy
              · exact hgs), fun l => by rw [hl'] at l; cases l⟩⟩
          have n2 := nn.trans (toksNx s' tk')
          exact hQ _ hp α _ _ ⟨_, rfl, h⟩ n2 (R.nx0 n2 R5) ⟨t', rfl⟩
end
end Mine
end

section
open PySem PySem.W PyProof.Rows PySem.Calls
open Builtin.Re
set_option maxHeartbeats 4000000
namespace Mine
noncomputable def CodeAt (h : Heap) (c : Addr) (q : Str) : Prop := ∃ o fs t, h.get? c = some o ∧ o.cls = .type "code" ∧ o.data = .fields fs ∧ fs[1]? = some (.str q t)
theorem CodeAt.rec {h : Heap} {c : Addr} {q : Str} (x : CodeAt h c q) : h.CodeRec (.ref c) q := by
  obtain ⟨o, fs, t, e1, e2, e3, e4⟩ := x
  exact ⟨c, o, fs, t, rfl, e1, e3, e4⟩
theorem CodeAt.kp {h h' : Heap} {c : Addr} {q : Str} (k : Kp h h') (x : CodeAt h c q) : CodeAt h' c q := by
  obtain ⟨o, fs, t, e1, e2, e3, e4⟩ := x
  exact ⟨o, fs, t, k _ _ e1 (.inr ⟨.inr (.inr (.inl e2)), .inl ⟨_, e3⟩⟩), e2, e3, e4⟩
noncomputable def FnAt (h : Heap) (f c : Addr) (q : Str) (fd : FuncData) : Prop := h.get? f = some { cls := .type "function", data := .func fd } ∧ CodeAt h c q
theorem FnAt.kp {f c : Addr} {q : Str} {fd : FuncData} (h h' : Heap) (x : FnAt h f c q fd) (k : Kp h h') : FnAt h' f c q fd :=
  ⟨k _ _ x.1 (.inr ⟨.inr (.inr (.inr (.inl rfl))), .inr ⟨_, rfl⟩⟩), x.2.kp k⟩

section
variable {C : Cx} {k : Nat}

/-- the frame of the lambda -/
noncomputable def frL (fd : FuncData) (f L : Addr) : FrD := { env := newEnv fd.scope L fd.globals fd.closure (fd.qualname ++ ".<locals>.") (some f) fd.code none fd.builtins, names := [("_m", none)], own := [L] }

structure LamOk (fd : FuncData) : Prop where
  names : fd.scope.names = [(("_m" : Str), NameKind.local)]
  kind : fd.scope.kind = .function
  co : fd.scope.isCoroutine = false
  gen : fd.scope.isGenerator = false
  glob : fd.globals = mainGlobals
  blt : fd.builtins = builtinsNs
  clo : fd.closure = []
  bind : ∀ v : Value, bindArgs fd ⟨[v], []⟩ = pure [(("_m" : Str), v)]

theorem frL_ok {fd : FuncData} (K : LamOk fd) (f L : Addr) : FOk (frL fd f L) where
  kind := K.kind
  glob := K.glob
  blt := K.blt
  nodup := by show (["_m"] : List Str).Nodup; simp
  here := List.mem_singleton.mpr rfl
  loc := fun p hp => by
    rw [List.mem_singleton.mp hp]
    show fd.scope.names.lookup ("_m" : Str) = _
    rw [K.names]; rfl
  apart := by simp [frL]
  ownIs := fun b hb => .inl (List.mem_singleton.mp hb)

theorem call_lam {fd : FuncData} (K : LamOk fd) {body : Expr} (hb : fd.body = .expr body) {f c : Addr} (hcode : fd.code = .ref c) {y : Str} {z : Str}
    (hbody : ∀ (hp : List Cell) L, AEv C (k + 1) (frL fd f L) [some (.mtch y)] hp body fun v hp' => v = .str z ∧ hp' = hp) (hk : k < 99) {A : Around} {α : List Addr} {hp : List Cell} {s : Shared} {Q : Value → Shared → Prop} {E : Value → Shared → Prop} {x : Value}
    (hA : Ok k A) (R : HR C hp α s.heap) (hbr : Br C s) (p : FnAt s.heap f c fd.qualname fd) (r : VR α s.heap (.mtch y) x)
    (hQ : ∀ t α' s', Nx C [] α s α' s' → HR C hp α' s'.heap → Q (.str z t) s') : wpAny C.M A (call (.ref f) [x]) Q E s := by
  refine wpAny_call (kla_callFunE hA.room p.1 rfl K.co K.gen hb (by rw [hcode]; exact p.2.rec) ?_)
  refine wpAny_of_eq (K.bind x) ?_
  refine wpAny_newFunctionEnv (by rw [K.names]; simp) (by rw [K.names]; simp) (fun h' hns hsb => ?_) K.kind
  have keep : ∀ b o, s.heap.get? b = some o → h'.get? b = some o := fun b o e => hsb.extBut b o (Nat.ne_of_lt (Heap.lt_size e)) (Heap.get?_push_of_some _ e)
  have R1 : HR C hp α h' := R.ext keep
  refine ⟨R1.nolimit, kla_codeExpr ?_⟩
  have n1 : Nx C [] α s α { s with heap := h', toks := s.toks + [(("_m" : Str), x)].length } := .of keep rfl rfl
  have rr : VR α h' (.mtch y) x := by
    have := r.kp (β := []) (Kp.of keep)
    rwa [List.append_nil] at this
  have Rl : Rel C (frL fd f s.heap.objs.size) [some (.mtch y)] hp α { s with heap := h', toks := s.toks + [(("_m" : Str), x)].length } := by
    refine ⟨R1, ⟨fun b hb => ?_, ⟨_, hns, fun i q v e1 e2 => ?_⟩, fun i q c' e => ?_⟩, hbr, frL_ok K f _⟩
    · rw [List.mem_singleton.mp hb]; exact R.absent (get_size _)
    · cases i with
      | zero =>
        cases e1; cases e2
        exact ⟨x, by simp, rr⟩
      | succ i => simp [frL] at e1
    · cases i with
      | zero => cases e
      | succ i => simp [frL] at e
  refine hbody hp s.heap.objs.size _ α _ _ _ (hA.deeper (by omega) _) Rl fun v hp' α' s' u pv n2 R2 r2 => ?_
  obtain ⟨rfl, rfl⟩ := pv
  obtain ⟨t, rfl⟩ := r2
  exact hQ t α' s' (n1.trans n2) R2.hr

theorem item_lam {fd : FuncData} (K : LamOk fd) {body : Expr} (hb : fd.body = .expr body) {f c : Addr} (hcode : fd.code = .ref c) {pat : Value} {x : Str} {t : Tok} (hk : k < 90)
    (hbody : ∀ (y : Str) (hp : List Cell) L, 0 < y.length → y.length ≤ 100000 → AEv C (k + 1) (frL fd f L) [some (.mtch y)] hp body fun v hp' => v = .str (⟨#[92]⟩ ++ y) ∧ hp' = hp) (hx : x.cps.size ≤ 100000) :
    AItem C k (fun h => FnAt h f c fd.qualname fd) 1 (.ref f) pat x t 1 (fun y => ⟨#[92]⟩ ++ y) := fun A α hp s Q E m b e hA R hbr p hm hbe hes hQ => by
  unfold itemT
  rw [if_neg (by decide)]
  refine wpAny_bind (wp_match1 (α := α) ⟨hm.1, hm.2.1, hm.2.2 rfl⟩ hbe fun s' y keep ho hg r => ?_)
  refine wpAny_holding ?_
  rw [if_pos (by decide)]
  have ysz : (⟨x.cps.extract b e⟩ : Str).length = e - b := by show (x.cps.extract b e).size = _; rw [Array.size_extract]; omega
  have n1 : Nx C [] α s α s' := .of keep ho hg
  refine call_lam (C := C) (k := k) K hb hcode (fun hp L => hbody _ hp L (by rw [ysz]; omega) (by rw [ysz]; omega)) (by omega) hA (R.ext keep) (hbr.of hg) (p.kp _ _ (Kp.of keep)) r fun t' α' s2 n2 R2 => ?_
  exact hQ t' α' s2 (n1.trans n2) R2
end
end Mine
end

section
open PySem PySem.W PyProof.Rows PySem.Calls
open Builtin.Re
set_option maxHeartbeats 4000000
namespace Mine
theorem look_fcall : ∃ g, typeLookup (.type "function") "__call__" = pure (some g) := ⟨.builtin "function.__call__", by rw [typeLookup_type, builtinLookup_eq_fast]; kernel_rfl⟩
section
variable {C : Cx} {k : Nat} {F : FrD} {loc : List (Option V)} {hp : List Cell} {Φ : V → List Cell → Prop}

theorem call_sub_fn {a tup : Addr} {code : Array Nat} {groups : Nat} {x : Str} {t : Tok} {find : Nat → Option (Nat × Nat)} {rep : Str → Str} (hk : k < 80)
    (pat : ∀ (hp : List Cell) (α : List Addr) (h : Heap), HR C hp α h → Pat h a tup code groups) (ht : HasT C (.raw (.ref a)) "re.Pattern")
    (hx : x.cps.size ≤ 100000) (hf : ∀ p, Finds code groups x.cps p (find p)) (hr : ∀ y : Str, 0 < y.length → (rep y).length ≤ 2 * y.length) {f c : Addr} {fd : FuncData}
    (item : AItem C (k + 1) (fun h => FnAt h f c fd.qualname fd) 1 (.ref f) (.ref a) x t groups rep)
    {A : Around} {α : List Addr} {s : Shared} {Q : Value → Shared → Prop} {E : Value → Shared → Prop} (hA : Ok k A) (R : HR C hp α s.heap) (hb : Br C s) (p : FnAt s.heap f c fd.qualname fd)
    (hQ : ∀ u α' s' zs, Nx C [] α s α' s' → HR C (hp ++ [some zs]) α' s'.heap → Q (.str (Str.join ⟨#[]⟩ (subOut find rep x.cps (x.cps.size + 1) 0)) u) s') :
    wpAny C.M A (call (.builtin "re.Pattern.sub") [.ref a, .ref f, .str x t]) Q E s := by
  obtain ⟨hT, _⟩ := ht hp α s (.ref a) R rfl
  obtain ⟨g, hg⟩ := look_fcall
  refine wpAny_call (codeAny_call_builtin slot_sub.plain entry_sub (slot_sub.check _ _ _ _ _ _ _ _ hT (args_sub _ _ _) ?_))
  unfold Builtin.«re.Pattern.sub» reSubstitute
  dsimp only
  refine wpAny_bind (wpAny_of_eq (a := [some (.ref f), some (.str x t), none]) (by rfl) ?_)
  dsimp only
  refine wpAny_bind (wpAny_pure ?_)
  refine wpAny_bind (wpAny_specialOf (T := "function") ⟨_, p.1, rfl⟩ hg ?_)
  rw [if_pos (by rfl)]
  refine wpAny_bind (wpAny_pure ?_)
  rw [if_pos (by rfl)]
  refine wpAny_bind (wpAny_pure ?_)
  refine wpAny_bind (wpAny_holding (wp_whole (pat hp α s.heap R) ?_))
  rw [if_pos (by rfl)]
  refine wpAny_bind (m := reNotHeld _ _) (wpAny_of_eq (a := ()) (by first | rfl | kernel_rfl) ?_)
  refine wpAny_bind (wpAny_newList ?_ (by rw [List.length_nil]; exact Nat.zero_le _))
  refine wpAny_pure ⟨quiet_loop _, ?_⟩
  have kp : ∀ b o, s.heap.get? b = some o → (s.heap.push { cls := .type "list", data := .seq ([] : List Value).toArray }).get? b = some o := fun b o e => Heap.get?_push_of_some _ e
  have H1 : HR C (hp ++ [some []]) (α ++ [s.heap.objs.size]) (s.heap.push { cls := .type "list", data := .seq ([] : List Value).toArray }) := R.pushList (vs := []) (n := 0) .nil
  have n1 : Nx C [] α s (α ++ [s.heap.objs.size]) { s with heap := s.heap.push { cls := .type "list", data := .seq ([] : List Value).toArray } } := .push s _ [s.heap.objs.size] (by simp)
  have hlen : (hp ++ [some []] : List Cell)[hp.length]? = some (some []) := at_end _ _
  refine sub_loop (P := fun h => FnAt h f c fd.qualname fd) (way := 1) (repl := .ref f) (fun h h' x y => x.kp _ _ y) (.inl (by decide)) pat (by omega) item hx hf hr (j := hp.length) (D := s.heap.objs.size) (x.cps.size + 1) 0 0 [] A _ _ _ _ hA H1 hb (p.kp _ _ (Kp.of kp))
    (by rw [← R.len]; simp) hlen (Nat.zero_le _) (by omega) (by simp) (by simp) fun u' α' s' zs n2 R2 => ?_
  rw [List.nil_append]
  refine hQ u' α' s' zs (n1.trans n2) ?_
  rw [List.set_append_right _ _ (Nat.le_refl _), Nat.sub_self] at R2
  exact R2

/-- the code of _translate -/
theorem code61 {α : List Addr} {h : Heap} (R : HR C hp α h) : CodeHd h 61 57 := ⟨_, _, _, _, _, _, _, _, _, R.K (a := 61) rfl, rfl, rfl, rfl, rfl, rfl, rfl, rfl, rfl, by decide⟩
end
end Mine
end

section
open PySem PySem.W PyProof.Rows PySem.Calls
open Builtin.Re
set_option maxHeartbeats 4000000
namespace Mine
section
variable {C : Cx} {k : Nat} {F : FrD} {loc : List (Option V)} {hp : List Cell} {Φ : V → List Cell → Prop}

noncomputable def lamFd (params : Arguments) (body : Expr) (scope : Scope) (pm : Value) (c : Addr) : FuncData := kla_fn "<lambda>" "_translate.<locals>.<lambda>" params body scope [] pm (.ref c) .none

/-- the lambda of _translate is made -/
theorem wp_lam {A : Around} {α : List Addr} {s : Shared} {E : Value → Shared → Prop} {Q : Value → Shared → Prop} {params : Arguments} {body : Expr} {scope : Scope} {pos : Pos} (hl : C.loud = true) (R : Rel C F loc hp α s)
    (hcode : F.env.code = .ref 61) (hq : F.env.qual ++ "<lambda>" = "_translate.<locals>.<lambda>") (hpos : pos.line = 63 ∧ pos.col = 46) (hdef : defaultsOf params F.env = ([], [])) (hcl : closureFor scope F.env = pure [])
    (hQ : ∀ f c pm s', Nx C [] α s α s' → Rel C F loc hp α s' → FnAt s'.heap f c "_translate.<locals>.<lambda>" (lamFd params body scope pm c) → Q (.ref f) s') :
    wpAny C.M A (eval (.Lambda params body scope pos) F.env) Q E s := by
  refine kla_eval hdef ?_
  rw [hq, makeFunction_eq]
  simp only [List.zip_nil_right, List.filterMap_nil, List.isEmpty_nil, if_true, pure_bind]
  unfold makeTail
  rw [hcl, R.ok.glob]
  refine wpAny_bind (wpAny_pure ?_)
  simp only [List.isEmpty_nil, if_true]
  refine wpAny_bind (wpAny_pure ?_)
  obtain ⟨ps, eps, rps⟩ := R.hr.base.t57
  refine wpAny_bind (wpAny_mono (Q := fun v s₃ => ∃ c h3 tk, v = .ref c ∧ s₃ = { s with heap := h3, toks := tk } ∧ (∀ b o, b ≠ 57 → s.heap.get? b = some o → h3.get? b = some o) ∧
    h3.get? 57 = some (tabObj #[rawInt 63, rawInt 46, .ref c]) ∧ CodeAt h3 c "_translate.<locals>.<lambda>") (E := E) ?_ (fun cv s₃ hc => ?_) (fun _ _ e => e))
  · have tri : TriplesOk ps.toList := by
      rcases rps with rfl | ⟨c, rfl, _⟩ <;> exact trivial
    have ic := (code61 R.hr).code eps tri
    rcases rps with rfl | ⟨c, rfl, ⟨o, r3, r4, fs, r5⟩, r6⟩
    · refine wpAny_functionCodeX hcode ic ((code61 R.hr).tab eps) rfl fun c' h' tk hx hge hlt hcd hrec htab htc => ?_
      obtain ⟨P', _, _, ⟨oc, vc, hoc, hcc, hdc, _⟩, _⟩ := htc
      obtain ⟨c2, o2, fs2, t2, q1, q2, q3, q4⟩ := hrec
      cases q1
      have : oc = o2 := Option.some.inj (hoc.symm.trans q2)
      subst this
      have ht := htab.2
      rw [hpos.1, hpos.2] at ht
      exact ⟨c', h', tk, rfl, rfl, fun b o hb e => hx b o hb e, ht, oc, fs2, t2, q2, hcc, q3, q4⟩
    · obtain ⟨c2, o2, fs2, t2, q1, q2, q3, q4⟩ := r6
      cases q1
      have : o = o2 := Option.some.inj (r3.symm.trans q2)
      subst this
      refine wpAny_functionCode_hit hcode ic (c' := .ref c) ?_ ⟨c, s.heap, s.toks, rfl, rfl, fun _ _ _ e => e, eps, o, fs2, t2, r3, r4, q3, q4⟩
      show codeAmong pos [rawInt 63, rawInt 46, .ref c] = _
      unfold codeAmong rawInt
      rw [hpos.1, hpos.2]
      simp
  · obtain ⟨c, h3, tk, rfl, rfl, k3, e57, hca⟩ := hc
    have ne57 : ∀ {b : Addr} {o : Obj}, s.heap.get? b = some o → o.cls ≠ .none → b ≠ 57 := fun e hn z => by
      rw [z, eps] at e; cases e; exact hn rfl
    have t57 : ∃ ps, h3.get? 57 = some (tabObj ps) ∧ (ps = #[] ∨ ∃ c, ps = #[rawInt 63, rawInt 46, .ref c] ∧ (∃ o, h3.get? c = some o ∧ o.cls = .type "code" ∧ ∃ fs, o.data = .fields fs) ∧ h3.CodeRec (.ref c) "_translate.<locals>.<lambda>") := by
      obtain ⟨o, fs, t, q1, q2, q3, q4⟩ := id hca
      exact ⟨_, e57, .inr ⟨c, rfl, ⟨o, q1, q2, fs, q3⟩, hca.rec⟩⟩
    have t76 : ∃ ps, h3.get? 76 = some (tabObj ps) ∧ (ps = #[] ∨ ∃ c, ps = #[rawInt 109, rawInt 20, .ref c]) := by
      obtain ⟨q, eq, rq⟩ := R.hr.base.t76
      exact ⟨q, k3 _ _ (by decide) eq, rq⟩
    have R3 : HR C hp α h3 := R.hr.tab hl (.inl rfl) k3 t57 t76
    have kp3 : Kp s.heap h3 := fun b o e im => k3 b o (fun z => by subst z; rw [eps] at e; cases e; exact not_imm_tab im) e
    have n3 : Nx C [] α s α { s with heap := h3, toks := tk } := ⟨⟨[], by simp, by simp⟩, fun b o e _ _ h57 _ => k3 b o h57 e, fun b o e => by
      by_cases hb : b = 57
      · subst hb; exact ⟨_, e57⟩
      · exact ⟨o, k3 b o hb e⟩, rfl, fun _ _ e => e, fun h => h⟩
    obtain ⟨bm, ob, b1, b2, b3, b4, b5, b6⟩ := C.ok.bm
    have bn : bm ≠ 57 ∧ bm ≠ 76 := by
      constructor
      · rintro rfl; obtain ⟨q, eq⟩ := C.ok.t57; rw [eq] at b3; cases b3; cases b4
      · rintro rfl; obtain ⟨q, eq⟩ := C.ok.t76; rw [eq] at b3; cases b3; cases b4
    refine wpAny_bind (wpAny_builtinsFor (s := { s with heap := h3, toks := tk }) R3.ns b1 b2 (R3.base.keep _ _ b3 bn.1 bn.2) b4 b5 b6 ?_)
    refine wpAny_bind (wpAny_nsGet (s := { s with heap := h3, toks := tk }) R3.ns ?_)
    refine wpAny_bind (wpAny_pure (wpAny_newObj_type ?_ (by size_fits)))
    have kp : ∀ (o : Obj) b ob, h3.get? b = some ob → (h3.push o).get? b = some ob := fun o b ob e => Heap.get?_push_of_some _ e
    have R4 : Rel C F loc hp α { s with heap := h3, toks := tk } := R.nx0 n3 R3
    refine hQ h3.objs.size c _ _ (n3.trans (.of (kp _) rfl rfl)) (R4.ext (kp _) rfl) ⟨Heap.get?_push_size _ rfl, hca.kp (Kp.of (kp _))⟩
end
end Mine
end

section
open PySem PySem.W PyProof.Rows PySem.Calls
open Builtin.Re
set_option maxHeartbeats 4000000
namespace Mine
section
variable {C : Cx} {k : Nat} {F : FrD} {loc : List (Option V)} {hp : List Cell} {Φ : V → List Cell → Prop}

noncomputable def sub2 (x : Str) : Str := subS find2 (fun y => ⟨#[92]⟩ ++ y) x
theorem find2_finds (x : Str) (p : Nat) : Finds code2 1 x.cps p (find2 x p) := finds2 x.cps p

theorem ev_sub_lam (i : Nat) {x : Str} {p1 p2 p3 p4 lpos : Pos} {params : Arguments} {body : Expr} {scope : Scope} {v : Str} (hk : k < 70) (hl : C.loud = true) (hi : F.names[i]? = some (x, none)) (hv : loc[i]? = some (some (.str v)))
    (hkx : F.env.kindOf "twin_re_1_fnmatch" = some .globalImplicit)
    (hcode : F.env.code = .ref 61) (hq : F.env.qual ++ "<lambda>" = "_translate.<locals>.<lambda>") (hpos : lpos.line = 63 ∧ lpos.col = 46) (hdef : defaultsOf params F.env = ([], [])) (hcl : closureFor scope F.env = pure [])
    (hlam : ∀ pm c, LamOk (lamFd params body scope pm c))
    (hbody : ∀ pm c f (y : Str) (hp : List Cell) L, 0 < y.length → y.length ≤ 100000 → AEv C (k + 2) (frL (lamFd params body scope pm c) f L) [some (.mtch y)] hp body fun v hp' => v = .str (⟨#[92]⟩ ++ y) ∧ hp' = hp)
    (hx : v.cps.size ≤ 100000) (h : ∀ zs, Φ (.str (sub2 v)) (hp ++ [some zs]))
    (hd : (x == ("__debug__" : Str)) = false := by decide) {pl : Sem Bool}
    (hc : eval (((Expr.Name "twin_re_1_fnmatch" p1).Attribute "sub" p2).Call [.Lambda params body scope lpos, .Name x p3] [] p4) F.env = (do let ov ← eval (.Name "twin_re_1_fnmatch" p1) F.env; standAt p2.atName; let (f, first) ← holding [ov] (getMethod ov "sub" pl); callWith p4 f first (backTo p4 (starEach [.Lambda params body scope lpos, .Name x p3] F.env)) []) := by rfl) :
    AEv C k F loc hp (.Call (.Attribute (.Name "twin_re_1_fnmatch" p1) "sub" p2) [.Lambda params body scope lpos, .Name x p3] [] p4) Φ := fun A α s Q E hA R hQ => by
  refine MethodCall_ (pl := pl) (Calls.Name_function_global R.ok.kind hkx (Calls.loadGlobal_global (env := F.env) (by rw [R.ok.glob]; exact R.hr.ns) (C.mgK (v := .ref 36) (by rfl)) ?_) (by decide)) hc
  have ht : HasT C (.raw (.ref 36)) "re.Pattern" := hasT_pat rfl
  obtain ⟨t1, t2⟩ := ht hp α s (.ref 36) R.hr rfl
  refine getMethod_builtin t1 pa_pat slot_sub type_sub t2 ?_
  refine callWith_method1 (first := [.ref 36]) (spliced_more (wp_lam hl R hcode hq hpos hdef hcl fun f c pm s1 n1 R1 p => ?_) rfl) rfl rfl
  refine spliced_more (wpAny_Name (ld_at R1 A E hi hv fun u ru => ?_) hd) rfl
  obtain ⟨t, rfl⟩ := ru
  refine spliced_none ?_
  refine call_sub_fn (C := C) (k := k) (fd := lamFd params body scope pm c) (by omega) (pat2 C) ht hx (find2_finds v) (fun y hy => ?_) (item_lam (hlam pm c) rfl rfl (by omega) (fun y hp L h1 h2 => hbody pm c f y hp L h1 h2) hx) hA R1.hr R1.bare p fun u' α' s' zs n2 H2 => ?_
  · rw [Str.length_append]
    show 1 + _ ≤ _
    omega
  · exact hQ _ _ _ _ _ (h zs) (n1.trans n2) (R1.nx0 n2 H2) ⟨u', rfl⟩
end
end Mine
end

section
open PySem PySem.W StrLaws
namespace Mine
theorem join_nil_cps : ∀ xs : List Str, (Str.join ⟨#[]⟩ xs).cps.toList = xs.flatMap fun x => x.cps.toList
  | [] => rfl
  | [x] => by simp [Str.join]
  | x :: y :: r => by
    have ih := join_nil_cps (y :: r)
    show (x ++ ⟨#[]⟩ ++ Str.join ⟨#[]⟩ (y :: r)).cps.toList = _
    simp only [Str.cps_append, Array.toList_append]
    rw [ih]
    simp

/-- what a search in a text finds: told on the rest of the text -/
theorem nextGood_split {good : Nat → Bool} {text : Array Nat} : ∀ {fuel s : Nat}, text.size < fuel + s →
    match nextGood good text fuel s with
    | some b => s ≤ b ∧ b < text.size ∧ good (text.getD b 0) = true ∧ ∀ i, s ≤ i → i < b → good (text.getD i 0) = false
    | none => ∀ i, s ≤ i → i < text.size → good (text.getD i 0) = false
  | 0, s, h => by
    show ∀ i, s ≤ i → i < text.size → _
    intro i h1 h2; omega
  | fuel + 1, s, h => by
    unfold nextGood
    by_cases h1 : s ≥ text.size
    · rw [if_pos h1]
      show ∀ i, s ≤ i → i < text.size → _
      intro i h2 h3; omega
    · rw [if_neg h1]
      by_cases h2 : good (text.getD s 0) = true
      · rw [if_pos h2]
        exact ⟨Nat.le_refl _, by omega, h2, fun i h3 h4 => by omega⟩
      · rw [if_neg h2]
        have ih := nextGood_split (good := good) (text := text) (fuel := fuel) (s := s + 1) (by omega)
        have hs : ∀ i, s ≤ i → ¬ s + 1 ≤ i → good (text.getD i 0) = false := fun i h3 h4 => by
          have : i = s := by omega
          subst this; exact eq_false_of_ne_true h2
        cases q : nextGood good text fuel (s + 1) with
        | none =>
          rw [q] at ih
          show ∀ i, s ≤ i → i < text.size → _
          intro i h3 h4
          by_cases h5 : s + 1 ≤ i
          · exact ih i h5 h4
          · exact hs i h3 h5
        | some b =>
          rw [q] at ih
          obtain ⟨g1, g2, g3, g4⟩ := ih
          refine ⟨by omega, g2, g3, fun i h3 h4 => ?_⟩
          by_cases h5 : s + 1 ≤ i
          · exact g4 i h5 h4
          · exact hs i h3 h5

theorem drop_split (l : List Nat) (a b : Nat) (h1 : a ≤ b) (h2 : b ≤ l.length) : l.drop a = (l.drop a).take (b - a) ++ l.drop b := by
  have : l.drop b = (l.drop a).drop (b - a) := by rw [List.drop_drop]; congr 1; omega
  rw [this, List.take_append_drop]
theorem getD_list (text : Array Nat) (i : Nat) : text.getD i 0 = text.toList.getD i 0 := by
  rw [Array.getD_eq_getD_getElem?, List.getD_eq_getElem?_getD, Array.getElem?_toList]
theorem extract_list (text : Array Nat) (a b : Nat) : (text.extract a b).toList = (text.toList.drop a).take (b - a) := by
  rw [Array.toList_extract, List.extract_eq_drop_take]
theorem flatMap_same {f : Nat → List Nat} : ∀ {l : List Nat}, (∀ c ∈ l, f c = [c]) → l.flatMap f = l
  | [], _ => rfl
  | c :: l, h => by
    rw [List.flatMap_cons, h c List.mem_cons_self, flatMap_same fun d hd => h d (List.mem_cons_of_mem _ hd)]
    rfl
theorem mem_cut {text : Array Nat} {a b c : Nat} (h : c ∈ (text.toList.drop a).take (b - a)) (hb : b ≤ text.size) : ∃ i, a ≤ i ∧ i < b ∧ text.getD i 0 = c := by
  obtain ⟨j, hj, rfl⟩ := List.getElem_of_mem h
  simp at hj
  refine ⟨a + j, by omega, by omega, ?_⟩
  rw [List.getElem_take, List.getElem_drop, getD_list, List.getD_eq_getElem?_getD, List.getElem?_eq_getElem (by simp; omega)]
  rfl

/-- single signs are found and turned -/
theorem sub_one {good : Nat → Bool} {rep : Str → Str} {f : Nat → List Nat} {text : Array Nat} (hf : ∀ c, good c = false → f c = [c]) (hr : ∀ c, good c = true → (rep ⟨#[c]⟩).cps.toList = f c) : ∀ (fuel done : Nat), text.size < fuel + done → done ≤ text.size →
    (subOut (fun p => (nextGood good text (text.size + 1 - p) p).map fun b => (b, b + 1)) rep text fuel done).flatMap (fun x => x.cps.toList) = (text.toList.drop done).flatMap f
  | 0, done, h, hd => by omega
  | fuel + 1, done, h, hd => by
    have sp := nextGood_split (good := good) (text := text) (fuel := text.size + 1 - done) (s := done) (by omega)
    cases q : nextGood good text (text.size + 1 - done) done with
    | none =>
      rw [q] at sp
      rw [subOut_none (by rw [q]; rfl)]
      have e : (text.toList.drop done).flatMap f = text.toList.drop done := flatMap_same fun c hc => by
        have hc' : c ∈ (text.toList.drop done).take (text.size - done) := by rw [List.take_of_length_le (by simp)]; exact hc
        obtain ⟨i, h1, h2, rfl⟩ := mem_cut hc' (Nat.le_refl _)
        exact hf _ (sp i h1 h2)
      rw [e]
      by_cases hl : done < text.size
      · rw [if_pos hl]
        show (text.extract done text.size).toList ++ [] = _
        rw [extract_list, List.append_nil, List.take_of_length_le (by simp)]
      · rw [if_neg hl, List.drop_of_length_le (by simp; omega)]; rfl
    | some b =>
      rw [q] at sp
      obtain ⟨g1, g2, g3, g4⟩ := sp
      rw [subOut_some (b := b) (e := b + 1) (by rw [q]; rfl), List.flatMap_append, List.flatMap_cons, sub_one hf hr fuel (b + 1) (by omega) (by omega)]
      have e1 : ((if done < b then [(⟨text.extract done b⟩ : Str)] else []).flatMap fun x => x.cps.toList) = (text.toList.drop done).take (b - done) := by
        by_cases hl : done < b
        · rw [if_pos hl]
          show (text.extract done b).toList ++ [] = _
          rw [extract_list, List.append_nil]
        · rw [if_neg hl]
          have : b - done = 0 := by omega
          rw [this]; rfl
      have e2 : text.extract b (b + 1) = #[text.getD b 0] := by
        apply Array.toList_inj.mp
        rw [extract_list, getD_list, show b + 1 - b = 1 from by omega, List.drop_eq_getElem_cons (by simpa using g2)]
        rw [List.getD_eq_getElem?_getD, List.getElem?_eq_getElem (by simpa using g2)]
        rfl
      have e3 : ((text.toList.drop done).take (b - done)).flatMap f = (text.toList.drop done).take (b - done) := flatMap_same fun c hc => by
        obtain ⟨i, h1, h2, rfl⟩ := mem_cut hc (by omega)
        exact hf _ (g4 i h1 h2)
      have e4 : text.toList.drop b = text.getD b 0 :: text.toList.drop (b + 1) := by
        rw [List.drop_eq_getElem_cons (by simpa using g2), getD_list, List.getD_eq_getElem?_getD, List.getElem?_eq_getElem (by simpa using g2)]
        rfl
      rw [e1, e2, hr _ g3]
      conv => rhs; rw [drop_split text.toList done b g1 (by simp; omega), List.flatMap_append, e3, e4, List.flatMap_cons]
theorem sub2_flat (x : Str) (rep : Str → Str) (f : Nat → List Nat) (hf : ∀ c, good2 c = false → f c = [c]) (hr : ∀ c, good2 c = true → (rep ⟨#[c]⟩).cps.toList = f c) : (subS find2 rep x).cps.toList = x.cps.toList.flatMap f := by
  unfold subS
  rw [join_nil_cps]
  have := sub_one (good := good2) (text := x.cps) hf hr (x.cps.size + 1) 0 (by omega) (by omega)
  rw [List.drop_zero] at this
  exact this
end Mine
end

section
open PySem PySem.W StrLaws
namespace Mine
noncomputable def crlf : Nat → List Nat → List Nat
  | _, [] => []
  | a, c :: r => (if c = 13 ∨ (c = 10 ∧ a ≠ 13) then [13, 10] else if c = 10 then [] else [c]) ++ crlf c r
noncomputable def dotL : Nat → List Nat → List Nat
  | _, [] => []
  | a, c :: r => (if c = 46 ∧ a = 10 then [46, 46] else [c]) ++ dotL c r
noncomputable def lastD (a : Nat) (l : List Nat) : Nat := l.getLast?.getD a
theorem lastD_cons (a c : Nat) (l : List Nat) : lastD a (c :: l) = lastD c l := by
  unfold lastD
  cases l with
  | nil => rfl
  | cons d l => simp [List.getLast?_cons]
theorem crlf_plain : ∀ (l r : List Nat) (a : Nat), (∀ c ∈ l, c ≠ 10 ∧ c ≠ 13) → crlf a (l ++ r) = l ++ crlf (lastD a l) r
  | [], r, a, _ => rfl
  | c :: l, r, a, h => by
    have h1 := h c List.mem_cons_self
    show (if c = 13 ∨ (c = 10 ∧ a ≠ 13) then [13, 10] else if c = 10 then [] else [c]) ++ crlf c (l ++ r) = _
    rw [if_neg (by omega), if_neg h1.1, crlf_plain l r c fun d hd => h d (List.mem_cons_of_mem _ hd), lastD_cons]
    rfl
theorem dotL_app : ∀ (l r : List Nat) (a : Nat), dotL a (l ++ r) = dotL a l ++ dotL (lastD a l) r
  | [], r, a => rfl
  | c :: l, r, a => by
    show (if c = 46 ∧ a = 10 then [46, 46] else [c]) ++ dotL c (l ++ r) = ((if c = 46 ∧ a = 10 then [46, 46] else [c]) ++ dotL c l) ++ _
    rw [dotL_app l r c, lastD_cons, List.append_assoc]

theorem good4_iff (c : Nat) : good4 c = true ↔ c = 10 ∨ c = 13 := by unfold good4; simp
theorem good4_not {c : Nat} (g : good4 c = false) : c ≠ 10 ∧ c ≠ 13 := by
  have h := good4_iff c
  rw [g] at h
  exact ⟨fun z => by simp [z] at h, fun z => by simp [z] at h⟩
theorem lastD_mem (a : Nat) : ∀ l : List Nat, lastD a l = a ∧ l = [] ∨ lastD a l ∈ l
  | [] => .inl ⟨rfl, rfl⟩
  | c :: l => by
    rw [lastD_cons]
    rcases lastD_mem c l with ⟨h, _⟩ | h
    · rw [h]; exact .inr List.mem_cons_self
    · exact .inr (List.mem_cons_of_mem _ h)

theorem sub_crlf {x : Str} : ∀ (fuel done : Nat) (a : Nat), x.cps.size < fuel + done → done ≤ x.cps.size → (a = 13 → done < x.cps.size → x.cps.getD done 0 ≠ 10) →
    (subOut (find4 x) (fun _ => ⟨#[13, 10]⟩) x.cps fuel done).flatMap (fun x => x.cps.toList) = crlf a (x.cps.toList.drop done)
  | 0, done, a, h, hd, _ => by omega
  | fuel + 1, done, a, h, hd, ha => by
    have sp := nextGood_split (good := good4) (text := x.cps) (fuel := x.cps.size + 1 - done) (s := done) (by omega)
    cases q : nextGood good4 x.cps (x.cps.size + 1 - done) done with
    | none =>
      rw [q] at sp
      rw [subOut_none (by unfold find4; rw [q]; rfl)]
      have e : crlf a (x.cps.toList.drop done) = x.cps.toList.drop done := by
        have := crlf_plain (x.cps.toList.drop done) [] a fun c hc => by
          have hc' : c ∈ (x.cps.toList.drop done).take (x.cps.size - done) := by rw [List.take_of_length_le (by simp)]; exact hc
          obtain ⟨i, h1, h2, rfl⟩ := mem_cut hc' (Nat.le_refl _)
          exact good4_not (sp i h1 h2)
        simpa [crlf] using this
      rw [e]
      by_cases hl : done < x.cps.size
      · rw [if_pos hl]
        show (x.cps.extract done x.cps.size).toList ++ [] = _
        rw [extract_list, List.append_nil, List.take_of_length_le (by simp)]
      · rw [if_neg hl, List.drop_of_length_le (by simp; omega)]; rfl
    | some b =>
      rw [q] at sp
      obtain ⟨g1, g2, g3, g4⟩ := sp
      have hb := end4_bounds (text := x.cps) g2
      rw [subOut_some (b := b) (e := end4 x.cps b) (by unfold find4; rw [q]; rfl), List.flatMap_append, List.flatMap_cons]
      have e1 : ((if done < b then [(⟨x.cps.extract done b⟩ : Str)] else []).flatMap fun x => x.cps.toList) = (x.cps.toList.drop done).take (b - done) := by
        by_cases hl : done < b
        · rw [if_pos hl]
          show (x.cps.extract done b).toList ++ [] = _
          rw [extract_list, List.append_nil]
        · rw [if_neg hl]
          have : b - done = 0 := by omega
          rw [this]; rfl
      have seg : ∀ c ∈ (x.cps.toList.drop done).take (b - done), c ≠ 10 ∧ c ≠ 13 := fun c hc => by
        obtain ⟨i, h1, h2, rfl⟩ := mem_cut hc (by omega)
        exact good4_not (g4 i h1 h2)
      have at' : ∀ i, i < x.cps.size → x.cps.toList.drop i = x.cps.getD i 0 :: x.cps.toList.drop (i + 1) := fun i hi => by
        rw [List.drop_eq_getElem_cons (by simpa using hi), getD_list, List.getD_eq_getElem?_getD, List.getElem?_eq_getElem (by simpa using hi)]
        rfl
      rw [e1]
      conv => rhs; rw [drop_split x.cps.toList done b g1 (by simp; omega), crlf_plain _ _ _ seg]
      congr 1
      show [13, 10] ++ _ = _
      rw [at' b g2]
      have hg := (good4_iff _).mp g3
      by_cases h13 : x.cps.getD b 0 = 13
      · rw [h13]
        show _ = (if (13 : Nat) = 13 ∨ _ then [13, 10] else _) ++ crlf 13 (x.cps.toList.drop (b + 1))
        rw [if_pos (.inl rfl)]
        congr 1
        by_cases hn : b + 1 < x.cps.size ∧ x.cps.getD (b + 1) 0 = 10
        · have ee : end4 x.cps b = b + 2 := by unfold end4; rw [if_pos ⟨h13, hn⟩]
          rw [ee, sub_crlf fuel (b + 2) 10 (by omega) (by omega) (fun z => by cases z), at' (b + 1) hn.1, hn.2]
          rfl
        · have ee : end4 x.cps b = b + 1 := by unfold end4; rw [if_neg (fun z => hn z.2)]
          rw [ee]
          exact sub_crlf fuel (b + 1) 13 (by omega) (by omega) fun _ h1 h2 => hn ⟨h1, h2⟩
      · have h10 : x.cps.getD b 0 = 10 := by
          rcases hg with h | h
          · exact h
          · exact absurd h h13
        have ee : end4 x.cps b = b + 1 := by unfold end4; rw [if_neg (fun z => h13 z.1)]
        have hl : lastD a ((x.cps.toList.drop done).take (b - done)) ≠ 13 := by
          rcases lastD_mem a ((x.cps.toList.drop done).take (b - done)) with ⟨h1, h2⟩ | h1
          · rw [h1]
            intro z
            have hbd : b = done := by
              have : ((x.cps.toList.drop done).take (b - done)).length = 0 := by rw [h2]; rfl
              simp at this
              omega
            subst hbd
            exact ha z g2 h10
          · exact (seg _ h1).2
        rw [h10, ee]
        show _ = (if (10 : Nat) = 13 ∨ (10 = 10 ∧ _) then [13, 10] else _) ++ crlf 10 (x.cps.toList.drop (b + 1))
        rw [if_pos (.inr ⟨rfl, hl⟩)]
        congr 1
        exact sub_crlf fuel (b + 1) 10 (by omega) (by omega) (fun z => by cases z)
theorem sub4_list (x : Str) : (sub4 x).cps.toList = crlf 10 x.cps.toList := by
  unfold sub4 subS
  rw [join_nil_cps, sub_crlf (x.cps.size + 1) 0 10 (by omega) (by omega) (fun z => by cases z), List.drop_zero]
end Mine
end

section
open PySem PySem.W StrLaws
namespace Mine
noncomputable def prev (text : Array Nat) (i : Nat) : Nat := if i = 0 then 10 else text.getD (i - 1) 0
theorem ok3_iff (text : Array Nat) (i : Nat) : ok3 text i = true ↔ text.getD i 0 = 46 ∧ prev text i = 10 := by
  unfold ok3 prev
  by_cases h : i = 0
  · simp [h]
  · simp only [h, if_false, Bool.and_eq_true, Bool.or_eq_true, beq_iff_eq, false_or]
    exact And.comm
theorem next3_split {text : Array Nat} : ∀ {fuel s : Nat}, text.size < fuel + s →
    match next3 text fuel s with
    | some b => s ≤ b ∧ b < text.size ∧ ok3 text b = true ∧ ∀ i, s ≤ i → i < b → ok3 text i = false
    | none => ∀ i, s ≤ i → i < text.size → ok3 text i = false
  | 0, s, h => by
    show ∀ i, s ≤ i → i < text.size → _
    intro i h1 h2; omega
  | fuel + 1, s, h => by
    unfold next3
    by_cases h1 : s ≥ text.size
    · rw [if_pos h1]
      show ∀ i, s ≤ i → i < text.size → _
      intro i h2 h3; omega
    · rw [if_neg h1]
      by_cases h2 : ok3 text s = true
      · rw [if_pos h2]
        exact ⟨Nat.le_refl _, by omega, h2, fun i h3 h4 => by omega⟩
      · rw [if_neg h2]
        have ih := next3_split (text := text) (fuel := fuel) (s := s + 1) (by omega)
        have hs : ∀ i, s ≤ i → ¬ s + 1 ≤ i → ok3 text i = false := fun i h3 h4 => by
          have : i = s := by omega
          subst this; exact eq_false_of_ne_true h2
        cases q : next3 text fuel (s + 1) with
        | none =>
          rw [q] at ih
          show ∀ i, s ≤ i → i < text.size → _
          intro i h3 h4
          by_cases h5 : s + 1 ≤ i
          · exact ih i h5 h4
          · exact hs i h3 h5
        | some b =>
          rw [q] at ih
          obtain ⟨g1, g2, g3, g4⟩ := ih
          refine ⟨by omega, g2, g3, fun i h3 h4 => ?_⟩
          by_cases h5 : s + 1 ≤ i
          · exact g4 i h5 h4
          · exact hs i h3 h5

theorem drop_at (text : Array Nat) (i : Nat) (hi : i < text.size) : text.toList.drop i = text.getD i 0 :: text.toList.drop (i + 1) := by
  rw [List.drop_eq_getElem_cons (by simpa using hi), getD_list, List.getD_eq_getElem?_getD, List.getElem?_eq_getElem (by simpa using hi)]
  rfl
theorem prev_succ (text : Array Nat) (i : Nat) : prev text (i + 1) = text.getD i 0 := by unfold prev; simp

theorem dot_seg {text : Array Nat} : ∀ (n s : Nat), s + n ≤ text.size → (∀ i, s ≤ i → i < s + n → ok3 text i = false) →
    dotL (prev text s) ((text.toList.drop s).take n) = (text.toList.drop s).take n ∧ lastD (prev text s) ((text.toList.drop s).take n) = prev text (s + n)
  | 0, s, h, hk => by simp [dotL, lastD]
  | n + 1, s, h, hk => by
    have hs : s < text.size := by omega
    rw [drop_at text s hs, List.take_succ_cons]
    have ih := dot_seg n (s + 1) (by omega) fun i h1 h2 => hk i (by omega) (by omega)
    rw [prev_succ] at ih
    have h0 := hk s (Nat.le_refl _) (by omega)
    have hn : ¬ (text.getD s 0 = 46 ∧ prev text s = 10) := fun z => by
      rw [(ok3_iff text s).mpr z] at h0; cases h0
    constructor
    · show (if text.getD s 0 = 46 ∧ prev text s = 10 then [46, 46] else [text.getD s 0]) ++ dotL (text.getD s 0) _ = _
      rw [if_neg hn, ih.1]; rfl
    · rw [lastD_cons, ih.2]; congr 1; omega

theorem sub_dots {x : Str} : ∀ (fuel done : Nat), x.cps.size < fuel + done → done ≤ x.cps.size →
    (subOut (find3 x) (fun _ => ⟨#[46, 46]⟩) x.cps fuel done).flatMap (fun x => x.cps.toList) = dotL (prev x.cps done) (x.cps.toList.drop done)
  | 0, done, h, hd => by omega
  | fuel + 1, done, h, hd => by
    have sp := next3_split (text := x.cps) (fuel := x.cps.size + 1 - done) (s := done) (by omega)
    cases q : next3 x.cps (x.cps.size + 1 - done) done with
    | none =>
      rw [q] at sp
      rw [subOut_none (by unfold find3; rw [q]; rfl)]
      have hs := dot_seg (text := x.cps) (x.cps.size - done) done (by omega) fun i h1 h2 => sp i h1 (by omega)
      have et : (x.cps.toList.drop done).take (x.cps.size - done) = x.cps.toList.drop done := List.take_of_length_le (by simp)
      rw [et] at hs
      rw [hs.1]
      by_cases hl : done < x.cps.size
      · rw [if_pos hl]
        show (x.cps.extract done x.cps.size).toList ++ [] = _
        rw [extract_list, List.append_nil, et]
      · rw [if_neg hl, List.drop_of_length_le (by simp; omega)]; rfl
    | some b =>
      rw [q] at sp
      obtain ⟨g1, g2, g3, g4⟩ := sp
      rw [subOut_some (b := b) (e := b + 1) (by unfold find3; rw [q]; rfl), List.flatMap_append, List.flatMap_cons, sub_dots fuel (b + 1) (by omega) (by omega)]
      have e1 : ((if done < b then [(⟨x.cps.extract done b⟩ : Str)] else []).flatMap fun x => x.cps.toList) = (x.cps.toList.drop done).take (b - done) := by
        by_cases hl : done < b
        · rw [if_pos hl]
          show (x.cps.extract done b).toList ++ [] = _
          rw [extract_list, List.append_nil]
        · rw [if_neg hl]
          have : b - done = 0 := by omega
          rw [this]; rfl
      have hs := dot_seg (text := x.cps) (b - done) done (by omega) fun i h1 h2 => g4 i h1 (by omega)
      have eb : done + (b - done) = b := by omega
      rw [eb] at hs
      obtain ⟨k1, k2⟩ := (ok3_iff x.cps b).mp g3
      rw [e1]
      conv => rhs; rw [drop_split x.cps.toList done b g1 (by simp; omega), dotL_app, hs.1, hs.2, drop_at x.cps b g2]
      congr 1
      show [46, 46] ++ _ = (if x.cps.getD b 0 = 46 ∧ prev x.cps b = 10 then [46, 46] else _) ++ dotL (x.cps.getD b 0) _
      rw [if_pos ⟨k1, k2⟩, prev_succ]
theorem sub3_list (x : Str) : (sub3 x).cps.toList = dotL 10 x.cps.toList := by
  unfold sub3 subS
  rw [join_nil_cps, sub_dots (x.cps.size + 1) 0 (by omega) (by omega), List.drop_zero]
  rfl

/-- what is sent -/
noncomputable def sentL : Nat → List Nat → List Nat
  | _, [] => []
  | a, c :: r => (if c = 10 ∨ c = 13 then (if c = 13 ∨ a ≠ 13 then [13, 10] else []) else (if c = 46 ∧ (a = 10 ∨ a = 13) then [46, 46] else [c])) ++ sentL c r
theorem sent_eq : ∀ (l : List Nat) (a s : Nat), (s = 10 ↔ a = 10 ∨ a = 13) → dotL s (crlf a l) = sentL a l
  | [], _, _, _ => rfl
  | c :: r, a, s, h => by
    show dotL s ((if c = 13 ∨ (c = 10 ∧ a ≠ 13) then [13, 10] else if c = 10 then [] else [c]) ++ crlf c r) = _ ++ sentL c r
    by_cases h1 : c = 13 ∨ (c = 10 ∧ a ≠ 13)
    · rw [if_pos h1, if_pos (by omega), if_pos (by omega)]
      have e : dotL s ([13, 10] ++ crlf c r) = [13, 10] ++ dotL 10 (crlf c r) := rfl
      rw [e, sent_eq r c 10 ⟨fun _ => by omega, fun _ => rfl⟩]
    · rw [if_neg h1]
      by_cases h2 : c = 10
      · rw [if_pos h2, if_pos (.inl h2), if_neg (by omega)]
        have e : dotL s ([] ++ crlf c r) = dotL s (crlf c r) := rfl
        rw [e, List.nil_append]
        exact sent_eq r c s (by omega)
      · rw [if_neg h2, if_neg (by omega)]
        have e : dotL s ([c] ++ crlf c r) = (if c = 46 ∧ s = 10 then [46, 46] else [c]) ++ dotL c (crlf c r) := rfl
        rw [e, sent_eq r c c (by omega)]
        congr 1
        by_cases h3 : c = 46 ∧ s = 10
        · rw [if_pos h3, if_pos ⟨h3.1, h.mp h3.2⟩]
        · rw [if_neg h3, if_neg (fun z => h3 ⟨z.1, h.mpr z.2⟩)]
theorem data_list (x : Str) : (sub3 (sub4 x)).cps.toList = sentL 10 x.cps.toList := by
  rw [sub3_list, sub4_list, sent_eq _ 10 10 (by decide)]
end Mine
end

section
open PySem PySem.W StrLaws
namespace Mine
inductive Role | out | in_ | open_ | bar | shut
  deriving DecidableEq
noncomputable abbrev Sg := Nat × Role
noncomputable def roleS : Role → Str
  | .out => "out"
  | .in_ => "in"
  | .open_ => "open"
  | .bar => "bar"
  | .shut => "shut"
noncomputable def roleOf (b : Bool) : Role := if b then .in_ else .out

noncomputable def pieces : List (List Nat) := [[97], [46], [39], [10], [13], [63], [42], [92], [10, 46]]
noncomputable def firsts : List Nat := [94, 91, 46, 39, 97, 10]
noncomputable def addLast (ws : List (List Sg)) (l : List Sg) : List (List Sg) := ws.dropLast ++ [ws.getLast?.getD [] ++ l]
noncomputable def codeP (n : Nat) : Nat := if n = 45 ∨ n = 91 ∨ n = 93 ∨ (55296 ≤ n ∧ n < 57344) then 97 else n
noncomputable def wstep (s : List (List Sg) × Bool) (v : Nat) : List (List Sg) × Bool :=
  if v % 16 < 9 then (addLast s.1 ((pieces.getD (v % 16) []).map fun c => (c, roleOf s.2)), s.2)
  else if v % 16 = 9 then (addLast s.1 [(codeP (v / 16 % 1114112), roleOf s.2)], s.2)
  else if v % 16 = 10 then (s.1 ++ [[]], s.2)
  else if v % 16 = 11 then (s.1 ++ [[(46, roleOf s.2)]], s.2)
  else if s.2 then (addLast s.1 [(93, .shut)], false)
  else (addLast s.1 ([(91, .open_)] ++ (if 13 < v % 16 then [(33, .bar)] else []) ++ [(firsts.getD (v / 16 % 6) 0, .in_)]), true)
noncomputable def numbersP (script : List Int) : List Nat :=
  let n := (script.take 10).map fun x => (x.fmod 100000000).toNat
  if n.length < 3 then n ++ [11, 12, 11, 8] else n
noncomputable def wordsEnd (s : List (List Sg) × Bool) : List (List Sg) := if s.2 then addLast s.1 [(93, .shut)] else s.1
noncomputable def wordsP (ns : List Nat) : List (List Sg) := wordsEnd (ns.foldl wstep ([[]], false))

noncomputable def bareP (w : List Sg) : Bool := !w.isEmpty && w.all fun p => safe1 p.1
noncomputable def insOf (r : Role) : Bool := r = .open_ || r = .bar || r = .in_
noncomputable def signs5 (p : Sg) : List Sg := if p.1 = 39 then [39, 34, 39, 34, 39].map fun c => (c, p.2) else [p]
noncomputable def endIns (b : Bool) (w : List Sg) : Bool := match w.getLast? with
  | none => b
  | some p => insOf p.2
noncomputable def wordLine (b : Bool) (w : List Sg) : List Sg := (if bareP w then [] else [(39, roleOf b)]) ++ w.flatMap signs5 ++ (if bareP w then [] else [(39, roleOf (endIns b w))])
noncomputable def lineGo : Bool → Bool → List (List Sg) → List Sg
  | _, _, [] => []
  | b, first, w :: ws => (if first then [] else [(32, roleOf b)]) ++ wordLine b w ++ lineGo (endIns b w) false ws
noncomputable def lineP (ws : List (List Sg)) : List Sg := lineGo false true ws

noncomputable def sentG : Nat → List Sg → List Sg
  | _, [] => []
  | a, p :: r => (if p.1 = 10 ∨ p.1 = 13 then (if p.1 = 13 ∨ a ≠ 13 then [(13, p.2), (10, p.2)] else []) else (if p.1 = 46 ∧ (a = 10 ∨ a = 13) then [p, p] else [p])) ++ sentG p.1 r

noncomputable def pstep (s : List (Option (List Nat)) × List Nat) (p : Sg) : List (Option (List Nat)) × List Nat := match p.2 with
  | .open_ => (s.1, [91])
  | .bar => (s.1, [91, 94])
  | .in_ => (s.1, s.2 ++ (if p.1 ∈ [92, 38, 126, 124] ∨ (s.2 = [91] ∧ p.1 ∈ [94, 91]) then [92] else []) ++ [p.1])
  | .shut => (s.1 ++ [some (s.2 ++ [93])], s.2)
  | .out => if p.1 = 63 then (s.1 ++ [some [46]], s.2) else if p.1 ≠ 42 then (s.1 ++ [some (escP p.1)], s.2) else if s.1 = [] ∨ s.1.getLast? ≠ some none then (s.1 ++ [none], s.2) else s
noncomputable def partsP (l : List Sg) : List (Option (List Nat)) := (l.foldl pstep ([], [])).1

theorem sent_fst : ∀ (l : List Sg) (a : Nat), (sentG a l).map (·.1) = sentL a (l.map (·.1))
  | [], _ => rfl
  | p :: r, a => by
    show (_ ++ sentG p.1 r).map (·.1) = _ ++ sentL p.1 (r.map (·.1))
    rw [List.map_append, sent_fst r p.1]
    congr 1
    by_cases h1 : p.1 = 10 ∨ p.1 = 13
    · rw [if_pos h1, if_pos h1]
      by_cases h2 : p.1 = 13 ∨ a ≠ 13
      · rw [if_pos h2, if_pos h2]; rfl
      · rw [if_neg h2, if_neg h2]; rfl
    · rw [if_neg h1, if_neg h1]
      by_cases h2 : p.1 = 46 ∧ (a = 10 ∨ a = 13)
      · rw [if_pos h2, if_pos h2, ← h2.1]; rfl
      · rw [if_neg h2, if_neg h2]; rfl

/-- the text of a word -/
noncomputable def txt (w : List Sg) : Str := ⟨(w.map (·.1)).toArray⟩
theorem line_word (b : Bool) (w : List Sg) : (wordLine b w).map (·.1) = (quoteS (txt w)).cps.toList := by
  have hflat : (w.flatMap signs5).map (·.1) = repl1 39 [39, 34, 39, 34, 39] (w.map (·.1)) := by
    unfold repl1
    induction w with
    | nil => rfl
    | cons p w ih =>
      rw [List.flatMap_cons, List.map_append, ih, List.map_cons, List.flatMap_cons]
      congr 1
      unfold signs5
      by_cases h : p.1 = 39
      · rw [if_pos h, if_pos h]; rfl
      · rw [if_neg h, if_neg h]; rfl
  have hlen : (txt w).length = w.length := by show (w.map (·.1)).toArray.size = _; simp
  have hall : allSafe (txt w) = w.all fun p => safe1 p.1 := by
    unfold allSafe txt
    simp [List.all_map, Function.comp_def]
  unfold quoteS wordLine
  rw [hlen, hall]
  by_cases h0 : w.length = 0
  · have : w = [] := List.eq_nil_of_length_eq_zero h0
    subst this
    rfl
  · rw [if_neg h0]
    have he : w.isEmpty = false := by cases w <;> simp_all
    by_cases hs : (w.all fun p => safe1 p.1) = true
    · have hb : bareP w = true := by unfold bareP; rw [he, hs]; rfl
      rw [if_pos hs, hb, if_pos rfl, if_pos rfl, List.nil_append, List.append_nil, hflat]
      show _ = (w.map (·.1)).toArray.toList
      rw [List.toList_toArray]
      refine repl1_free 39 _ _ fun hm => ?_
      obtain ⟨p, hp, e⟩ := List.mem_map.mp hm
      have := List.all_eq_true.mp hs p hp
      rw [e] at this
      revert this
      decide
    · have hb : bareP w = false := by unfold bareP; rw [eq_false_of_ne_true hs]; simp
      rw [if_neg hs, hb]
      simp only [Bool.false_eq_true, if_false, List.map_append, List.map_cons, List.map_nil, hflat, Str.cps_append, Array.toList_append]
      rw [replace_flat]
      show _ = [39] ++ repl1 39 [39, 34, 39, 34, 39] (w.map (·.1)).toArray.toList ++ [39]
      rw [List.toList_toArray]
theorem line_text : ∀ (ws : List (List Sg)) (b : Bool), (lineGo b true ws).map (fun p : Sg => p.1) = (Str.join ⟨#[32]⟩ (ws.map fun w => quoteS (txt w))).cps.toList
  | [], b => rfl
  | [w], b => by
    show (([] : List Sg) ++ wordLine b w ++ []).map (fun p : Sg => p.1) = (quoteS (txt w)).cps.toList
    rw [List.nil_append, List.append_nil, line_word]
  | w :: v :: r, b => by
    have ih := line_text (v :: r) (endIns b w)
    have e : lineGo b true (w :: v :: r) = wordLine b w ++ ([(32, roleOf (endIns b w))] ++ lineGo (endIns b w) true (v :: r)) := by
      show ([] : List Sg) ++ wordLine b w ++ ([(32, roleOf (endIns b w))] ++ wordLine (endIns b w) v ++ lineGo _ false r) = wordLine b w ++ ([(32, roleOf (endIns b w))] ++ (([] : List Sg) ++ wordLine (endIns b w) v ++ lineGo _ false r))
      simp
    rw [e, List.map_append, List.map_append, line_word]
    have ih' : List.map (fun p : Sg => p.1) (lineGo (endIns b w) true (v :: r)) = _ := ih
    rw [ih']
    show _ = (quoteS (txt w) ++ ⟨#[32]⟩ ++ Str.join ⟨#[32]⟩ ((v :: r).map fun w => quoteS (txt w))).cps.toList
    simp only [Str.cps_append, Array.toList_append]
    simp
end Mine
end

section
open PySem PySem.W StrLaws
namespace Mine
/-- where the reader of signs stands: outside, behind a bracket, behind the bar, inside -/
inductive At | O | B0 | B1 | I
  deriving DecidableEq
noncomputable def nxt : At → Sg → Option At
  | .O, (c, .out) => if c = 91 then none else some .O
  | .O, (c, .open_) => if c = 91 then some .B0 else none
  | .B0, (c, .bar) => if c = 33 then some .B1 else none
  | .B0, (c, .in_) => if c = 93 ∨ c = 45 ∨ c = 33 then none else some .I
  | .B1, (c, .in_) => if c = 93 ∨ c = 45 then none else some .I
  | .I, (c, .in_) => if c = 93 ∨ c = 45 then none else some .I
  | .I, (c, .shut) => if c = 93 then some .O else none
  | _, _ => none
noncomputable def runA : At → List Sg → Option At
  | s, [] => some s
  | s, p :: r => match nxt s p with
    | none => none
    | some t => runA t r
theorem runA_app : ∀ (l r : List Sg) (s : At), runA s (l ++ r) = match runA s l with
    | none => none
    | some t => runA t r
  | [], r, s => rfl
  | p :: l, r, s => by
    show (match nxt s p with | none => none | some t => runA t (l ++ r)) = match (match nxt s p with | none => none | some t => runA t l) with | none => none | some t => runA t r
    cases nxt s p with
    | none => rfl
    | some t => exact runA_app l r t
noncomputable def Edge (s : At) : Prop := s = .O ∨ s = .I
noncomputable def plainC (c : Nat) : Prop := c ≠ 91 ∧ c ≠ 93 ∧ c ≠ 45 ∧ c ≠ 33
/-- a plain sign: any other plain one does as well, once more too -/
theorem nxt_plain {s u : At} {c : Nat} {r : Role} (h : nxt s (c, r) = some u) (hc : plainC c) : Edge u ∧ (Edge s → u = s) ∧ ∀ d, plainC d → nxt s (d, r) = some u ∧ nxt u (d, r) = some u := by
  obtain ⟨h1, h2, h3, h4⟩ := hc
  cases s <;> cases r <;> simp [nxt, h1, h2, h3, h4] at h <;> subst h
  all_goals refine ⟨by simp [Edge], by simp [Edge], fun d ⟨d1, d2, d3, d4⟩ => by simp [nxt, d1, d2, d3, d4]⟩

theorem edge_role {s : At} (h : Edge s) {c : Nat} (hc : plainC c) : nxt s (c, roleOf (s = .I)) = some s := by
  obtain ⟨h1, h2, h3, h4⟩ := hc
  rcases h with rfl | rfl <;> simp [roleOf, nxt, h1, h2, h3]

theorem run_signs5 : ∀ (w : List Sg) (s t : At), runA s w = some t → runA s (w.flatMap signs5) = some t
  | [], s, t, h => h
  | p :: w, s, t, h => by
    have h' : (match nxt s p with | none => none | some u => runA u w) = some t := h
    cases q : nxt s p with
    | none => rw [q] at h'; cases h'
    | some u =>
      rw [q] at h'
      have ih := run_signs5 w u t h'
      rw [List.flatMap_cons, runA_app]
      have e : runA s (signs5 p) = some u := by
        unfold signs5
        by_cases hp : p.1 = 39
        · rw [if_pos hp]
          obtain ⟨c, r⟩ := p
          have hp' : c = 39 := hp
          subst hp'
          obtain ⟨_, _, k⟩ := nxt_plain q (by unfold plainC; decide)
          have k39 := k 39 (by unfold plainC; decide)
          have k34 := k 34 (by unfold plainC; decide)
          simp [runA, k39, k34]
        · rw [if_neg hp]
          simp [runA, q]
      rw [e]
      exact ih
theorem endIns_run : ∀ (w : List Sg) (s t : At), Edge s → Edge t → runA s w = some t → endIns (decide (s = .I)) w = decide (t = .I)
  | [], s, t, _, _, h => by cases h; rfl
  | p :: w, s, t, hs, ht, h => by
    have h' : (match nxt s p with | none => none | some u => runA u w) = some t := h
    cases q : nxt s p with
    | none => rw [q] at h'; cases h'
    | some u =>
      rw [q] at h'
      have gen : ∀ (w : List Sg) (p : Sg) (s u t : At), Edge t → nxt s p = some u → runA u w = some t → ∀ b, endIns b (p :: w) = decide (t = .I) := by
        intro w
        induction w with
        | nil =>
          intro p s u t ht q h b
          cases h
          obtain ⟨c, r⟩ := p
          show insOf r = _
          rcases ht with rfl | rfl
          · cases s <;> cases r <;> simp [nxt] at q <;> simp [insOf]
          · cases s <;> cases r <;> simp [nxt] at q <;> simp [insOf]
        | cons p' w ih =>
          intro p s u t ht q h b
          have h' : (match nxt u p' with | none => none | some v => runA v w) = some t := h
          cases q' : nxt u p' with
          | none => rw [q'] at h'; cases h'
          | some v =>
            rw [q'] at h'
            have := ih p' u v t ht q' h' b
            unfold endIns at this ⊢
            rw [List.getLast?_cons_cons]
            exact this
      exact gen w p s u t ht q h' _
theorem run_word {w : List Sg} {s t : At} (hs : Edge s) (ht : Edge t) (h : runA s w = some t) : runA s (wordLine (decide (s = .I)) w) = some t := by
  have h39 : plainC 39 := by unfold plainC; decide
  have e1 := edge_role hs h39
  have e2 := edge_role ht h39
  have e3 := endIns_run w s t hs ht h
  have h5 := run_signs5 w s t h
  unfold wordLine
  cases bareP w with
  | true => simpa using h5
  | false =>
    simp only [Bool.false_eq_true, if_false]
    rw [List.append_assoc, runA_app]
    have a1 : runA s [(39, roleOf (decide (s = .I)))] = some s := by simp [runA, e1]
    rw [a1]
    show runA s (w.flatMap signs5 ++ _) = _
    rw [runA_app, h5, e3]
    simp [runA, e2]
/-- the words, one behind the other -/
noncomputable def chainW : At → List (List Sg) → Prop
  | s, [] => s = .O
  | s, w :: ws => ∃ t, Edge t ∧ runA s w = some t ∧ chainW t ws
theorem run_line : ∀ (ws : List (List Sg)) (s : At) (first : Bool), Edge s → chainW s ws → runA s (lineGo (decide (s = .I)) first ws) = some .O
  | [], s, first, hs, h => by
    have : s = .O := h
    subst this; rfl
  | w :: ws, s, first, hs, ⟨t, ht, h1, h2⟩ => by
    have ih := run_line ws t false ht h2
    have hw := run_word hs ht h1
    have e3 := endIns_run w s t hs ht h1
    show runA s ((if first then [] else [(32, roleOf (decide (s = .I)))]) ++ wordLine (decide (s = .I)) w ++ lineGo (endIns (decide (s = .I)) w) false ws) = _
    rw [List.append_assoc, runA_app]
    have e0 : runA s (if first then [] else [(32, roleOf (decide (s = .I)))]) = some s := by
      cases first with
      | true => rfl
      | false =>
        have := edge_role hs (c := 32) (by unfold plainC; decide)
        simp [runA, this]
    rw [e0]
    show runA s (wordLine _ w ++ _) = _
    rw [runA_app, hw, e3]
    exact ih
theorem run_sent : ∀ (l : List Sg) (a : Nat) (s t : At), (a = 13 → Edge s) → runA s l = some t → runA s (sentG a l) = some t
  | [], a, s, t, _, h => h
  | p :: r, a, s, t, ha, h => by
    have h' : (match nxt s p with | none => none | some u => runA u r) = some t := h
    cases q : nxt s p with
    | none => rw [q] at h'; cases h'
    | some u =>
      rw [q] at h'
      obtain ⟨c, ρ⟩ := p
      show runA s ((if c = 10 ∨ c = 13 then (if c = 13 ∨ a ≠ 13 then [(13, ρ), (10, ρ)] else []) else (if c = 46 ∧ (a = 10 ∨ a = 13) then [(c, ρ), (c, ρ)] else [(c, ρ)])) ++ sentG c r) = _
      rw [runA_app]
      by_cases h1 : c = 10 ∨ c = 13
      · have hc : plainC c := by unfold plainC; omega
        obtain ⟨k1, k2, k3⟩ := nxt_plain q hc
        have ih := run_sent r c u t (fun _ => k1) h'
        rw [if_pos h1]
        by_cases h2 : c = 13 ∨ a ≠ 13
        · rw [if_pos h2]
          have k13 := k3 13 (by unfold plainC; decide)
          have k10 := k3 10 (by unfold plainC; decide)
          have : runA s [(13, ρ), (10, ρ)] = some u := by simp [runA, k13, k10]
          rw [this]; exact ih
        · rw [if_neg h2]
          have : u = s := k2 (ha (by omega))
          subst this
          exact ih
      · have ih := run_sent r c u t (fun z => absurd (.inr z) h1) h'
        rw [if_neg h1]
        by_cases h2 : c = 46 ∧ (a = 10 ∨ a = 13)
        · rw [if_pos h2]
          obtain ⟨k1, k2, k3⟩ := nxt_plain q (by rw [h2.1]; unfold plainC; decide)
          have kc := k3 c (by rw [h2.1]; unfold plainC; decide)
          have : runA s [(c, ρ), (c, ρ)] = some u := by simp [runA, kc]
          rw [this]; exact ih
        · rw [if_neg h2]
          have : runA s [(c, ρ)] = some u := by simp [runA, q]
          rw [this]; exact ih
end Mine
end

section
open PySem PySem.W StrLaws
namespace Mine
noncomputable def runW : At → List (List Sg) → At → Prop
  | s, [], t => s = t
  | s, w :: ws, t => ∃ u, Edge u ∧ runA s w = some u ∧ runW u ws t
theorem runW_chain : ∀ (ws : List (List Sg)) (s : At), runW s ws .O → chainW s ws
  | [], s, h => h
  | w :: ws, s, ⟨u, h1, h2, h3⟩ => ⟨u, h1, h2, runW_chain ws u h3⟩
theorem runW_snoc : ∀ (ws : List (List Sg)) (s t u : At) (w : List Sg), runW s ws t → runA t w = some u → Edge u → runW s (ws ++ [w]) u
  | [], s, t, u, w, h, h1, h2 => by
    have : s = t := h
    subst this
    exact ⟨u, h2, h1, rfl⟩
  | v :: ws, s, t, u, w, ⟨x, h1, h2, h3⟩, g1, g2 => ⟨x, h1, h2, runW_snoc ws x t u w h3 g1 g2⟩
theorem runW_addLast : ∀ (ws : List (List Sg)) (s t u : At) (l : List Sg), ws ≠ [] → runW s ws t → runA t l = some u → Edge u → runW s (addLast ws l) u
  | [], s, t, u, l, hne, _, _, _ => absurd rfl hne
  | [w], s, t, u, l, _, ⟨x, h1, h2, h3⟩, g1, g2 => by
    have : x = t := h3
    subst this
    refine ⟨u, g2, ?_, rfl⟩
    show runA s (w ++ l) = some u
    rw [runA_app, h2]; exact g1
  | w :: v :: r, s, t, u, l, _, ⟨x, h1, h2, h3⟩, g1, g2 => by
    have ih := runW_addLast (v :: r) x t u l (by simp) h3 g1 g2
    have e : addLast (w :: v :: r) l = w :: addLast (v :: r) l := by
      unfold addLast
      simp [List.getLast?_cons_cons]
    rw [e]
    exact ⟨x, h1, h2, ih⟩
theorem addLast_ne (ws : List (List Sg)) (l : List Sg) : addLast ws l ≠ [] := by unfold addLast; simp
noncomputable def atOf (b : Bool) : At := if b then .I else .O
theorem atOf_edge (b : Bool) : Edge (atOf b) := by cases b <;> simp [atOf, Edge]
theorem atOf_role {b : Bool} {c : Nat} (hc : c ≠ 91 ∧ c ≠ 93 ∧ c ≠ 45) : nxt (atOf b) (c, roleOf b) = some (atOf b) := by
  cases b <;> simp [atOf, roleOf, nxt, hc.1, hc.2.1, hc.2.2]
theorem atOf_run (b : Bool) : ∀ l : List Nat, (∀ c ∈ l, c ≠ 91 ∧ c ≠ 93 ∧ c ≠ 45) → runA (atOf b) (l.map fun c => (c, roleOf b)) = some (atOf b)
  | [], _ => rfl
  | c :: l, h => by
    show (match nxt (atOf b) (c, roleOf b) with | none => none | some u => runA u (l.map fun c => (c, roleOf b))) = _
    rw [atOf_role (h c List.mem_cons_self)]
    exact atOf_run b l fun d hd => h d (List.mem_cons_of_mem _ hd)
theorem pieces_ok : ∀ k, k < 9 → ∀ c ∈ pieces.getD k [], c ≠ 91 ∧ c ≠ 93 ∧ c ≠ 45 := by decide
theorem firsts_ok : ∀ k, k < 6 → firsts.getD k 0 ≠ 93 ∧ firsts.getD k 0 ≠ 45 ∧ firsts.getD k 0 ≠ 33 := by decide
theorem codeP_ok (n : Nat) : codeP n ≠ 91 ∧ codeP n ≠ 93 ∧ codeP n ≠ 45 := by
  unfold codeP
  split
  · decide
  · omega
noncomputable def Inv (s : List (List Sg) × Bool) : Prop := s.1 ≠ [] ∧ runW .O s.1 (atOf s.2)
theorem wstep_inv {s : List (List Sg) × Bool} (h : Inv s) (v : Nat) : Inv (wstep s v) := by
  obtain ⟨ws, b⟩ := s
  obtain ⟨h1, h2⟩ := h
  unfold wstep
  dsimp only at h1 h2 ⊢
  split
  · exact ⟨addLast_ne _ _, runW_addLast _ _ _ _ _ h1 h2 (atOf_run b _ (pieces_ok _ (by assumption))) (atOf_edge b)⟩
  · split
    · exact ⟨addLast_ne _ _, runW_addLast _ _ _ _ _ h1 h2 (by simp [runA, atOf_role (codeP_ok _)]) (atOf_edge b)⟩
    · split
      · exact ⟨by simp, runW_snoc _ _ _ _ _ h2 rfl (atOf_edge b)⟩
      · split
        · exact ⟨by simp, runW_snoc _ _ _ _ _ h2 (by simp [runA, atOf_role (show (46 : Nat) ≠ 91 ∧ 46 ≠ 93 ∧ 46 ≠ 45 by decide)]) (atOf_edge b)⟩
        · cases b with
          | true => exact ⟨addLast_ne _ _, runW_addLast _ _ _ _ _ h1 h2 (by simp [runA, atOf, nxt]) (.inl rfl)⟩
          | false =>
            refine ⟨addLast_ne _ _, runW_addLast _ _ _ _ _ h1 h2 ?_ (.inr rfl)⟩
            obtain ⟨f1, f2, f3⟩ := firsts_ok (v / 16 % 6) (Nat.mod_lt _ (by decide))
            generalize firsts.getD (v / 16 % 6) 0 = z at f1 f2 f3
            by_cases hk : 13 < v % 16
            · simp [hk, runA, atOf, nxt, f1, f2, f3]
            · simp [hk, runA, atOf, nxt, f1, f2, f3]
theorem words_inv : ∀ (ns : List Nat) (s : List (List Sg) × Bool), Inv s → Inv (ns.foldl wstep s)
  | [], s, h => h
  | v :: ns, s, h => words_inv ns _ (wstep_inv h v)
theorem words_chain (ns : List Nat) : chainW .O (wordsP ns) := by
  have h := words_inv ns ([[]], false) ⟨by simp, .O, .inl rfl, rfl, rfl⟩
  unfold wordsP wordsEnd
  obtain ⟨h1, h2⟩ := h
  cases q : (ns.foldl wstep ([[]], false)).2 with
  | true =>
    rw [q] at h2
    simp only [if_true]
    exact runW_chain _ _ (runW_addLast _ _ _ _ _ h1 h2 (by simp [runA, atOf, nxt]) (.inl rfl))
  | false =>
    rw [q] at h2
    simp only [Bool.false_eq_true, if_false]
    exact runW_chain _ _ h2
theorem sent_run (ns : List Nat) : runA .O (sentG 10 (lineP (wordsP ns))) = some .O :=
  run_sent _ 10 _ _ (fun z => by cases z) (run_line _ .O true (.inl rfl) (words_chain ns))
end Mine
end

section
open PySem PySem.W StrLaws
namespace Mine
inductive Tok
  | sign (c : Nat)
  | set (bar : Bool) (ins : List Nat)
noncomputable def barL (b : Bool) : List Nat := if b then [33] else []
noncomputable def Tok.chars : Tok → List Nat
  | .sign c => [c]
  | .set b ins => 91 :: (barL b ++ ins ++ [93])
noncomputable def Tok.ok : Tok → Prop
  | .sign c => c ≠ 91
  | .set b ins => ins ≠ [] ∧ (∀ c ∈ ins, c ≠ 93 ∧ c ≠ 45) ∧ (b = false → ins.head? ≠ some 33)
noncomputable def setIn (inner : List Nat) (c : Nat) : List Nat := inner ++ (if c ∈ [92, 38, 126, 124] ∨ (inner = [91] ∧ c ∈ [94, 91]) then [92] else []) ++ [c]
noncomputable def setP (b : Bool) (ins : List Nat) : List Nat := ins.foldl setIn (if b then [91, 94] else [91])
noncomputable def tstep (ps : List (Option (List Nat))) : Tok → List (Option (List Nat))
  | .sign c => if c = 63 then ps ++ [some [46]] else if c ≠ 42 then ps ++ [some (escP c)] else if ps = [] ∨ ps.getLast? ≠ some none then ps ++ [none] else ps
  | .set b ins => ps ++ [some (setP b ins ++ [93])]
noncomputable def trP (ts : List Tok) : List (Option (List Nat)) := ts.foldl tstep []
noncomputable def charsL (ts : List Tok) : List Nat := ts.flatMap Tok.chars

noncomputable def PO (l : List Sg) : Prop := runA .O l = some .O → ∃ ts : List Tok, (∀ t ∈ ts, t.ok) ∧ charsL ts = l.map (fun p => p.1) ∧ ∀ ps inner, (l.foldl pstep (ps, inner)).1 = ts.foldl tstep ps
noncomputable def PI (l : List Sg) : Prop := ∀ b acc, Tok.ok (.set b acc) → runA .I l = some .O → ∃ (more : List Nat) (ts : List Tok), Tok.ok (.set b (acc ++ more)) ∧ (∀ t ∈ ts, t.ok) ∧ l.map (fun p => p.1) = more ++ [93] ++ charsL ts ∧
  ∀ ps, (l.foldl pstep (ps, setP b acc)).1 = ts.foldl tstep (ps ++ [some (setP b (acc ++ more) ++ [93])])
noncomputable def PB1 (l : List Sg) : Prop := runA .B1 l = some .O → ∃ (ins : List Nat) (ts : List Tok), Tok.ok (.set true ins) ∧ (∀ t ∈ ts, t.ok) ∧ l.map (fun p => p.1) = ins ++ [93] ++ charsL ts ∧
  ∀ ps, (l.foldl pstep (ps, [91, 94])).1 = ts.foldl tstep (ps ++ [some (setP true ins ++ [93])])
noncomputable def PB0 (l : List Sg) : Prop := runA .B0 l = some .O → ∃ (b : Bool) (ins : List Nat) (ts : List Tok), Tok.ok (.set b ins) ∧ (∀ t ∈ ts, t.ok) ∧ l.map (fun p => p.1) = barL b ++ ins ++ [93] ++ charsL ts ∧
  ∀ ps, (l.foldl pstep (ps, [91])).1 = ts.foldl tstep (ps ++ [some (setP b ins ++ [93])])

theorem setP_snoc (b : Bool) (acc : List Nat) (c : Nat) : setP b (acc ++ [c]) = setIn (setP b acc) c := by unfold setP; rw [List.foldl_append]; rfl

theorem parse : ∀ l : List Sg, PO l ∧ PI l ∧ PB0 l ∧ PB1 l
  | [] => ⟨fun _ => ⟨[], (by simp), rfl, fun _ _ => rfl⟩, fun b acc _ h => (by cases h), fun h => (by cases h), fun h => (by cases h)⟩
  | (c, r) :: l => by
    obtain ⟨iO, iI, iB0, iB1⟩ := parse l
    refine ⟨fun h => ?_, fun b acc hok h => ?_, fun h => ?_, fun h => ?_⟩
    · have h' : (match nxt .O (c, r) with | none => none | some u => runA u l) = some .O := h
      cases r with
      | out =>
        by_cases hc : c = 91
        · simp [nxt, hc] at h'
        · simp only [nxt, hc, if_false] at h'
          obtain ⟨ts, h1, h2, h3⟩ := iO h'
          refine ⟨.sign c :: ts, ?_, ?_, fun ps inner => ?_⟩
          · intro t ht
            rcases List.mem_cons.mp ht with rfl | ht
            · exact hc
            · exact h1 t ht
          · show [c] ++ charsL ts = _
            rw [h2]; rfl
          · rw [List.foldl_cons, List.foldl_cons]
            have e : pstep (ps, inner) (c, .out) = (tstep ps (.sign c), inner) := by
              show (if c = 63 then (ps ++ [some [46]], inner) else if c ≠ 42 then (ps ++ [some (escP c)], inner) else if ps = [] ∨ ps.getLast? ≠ some none then (ps ++ [none], inner) else (ps, inner)) = ((if c = 63 then ps ++ [some [46]] else if c ≠ 42 then ps ++ [some (escP c)] else if ps = [] ∨ ps.getLast? ≠ some none then ps ++ [none] else ps), inner)
              by_cases g1 : c = 63
              · rw [if_pos g1, if_pos g1]
              · rw [if_neg g1, if_neg g1]
                by_cases g2 : c ≠ 42
                · rw [if_pos g2, if_pos g2]
                · rw [if_neg g2, if_neg g2]
                  by_cases g3 : ps = [] ∨ ps.getLast? ≠ some none
                  · rw [if_pos g3, if_pos g3]
                  · rw [if_neg g3, if_neg g3]
            rw [e]
            exact h3 _ inner
      | open_ =>
        by_cases hc : c = 91
        · simp only [nxt, hc, if_true] at h'
          obtain ⟨b, ins, ts, h1, h2, h3, h4⟩ := iB0 h'
          refine ⟨.set b ins :: ts, ?_, ?_, fun ps inner => ?_⟩
          · intro t ht
            rcases List.mem_cons.mp ht with rfl | ht
            · exact h1
            · exact h2 t ht
          · show 91 :: (barL b ++ ins ++ [93]) ++ charsL ts = _
            rw [List.map_cons, h3, hc]; rfl
          · rw [List.foldl_cons, List.foldl_cons]
            exact h4 ps
        · simp [nxt, hc] at h'
      | _ => simp [nxt] at h'
    · have h' : (match nxt .I (c, r) with | none => none | some u => runA u l) = some .O := h
      obtain ⟨k1, k2, k3⟩ := hok
      cases r with
      | in_ =>
        by_cases hc : c = 93 ∨ c = 45
        · simp [nxt, hc] at h'
        · simp only [nxt, hc, if_false] at h'
          have hok' : Tok.ok (.set b (acc ++ [c])) := by
            refine ⟨by simp, fun d hd => ?_, fun hb => ?_⟩
            · rcases List.mem_append.mp hd with hd | hd
              · exact k2 d hd
              · rw [List.mem_singleton.mp hd]; exact ⟨fun z => hc (.inl z), fun z => hc (.inr z)⟩
            · have := k3 hb
              cases acc with
              | nil => exact absurd rfl k1
              | cons x acc => exact this
          obtain ⟨more, ts, h1, h2, h3, h4⟩ := iI b (acc ++ [c]) hok' h'
          refine ⟨c :: more, ts, ?_, h2, ?_, fun ps => ?_⟩
          · rw [List.append_cons]; exact h1
          · rw [List.map_cons, h3]; rfl
          · rw [List.foldl_cons]
            have := h4 ps
            rw [List.append_cons acc c more]
            rw [setP_snoc] at this
            exact this
      | shut =>
        by_cases hc : c = 93
        · simp only [nxt, hc, if_true] at h'
          obtain ⟨ts, h1, h2, h3⟩ := iO h'
          refine ⟨[], ts, by rw [List.append_nil]; exact ⟨k1, k2, k3⟩, h1, ?_, fun ps => ?_⟩
          · rw [List.map_cons, h2, hc]; rfl
          · rw [List.foldl_cons, List.append_nil]
            exact h3 _ _
        · simp [nxt, hc] at h'
      | _ => simp [nxt] at h'
    · have h' : (match nxt .B0 (c, r) with | none => none | some u => runA u l) = some .O := h
      cases r with
      | in_ =>
        by_cases hc : c = 93 ∨ c = 45 ∨ c = 33
        · simp [nxt, hc] at h'
        · simp only [nxt, hc, if_false] at h'
          have hok' : Tok.ok (.set false [c]) := by
            refine ⟨by simp, fun d hd => ?_, fun _ => ?_⟩
            · rw [List.mem_singleton.mp hd]; exact ⟨fun z => hc (.inl z), fun z => hc (.inr (.inl z))⟩
            · simp; exact fun z => hc (.inr (.inr z))
          obtain ⟨more, ts, h1, h2, h3, h4⟩ := iI false [c] hok' h'
          refine ⟨false, c :: more, ts, h1, h2, ?_, fun ps => ?_⟩
          · rw [List.map_cons, h3]; rfl
          · rw [List.foldl_cons]
            exact h4 ps
      | bar =>
        by_cases hc : c = 33
        · simp only [nxt, hc, if_true] at h'
          obtain ⟨ins, ts, h1, h2, h3, h4⟩ := iB1 h'
          refine ⟨true, ins, ts, h1, h2, ?_, fun ps => ?_⟩
          · rw [List.map_cons, h3, hc]; rfl
          · rw [List.foldl_cons]
            exact h4 ps
        · simp [nxt, hc] at h'
      | _ => simp [nxt] at h'
    · have h' : (match nxt .B1 (c, r) with | none => none | some u => runA u l) = some .O := h
      cases r with
      | in_ =>
        by_cases hc : c = 93 ∨ c = 45
        · simp [nxt, hc] at h'
        · simp only [nxt, hc, if_false] at h'
          have hok' : Tok.ok (.set true [c]) := by
            refine ⟨by simp, fun d hd => ?_, fun z => by cases z⟩
            rw [List.mem_singleton.mp hd]; exact ⟨fun z => hc (.inl z), fun z => hc (.inr z)⟩
          obtain ⟨more, ts, h1, h2, h3, h4⟩ := iI true [c] hok' h'
          refine ⟨c :: more, ts, h1, h2, ?_, fun ps => ?_⟩
          · rw [List.map_cons, h3]; rfl
          · rw [List.foldl_cons]
            exact h4 ps
      | _ => simp [nxt] at h'

theorem sent_toks (ns : List Nat) : ∃ ts : List Tok, (∀ t ∈ ts, t.ok) ∧ charsL ts = (sentG 10 (lineP (wordsP ns))).map (fun p => p.1) ∧ partsP (sentG 10 (lineP (wordsP ns))) = trP ts := by
  obtain ⟨ts, h1, h2, h3⟩ := (parse _).1 (sent_run ns)
  exact ⟨ts, h1, h2, h3 [] []⟩
end Mine
end

section
open PySem PySem.W StrLaws
namespace Mine
noncomputable def sMap (c : Nat) : List Nat := if c ∈ [92, 38, 126, 124] then [92, c] else [c]
noncomputable def headFix : List Nat → List Nat
  | [] => []
  | c :: r => if c = 33 then 94 :: r else if c = 94 ∨ c = 91 then 92 :: c :: r else c :: r
theorem setIn_long {inner : List Nat} (c : Nat) (h : inner ≠ [91]) : setIn inner c = inner ++ sMap c := by
  unfold setIn sMap
  by_cases g : c ∈ [92, 38, 126, 124]
  · rw [if_pos g, if_pos (.inl g), List.append_assoc]; rfl
  · rw [if_neg g, if_neg (fun z => z.elim g fun z => h z.1), List.append_nil]
theorem fold_long : ∀ (ins inner : List Nat), 2 ≤ inner.length → ins.foldl setIn inner = inner ++ ins.flatMap sMap
  | [], inner, _ => by simp
  | c :: r, inner, h => by
    rw [List.foldl_cons, setIn_long c (fun z => by rw [z] at h; simp at h), fold_long r _ (by rw [List.length_append]; omega), List.flatMap_cons, List.append_assoc]
theorem setP_text {b : Bool} {ins : List Nat} (h : Tok.ok (.set b ins)) : setP b ins = 91 :: headFix ((barL b ++ ins).flatMap sMap) := by
  obtain ⟨h1, h2, h3⟩ := h
  cases b with
  | true =>
    show ins.foldl setIn [91, 94] = _
    rw [fold_long _ _ (by simp)]
    rfl
  | false =>
    cases ins with
    | nil => exact absurd rfl h1
    | cons c r =>
      have hc : c ≠ 33 := fun z => h3 rfl (by rw [z]; rfl)
      show (c :: r).foldl setIn [91] = 91 :: headFix ((c :: r).flatMap sMap)
      rw [List.foldl_cons, List.flatMap_cons]
      have key : setIn [91] c = 91 :: headFix (sMap c) ∧ headFix (sMap c ++ r.flatMap sMap) = headFix (sMap c) ++ r.flatMap sMap := by
        unfold setIn sMap
        by_cases g : c ∈ [92, 38, 126, 124]
        · rw [if_pos g, if_pos (.inl g)]; exact ⟨rfl, rfl⟩
        · rw [if_neg g]
          by_cases g2 : c = 94 ∨ c = 91
          · rw [if_pos (.inr ⟨rfl, by simpa using g2⟩)]
            simp [headFix, hc, g2]
          · rw [if_neg (fun z => z.elim g fun z => g2 (by simpa using z.2))]
            simp [headFix, hc, g2]
      rw [key.2, key.1, fold_long _ _ ?_]
      · rfl
      · have : 1 ≤ (headFix (sMap c)).length := by
          unfold sMap
          by_cases g : c ∈ [92, 38, 126, 124]
          · rw [if_pos g]; show 1 ≤ 2; omega
          · rw [if_neg g]
            by_cases g2 : c = 94 ∨ c = 91
            · simp [headFix, hc, g2]
            · simp [headFix, hc, g2]
        rw [List.length_cons]; omega
theorem sMap_two (l : List Nat) : (repl1 92 [92, 92] l).flatMap (fun c => if good2 c then [92, c] else [c]) = l.flatMap sMap := by
  induction l with
  | nil => rfl
  | cons c r ih =>
    unfold repl1 at ih ⊢
    rw [List.flatMap_cons, List.flatMap_append, ih, List.flatMap_cons]
    congr 1
    unfold sMap
    by_cases h : c = 92
    · subst h; rfl
    · rw [if_neg h]
      by_cases g : c ∈ [92, 38, 126, 124]
      · rw [if_pos g]
        simp at g
        rcases g with g | g | g | g
        · exact absurd g h
        all_goals subst g; rfl
      · rw [if_neg g]
        simp at g
        simp [good2, g]
/-- no two stars next to each other -/
noncomputable def lone : List (Option (List Nat)) → Prop
  | none :: none :: _ => False
  | _ :: r => lone r
  | [] => True
theorem lone_snoc : ∀ (l : List (Option (List Nat))) (x : Option (List Nat)), lone l → (l = [] ∨ l.getLast? ≠ some none ∨ x ≠ none) → lone (l ++ [x])
  | [], x, _, _ => by cases x <;> trivial
  | [a], x, _, h => by
    cases a with
    | some a => cases x <;> trivial
    | none =>
      cases x with
      | some x => trivial
      | none => rcases h with h | h | h <;> simp at h
  | a :: b :: r, x, h1, h2 => by
    have ih : lone (b :: r) → lone (b :: r ++ [x]) := fun h => lone_snoc (b :: r) x h (by
      rcases h2 with h2 | h2 | h2
      · simp at h2
      · rw [List.getLast?_cons_cons] at h2; exact .inr (.inl h2)
      · exact .inr (.inr h2))
    cases a with
    | some a => exact ih h1
    | none =>
      cases b with
      | none => exact h1.elim
      | some b => exact ih h1
theorem lone_tr (ts : List Tok) : lone (trP ts) := by
  suffices ∀ (ts : List Tok) ps, lone ps → lone (ts.foldl tstep ps) from this ts [] trivial
  intro ts
  induction ts with
  | nil => exact fun _ h => h
  | cons t ts ih =>
    intro ps h
    refine ih _ ?_
    cases t with
    | sign c =>
      show lone (if c = 63 then ps ++ [some [46]] else if c ≠ 42 then ps ++ [some (escP c)] else if ps = [] ∨ ps.getLast? ≠ some none then ps ++ [none] else ps)
      split
      · exact lone_snoc _ _ h (.inr (.inr (by simp)))
      split
      · exact lone_snoc _ _ h (.inr (.inr (by simp)))
      split
      case isTrue g => exact lone_snoc _ _ h (g.elim .inl fun g => .inr (.inl g))
      · exact h
    | set b ins => exact lone_snoc _ _ h (.inr (.inr (by simp)))
end Mine
end

section
open PySem PySem.W StrLaws
namespace Mine
noncomputable abbrev Po := Option (List Nat)
noncomputable def starT (r : List Po) : List Nat := if none ∈ r then [40, 63, 62, 46, 42, 63] else [46, 42]
noncomputable def textGo : Bool → List Po → List Nat
  | _, [] => []
  | b, some x :: r => x ++ textGo b r
  | b, none :: r => (if b then [41] else []) ++ starT r ++ textGo true r
noncomputable def textP (l : List Po) : List Nat := [40, 63, 115, 58] ++ textGo false l ++ [41, 92, 90]
/-- from a star (or the end) on -/
noncomputable def tailT : List Po → List Nat
  | none :: r => starT r ++ textGo true r
  | _ => []
theorem textGo_somes (b : Bool) (r : List Po) : ∀ fs : List (List Nat), textGo b (fs.map some ++ r) = fs.flatten ++ textGo b r
  | [] => rfl
  | x :: fs => by
    show x ++ textGo b (fs.map some ++ r) = _
    rw [textGo_somes b r fs, List.flatten_cons, List.append_assoc]
theorem none_somes (r : List Po) (fs : List (List Nat)) : none ∈ fs.map some ++ r ↔ none ∈ r := by simp
theorem textGo_false_star (r : List Po) (h : r = [] ∨ r.head? = some none) : textGo false r = tailT r := by
  rcases h with rfl | h
  · rfl
  · match r, h with
    | none :: r, _ => simp [textGo, tailT]
theorem tailT_end (fs : List (List Nat)) : tailT (none :: fs.map some) = [46, 42] ++ fs.flatten := by
  show starT (fs.map some) ++ textGo true (fs.map some) = _
  have h1 := textGo_somes true [] fs
  rw [List.append_nil] at h1
  rw [h1]
  unfold starT
  rw [if_neg (by simp)]
  simp [textGo]
theorem tailT_more (fs : List (List Nat)) (r : List Po) : tailT (none :: (fs.map some ++ none :: r)) = [40, 63, 62, 46, 42, 63] ++ fs.flatten ++ [41] ++ tailT (none :: r) := by
  show starT _ ++ textGo true _ = _
  rw [textGo_somes]
  unfold starT
  rw [if_pos (by simp)]
  show _ ++ (_ ++ ((if true then [41] else []) ++ starT r ++ textGo true r)) = _ ++ (starT r ++ textGo true r)
  simp
theorem lone_tail {a : Po} {r : List Po} (h : lone (a :: r)) : lone r := by
  cases a with
  | some a => exact h
  | none =>
    cases r with
    | nil => trivial
    | cons b r =>
      cases b with
      | none => exact h.elim
      | some b => exact h
theorem lone_drop {l : List Po} (h : lone l) : ∀ i, lone (l.drop i) := by
  intro i
  induction i generalizing l with
  | zero => exact h
  | succ i ih =>
    cases l with
    | nil => trivial
    | cons a l => exact ih (lone_tail h)
theorem lone_at {l : List Po} (h : lone l) {i : Nat} (h1 : l[i]? = some none) : l[i + 1]? ≠ some none := by
  intro h2
  have := lone_drop h i
  have hi := (List.getElem?_eq_some_iff.mp h1)
  have hj := (List.getElem?_eq_some_iff.mp h2)
  obtain ⟨a1, a2⟩ := hi
  obtain ⟨b1, b2⟩ := hj
  rw [List.drop_eq_getElem_cons a1, List.drop_eq_getElem_cons b1, a2, b2] at this
  exact this
end Mine
end

section
open PySem PySem.W StrLaws
namespace Mine
noncomputable def starsI (l : List Po) : List Nat := (List.range l.length).filter fun i => decide (l[i]? = some none)
theorem stars_split {l : List Po} {i : Nat} (h : l[i]? = some none) : ∃ a b : List Nat, starsI l = a ++ i :: b ∧ (∀ j ∈ a, j < i) ∧ (∀ j ∈ b, i < j) ∧ (a = [] ↔ none ∉ l.take i) ∧ (b = [] ↔ none ∉ l.drop (i + 1)) := by
  have hi := (List.getElem?_eq_some_iff.mp h).1
  obtain ⟨m, hm⟩ : ∃ m, l.length = i + (1 + m) := ⟨l.length - i - 1, by omega⟩
  have e : List.range l.length = List.range i ++ (i :: (List.range m).map fun j => i + (1 + j)) := by
    rw [hm, List.range_add, List.range_add]
    simp [Function.comp_def]
  refine ⟨(List.range i).filter fun i => decide (l[i]? = some none), ((List.range m).map fun j => i + (1 + j)).filter fun i => decide (l[i]? = some none), ?_, ?_, ?_, ?_, ?_⟩
  · unfold starsI
    rw [e, List.filter_append, List.filter_cons_of_pos (by simp [h])]
  · intro j hj
    have := (List.mem_filter.mp hj).1
    exact List.mem_range.mp this
  · intro j hj
    obtain ⟨x, _, rfl⟩ := List.mem_map.mp (List.mem_filter.mp hj).1
    omega
  · constructor
    · intro ha hn
      obtain ⟨j, hj⟩ := List.mem_iff_getElem?.mp hn
      rw [List.getElem?_take] at hj
      split at hj
      · rename_i hlt
        have : j ∈ (List.range i).filter fun i => decide (l[i]? = some none) := List.mem_filter.mpr ⟨List.mem_range.mpr hlt, by simp [hj]⟩
        rw [ha] at this; cases this
      · cases hj
    · intro hn
      refine List.filter_eq_nil_iff.mpr fun j hj hq => hn ?_
      refine List.mem_iff_getElem?.mpr ⟨j, ?_⟩
      rw [List.getElem?_take, if_pos (List.mem_range.mp hj)]
      simpa using hq
  · constructor
    · intro ha hn
      obtain ⟨j, hj⟩ := List.mem_iff_getElem?.mp hn
      rw [List.getElem?_drop] at hj
      have hlt := (List.getElem?_eq_some_iff.mp hj).1
      have : i + (1 + j) ∈ ((List.range m).map fun j => i + (1 + j)).filter fun i => decide (l[i]? = some none) := List.mem_filter.mpr ⟨List.mem_map.mpr ⟨j, List.mem_range.mpr (by omega), rfl⟩, by
        have : i + (1 + j) = i + 1 + j := by omega
        rw [this, hj]; simp⟩
      rw [ha] at this; cases this
    · intro hn
      refine List.filter_eq_nil_iff.mpr fun j hj hq => hn ?_
      obtain ⟨x, _, rfl⟩ := List.mem_map.mp hj
      refine List.mem_iff_getElem?.mpr ⟨x, ?_⟩
      rw [List.getElem?_drop]
      have : i + (1 + x) = i + 1 + x := by omega
      rw [this] at hq
      simpa using hq
theorem stars_first {l : List Po} {i : Nat} (h : l[i]? = some none) : ∃ j : Nat, (starsI l)[0]? = some j ∧ (i = j ↔ none ∉ l.take i) := by
  obtain ⟨a, b, e, h1, h2, h3, h4⟩ := stars_split h
  cases a with
  | nil => exact ⟨i, by rw [e]; rfl, by simp [← h3]⟩
  | cons x a =>
    refine ⟨x, by rw [e]; rfl, ?_⟩
    have := h1 x (by simp)
    rw [← h3]
    constructor
    · intro z; omega
    · intro z; cases z
theorem stars_last {l : List Po} {i : Nat} (h : l[i]? = some none) : ∃ j : Nat, (starsI l).getLast? = some j ∧ (i = j ↔ none ∉ l.drop (i + 1)) := by
  obtain ⟨a, b, e, h1, h2, h3, h4⟩ := stars_split h
  rcases List.eq_nil_or_concat b with rfl | ⟨b', x, rfl⟩
  · exact ⟨i, by rw [e]; simp, by simp [← h4]⟩
  · have hx : i < x := h2 x (by simp)
    refine ⟨x, ?_, ?_⟩
    · rw [e]
      simp [List.getLast?_append, List.getLast?_cons]
    · rw [← h4]
      constructor
      · intro z; omega
      · intro z; simp at z
/-- one part more -/
noncomputable def gapT (l : List Po) (i : Nat) : Po → List Nat
  | some y => y
  | none => (if none ∈ l.take i then [41] else []) ++ starT (l.drop (i + 1))
theorem textGo_step {l : List Po} {i : Nat} {x : Po} (h : l[i]? = some x) : textGo (decide (none ∈ l.take i)) (l.drop i) = gapT l i x ++ textGo (decide (none ∈ l.take (i + 1))) (l.drop (i + 1)) := by
  obtain ⟨hi, hx⟩ := List.getElem?_eq_some_iff.mp h
  have e : l.take (i + 1) = l.take i ++ [x] := by rw [List.take_add_one, h]; rfl
  rw [List.drop_eq_getElem_cons hi, hx, e]
  cases x with
  | some y => simp [textGo, gapT]
  | none => simp [textGo, gapT]
end Mine
end

section
open PySem PySem.W StrLaws
namespace Mine
theorem addLast_add {ws : List (List Sg)} (h : ws ≠ []) (a b : List Sg) : addLast (addLast ws a) b = addLast ws (a ++ b) := by
  unfold addLast
  simp
noncomputable def total (ws : List (List Sg)) : Nat := (ws.map (·.length)).sum
theorem addLast_bound (ws : List (List Sg)) (h : ws ≠ []) (l : List Sg) : total (addLast ws l) = total ws + l.length ∧ (addLast ws l).length = ws.length := by
  rcases List.eq_nil_or_concat ws with rfl | ⟨a, x, rfl⟩
  · exact absurd rfl h
  · unfold addLast total
    simp
    omega
theorem total_app (a b : List (List Sg)) : total (a ++ b) = total a + total b := by unfold total; simp
theorem pieces_len : ∀ k, k < 9 → (pieces.getD k []).length ≤ 2 := by decide
noncomputable def WB (n : Nat) (s : List (List Sg) × Bool) : Prop := s.1 ≠ [] ∧ total s.1 ≤ 3 * n ∧ s.1.length ≤ n + 1
theorem wstep_bound {n : Nat} {s : List (List Sg) × Bool} (h : WB n s) (v : Nat) : WB (n + 1) (wstep s v) := by
  obtain ⟨ws, b⟩ := s
  obtain ⟨h0, h1, h2⟩ := h
  dsimp only at h0 h1 h2
  have key : ∀ (l : List Sg) (b' : Bool), l.length ≤ 3 → WB (n + 1) (addLast ws l, b') := fun l b' hl => by
    obtain ⟨q1, q2⟩ := addLast_bound ws h0 l
    exact ⟨addLast_ne _ _, by show total _ ≤ _; rw [q1]; omega, by show List.length _ ≤ _; rw [q2]; omega⟩
  have key2 : ∀ (l : List Sg) (b' : Bool), l.length ≤ 3 → WB (n + 1) (ws ++ [l], b') := fun l b' hl => by
    refine ⟨by simp, ?_, ?_⟩
    · show total _ ≤ _
      rw [total_app]
      have : total [l] = l.length := by simp [total]
      omega
    · show List.length _ ≤ _
      simp; omega
  unfold wstep
  dsimp only
  split
  · rename_i h9
    refine key _ _ ?_
    rw [List.length_map]
    have := pieces_len _ h9
    omega
  split
  · exact key _ _ (by simp)
  split
  · exact key2 _ _ (by simp)
  split
  · exact key2 _ _ (by simp)
  split
  · exact key _ _ (by simp)
  · refine key _ _ ?_
    split <;> simp
theorem words_bound : ∀ (ns : List Nat) (n : Nat) (s : List (List Sg) × Bool), WB n s → WB (n + ns.length) (ns.foldl wstep s)
  | [], n, s, h => h
  | v :: ns, n, s, h => by
    have := words_bound ns (n + 1) _ (wstep_bound h v)
    rw [List.foldl_cons, List.length_cons]
    rw [show n + (ns.length + 1) = n + 1 + ns.length by omega]
    exact this
theorem mem_total {w : List Sg} {ws : List (List Sg)} (h : w ∈ ws) : w.length ≤ total ws := by
  induction ws with
  | nil => cases h
  | cons a r ih =>
    have e : total (a :: r) = a.length + total r := by simp [total]
    rw [e]
    rcases List.mem_cons.mp h with rfl | h
    · omega
    · have := ih h; omega
theorem wb0 : WB 0 ([[]], false) := ⟨by simp, by simp [total], by simp⟩
theorem wordsP_bound (ns : List Nat) : wordsP ns ≠ [] ∧ total (wordsP ns) ≤ 3 * ns.length + 1 ∧ (wordsP ns).length ≤ ns.length + 1 := by
  have := words_bound ns 0 _ wb0
  rw [Nat.zero_add] at this
  obtain ⟨h0, h1, h2⟩ := this
  unfold wordsP wordsEnd
  split
  · obtain ⟨q1, q2⟩ := addLast_bound _ h0 [(93, .shut)]
    refine ⟨addLast_ne _ _, ?_, ?_⟩
    · rw [q1]; simp; omega
    · rw [q2]; omega
  · exact ⟨h0, by omega, h2⟩
theorem numbersP_bound (is : List Int) : (numbersP is).length ≤ 10 ∧ ∀ n ∈ numbersP is, n < 100000000 := by
  have h0 : ((is.take 10).map fun x => (x.fmod 100000000).toNat).length ≤ 10 := by rw [List.length_map, List.length_take]; omega
  have h1 : ∀ n ∈ (is.take 10).map fun x => (x.fmod 100000000).toNat, n < 100000000 := by
    intro n hn
    obtain ⟨x, _, rfl⟩ := List.mem_map.mp hn
    have a := Int.fmod_lt_of_pos x (show (0 : Int) < 100000000 by decide)
    have b := Int.fmod_nonneg_of_pos x (show (0 : Int) < 100000000 by decide)
    omega
  unfold numbersP
  dsimp only
  split
  · rename_i h3
    refine ⟨?_, ?_⟩
    · rw [List.length_append]; simp only [List.length_cons, List.length_nil]; omega
    · intro n hn
      rcases List.mem_append.mp hn with hn | hn
      · exact h1 n hn
      · simp at hn; omega
  · exact ⟨h0, h1⟩
theorem fmodN (a m : Nat) : ((a : Nat) : Int).fmod (m : Nat) = ((a % m : Nat) : Int) := by
  rw [Int.fmod_eq_emod_of_nonneg _ (by omega)]; rfl
theorem fdivN (a m : Nat) : ((a : Nat) : Int).fdiv (m : Nat) = ((a / m : Nat) : Int) := by
  rw [Int.fdiv_eq_ediv_of_nonneg _ (by omega)]; rfl
end Mine
end

section
open PySem PySem.W StrLaws
namespace Mine
noncomputable def marks : List Nat := [95, 64, 37, 43, 61, 58, 44, 46, 47, 45]
theorem safe_low : ∀ c, c < 128 → safe1 c = (Unicode.isAlnum c || decide (c ∈ marks)) := by decide +kernel
theorem bits_hi : ∀ q, q < 8 → 4 ≤ q → code1.getD (6 + (1 + q)) 0 = 0 := by decide
theorem safe_high {c : Nat} (h : 128 ≤ c) : safe1 c = false := by
  unfold safe1
  have h2 : Sre.isWord c = false := by
    rw [Bool.eq_false_iff]
    intro z
    simp [Sre.isWord, Sre.isDigit] at z
    omega
  rw [h2, Bool.or_false]
  by_cases h3 : c < 256
  · rw [bits_hi (c / 32) (by omega) (by omega)]
    simp
  · simp [h3]
end Mine
end

section
open PySem PySem.W StrLaws
namespace Mine
theorem trP_snoc (ts : List Tok) (t : Tok) : trP (ts ++ [t]) = tstep (trP ts) t := by unfold trP; rw [List.foldl_append]; rfl
theorem charsL_app (a b : List Tok) : charsL (a ++ b) = charsL a ++ charsL b := by unfold charsL; rw [List.flatMap_append]
theorem charsL_one (t : Tok) : charsL [t] = t.chars := by unfold charsL; simp
theorem tstep_len (ps : List Po) (t : Tok) : (tstep ps t).length ≤ ps.length + 1 := by
  cases t with
  | sign c =>
    show (if c = 63 then ps ++ [some [46]] else if c ≠ 42 then ps ++ [some (escP c)] else if ps = [] ∨ ps.getLast? ≠ some none then ps ++ [none] else ps).length ≤ _
    split
    · simp
    split
    · simp
    split
    · simp
    · simp
  | set b ins => show (ps ++ [_]).length ≤ _; simp
theorem chars_pos (t : Tok) : 1 ≤ t.chars.length := by cases t <;> simp [Tok.chars]
theorem tr_len : ∀ ts : List Tok, (trP ts).length ≤ ts.length ∧ ts.length ≤ (charsL ts).length := by
  intro ts
  refine ⟨?_, ?_⟩
  · suffices ∀ (ts : List Tok) ps, (ts.foldl tstep ps).length ≤ ps.length + ts.length by
      have := this ts []
      simpa [trP] using this
    intro ts
    induction ts with
    | nil => intro ps; simp
    | cons t ts ih =>
      intro ps
      have h1 := ih (tstep ps t)
      have h2 := tstep_len ps t
      rw [List.foldl_cons, List.length_cons]; omega
  · induction ts with
    | nil => simp
    | cons t ts ih =>
      have : charsL (t :: ts) = t.chars ++ charsL ts := rfl
      rw [this, List.length_append, List.length_cons]
      have := chars_pos t
      omega
theorem sMap_len (c : Nat) : 1 ≤ (sMap c).length ∧ (sMap c).length ≤ 2 := by unfold sMap; split <;> simp
theorem sMaps_len : ∀ l : List Nat, l.length ≤ (l.flatMap sMap).length ∧ (l.flatMap sMap).length ≤ 2 * l.length
  | [] => by simp
  | c :: l => by
    have h := sMaps_len l
    have h2 := sMap_len c
    rw [List.flatMap_cons, List.length_append, List.length_cons]
    omega
theorem sMap_head (c : Nat) (hc : c ≠ 33) : ∀ r, (sMap c ++ r).head? ≠ some 33 := by
  intro r
  unfold sMap
  split
  · simp
  · simpa using hc
/-- the text of a set's stuff is no lone bar, and not empty -/
theorem stuff_ok {b : Bool} {ins : List Nat} (h : Tok.ok (.set b ins)) : (barL b ++ ins).flatMap sMap ≠ [] ∧ (barL b ++ ins).flatMap sMap ≠ [33] := by
  obtain ⟨h1, h2, h3⟩ := h
  have hl := sMaps_len (barL b ++ ins)
  have hp : 1 ≤ ins.length := by cases ins with
    | nil => exact absurd rfl h1
    | cons => simp
  refine ⟨fun z => ?_, fun z => ?_⟩
  · rw [z, List.length_append] at hl
    have := hl.1
    simp only [List.length_nil] at this
    omega
  · cases b with
    | true =>
      rw [z, List.length_append] at hl
      simp [barL] at hl
      omega
    | false =>
      cases ins with
      | nil => exact absurd rfl h1
      | cons c r =>
        have hc : c ≠ 33 := fun z => h3 rfl (by rw [z]; rfl)
        have : (sMap c ++ r.flatMap sMap).head? = some 33 := by
          have e : (barL false ++ c :: r).flatMap sMap = sMap c ++ r.flatMap sMap := rfl
          rw [← e, z]; rfl
        exact sMap_head c hc _ this
theorem stuff_len {b : Bool} {ins : List Nat} : (headFix ((barL b ++ ins).flatMap sMap)).length ≤ 2 * (ins.length + 1) + 1 := by
  have hl := sMaps_len (barL b ++ ins)
  have hb : (barL b).length ≤ 1 := by cases b <;> simp [barL]
  rw [List.length_append] at hl
  generalize (barL b ++ ins).flatMap sMap = m at hl ⊢
  cases m with
  | nil => simp [headFix]
  | cons c r =>
    have : (headFix (c :: r)).length ≤ (c :: r).length + 1 := by
      have e : headFix (c :: r) = if c = 33 then 94 :: r else if c = 94 ∨ c = 91 then 92 :: c :: r else c :: r := rfl
      rw [e]
      split
      · simp
      split
      · simp
      · simp
    omega
end Mine
end

section
open PySem PySem.W StrLaws
namespace Mine
noncomputable def wt1 : Po → Nat
  | none => 8
  | some x => x.length
noncomputable def wt (l : List Po) : Nat := (l.map wt1).sum
theorem wt_app (a b : List Po) : wt (a ++ b) = wt a + wt b := by unfold wt; simp
theorem textGo_bound : ∀ (l : List Po) (b : Bool), (textGo b l).length ≤ wt l
  | [], b => by simp [textGo]
  | some x :: r, b => by
    have := textGo_bound r b
    show (x ++ textGo b r).length ≤ x.length + wt r
    rw [List.length_append]; omega
  | none :: r, b => by
    have := textGo_bound r true
    show ((if b then [41] else []) ++ starT r ++ textGo true r).length ≤ 8 + wt r
    rw [List.length_append, List.length_append]
    have h1 : (if b then [41] else ([] : List Nat)).length ≤ 1 := by cases b <;> simp
    have h2 : (starT r).length ≤ 6 := by unfold starT; split <;> simp
    omega
theorem setP_len : ∀ (ins inner : List Nat), (ins.foldl setIn inner).length ≤ inner.length + 2 * ins.length
  | [], inner => by simp
  | c :: r, inner => by
    have := setP_len r (setIn inner c)
    have h : (setIn inner c).length ≤ inner.length + 2 := by
      unfold setIn
      rw [List.length_append, List.length_append]
      split <;> simp
    rw [List.foldl_cons, List.length_cons]; omega
theorem tstep_wt (ps : List Po) (t : Tok) : wt (tstep ps t) ≤ wt ps + 8 * t.chars.length := by
  cases t with
  | sign c =>
    show wt (if c = 63 then ps ++ [some [46]] else if c ≠ 42 then ps ++ [some (escP c)] else if ps = [] ∨ ps.getLast? ≠ some none then ps ++ [none] else ps) ≤ wt ps + 8 * 1
    have he : (escP c).length ≤ 2 := by unfold escP; split <;> simp
    split
    · rw [wt_app]; show wt ps + 1 ≤ _; omega
    split
    · rw [wt_app]; show wt ps + (escP c).length ≤ _; omega
    split
    · rw [wt_app]; show wt ps + 8 ≤ _; omega
    · omega
  | set b ins =>
    show wt (ps ++ [some (setP b ins ++ [93])]) ≤ _
    rw [wt_app]
    have h1 : (setP b ins).length ≤ 2 + 2 * ins.length := by
      have := setP_len ins (if b then [91, 94] else [91])
      unfold setP
      have h2 : (if b then [91, 94] else ([91] : List Nat)).length ≤ 2 := by cases b <;> simp
      omega
    have h2 : (Tok.chars (.set b ins)).length ≥ ins.length + 2 := by
      show (91 :: (barL b ++ ins ++ [93])).length ≥ _
      rw [List.length_cons, List.length_append, List.length_append]; simp
    have h3 : wt [some (setP b ins ++ [93])] = (setP b ins).length + 1 := by simp [wt, wt1]
    rw [h3]; omega
theorem trP_wt (ts : List Tok) : wt (trP ts) ≤ 8 * (charsL ts).length := by
  suffices ∀ (ts : List Tok) ps, wt (ts.foldl tstep ps) ≤ wt ps + 8 * (charsL ts).length by
    have := this ts []
    have h0 : wt [] = 0 := rfl
    rw [h0] at this
    unfold trP
    omega
  intro ts
  induction ts with
  | nil => intro ps; simp
  | cons t ts ih =>
    intro ps
    have h1 := ih (tstep ps t)
    have h2 := tstep_wt ps t
    have : charsL (t :: ts) = t.chars ++ charsL ts := rfl
    rw [List.foldl_cons, this, List.length_append]; omega
theorem textP_bound (ts : List Tok) : (textP (trP ts)).length ≤ 8 * (charsL ts).length + 7 := by
  have h1 := textGo_bound (trP ts) false
  have h2 := trP_wt ts
  unfold textP
  rw [List.length_append, List.length_append]
  simp only [List.length_cons, List.length_nil]
  omega
theorem wordLine_len (b : Bool) (w : List Sg) : (wordLine b w).length ≤ 5 * w.length + 2 := by
  have : ∀ w : List Sg, (w.flatMap signs5).length ≤ 5 * w.length := by
    intro w
    induction w with
    | nil => simp
    | cons p w ih =>
      rw [List.flatMap_cons, List.length_append, List.length_cons]
      have : (signs5 p).length ≤ 5 := by unfold signs5; split <;> simp
      omega
  have h := this w
  unfold wordLine
  rw [List.length_append, List.length_append]
  generalize (w.flatMap signs5).length = n at h
  split
  · simp only [List.length_nil]; omega
  · simp only [List.length_cons, List.length_nil]; omega
theorem lineGo_len : ∀ (ws : List (List Sg)) (b f : Bool), (lineGo b f ws).length ≤ 5 * total ws + 3 * ws.length
  | [], b, f => by simp [lineGo]
  | w :: ws, b, f => by
    have ih := lineGo_len ws (endIns b w) false
    have h := wordLine_len b w
    have e : total (w :: ws) = w.length + total ws := by simp [total]
    show ((if f then [] else [(32, roleOf b)]) ++ wordLine b w ++ lineGo (endIns b w) false ws).length ≤ _
    rw [List.length_append, List.length_append, List.length_cons, e]
    have h1 : (if f then [] else [((32 : Nat), roleOf b)]).length ≤ 1 := by cases f <;> simp
    omega
theorem sentG_len : ∀ (l : List Sg) (a : Nat), (sentG a l).length ≤ 2 * l.length
  | [], a => by simp [sentG]
  | p :: r, a => by
    have ih := sentG_len r p.1
    show ((if p.1 = 10 ∨ p.1 = 13 then (if p.1 = 13 ∨ a ≠ 13 then [((13 : Nat), p.2), (10, p.2)] else []) else (if p.1 = 46 ∧ (a = 10 ∨ a = 13) then [p, p] else [p])) ++ sentG p.1 r).length ≤ _
    rw [List.length_append, List.length_cons]
    have : (if p.1 = 10 ∨ p.1 = 13 then (if p.1 = 13 ∨ a ≠ 13 then [((13 : Nat), p.2), (10, p.2)] else []) else (if p.1 = 46 ∧ (a = 10 ∨ a = 13) then [p, p] else [p])).length ≤ 2 := by
      split
      · split <;> simp
      · split <;> simp
    omega
theorem line_bound (is : List Int) : (lineP (wordsP (numbersP is))).length ≤ 188 := by
  have h1 := numbersP_bound is
  have h2 := wordsP_bound (numbersP is)
  have h3 := lineGo_len (wordsP (numbersP is)) false true
  unfold lineP
  omega
end Mine
end

section
open PySem PySem.W PyProof.Rows PySem.Calls
set_option maxHeartbeats 4000000
namespace Mine
noncomputable def sgV (p : Sg) : V := .pair ⟨#[p.1]⟩ (roleS p.2)
noncomputable def sgsV (l : List Sg) : List V := l.map sgV
theorem noT {P : Prop} (z : false = true) : P := nomatch z
theorem noF {P : Prop} (z : true = false) : P := nomatch z
theorem eq1 (a c : Nat) : ((⟨#[a]⟩ : Str) == ⟨#[c]⟩) = decide (a = c) := by
  by_cases h : a = c
  · subst h; simp
  · rw [decide_eq_false h, beq_eq_false_iff_ne]
    intro z
    injection z with z
    exact h (by simpa using z)
theorem sgsV_len (l : List Sg) : (sgsV l).length = l.length := List.length_map ..
theorem sgsV_app (l m : List Sg) : sgsV l ++ sgsV m = sgsV (l ++ m) := (List.map_append ..).symm
theorem sgsV_get {l : List Sg} {i : Nat} {v : V} (h : (sgsV l)[i]? = some v) : ∃ p, l[i]? = some p ∧ v = sgV p := by
  unfold sgsV at h
  rw [List.getElem?_map] at h
  cases q : l[i]? with
  | none => rw [q] at h; cases h
  | some p => rw [q] at h; cases h; exact ⟨p, rfl, rfl⟩
theorem in2 {c : Nat} (h : (["\n", "\r"].any (· == (⟨#[c]⟩ : Str))) = true) : c = 10 ∨ c = 13 := by
  have : ((⟨#[10]⟩ : Str) == ⟨#[c]⟩ || ((⟨#[13]⟩ : Str) == ⟨#[c]⟩ || false)) = true := h
  rw [eq1, eq1] at this
  simp at this
  omega
theorem nin2 {c : Nat} (h : (["\n", "\r"].any (· == (⟨#[c]⟩ : Str))) = false) : ¬ (c = 10 ∨ c = 13) := by
  have : ((⟨#[10]⟩ : Str) == ⟨#[c]⟩ || ((⟨#[13]⟩ : Str) == ⟨#[c]⟩ || false)) = false := h
  rw [eq1, eq1] at this
  simp at this
  omega
theorem is1 {c d : Nat} (h : ((⟨#[c]⟩ : Str) == ⟨#[d]⟩) = true) : c = d := by rw [eq1] at h; exact of_decide_eq_true h
theorem not1 {c d : Nat} (h : ((⟨#[c]⟩ : Str) == ⟨#[d]⟩) = false) : c ≠ d := by rw [eq1] at h; exact of_decide_eq_false h
theorem isnt1 {c d : Nat} (h : ((⟨#[c]⟩ : Str) != ⟨#[d]⟩) = true) : c ≠ d := not1 (by have : (!((⟨#[c]⟩ : Str) == ⟨#[d]⟩)) = true := h; simpa using this)
theorem notnt1 {c d : Nat} (h : ((⟨#[c]⟩ : Str) != ⟨#[d]⟩) = false) : c = d := is1 (by have : (!((⟨#[c]⟩ : Str) == ⟨#[d]⟩)) = false := h; simpa using this)
section
variable {C : Cx} {k : Nat} {F : FrD} {loc : List (Option V)} {hp : List Cell} {Φ : V → List Cell → Prop}

theorem ex_ifT {test : Expr} {body orelse : List Stmt} {pos : Pos} {Ψ : Fl → List (Option V) → List Cell → Prop} (h : ATs C k F loc hp test fun b hp' => b = true ∧ AExs C k F loc hp' body Ψ) : AEx C k F loc hp (.If test body orelse pos) Ψ :=
  ex_if (h.mono fun b hp' ⟨e, p⟩ => ⟨fun _ => p, fun z => by rw [e] at z; cases z⟩)
theorem ex_ifF {test : Expr} {body orelse : List Stmt} {pos : Pos} {Ψ : Fl → List (Option V) → List Cell → Prop} (h : ATs C k F loc hp test fun b hp' => b = false ∧ AExs C k F loc hp' orelse Ψ) : AEx C k F loc hp (.If test body orelse pos) Ψ :=
  ex_if (h.mono fun b hp' ⟨e, p⟩ => ⟨(fun z => by rw [e] at z; cases z), fun _ => p⟩)
theorem ts_name_eq (i : Nat) {x : Str} {c : Option Addr} {a b : Str} {n : Nat} {p1 p2 p3 : Pos} {Ψ : Bool → List Cell → Prop} (hi : F.names[i]? = some (x, c)) (hv : loc[i]? = some (some (.str a))) (r : Bool) (hr : (a == b) = r) (h : Ψ r hp)
    (hd : (x == ("__debug__" : Str)) = false := by decide) : ATs C k F loc hp (.Compare (.Name x p1) [.Eq] [.Constant (.str b) n p2] p3) Ψ :=
  ts_cmp (ev_local i hi hv (ev_str (c_eq_str ⟨r, by rw [hr], h⟩)) hd)
theorem ev_append {o e : Expr} {p2 p3 : Pos}
    (h : AEv C k F loc hp o fun v hp1 => ∃ n vs0, v = .lst n ∧ hp1[n]? = some (some vs0) ∧ AEv C k F loc hp1 e fun w hp2 => ∃ vs, hp2[n]? = some (some vs) ∧ vs.length ≤ sizeLine ∧ Φ .none (hp2.set n (some (vs ++ [w]))))
    (h1 : starEach [e] F.env = (false, eval e F.env) :: starEach [] F.env := by rfl) {pl : Sem Bool}
    (hc : eval ((o.Attribute "append" p2).Call [e] [] p3) F.env = (do let ov ← eval o F.env; standAt p2.atName; let (f, first) ← holding [ov] (getMethod ov "append" pl); callWith p3 f first (backTo p3 (starEach [e] F.env)) []) := by rfl) :
    AEv C k F loc hp (.Call (.Attribute o "append" p2) [e] [] p3) Φ :=
  ev_meth "list" "list.append" (pl := pl) (h.mono fun v hp1 ⟨n, vs0, hv, e0, h⟩ => by
    subst hv
    exact ⟨hasTh_lst e0, args_cons (h.mono fun w hp2 ⟨vs, e1, hz, p⟩ => args_nil (call_append e1 hz p)) h1⟩) PySem.F.plainAttrs_list PySem.F.slot_list_append PySem.F.type_list_append (.inr ⟨_, _, rfl, h1, rfl⟩) hc
theorem ev_extend {o e : Expr} {p2 p3 : Pos}
    (h : AEv C k F loc hp o fun v hp1 => ∃ n vs0, v = .lst n ∧ hp1[n]? = some (some vs0) ∧ AEv C k F loc hp1 e fun w hp2 => ∃ vs m ws, w = .lst m ∧ hp2[n]? = some (some vs) ∧ hp2[m]? = some (some ws) ∧ vs.length + ws.length ≤ sizeLine ∧ Φ .none (hp2.set n (some (vs ++ ws))))
    (h1 : starEach [e] F.env = (false, eval e F.env) :: starEach [] F.env := by rfl) {pl : Sem Bool}
    (hc : eval ((o.Attribute "extend" p2).Call [e] [] p3) F.env = (do let ov ← eval o F.env; standAt p2.atName; let (f, first) ← holding [ov] (getMethod ov "extend" pl); callWith p3 f first (backTo p3 (starEach [e] F.env)) []) := by rfl) :
    AEv C k F loc hp (.Call (.Attribute o "extend" p2) [e] [] p3) Φ :=
  ev_meth "list" "list.extend" (pl := pl) (h.mono fun v hp1 ⟨n, vs0, hv, e0, h⟩ => by
    subst hv
    exact ⟨hasTh_lst e0, args_cons (h.mono fun w hp2 ⟨vs, m, ws, hw, e1, e2, hz, p⟩ => args_nil (by subst hw; exact call_extend e1 e2 hz p)) h1⟩) PySem.F.plainAttrs_list PySem.F.slot_list_extend PySem.F.type_list_extend (.inr ⟨_, _, rfl, h1, rfl⟩) hc
theorem ev_pair' {a b : Expr} {j : Nat} {pos : Pos} (h : AEv C k F loc hp a fun v hp1 => ∃ x, v = .str x ∧ AEv C k F loc hp1 b fun w hp2 => ∃ y, w = .str y ∧ Φ (.pair x y) hp2)
    (h1 : starEach [a, b] F.env = (false, eval a F.env) :: starEach [b] F.env := by rfl) (h2 : starEach [b] F.env = (false, eval b F.env) :: starEach [] F.env := by rfl) : AEv C k F loc hp (.Tuple [a, b] j pos) Φ :=
  ev_pair (args_cons (h.mono fun v hp1 ⟨x, hv, p⟩ => args_cons (p.mono fun w hp2 ⟨y, hw, q⟩ => args_nil ⟨x, y, by rw [hv, hw], q⟩) h2) h1)
end
end Mine
end

section
open PySem PySem.W PyProof.Rows PySem.Calls
set_option maxHeartbeats 4000000
namespace Mine
section
variable {C : Cx} {k : Nat} {hp : List Cell} {Φ : V → List Cell → Prop}

theorem w_sent {n : Nat} {l : List Sg} (hk : k < 80) (e : hp[n]? = some (some (sgsV l))) (hl : l.length ≤ 1000000) (h : ∀ j g, Le hp g → g[j]? = some (some (sgsV (sentG 10 l))) → Φ (.lst j) g) : ACall C k hp (.ref 123) [.lst n] Φ := by
  refine enter (d_sent C.w) (by omega) rfl fun L => ?_
  refine ex_cons (ex_assign 1 rfl (ev_list (args_nil ⟨by simp, ?_⟩)))
  refine ex_cons (ex_assign 2 rfl (ev_str ?_))
  refine ex_cons (ex_for (fun i l' g => ∃ x y a, l' = [some (.lst n), some (.lst hp.length), some (.str ⟨#[a]⟩), x, y] ∧ Le hp g ∧ ∃ d, g[hp.length]? = some (some (sgsV d)) ∧ d.length ≤ 2 * i ∧ d ++ sentG a (l.drop i) = sentG 10 l) (ev_local 0 rfl rfl ⟨src_list (by exact Le.app _ _ _ _ e), none, none, 10, rfl, Le.app _ _, [], at_end _ _, by simp, by rfl⟩) (fun i l' g inv => ?_) (fun i v l' g hi inv => ?_) (fun l' g inv => ?_))
  · obtain ⟨x, y, a, _, h1, _⟩ := inv
    exact h1 _ _ e
  · obtain ⟨x, y, a, rfl, h1, d, h2, h3, h4⟩ := inv
    obtain ⟨p, hp1, rfl⟩ := sgsV_get hi
    have hil : i < l.length := (List.getElem?_eq_some_iff.mp hp1).1
    have hdr : l.drop i = p :: l.drop (i + 1) := by rw [List.drop_eq_getElem_cons hil, (List.getElem?_eq_some_iff.mp hp1).2]
    have big : d.length + 2 ≤ sizeLine := by
      have : (2000010 : Nat) ≤ sizeLine := by decide
      omega
    rw [hdr] at h4
    have hlast : ∀ (z : List Sg) g', Le hp g' → g'[hp.length]? = some (some (sgsV (d ++ z))) → z.length ≤ 2 → z ++ sentG p.1 (l.drop (i + 1)) = sentG a (p :: l.drop (i + 1)) → 
        ∃ x y a, [some (V.lst n), some (.lst hp.length), some (.str ⟨#[p.1]⟩), some (.str ⟨#[p.1]⟩), some (.str (roleS p.2))] = [some (V.lst n), some (V.lst hp.length), some (V.str { cps := #[a] }), x, y] ∧ Le hp g' ∧ ∃ d, g'[hp.length]? = some (some (sgsV d)) ∧ d.length ≤ 2 * (i + 1) ∧ d ++ sentG a (List.drop (i + 1) l) = sentG 10 l := by
      intro z g' q1 q2 q3 q4
      refine ⟨_, _, p.1, rfl, q1, d ++ z, q2, by rw [List.length_append]; omega, ?_⟩
      rw [List.append_assoc, q4, h4]
    refine ⟨_, asg_pair 3 4 rfl rfl, ?_⟩
    refine ex_cons (ex_if (ts_cmp (ev_local 3 rfl rfl (ev_list (args_cons (ev_str (args_cons (ev_str (args_nil ⟨by simp [sizeLine], c_in_strs (ys := ["\n", "\r"]) (at_end _ _) ⟨_, rfl, fun hb => ?_, fun hb => ?_⟩⟩)))))))))
    · have hc : p.1 = 10 ∨ p.1 = 13 := in2 hb
      refine ex_cons (ex_if (ts_or (ts_cmp (ev_local 3 rfl rfl (ev_str (c_eq_str ⟨_, rfl, fun hb2 => ⟨fun _ => ?_, noF⟩, fun hb2 => ts_or (ts_cmp (ev_local 2 rfl rfl (ev_str (c_ne_str ⟨_, rfl, fun hb3 => ⟨fun _ => ?_, noF⟩, fun hb3 => ts_or_nil ⟨noT, fun _ => ?_⟩⟩))))⟩))))))
      all_goals try
        refine ex_cons (ex_expr (ev_extend (ev_local 1 rfl rfl ⟨_, _, rfl, Le.app _ _ _ _ h2, ev_list (args_cons (ev_pair' (ev_str ⟨_, rfl, ev_local 4 rfl rfl ⟨_, rfl, args_cons (ev_pair' (ev_str ⟨_, rfl, ev_local 4 rfl rfl ⟨_, rfl, args_nil ⟨by simp [sizeLine], ?_⟩⟩⟩))⟩⟩)))⟩)))
        refine ⟨_, _, _, rfl, Le.app _ _ _ _ (Le.app _ _ _ _ h2), at_end _ _, ?_, rfl, ex_nil (ex_nil (ex_cons (ex_assign 2 rfl (ev_local 3 rfl rfl (ex_nil ?_)))))⟩
        · rw [sgsV_len]; exact big
        · refine hlast [(13, p.2), (10, p.2)] _ (Le.set ((h1.trans (Le.app _ _)).trans (Le.app _ _)) (Nat.le_refl _)) (at_set (Le.app _ _ _ _ (Le.app _ _ _ _ h2)) |>.trans (by rw [← sgsV_app]; rfl)) (by simp) ?_
          show _ = _ ++ sentG p.1 _
          rw [if_pos hc, if_pos]
          first | exact .inl (is1 hb2) | exact .inr (isnt1 hb3)
      refine ex_nil (ex_nil (ex_cons (ex_assign 2 rfl (ev_local 3 rfl rfl (ex_nil ?_)))))
      refine hlast [] _ (h1.trans (Le.app _ _)) ((Le.app _ _ _ _ h2).trans (by rw [List.append_nil])) (by simp) ?_
      show _ = _ ++ sentG p.1 _
      rw [if_pos hc, if_neg]
      have g1 := not1 (d := 13) hb2
      have g2 := notnt1 (d := 13) hb3
      omega
    · have hc : ¬ (p.1 = 10 ∨ p.1 = 13) := nin2 hb
      refine ex_cons (ex_if (ts_and (ts_cmp (ev_local 3 rfl rfl (ev_str (c_eq_str ⟨_, rfl, fun hb2 => ts_and (ts_cmp (ev_local 2 rfl rfl (ev_list (args_cons (ev_str (args_cons (ev_str (args_nil ⟨by simp [sizeLine], c_in_strs (ys := ["\n", "\r"]) (at_end _ _) ⟨_, rfl, fun hb3 => ts_and_nil ⟨fun _ => ?_, noF⟩, fun hb3 => ⟨noT, fun _ => ?_⟩⟩⟩)))))))), fun hb2 => ⟨noT, fun _ => ?_⟩⟩))))))
      · refine ex_cons (ex_expr (ev_append (ev_local 1 rfl rfl ⟨_, _, rfl, Le.app _ _ _ _ (Le.app _ _ _ _ h2), ev_pair' (ev_local 3 rfl rfl ⟨_, rfl, ev_local 4 rfl rfl ⟨_, rfl, _, Le.app _ _ _ _ (Le.app _ _ _ _ h2), ?_, rfl, ex_nil ?_⟩⟩)⟩)))
        · rw [sgsV_len]; omega
        refine ex_cons (ex_expr (ev_append (ev_local 1 rfl rfl ⟨_, _, rfl, at_set (Le.app _ _ _ _ (Le.app _ _ _ _ h2)), ev_pair' (ev_local 3 rfl rfl ⟨_, rfl, ev_local 4 rfl rfl ⟨_, rfl, _, at_set (Le.app _ _ _ _ (Le.app _ _ _ _ h2)), ?_, rfl, ex_nil (ex_cons (ex_assign 2 rfl (ev_local 3 rfl rfl (ex_nil ?_))))⟩⟩)⟩)))
        · rw [List.length_append, sgsV_len]; simp; omega
        refine hlast [p, p] _ (Le.set (Le.set ((h1.trans (Le.app _ _)).trans (Le.app _ _)) (Nat.le_refl _)) (Nat.le_refl _)) (at_set (at_set (Le.app _ _ _ _ (Le.app _ _ _ _ h2))) |>.trans (by rw [← sgsV_app, List.append_assoc]; rfl)) (by simp) ?_
        show _ = _ ++ sentG p.1 _
        rw [if_neg hc, if_pos ⟨is1 hb2, in2 hb3⟩]
      · refine ex_nil (ex_cons (ex_expr (ev_append (ev_local 1 rfl rfl ⟨_, _, rfl, Le.app _ _ _ _ (Le.app _ _ _ _ h2), ev_pair' (ev_local 3 rfl rfl ⟨_, rfl, ev_local 4 rfl rfl ⟨_, rfl, _, Le.app _ _ _ _ (Le.app _ _ _ _ h2), ?_, rfl, ex_nil (ex_cons (ex_assign 2 rfl (ev_local 3 rfl rfl (ex_nil ?_))))⟩⟩)⟩))))
        · rw [sgsV_len]; omega
        refine hlast [p] _ (Le.set ((h1.trans (Le.app _ _)).trans (Le.app _ _)) (Nat.le_refl _)) (at_set (Le.app _ _ _ _ (Le.app _ _ _ _ h2)) |>.trans (by rw [← sgsV_app]; rfl)) (by simp) ?_
        show _ = _ ++ sentG p.1 _
        rw [if_neg hc, if_neg fun z => nin2 hb3 z.2]
      · refine ex_nil (ex_cons (ex_expr (ev_append (ev_local 1 rfl rfl ⟨_, _, rfl, Le.app _ _ _ _ h2, ev_pair' (ev_local 3 rfl rfl ⟨_, rfl, ev_local 4 rfl rfl ⟨_, rfl, _, Le.app _ _ _ _ h2, ?_, rfl, ex_nil (ex_cons (ex_assign 2 rfl (ev_local 3 rfl rfl (ex_nil ?_))))⟩⟩)⟩))))
        · rw [sgsV_len]; omega
        refine hlast [p] _ (Le.set (h1.trans (Le.app _ _)) (Nat.le_refl _)) (at_set (Le.app _ _ _ _ h2) |>.trans (by rw [← sgsV_app]; rfl)) (by simp) ?_
        show _ = _ ++ sentG p.1 _
        rw [if_neg hc, if_neg fun z => not1 hb2 z.1]
  · obtain ⟨x, y, a, rfl, h1, d, h2, h3, h4⟩ := inv
    refine ex_cons (ex_return (ev_local 1 rfl rfl ⟨_, rfl, h _ _ h1 ?_⟩))
    rw [h2, ← h4, sgsV_len, List.drop_length]
    simp [sentG]
end
end Mine
end

section
open PySem PySem.W PyProof.Rows PySem.Calls
set_option maxHeartbeats 4000000
namespace Mine
noncomputable def tx (l : List Nat) : Str := ⟨l.toArray⟩
noncomputable def poV (o : Option (List Nat)) : V := optV (o.map tx)
noncomputable def posV (l : List (Option (List Nat))) : List V := l.map poV
theorem posV_len (l : List (Option (List Nat))) : (posV l).length = l.length := List.length_map ..
theorem posV_app (l m : List (Option (List Nat))) : posV l ++ posV m = posV (l ++ m) := (List.map_append ..).symm
theorem tx_cat (l m : List Nat) : tx l ++ tx m = tx (l ++ m) := by
  show (⟨l.toArray ++ m.toArray⟩ : Str) = ⟨(l ++ m).toArray⟩
  simp
theorem tx_len (l : List Nat) : (tx l).length = l.length := by show l.toArray.size = _; simp
theorem tx_eq (l m : List Nat) : (tx l == tx m) = decide (l = m) := by
  by_cases h : l = m
  · subst h; simp
  · rw [decide_eq_false h, beq_eq_false_iff_ne]
    intro z
    injection z with z
    exact h (by simpa using z)
theorem pstep_len (s : List (Option (List Nat)) × List Nat) (p : Sg) : (pstep s p).1.length ≤ s.1.length + 1 ∧ (pstep s p).2.length ≤ s.2.length + 2 := by
  obtain ⟨ps, inner⟩ := s
  obtain ⟨c, r⟩ := p
  cases r with
  | out =>
    unfold pstep
    simp only
    split
    · exact ⟨by simp, by simp⟩
    split
    · exact ⟨by simp, by simp⟩
    split
    · exact ⟨by simp, by simp⟩
    · exact ⟨by simp, by simp⟩
  | in_ =>
    unfold pstep
    simp only
    split
    · exact ⟨by simp, by simp⟩
    · exact ⟨by simp, by simp⟩
  | open_ => exact ⟨by simp [pstep], by simp [pstep]⟩
  | bar => exact ⟨by simp [pstep], by simp [pstep]⟩
  | shut => exact ⟨by simp [pstep], by simp [pstep]⟩
section
variable {C : Cx} {k : Nat} {hp : List Cell} {Φ : V → List Cell → Prop}

theorem c_in_lit {c : Nat} {b : Str} {l : List Nat} (hb : b = tx l) (h : Φ (.bool (decide (c ∈ l))) hp) : AT2 C k hp (.str ⟨#[c]⟩) (.str b) (compareOp .In) Φ :=
  c_in_str (by subst hb; rw [StrLaws.found_one]; exact (show (tx l).cps.toList = l from List.toList_toArray ..) ▸ h)
theorem op_cat_tx {l m : List Nat} {b : Str} (hb : b = tx m) (hz : l.length + m.length ≤ sizeLine) (h : Φ (.str (tx (l ++ m))) hp) : AT2 C k hp (.str (tx l)) (.str b) (binaryOp .Add) Φ :=
  op_cat (by subst hb; rw [tx_len, tx_len]; exact hz) (by subst hb; rw [tx_cat]; exact h)
theorem poV_plain (o : Option (List Nat)) : (poV o).plain := by cases o <;> trivial
theorem poV_none (o : Option (List Nat)) : (poV o).isNone = decide (o = none) := by cases o <;> rfl

theorem w_parts {n : Nat} {l : List Sg} (hk : k < 80) (e : hp[n]? = some (some (sgsV l))) (hl : l.length ≤ 1000000) (h : ∀ j g, Le hp g → g[j]? = some (some (posV (partsP l))) → Φ (.lst j) g) : ACall C k hp (.ref 130) [.lst n] Φ := by
  refine enter (d_parts C.w) (by omega) rfl fun L => ?_
  refine ex_cons (ex_assign 1 rfl (ev_str ?_))
  refine ex_cons (ex_assign 2 rfl (ev_list (args_nil ⟨by simp, ?_⟩)))
  refine ex_cons (ex_assign 3 rfl (ev_str ?_))
  refine ex_cons (ex_for (fun i l' g => ∃ x y inner, l' = [some (.lst n), some (.str (tx spec45)), some (.lst hp.length), some (.str (tx inner)), x, y] ∧ Le hp g ∧ ∃ d, g[hp.length]? = some (some (posV d)) ∧ d.length ≤ i ∧ inner.length ≤ 2 * i ∧ (l.drop i).foldl pstep (d, inner) = l.foldl pstep ([], [])) (ev_local 0 rfl rfl ⟨src_list (by exact Le.app _ _ _ _ e), none, none, [], rfl, Le.app _ _, [], at_end _ _, by simp, by simp, by rfl⟩) (fun i l' g inv => ?_) (fun i v l' g hi inv => ?_) (fun l' g inv => ?_))
  · obtain ⟨x, y, a, _, h1, _⟩ := inv
    exact h1 _ _ e
  · obtain ⟨x, y, inner, rfl, h1, d, h2, h3, h3', h4⟩ := inv
    obtain ⟨p, hp1, rfl⟩ := sgsV_get hi
    have hil : i < l.length := (List.getElem?_eq_some_iff.mp hp1).1
    have hdr : l.drop i = p :: l.drop (i + 1) := by rw [List.drop_eq_getElem_cons hil, (List.getElem?_eq_some_iff.mp hp1).2]
    have big : (2000010 : Nat) ≤ sizeLine := by decide
    rw [hdr, List.foldl_cons] at h4
    have hlast : ∀ d' inner' g', Le hp g' → g'[hp.length]? = some (some (posV d')) → pstep (d, inner) p = (d', inner') → 
        ∃ x y inner, [some (.lst n), some (.str (tx spec45)), some (.lst hp.length), some (.str (tx inner')), some (.str ⟨#[p.1]⟩), some (.str (roleS p.2))] = [some (V.lst n), some (.str (tx spec45)), some (.lst hp.length), some (.str (tx inner)), x, y] ∧ Le hp g' ∧ ∃ d, g'[hp.length]? = some (some (posV d)) ∧ d.length ≤ (i + 1) ∧ inner.length ≤ 2 * (i + 1) ∧ (l.drop (i + 1)).foldl pstep (d, inner) = l.foldl pstep ([], []) := by
      intro d' inner' g' q1 q2 q3
      have := pstep_len (d, inner) p
      rw [q3] at this h4
      exact ⟨_, _, inner', rfl, q1, d', q2, by have := this.1; simp at this; omega, by have := this.2; simp at this; omega, h4⟩
    refine ⟨_, asg_pair 4 5 rfl rfl, ?_⟩
    obtain ⟨c, r⟩ := p
    cases r with
    | open_ =>
      refine ex_cons (ex_ifT (ts_name_eq 5 rfl rfl true (by dsimp only; decide) ⟨rfl, ?_⟩))
      refine ex_cons (ex_assign 3 rfl (ev_str (ex_nil (ex_nil ?_))))
      exact hlast _ _ _ h1 h2 rfl
    | bar =>
      refine ex_cons (ex_ifF (ts_name_eq 5 rfl rfl false (by dsimp only; decide) ⟨rfl, ?_⟩))
      refine ex_cons (ex_ifT (ts_name_eq 5 rfl rfl true (by dsimp only; decide) ⟨rfl, ?_⟩))
      refine ex_cons (ex_assign 3 rfl (ev_str (ex_nil (ex_nil (ex_nil ?_)))))
      exact hlast _ _ _ h1 h2 rfl
    | in_ =>
      refine ex_cons (ex_ifF (ts_name_eq 5 rfl rfl false (by dsimp only; decide) ⟨rfl, ?_⟩))
      refine ex_cons (ex_ifF (ts_name_eq 5 rfl rfl false (by dsimp only; decide) ⟨rfl, ?_⟩))
      refine ex_cons (ex_ifT (ts_name_eq 5 rfl rfl true (by dsimp only; decide) ⟨rfl, ?_⟩))
      have hT : (c ∈ [92, 38, 126, 124] ∨ (inner = [91] ∧ c ∈ [94, 91])) → pstep (d, inner) (c, .in_) = (d, inner ++ [92] ++ [c]) := fun z => by
        show (d, inner ++ _ ++ [c]) = _
        rw [if_pos z]
      have hF : ¬ (c ∈ [92, 38, 126, 124] ∨ (inner = [91] ∧ c ∈ [94, 91])) → pstep (d, inner) (c, .in_) = (d, inner ++ [c]) := fun z => by
        show (d, inner ++ _ ++ [c]) = _
        rw [if_neg z, List.append_nil]
      refine ex_cons (ex_if (ts_or (ts_cmp (ev_local 4 rfl rfl (ev_str (c_in_lit (l := [92, 38, 126, 124]) rfl ⟨_, rfl, fun b1 => ⟨fun _ => ?_, noF⟩, fun b1 => ts_or (ts_and (ts_name_eq 3 rfl rfl (decide (inner = [91])) (tx_eq inner [91]) ⟨fun b2 => ts_and (ts_cmp (ev_local 4 rfl rfl (ev_str (c_in_lit (l := [94, 91]) rfl ⟨_, rfl, fun b3 => ts_and_nil ⟨fun _ => ⟨fun _ => ?_, noF⟩, noF⟩, fun b3 => ⟨noT, fun _ => ts_or_nil ⟨noT, fun _ => ?_⟩⟩⟩)))), fun b2 => ⟨noT, fun _ => ts_or_nil ⟨noT, fun _ => ?_⟩⟩⟩))⟩))))))
      · refine ex_cons (ex_assign 3 rfl (ev_bin (ev_local 3 rfl rfl (ev_str (op_cat_tx (m := [92]) rfl (by simp; omega) (ex_nil ?_))))))
        refine ex_cons (ex_assign 3 rfl (ev_bin (ev_local 3 rfl rfl (ev_local 4 rfl rfl (op_cat_tx (m := [c]) rfl (by simp; omega) (ex_nil (ex_nil (ex_nil (ex_nil ?_)))))))))
        exact hlast _ _ _ h1 h2 (hT (.inl (of_decide_eq_true b1)))
      · refine ex_cons (ex_assign 3 rfl (ev_bin (ev_local 3 rfl rfl (ev_str (op_cat_tx (m := [92]) rfl (by simp; omega) (ex_nil ?_))))))
        refine ex_cons (ex_assign 3 rfl (ev_bin (ev_local 3 rfl rfl (ev_local 4 rfl rfl (op_cat_tx (m := [c]) rfl (by simp; omega) (ex_nil (ex_nil (ex_nil (ex_nil ?_)))))))))
        exact hlast _ _ _ h1 h2 (hT (.inr ⟨of_decide_eq_true b2, of_decide_eq_true b3⟩))
      · refine ex_nil (ex_cons (ex_assign 3 rfl (ev_bin (ev_local 3 rfl rfl (ev_local 4 rfl rfl (op_cat_tx (m := [c]) rfl (by simp; omega) (ex_nil (ex_nil (ex_nil (ex_nil ?_))))))))))
        exact hlast _ _ _ h1 h2 (hF fun z => z.elim (of_decide_eq_false b1) fun z => of_decide_eq_false b3 z.2)
      · refine ex_nil (ex_cons (ex_assign 3 rfl (ev_bin (ev_local 3 rfl rfl (ev_local 4 rfl rfl (op_cat_tx (m := [c]) rfl (by simp; omega) (ex_nil (ex_nil (ex_nil (ex_nil ?_))))))))))
        exact hlast _ _ _ h1 h2 (hF fun z => z.elim (of_decide_eq_false b1) fun z => of_decide_eq_false b2 z.1)
    | shut =>
      refine ex_cons (ex_ifF (ts_name_eq 5 rfl rfl false (by dsimp only; decide) ⟨rfl, ?_⟩))
      refine ex_cons (ex_ifF (ts_name_eq 5 rfl rfl false (by dsimp only; decide) ⟨rfl, ?_⟩))
      refine ex_cons (ex_ifF (ts_name_eq 5 rfl rfl false (by dsimp only; decide) ⟨rfl, ?_⟩))
      refine ex_cons (ex_ifT (ts_name_eq 5 rfl rfl true (by dsimp only; decide) ⟨rfl, ?_⟩))
      refine ex_cons (ex_expr (ev_append (ev_local 2 rfl rfl ⟨_, _, rfl, h2, ev_bin (ev_local 3 rfl rfl (ev_str (op_cat_tx (m := [93]) rfl (by simp; omega) ⟨_, h2, by rw [posV_len]; omega, rfl, ex_nil (ex_nil (ex_nil (ex_nil (ex_nil ?_))))⟩)))⟩)))
      exact hlast _ _ _ (Le.set h1 (Nat.le_refl _)) (at_set h2 |>.trans (by rw [show [V.str (tx (inner ++ [93]))] = posV [some (inner ++ [93])] from rfl, posV_app])) rfl
    | out =>
      refine ex_cons (ex_ifF (ts_name_eq 5 rfl rfl false (by dsimp only; decide) ⟨rfl, ?_⟩))
      refine ex_cons (ex_ifF (ts_name_eq 5 rfl rfl false (by dsimp only; decide) ⟨rfl, ?_⟩))
      refine ex_cons (ex_ifF (ts_name_eq 5 rfl rfl false (by dsimp only; decide) ⟨rfl, ?_⟩))
      refine ex_cons (ex_ifF (ts_name_eq 5 rfl rfl false (by dsimp only; decide) ⟨rfl, ?_⟩))
      have e0 : pstep (d, inner) (c, .out) = if c = 63 then (d ++ [some [46]], inner) else if c ≠ 42 then (d ++ [some (escP c)], inner) else if d = [] ∨ d.getLast? ≠ some none then (d ++ [none], inner) else (d, inner) := rfl
      refine ex_cons (ex_if (ts_name_eq 4 rfl rfl (decide (c = 63)) (eq1 c 63) ⟨fun b1 => ?_, fun b1 => ?_⟩))
      · refine ex_cons (ex_expr (ev_append (ev_local 2 rfl rfl ⟨_, _, rfl, h2, ev_str ⟨_, h2, by rw [posV_len]; omega, rfl, ex_nil (ex_nil (ex_nil (ex_nil (ex_nil (ex_nil ?_)))))⟩⟩)))
        refine hlast _ _ _ (Le.set h1 (Nat.le_refl _)) (at_set h2 |>.trans (by rw [show [V.str "."] = posV [some [46]] from rfl, posV_app])) ?_
        rw [e0, if_pos (of_decide_eq_true b1)]
      rw [if_neg (of_decide_eq_false b1)] at e0
      refine ex_cons (ex_if (ts_cmp (ev_local 4 rfl rfl (ev_str (c_ne_str ⟨_, rfl, fun b2 => ?_, fun b2 => ?_⟩)))))
      · rw [if_pos (isnt1 (d := 42) b2)] at e0
        refine ex_cons (ex_expr (ev_append (ev_local 2 rfl rfl ⟨_, _, rfl, h2, ev_ifexp (ts_cmp (ev_local 4 rfl rfl (ev_local 1 rfl rfl (c_in_lit (l := spec45) rfl ⟨_, rfl, fun b3 => ?_, fun b3 => ?_⟩))))⟩)))
        · refine ev_bin (ev_str (ev_local 4 rfl rfl (op_cat_tx (l := [92]) (m := [c]) rfl (by simp; omega) ⟨_, h2, by rw [posV_len]; omega, rfl, ex_nil (ex_nil (ex_nil (ex_nil (ex_nil (ex_nil (ex_nil ?_))))))⟩)))
          refine hlast _ _ _ (Le.set h1 (Nat.le_refl _)) (at_set h2 |>.trans (by rw [show [V.str (tx ([92] ++ [c]))] = posV [some (escP c)] from by unfold escP; rw [if_pos (of_decide_eq_true b3)]; rfl, posV_app])) e0
        · refine ev_local 4 rfl rfl ⟨_, h2, by rw [posV_len]; omega, rfl, ex_nil (ex_nil (ex_nil (ex_nil (ex_nil (ex_nil (ex_nil ?_))))))⟩
          refine hlast _ _ _ (Le.set h1 (Nat.le_refl _)) (at_set h2 |>.trans (by rw [show [V.str ⟨#[c]⟩] = posV [some (escP c)] from by unfold escP; rw [if_neg (of_decide_eq_false b3)]; rfl, posV_app])) e0
      · rw [if_neg (fun z => z (notnt1 (d := 42) b2))] at e0
        have isE : (posV d).isEmpty = decide (d = []) := by cases d <;> rfl
        refine ex_cons (ex_if (ts_or (ts_cmp (ev_local 2 rfl rfl (ev_list (args_nil ⟨by simp, c_eq_nil (Le.app _ _ _ _ h2) (at_end _ _) ⟨_, rfl, fun b3 => ⟨fun _ => ?_, noF⟩, fun b3 => ?_⟩⟩))))))
        · rw [isE] at b3
          rw [if_pos (.inl (of_decide_eq_true b3))] at e0
          refine ex_cons (ex_expr (ev_append (ev_local 2 rfl rfl ⟨_, _, rfl, Le.app _ _ _ _ h2, ev_none ⟨_, Le.app _ _ _ _ h2, by rw [posV_len]; omega, rfl, ex_nil (ex_nil (ex_nil (ex_nil (ex_nil (ex_nil (ex_nil (ex_nil ?_)))))))⟩⟩)))
          exact hlast _ _ _ (Le.set (h1.trans (Le.app _ _)) (Nat.le_refl _)) (at_set (Le.app _ _ _ _ h2) |>.trans (by rw [show [V.none] = posV [none] from rfl, posV_app])) e0
        · rw [isE] at b3
          have hne : d ≠ [] := of_decide_eq_false b3
          obtain ⟨o, ho⟩ : ∃ o, d.getLast? = some o := ⟨_, List.getLast?_eq_some_getLast hne⟩
          have hlo : (posV d).getLast? = some (poV o) := by unfold posV; rw [List.getLast?_map, ho]; rfl
          refine ts_or (ts_cmp (ev_sub (ev_local 2 rfl rfl (ev_unary (ev_int (op_neg (sub_list_last (Le.app _ _ _ _ h2) hlo (ev_none (c_isnot_none (poV_plain o) ⟨_, rfl, fun b4 => ⟨fun _ => ?_, noF⟩, fun b4 => ts_or_nil ⟨noT, fun _ => ?_⟩⟩)))))))))
          · rw [poV_none] at b4
            have ne0 : d.getLast? ≠ some none := fun z => by
              rw [ho] at z
              cases z
              cases b4
            rw [if_pos (.inr ne0)] at e0
            refine ex_cons (ex_expr (ev_append (ev_local 2 rfl rfl ⟨_, _, rfl, Le.app _ _ _ _ h2, ev_none ⟨_, Le.app _ _ _ _ h2, by rw [posV_len]; omega, rfl, ex_nil (ex_nil (ex_nil (ex_nil (ex_nil (ex_nil (ex_nil (ex_nil ?_)))))))⟩⟩)))
            exact hlast _ _ _ (Le.set (h1.trans (Le.app _ _)) (Nat.le_refl _)) (at_set (Le.app _ _ _ _ h2) |>.trans (by rw [show [V.none] = posV [none] from rfl, posV_app])) e0
          · rw [poV_none] at b4
            have : o = none := by simpa using b4
            rw [if_neg (by rw [ho, this]; simpa using hne)] at e0
            refine ex_nil (ex_nil (ex_nil (ex_nil (ex_nil (ex_nil (ex_nil (ex_nil ?_)))))))
            exact hlast _ _ _ (h1.trans (Le.app _ _)) (Le.app _ _ _ _ h2) e0
  · obtain ⟨x, y, a, rfl, h1, d, h2, h3, h3', h4⟩ := inv
    refine ex_cons (ex_return (ev_local 2 rfl rfl ⟨_, rfl, h _ _ h1 ?_⟩))
    rw [sgsV_len, List.drop_length] at h4
    have : (d, a) = l.foldl pstep ([], []) := h4
    rw [h2]
    show _ = some (some (posV (l.foldl pstep ([], [])).1))
    rw [← this]
end
end Mine
end

section
open PySem PySem.W PyProof.Rows PySem.Calls
set_option maxHeartbeats 4000000
namespace Mine
/-- frames of comprehensions -/
noncomputable def frK (F : FrD) (scope : Scope) (cl : List (Str × Addr)) (locs : List Str) (cells : List (Str × Addr)) (a : Addr) : FrD :=
  { env := compEnvC scope cl a F.env, names := (locs.map fun x => (x, none)) ++ cells.map fun p => (p.1, some p.2), own := [a] }

theorem frK_cells (locs : List Str) (cells : List (Str × Addr)) : ((locs.map fun x => (x, (none : Option Addr))) ++ cells.map fun p => (p.1, some p.2)).filterMap (·.2) = cells.map (·.2) := by
  rw [List.filterMap_append]
  have h1 : (locs.map fun x => (x, (none : Option Addr))).filterMap (·.2) = [] := by
    induction locs with
    | nil => rfl
    | cons a l ih => simp
  have h2 : (cells.map fun p => (p.1, some p.2)).filterMap (·.2) = cells.map (·.2) := by
    induction cells with
    | nil => rfl
    | cons a l ih => simpa [Function.comp_def] using ih
  rw [h1, h2, List.nil_append]
theorem frK_fst (locs : List Str) (cells : List (Str × Addr)) : ((locs.map fun x => (x, (none : Option Addr))) ++ cells.map fun p => (p.1, some p.2)).map (·.1) = locs ++ cells.map (·.1) := by
  simp [Function.comp_def]

theorem compOk {F : FrD} {scope : Scope} {cl : List (Str × Addr)} (locs : List Str) (hg : F.env.globals = mainGlobals) (hb : F.env.builtins = builtinsNs) (clos : closureFor scope F.env = pure cl)
    (kind : scope.kind = .function) (hn : (scope.names.all fun y => y.2 != .local || scope.names.lookup y.1 == some .local) = true) (hc : (scope.names.all fun y => y.2 != .cell) = true)
    (nd : (locs ++ cl.map (·.1)).Nodup) (ndc : (cl.map (·.2)).Nodup)
    (hl : (locs.all fun x => (relabel scope F.env).names.lookup x == some .local) = true)
    (hcl : ∀ p ∈ cl, (relabel scope F.env).names.lookup p.1 = some .cell ∧ cl.lookup p.1 = some p.2 ∧ ∃ j : Nat, F.names[j]? = some (p.1, some p.2)) : CompOk F scope cl (frK F scope cl locs cl) where
  clos := clos
  kind := kind
  names := fun y hy h => by
    have := List.all_eq_true.mp hn y hy
    simpa [h] using this
  nocell := fun y hy h => by
    have := List.all_eq_true.mp hc y hy
    simp [h] at this
  env := fun a => rfl
  own := fun a => rfl
  ok := fun a ha => by
    refine ⟨kind, hg, hb, ?_, List.mem_singleton.mpr rfl, fun p hp => ?_, ?_, fun b hb => .inl (List.mem_singleton.mp hb)⟩
    · show ((((locs.map fun x => (x, (none : Option Addr))) ++ cl.map fun p => (p.1, some p.2))).map (·.1)).Nodup
      rw [frK_fst]; exact nd
    · rcases List.mem_append.mp hp with hp | hp
      · obtain ⟨x, hx, rfl⟩ := List.mem_map.mp hp
        exact eq_of_beq (List.all_eq_true.mp hl x hx)
      · obtain ⟨q, hq, rfl⟩ := List.mem_map.mp hp
        obtain ⟨h1, h2, _⟩ := hcl q hq
        exact ⟨.inl h1, h2⟩
    · show (a :: (((locs.map fun x => (x, (none : Option Addr))) ++ cl.map fun p => (p.1, some p.2))).filterMap (·.2)).Nodup
      rw [frK_cells, List.nodup_cons]
      refine ⟨fun z => ?_, ndc⟩
      obtain ⟨q, hq, e⟩ := List.mem_map.mp z
      obtain ⟨_, _, j, hj⟩ := hcl q hq
      exact ha q.1 q.2 (List.mem_of_getElem? hj) e
  cells := fun a i x c h => by
    have hm := List.mem_of_getElem? h
    rcases List.mem_append.mp hm with hp | hp
    · obtain ⟨y, hy, e⟩ := List.mem_map.mp hp
      cases e
    · obtain ⟨q, hq, e⟩ := List.mem_map.mp hp
      cases e
      exact (hcl q hq).2.2
end Mine
end

section
open PySem PySem.W PyProof.Rows PySem.Calls StrLaws
set_option maxHeartbeats 4000000
namespace Mine
theorem joinOk_nil {ps : List (List Nat)} (h : ps.flatten.length ≤ sizeLine) : JoinOk ⟨#[]⟩ (ps.map tx) = true := by
  unfold JoinOk
  have h2 : ∀ (ps : List (List Nat)) (n : Nat), (ps.map tx).foldl (fun a (y : Str) => a + y.length + (⟨#[]⟩ : Str).length) n = n + ps.flatten.length := by
    intro ps
    induction ps with
    | nil => intro n; rfl
    | cons p ps ih =>
      intro n
      rw [List.map_cons, List.foldl_cons, ih, List.flatten_cons, List.length_append, tx_len]
      show n + p.length + 0 + _ = _
      omega
  have h3 := h2 ps 0
  have h4 : (ps.map tx).toArray.foldl (fun a (y : Str) => a + y.length + (⟨#[]⟩ : Str).length) 0 = ps.flatten.length := by
    rw [List.foldl_toArray, h3, Nat.zero_add]
  have h5 : Builtin.Str.tooLong ((ps.map tx).toArray.foldl (fun a (y : Str) => a + y.length + (⟨#[]⟩ : Str).length) 0) = false := by
    rw [h4]; exact decide_eq_false (Nat.not_lt.mpr h)
  rw [Bool.not_eq_true']
  exact h5
theorem join_nil_tx : ∀ ps : List (List Nat), Str.join ⟨#[]⟩ (ps.map tx) = tx ps.flatten
  | [] => rfl
  | [p] => by simp [Str.join]
  | p :: q :: r => by
    have ih := join_nil_tx (q :: r)
    show tx p ++ (⟨#[]⟩ : Str) ++ Str.join ⟨#[]⟩ ((q :: r).map tx) = _
    rw [ih]
    show tx p ++ tx [] ++ tx _ = _
    rw [tx_cat, tx_cat, List.append_nil]; rfl
section
variable {C : Cx} {k : Nat} {F : FrD} {loc : List (Option V)} {hp : List Cell} {Φ : V → List Cell → Prop}

theorem strPairs {α : List Addr} {h : Heap} : ∀ {ys : List Str} {vs : List Value}, VRs α h (ys.map V.str) vs → ∃ l : List (Str × PySem.Tok), vs = strValues l ∧ l.map (·.1) = ys
  | [], _, .nil => ⟨[], rfl, rfl⟩
  | y :: ys, _, .cons r1 r2 => by
    obtain ⟨t, rfl⟩ := r1
    obtain ⟨l, h1, h2⟩ := strPairs r2
    exact ⟨(y, t) :: l, by rw [h1]; rfl, by rw [List.map_cons, h2]⟩
theorem call_join_lst {x : Str} {n : Nat} {ys : List Str} (e : hp[n]? = some (some (ys.map V.str))) (ok : JoinOk x ys = true) (h : Φ (.str (Str.join x ys)) hp) : ACall C k hp (.builtin "str.join") [.str x, .lst n] Φ := fun A α s Q E us hA R hb r hQ => by
  cases r with
  | cons r1 r =>
  cases r with
  | cons r2 r =>
  cases r
  obtain ⟨t, rfl⟩ := r1
  obtain ⟨a, xs, m, rfl, ea, e1, e2⟩ := R.lstAt e r2
  obtain ⟨l, q1, q2⟩ := strPairs e2
  have hl : s.heap.IsList a (strValues l).toArray := by rw [← q1, show xs.toList.toArray = xs from by simp]; exact ⟨_, e1, rfl, _, rfl⟩
  refine SC.join hl q2 ok fun t' tk => ?_
  have : Txt.join x ys = Str.join x ys := glued_eq_join x ys
  rw [this]
  exact hQ _ _ _ _ _ h (toksNx s _) R ⟨_, rfl⟩
theorem ev_join {e : Expr} {n : Nat} {p1 p2 p3 : Pos}
    (h : AEv C k F loc hp e fun v hp1 => ∃ (j : Nat) (ps : List (List Nat)), v = .lst j ∧ hp1[j]? = some (some (ps.map fun p => V.str (tx p))) ∧ ps.flatten.length ≤ sizeLine ∧ Φ (.str (tx ps.flatten)) hp1)
    (h1 : starEach [e] F.env = (false, eval e F.env) :: starEach [] F.env := by rfl) {pl : Sem Bool}
    (hc : eval (((Expr.Constant (.str "") n p1).Attribute "join" p2).Call [e] [] p3) F.env = (do let ov ← eval (.Constant (.str "") n p1) F.env; standAt p2.atName; let (f, first) ← holding [ov] (getMethod ov "join" pl); callWith p3 f first (backTo p3 (starEach [e] F.env)) []) := by rfl) :
    AEv C k F loc hp (.Call (.Attribute (.Constant (.str "") n p1) "join" p2) [e] [] p3) Φ :=
  ev_meth "str" "str.join" (pl := pl) (ev_str ⟨hasT_str.here, args_cons (h.mono fun w hp2 ⟨j, ps, hw, e1, hz, p⟩ => args_nil (by
    subst hw
    have e2 : (ps.map fun p => V.str (tx p)) = (ps.map tx).map V.str := by rw [List.map_map]; rfl
    rw [e2] at e1
    refine call_join_lst e1 (joinOk_nil hz) ?_
    have : Str.join "" (ps.map tx) = tx ps.flatten := join_nil_tx ps
    rw [this]; exact p)) h1⟩) PySem.F.plainAttrs_str PySem.F.slot_str_join PySem.F.type_str_join (.inr ⟨_, _, rfl, h1, rfl⟩) hc
end
end Mine
end

section
open PySem PySem.W PyProof.Rows PySem.Calls StrLaws
set_option maxHeartbeats 4000000
namespace Mine
theorem lc0_none {F : FrD} {loc : List (Option V)} {scope : Scope} (locs : List Str) : Lc0 F loc (frK F scope [] locs []) (List.replicate locs.length none) := fun a =>
  have nope : ∀ (i : Nat) (v : V), (List.replicate locs.length (none : Option V))[i]? ≠ some (some v) := fun i v h => by
    rw [List.getElem?_replicate] at h
    split at h <;> cases h
  ⟨fun i x _ v h => nope i v h, fun i x c v _ h => absurd h (nope i v)⟩
theorem lc0_one {F : FrD} {loc : List (Option V)} {scope : Scope} (locs : List Str) {y : Str} {d : Addr} {w : V} (ok : FOk F) (j : Nat) (hj : F.names[j]? = some (y, some d)) (hv : loc[j]? = some (some w)) : Lc0 F loc (frK F scope [(y, d)] locs [(y, d)]) (List.replicate locs.length none ++ [some w]) := fun a => by
  refine ⟨fun i x e v h => ?_, fun i x c v e h j' hj' => ?_⟩
  · by_cases hi : i < locs.length
    · rw [List.getElem?_append_left (by simpa using hi), List.getElem?_replicate] at h
      split at h <;> cases h
    · have e' : ((locs.map fun x => (x, (none : Option Addr))) ++ [(y, some d)])[i]? = some (x, none) := e
      rw [List.getElem?_append_right (by simpa using hi)] at e'
      cases q : i - (locs.map fun x => (x, (none : Option Addr))).length with
      | zero => rw [q] at e'; cases e'
      | succ m => rw [q] at e'; cases e'
  · have hm : (x, some c) = (y, some d) := by
      have e' : ((locs.map fun x => (x, (none : Option Addr))) ++ [(y, some d)])[i]? = some (x, some c) := e
      rcases List.mem_append.mp (List.mem_of_getElem? e') with z | z
      · obtain ⟨u, _, z⟩ := List.mem_map.mp z
        cases z
      · exact List.mem_singleton.mp z
    cases hm
    have : j' = j := nodup_names ok hj' hj
    subst this
    rw [hv]
    by_cases hi : i < locs.length
    · rw [List.getElem?_append_left (by simpa using hi), List.getElem?_replicate] at h
      split at h <;> cases h
    · rw [List.getElem?_append_right (by simpa using hi)] at h
      cases q : i - (List.replicate locs.length (none : Option V)).length with
      | zero => rw [q] at h; simpa using h
      | succ m => rw [q] at h; cases h
noncomputable def isStarV (l : List Po) : V → Bool
  | .int i => decide (l[i.toNat]? = some none)
  | _ => false
theorem starsV (l : List Po) : ((uptoV l.length).filter (isStarV l)).map (fun v => v) = (starsI l).map fun i => V.int (i : Nat) := by
  unfold uptoV starsI
  rw [List.filter_map]
  simp [Function.comp_def, isStarV]
section
variable {C : Cx} {k : Nat} {hp : List Cell} {Φ : V → List Cell → Prop}

theorem w_text {n : Nat} {l : List Po} (hk : k < 80) (e : hp[n]? = some (some (posV l))) (hl : l.length ≤ 100000) (hz : (textP l).length ≤ sizeLine) (h : ∀ g, Le hp g → Φ (.str (tx (textP l))) g) : ACall C k hp (.ref 135) [.lst n] Φ := by
  have big : (100000 : Nat) ≤ sizeLine := by decide
  have hpl : (posV l).length ≤ sizeLine := by rw [posV_len]; omega
  refine enter (d_text C.w) (by omega) rfl fun L => ?_
  refine ex_cons (ex_assign_comp 1 (compOk (F := frC C.w 135 "parts" ["parts", "stars", "text", "k"] L) (cl := [("parts", L + 1)]) [".0", "k"] rfl rfl rfl rfl rfl rfl (show ([".0", "k", "parts"] : List Str).Nodup by decide) (by simp) rfl (fun p hp => by
      rw [List.mem_singleton.mp hp]; exact ⟨rfl, rfl, 0, rfl⟩)) (items := uptoV l.length) (Sc := fun _ => True) (isStarV l) (fun v => v) (fun lc => ∃ x, lc = [none, x, some (.lst n)]) (lc0 := [none, none, some (.lst n)]) rfl ⟨_, rfl⟩
      (lc0_one [".0", "k"] ((d_text C.w).frame L).2.1 0 rfl rfl) (by unfold uptoV; simp; omega) rfl
      (ev_call_ty (T := "range") (ev_builtin rfl (C.mgN (by rfl)) (C.mbK (by decide) boot_range) ⟨rfl, args_cons (ev_call_bi (ev_builtin rfl (C.mgN (by rfl)) (C.mbK (by decide) boot_len) ⟨rfl, args_cons (ev_local 0 rfl rfl (args_nil (call_len_lst e hpl (args_nil (call_rng ?_)))))⟩))⟩)))
  rw [posV_len]
  refine ⟨src_rng (by omega), fun _ _ => trivial, fun a v lc g hv li le => ?_, fun g le eg => ?_⟩
  · obtain ⟨x, rfl⟩ := li
    obtain ⟨i, hi, rfl⟩ := List.mem_map.mp hv
    have hi' := List.mem_range.mp hi
    refine ⟨_, ⟨_, rfl⟩, asg_name 1 rfl, tests_one ?_⟩
    have e1 : (posV l)[((i : Nat) : Int).toNat]? = some (poV l[i]) := by
      unfold posV
      rw [List.getElem?_map, Int.toNat_natCast, List.getElem?_eq_getElem hi']; rfl
    refine ts_cmp (ev_sub (ev_local 2 rfl rfl (ev_local 1 rfl rfl (sub_list (le _ _ e) (by omega) (by omega) e1 (ev_none (c_is_none (poV_plain _) ⟨_, rfl, Le.refl _, ?_, fun _ => ev_local 1 rfl rfl ⟨Le.refl _, rfl⟩⟩))))))
    rw [poV_none]
    simp [isStarV, List.getElem?_eq_getElem hi']
  · rw [starsV] at eg
    refine ex_cons (ex_assign 2 rfl (ev_str ?_))
    refine ex_cons (ex_for (items := uptoV l.length) (fun i l' g' => ∃ x T, l' = [some (.lst n), some (.lst hp.length), some (.str (tx ([40, 63, 115, 58] ++ T))), x] ∧ Le g g' ∧ T ++ textGo (decide (none ∈ l.take i)) (l.drop i) = textGo false l)
      (ev_call_ty (T := "range") (ev_builtin rfl (C.mgN (by rfl)) (C.mbK (by decide) boot_range) ⟨rfl, args_cons (ev_call_bi (ev_builtin rfl (C.mgN (by rfl)) (C.mbK (by decide) boot_len) ⟨rfl, args_cons (ev_local 0 rfl rfl (args_nil (call_len_lst (le _ _ e) hpl (args_nil (call_rng ?_)))))⟩))⟩)) (Sc := fun _ => True) (fun _ _ _ _ => trivial) (fun i v l' g' hi inv => ?_) (fun l' g' inv => ?_))
    · rw [posV_len]
      exact ⟨src_rng (by omega), none, [], rfl, Le.refl _, by simp⟩
    · obtain ⟨x, T, rfl, le', hT⟩ := inv
      rw [uptoV_get] at hi
      split at hi
      case isFalse => cases hi
      rename_i hi'
      cases hi
      have hx : l[i]? = some l[i] := List.getElem?_eq_getElem hi'
      generalize l[i] = y at hx
      have e1 : (posV l)[((i : Nat) : Int).toNat]? = some (poV y) := by
        unfold posV
        rw [List.getElem?_map, Int.toNat_natCast, hx]; rfl
      have hlen : ([40, 63, 115, 58] ++ textGo false l ++ [41, 92, 90]).length ≤ sizeLine := hz
      rw [← hT, textGo_step hx] at hlen
      rw [textGo_step hx] at hT
      have le2 := le.trans le'
      refine ⟨_, asg_name 3 rfl, ?_⟩
      refine ex_cons (ex_if (ts_cmp (ev_sub (ev_local 0 rfl rfl (ev_local 3 rfl rfl (sub_list (le2 _ _ e) (by omega) (by omega) e1 (ev_none (c_isnot_none (poV_plain _) ⟨_, rfl, fun hb => ?_, fun hb => ?_⟩))))))))
      · rw [poV_none] at hb
        cases y with
        | none => cases hb
        | some y =>
          simp only [gapT, List.length_append, List.length_cons, List.length_nil] at hlen
          refine ex_cons (ex_assign 2 rfl (ev_bin (ev_local 2 rfl rfl (ev_sub (ev_local 0 rfl rfl (ev_local 3 rfl rfl (sub_list (le2 _ _ e) (by omega) (by omega) e1 (op_cat_tx (m := y) rfl (by simp; omega) (ex_nil (ex_nil ?_))))))))))
          refine ⟨_, T ++ y, by rw [← List.append_assoc]; rfl, le', ?_⟩
          rw [← hT]; simp [gapT]
      · rw [poV_none] at hb
        cases y with
        | some y => cases hb
        | none =>
          obtain ⟨j1, q1, q2⟩ := stars_first hx
          obtain ⟨j2, q3, q4⟩ := stars_last hx
          simp only [gapT, List.length_append, List.length_cons, List.length_nil] at hlen
          have eg2 := le' _ _ eg
          have s1 : ((starsI l).map fun i => V.int (i : Nat))[((0 : Int)).toNat]? = some (.int j1) := by
            rw [List.getElem?_map]
            show Option.map _ (starsI l)[0]? = _
            rw [q1]; rfl
          have s2 : ((starsI l).map fun i => V.int (i : Nat)).getLast? = some (.int j2) := by rw [List.getLast?_map, q3]; rfl
          have d1 : (((i : Nat) : Int) == ((j1 : Nat) : Int)) = decide (none ∉ l.take i) := by
            rw [Bool.eq_iff_iff]; simp only [beq_iff_eq, decide_eq_true_eq]; rw [← q2]; omega
          have d2 : (((i : Nat) : Int) == ((j2 : Nat) : Int)) = decide (none ∉ l.drop (i + 1)) := by
            rw [Bool.eq_iff_iff]; simp only [beq_iff_eq, decide_eq_true_eq]; rw [← q4]; omega
          have st1 : ∀ m : List Nat, m = (if none ∈ l.take i then [41] else []) → ∀ m2 : List Nat, m2 = starT (l.drop (i + 1)) → ∃ x2 T2, [some (V.lst n), some (.lst hp.length), some (.str (tx ([40, 63, 115, 58] ++ T ++ m ++ m2))), some (.int (i : Nat))] = [some (.lst n), some (.lst hp.length), some (.str (tx ([40, 63, 115, 58] ++ T2))), x2] ∧ Le g g' ∧ T2 ++ textGo (decide (none ∈ l.take (i + 1))) (l.drop (i + 1)) = textGo false l := by
            intro m hm m2 hm2
            refine ⟨some (.int (i : Nat)), T ++ m ++ m2, by simp, le', ?_⟩
            rw [← hT, hm, hm2]; simp [gapT]
          have add : ∀ (m : List Nat), m = (if none ∈ l.take i then [41] else []) → ∀ m2 : List Nat, m2 = starT (l.drop (i + 1)) → T.length + m.length + m2.length + 4 ≤ sizeLine := by
            intro m hm m2 hm2
            have z1 := congrArg List.length hm
            have z2 := congrArg List.length hm2
            omega
          have z1 : ∀ m : List Nat, m = (if none ∈ l.take i then [41] else []) → m.length ≤ 1 := by intro m hm; rw [hm]; split <;> simp
          refine ex_cons (ex_assign 2 rfl (ev_bin (ev_bin (ev_local 2 rfl rfl (ev_ifexp (ts_cmp (ev_local 3 rfl rfl (ev_sub (ev_local 1 rfl rfl (ev_int (sub_list eg2 (by decide) (by decide) s1 (c_eq_int ⟨_, rfl, fun hb1 => ?_, fun hb1 => ?_⟩))))))))))))
          · rw [d1] at hb1
            have hm : ([] : List Nat) = (if none ∈ l.take i then [41] else []) := by
              rw [if_neg (of_decide_eq_true hb1)]
            refine ev_str (op_cat_tx (m := []) rfl (by simp; omega) (ev_ifexp (ts_cmp (ev_local 3 rfl rfl (ev_sub (ev_local 1 rfl rfl (ev_unary (ev_int (op_neg (sub_list_last eg2 s2 (c_eq_int ⟨_, rfl, fun hb2 => ?_, fun hb2 => ?_⟩)))))))))))
            · rw [d2] at hb2
              have hm2 : ([46, 42] : List Nat) = starT (l.drop (i + 1)) := by
                unfold starT; rw [if_neg (of_decide_eq_true hb2)]
              have hz2 := add _ hm _ hm2
              simp only [List.length_cons, List.length_nil] at hz2
              exact ev_str (op_cat_tx (m := [46, 42]) rfl (by simp; omega) (ex_nil (ex_nil (st1 _ hm _ hm2))))
            · rw [d2] at hb2
              have hm2 : ([40, 63, 62, 46, 42, 63] : List Nat) = starT (l.drop (i + 1)) := by
                unfold starT; rw [if_pos (by simpa using hb2)]
              have hz2 := add _ hm _ hm2
              simp only [List.length_cons, List.length_nil] at hz2
              exact ev_str (op_cat_tx (m := [40, 63, 62, 46, 42, 63]) rfl (by simp; omega) (ex_nil (ex_nil (st1 _ hm _ hm2))))
          · rw [d1] at hb1
            have hm : ([41] : List Nat) = (if none ∈ l.take i then [41] else []) := by rw [if_pos (by simpa using hb1)]
            refine ev_str (op_cat_tx (m := [41]) rfl (by simp; omega) (ev_ifexp (ts_cmp (ev_local 3 rfl rfl (ev_sub (ev_local 1 rfl rfl (ev_unary (ev_int (op_neg (sub_list_last eg2 s2 (c_eq_int ⟨_, rfl, fun hb2 => ?_, fun hb2 => ?_⟩)))))))))))
            · rw [d2] at hb2
              have hm2 : ([46, 42] : List Nat) = starT (l.drop (i + 1)) := by
                unfold starT; rw [if_neg (of_decide_eq_true hb2)]
              have hz2 := add _ hm _ hm2
              simp only [List.length_cons, List.length_nil] at hz2
              exact ev_str (op_cat_tx (m := [46, 42]) rfl (by simp; omega) (ex_nil (ex_nil (st1 _ hm _ hm2))))
            · rw [d2] at hb2
              have hm2 : ([40, 63, 62, 46, 42, 63] : List Nat) = starT (l.drop (i + 1)) := by
                unfold starT; rw [if_pos (by simpa using hb2)]
              have hz2 := add _ hm _ hm2
              simp only [List.length_cons, List.length_nil] at hz2
              exact ev_str (op_cat_tx (m := [40, 63, 62, 46, 42, 63]) rfl (by simp; omega) (ex_nil (ex_nil (st1 _ hm _ hm2))))
    · obtain ⟨x, T, rfl, le', hT⟩ := inv
      have hlen : (uptoV l.length).length = l.length := by unfold uptoV; simp
      rw [hlen, List.drop_length] at hT
      have hT' : T = textGo false l := by rw [← hT]; simp [textGo]
      subst hT'
      refine ex_cons (ex_return (ev_bin (ev_local 2 rfl rfl (ev_str (op_cat_tx (m := [41, 92, 90]) rfl ?_ ⟨_, rfl, h _ (Le.trans (le.trans le') (Le.refl _))⟩)))))
      have hlen2 : ([40, 63, 115, 58] ++ textGo false l ++ [41, 92, 90]).length ≤ sizeLine := hz
      simpa using hlen2
end
end Mine
end

section
open PySem PySem.W PyProof.Rows PySem.Calls StrLaws
set_option maxHeartbeats 4000000
namespace Mine
/-- a list of words on the heap -/
noncomputable def WordsAt (g : List Cell) (j : Nat) (ws : List (List Sg)) : Prop := ∃ js : List Nat, g[j]? = some (some (js.map V.lst)) ∧ F2 (fun i w => g[i]? = some (some (sgsV w))) js ws
structure WInv (b : Nat) (g : List Cell) (j : Nat) (js : List Nat) (ws : List (List Sg)) : Prop where
  at_ : g[j]? = some (some (js.map V.lst))
  each : F2 (fun i w => g[i]? = some (some (sgsV w))) js ws
  nd : js.Nodup
  out : j ∉ js
  lo : ∀ i ∈ js, b ≤ i
  loj : b ≤ j
  ne : ws ≠ []
theorem F2.mono {A B : Type} {R S : A → B → Prop} {l : List A} {r : List B} (h : F2 R l r) (i : ∀ a b, a ∈ l → R a b → S a b) : F2 S l r := by
  induction h with
  | nil => exact .nil
  | cons a _ ih => exact .cons (i _ _ List.mem_cons_self a) (ih fun a b ha => i a b (List.mem_cons_of_mem _ ha))
theorem WInv.words {b : Nat} {g : List Cell} {j : Nat} {js : List Nat} {ws : List (List Sg)} (h : WInv b g j js ws) : WordsAt g j ws := ⟨js, h.at_, h.each⟩
theorem WInv.le {b : Nat} {g g' : List Cell} {j : Nat} {js : List Nat} {ws : List (List Sg)} (h : WInv b g j js ws) (le : Le g g') : WInv b g' j js ws :=
  ⟨le _ _ h.at_, h.each.mono fun a b _ e => le _ _ e, h.nd, h.out, h.lo, h.loj, h.ne⟩
theorem F2.snocInv {A B : Type} {R : A → B → Prop} : ∀ {l : List A} {r : List B}, F2 R l r → r ≠ [] → ∃ l0 a r0 b, l = l0 ++ [a] ∧ r = r0 ++ [b] ∧ F2 R l0 r0 ∧ R a b
  | _, _, .nil, h => absurd rfl h
  | _, _, .cons (a := a) (b := b) x .nil, _ => ⟨[], a, [], b, rfl, rfl, .nil, x⟩
  | _, _, .cons (a := a) (b := b) x (.cons y z), _ => by
    obtain ⟨l0, a', r0, b', e1, e2, h1, h2⟩ := F2.snocInv (.cons y z) (by simp)
    exact ⟨a :: l0, a', b :: r0, b', by rw [e1]; rfl, by rw [e2]; rfl, .cons x h1, h2⟩
/-- the last word -/
theorem WInv.last {b : Nat} {g : List Cell} {j : Nat} {js : List Nat} {ws : List (List Sg)} (h : WInv b g j js ws) : ∃ (i : Nat) (w : List Sg), (js.map V.lst).getLast? = some (.lst i) ∧ ws.getLast? = some w ∧ b ≤ i ∧
    ∀ g2, Le g g2 → g2[i]? = some (some (sgsV w)) ∧ ∀ (l : List Sg), WInv b (g2.set i (some (sgsV (w ++ l)))) j js (addLast ws l) := by
  obtain ⟨l0, i, r0, w, rfl, rfl, h1, h2⟩ := h.each.snocInv h.ne
  refine ⟨i, w, by simp, by simp, h.lo i (by simp), fun g2 le => ⟨le _ _ h2, fun l => ?_⟩⟩
  have hnd := List.nodup_append.mp h.nd
  have hij : i ≠ j := fun z => h.out (by simp [z])
  refine ⟨by rw [List.getElem?_set_ne hij]; exact le _ _ h.at_, ?_, h.nd, h.out, h.lo, h.loj, addLast_ne _ _⟩
  have e : addLast (r0 ++ [w]) l = r0 ++ [w ++ l] := by unfold addLast; simp
  rw [e]
  refine F2.append (h1.mono fun a b ha ea => ?_) (.cons (at_set (le _ _ h2)) .nil)
  rw [List.getElem?_set_ne (fun z => hnd.2.2 a ha i (by simp) z.symm)]
  exact le _ _ ea
/-- one word more -/
theorem WInv.more {b : Nat} {g : List Cell} {j : Nat} {js : List Nat} {ws : List (List Sg)} (h : WInv b g j js ws) {n : Nat} {l : List Sg} (hn : g[n]? = some (some (sgsV l))) (hb : b ≤ n) (hj : n ≠ j) (hf : n ∉ js) {g' : List Cell} (e : g' = g.set j (some ((js ++ [n]).map V.lst))) : WInv b g' j (js ++ [n]) (ws ++ [l]) := by
  subst e
  refine ⟨at_set h.at_, F2.append (h.each.mono fun a b ha ea => ?_) (.cons ?_ .nil), ?_, ?_, ?_, h.loj, by simp⟩
  · have hne : j ≠ a := fun z => h.out (by rw [z]; exact ha)
    rw [List.getElem?_set_ne hne]; exact ea
  · rw [List.getElem?_set_ne (fun z => hj z.symm)]; exact hn
  · rw [List.nodup_append]
    refine ⟨h.nd, by simp, fun a ha b hb z => hf ?_⟩
    rw [List.mem_singleton] at hb
    rw [← hb, ← z]; exact ha
  · intro z
    rcases List.mem_append.mp z with z | z
    · exact h.out z
    · exact hj (List.mem_singleton.mp z).symm
  · intro i hi
    rcases List.mem_append.mp hi with hi | hi
    · exact h.lo i hi
    · rw [List.mem_singleton.mp hi]; exact hb
theorem F2.lt {g : List Cell} {js : List Nat} {ws : List (List Sg)} (h : F2 (fun i w => g[i]? = some (some (sgsV w))) js ws) : ∀ i ∈ js, i < g.length := by
  induction h with
  | nil => intro i hi; cases hi
  | cons a _ ih =>
    intro i hi
    rcases List.mem_cons.mp hi with rfl | hi
    · exact (List.getElem?_eq_some_iff.mp a).1
    · exact ih i hi
/-- script[:10] -/
theorem slice10 (items : Array Value) : slicePick items none (some ((10 : Nat) : Int)) none = (items.toList.take 10).toArray := by
  by_cases h : 10 ≤ items.size
  · exact slicePick_upto items 10 h
  · have e : sliceBounds none (some ((10 : Nat) : Int)) none items.size = (((0 : Nat) : Int), (items.size : Int), 1) := by
      simp only [sliceBounds, Option.getD_none]
      have h2 : ¬ (((10 : Nat) : Int) < 0) := by omega
      simp only [h2, if_false, show (1 : Int) > 0 by decide, if_true]
      congr 1
      congr 1
      omega
    unfold slicePick
    rw [e]
    simp only [sliceRange_one, pick_run]
    rw [List.drop_zero, List.take_of_length_le (by simp), List.take_of_length_le (by simp; omega)]
noncomputable def IntV (i : Int) (u : Value) : Prop := ∃ t, u = .int i t
theorem F2.intsV {α : List Addr} {h : Heap} : ∀ {is : List Int} {us : List Value}, F2 IntV is us → VRs α h (is.map V.int) us
  | _, _, .nil => .nil
  | _, _, .cons a r => .cons a (F2.intsV r)
section
variable {C : Cx} {k : Nat} {F : FrD} {loc : List (Option V)} {hp : List Cell} {Φ : V → List Cell → Prop}
theorem ev_take {ve : Expr} {n : Nat} {p1 p pos : Pos} {a : Addr} {xs : Array Value} {is : List Int} (ea : C.h₀.IsList a xs) (hx : F2 IntV is xs.toList) (n1 : a ≠ 57) (n2 : a ≠ 76) (hsz : xs.size ≤ sizeLine)
    (h : AEv C k F loc hp ve fun v hp1 => v = .raw (.ref a) ∧ Φ (.lst hp1.length) (hp1 ++ [some ((is.take 10).map V.int)]))
    (ht : ∀ o r, letTemporaryGo ve o r = pure () := by intro _ _; rfl) : AEv C k F loc hp (.Subscript ve (.Slice none (some (.Constant (.int 10) n p1)) none p) pos) Φ := fun A α s Q E hA R hQ => by
  refine wpAny_Subscript_list_slice (h A α s _ E hA R fun v hp1 α1 s1 x pp nx1 R1 r1 => ?_) ht
  obtain ⟨rfl, pp⟩ := pp
  have e : x = .ref a := r1
  subst e
  rw [evalPart_none]
  refine wpAny_pure ?_
  rw [evalPart_some]
  refine wpAny_Constant_int ?_
  have eh : s1.heap.IsList a xs := by
    obtain ⟨o, e1, r⟩ := ea
    exact ⟨o, R1.hr.base.keep a _ e1 n1 n2, r⟩
  refine ⟨a, xs, none, some ((10 : Nat) : Int), rfl, eh, hsz, .none, .int _ _, ?_⟩
  generalize hso : ({ cls := .type "slice", data := .fields #[Value.none, .int 10 s1.toks, .none] } : Obj) = so
  have n3 : Nx C [] α1 s1 α1 { s1 with heap := s1.heap.push so, toks := s1.toks + 1 } := pushNx s1 so _
  have R3 : Rel C F loc hp1 α1 { s1 with heap := s1.heap.push so, toks := s1.toks + 1 } := R1.ext (fun _ _ e => Heap.get?_push_of_some _ e) rfl
  have r3 : VRs α1 (s1.heap.push so) ((is.take 10).map V.int) (xs.toList.take 10) := (hx.take 10).intsV
  rw [slice10]
  have n4 : Nx C [] α1 { s1 with heap := s1.heap.push so, toks := s1.toks + 1 } (α1 ++ [(s1.heap.push so).objs.size]) { s1 with heap := (s1.heap.push so).push { cls := .type "list", data := .seq (xs.toList.take 10).toArray }, toks := s1.toks + 1 } := .push { s1 with heap := s1.heap.push so, toks := s1.toks + 1 } _ [(s1.heap.push so).objs.size] (by simp)
  have H4 : HR C (hp1 ++ [some ((is.take 10).map V.int)]) (α1 ++ [(s1.heap.push so).objs.size]) ((s1.heap.push so).push { cls := .type "list", data := .seq (xs.toList.take 10).toArray }) := R3.hr.pushList (n := 0) (by simpa using r3)
  have hs1 : s1.heap.objs.size + 1 = (s1.heap.push so).objs.size := (Heap.size_push ..).symm
  rw [hs1]
  exact hQ _ _ _ _ _ pp ((nx1.trans n3).trans n4) (R3.nx0 n4 H4) ⟨_, by rw [← R1.hr.len, List.getElem?_append_right (Nat.le_refl _)]; simp, rfl⟩
end
end Mine
end

section
open PySem PySem.W PyProof.Rows PySem.Calls StrLaws
set_option maxHeartbeats 4000000
namespace Mine
noncomputable def natsV (l : List Nat) : List V := l.map fun n => V.int (n : Nat)
theorem natsV_len (l : List Nat) : (natsV l).length = l.length := List.length_map ..
theorem natsV_app (l m : List Nat) : natsV l ++ natsV m = natsV (l ++ m) := (List.map_append ..).symm
noncomputable def piecesV : List V := pieces.map fun p => V.str (tx p)
theorem piecesV_at : ∀ k, k < 9 → piecesV[k]? = some (.str (tx (pieces.getD k [])))
  | 0, _ => rfl | 1, _ => rfl | 2, _ => rfl | 3, _ => rfl | 4, _ => rfl | 5, _ => rfl | 6, _ => rfl | 7, _ => rfl | 8, _ => rfl
  | n + 9, h => absurd h (by omega)
theorem pieces_ascii : ∀ k, k < 9 → ((tx (pieces.getD k [])).cps.all fun c => decide (c < 128)) = true := fun k h => by
  have : ∀ k, k < 9 → ((pieces.getD k []).all fun c => decide (c < 128)) = true := by decide
  have := this k h
  unfold tx
  rw [← Array.all_toList, List.toList_toArray]
  exact this
theorem signsV_tx (l : List Nat) : signsV (tx l) = l.map fun c => V.str ⟨#[c]⟩ := by
  unfold signsV tx
  simp
noncomputable def fmodV (m : Int) : V → V
  | .int x => .int (x.fmod m)
  | v => v
noncomputable def withRole (r : Str) : V → V
  | .str s => .pair s r
  | v => v
theorem numsV (is : List Int) : (((is.take 10).map V.int).filter fun _ => true).map (fmodV 100000000) = natsV ((is.take 10).map fun x => (x.fmod 100000000).toNat) := by
  rw [List.filter_eq_self.mpr fun _ _ => rfl]
  unfold natsV
  rw [List.map_map, List.map_map]
  refine List.map_congr_left fun x _ => ?_
  show V.int (x.fmod 100000000) = V.int _
  have b := Int.fmod_nonneg_of_pos x (show (0 : Int) < 100000000 by decide)
  simp only [Function.comp]
  rw [Int.toNat_of_nonneg b]
section
variable {C : Cx} {k : Nat} {F : FrD} {loc : List (Option V)} {hp : List Cell} {Φ : V → List Cell → Prop}

noncomputable def MidP (P : List (Option V) → List Cell → Prop) : Fl → List (Option V) → List Cell → Prop
  | .next, l, g => P l g
  | _, _, _ => False
theorem ex_mid {st : Stmt} {rest : List Stmt} {Ψ : Fl → List (Option V) → List Cell → Prop} (P : List (Option V) → List Cell → Prop) (h1 : AEx C k F loc hp st (MidP P)) (h2 : ∀ l g, P l g → AExs C k F l g rest Ψ) : AExs C k F loc hp (st :: rest) Ψ :=
  ex_cons (h1.mono fun fl l g h => by
    cases fl with
    | next => exact h2 l g h
    | brk => exact h.elim
    | ret v => exact h.elim)
theorem op_modN {a : Nat} {b : Int} (m : Nat) (hb : b = (m : Nat)) (h0 : m ≠ 0) (h : Φ (.int ((a % m : Nat) : Int)) hp) : AT2 C k hp (.int (a : Nat)) (.int b) (binaryOp .Mod) Φ := by
  subst hb
  exact op_mod (by omega) (by rw [fmodN]; exact h)
theorem op_fdivN {a : Nat} {b : Int} (m : Nat) (hb : b = (m : Nat)) (h0 : m ≠ 0) (hp0 : Builtin.divisionGoesByPylong a b = false) (h : Φ (.int ((a / m : Nat) : Int)) hp) : AT2 C k hp (.int (a : Nat)) (.int b) (binaryOp .FloorDiv) Φ := by
  subst hb
  exact op_fdiv (by omega) hp0 (by rw [fdivN]; exact h)
theorem pylong16 (a : Int) : Builtin.divisionGoesByPylong a 16 = false := rfl


noncomputable def loopBody (ss : List Stmt) (n : Nat) : List Stmt := match ss[n]? with
  | some (.For _ _ body _ _) => body
  | some (.While _ body _ _) => body
  | _ => []
noncomputable abbrev frW (w : World) (L : Addr) : FrD := frC w 111 "role" ["script", "numbers", "pieces", "words", "role", "v", "kind", "rest", "code"] L
theorem frW_ok (w : World) (L : Addr) : FOk (frW w L) := ((d_words w).frame L).2.1
theorem ownR (w : World) (L : Addr) : ∀ c, (some (L + 1)) = some c → c ∈ (frW w L).own ∧ (frW w L).env.kindOf "role" = some .cell := fun c h => by
  cases h
  exact ⟨by simp [frC], rfl⟩
/-- what stood below stands -/
noncomputable def LeB (b : Nat) (g g' : List Cell) : Prop := ∀ (n : Nat) c, n < b → g[n]? = some c → g'[n]? = some c
theorem LeB.of {b : Nat} {g g' : List Cell} (x : Le g g') : LeB b g g' := fun n c _ e => x n c e
theorem LeB.trans {b : Nat} {g g' g'' : List Cell} (x : LeB b g g') (y : LeB b g' g'') : LeB b g g'' := fun n c h e => y n c h (x n c h e)
theorem LeB.set {b : Nat} {g g' : List Cell} (x : LeB b g g') {i : Nat} {c : Cell} (hi : b ≤ i) : LeB b g (g'.set i c) := fun n d h e => by
  rw [List.getElem?_set_ne (by omega)]; exact x n d h e
theorem firsts_at : ∀ k, k < 6 → (Str.ofString "^[.'a\n").cps[((k : Nat) : Int).toNat]? = some (firsts.getD k 0)
  | 0, _ => rfl | 1, _ => rfl | 2, _ => rfl | 3, _ => rfl | 4, _ => rfl | 5, _ => rfl
  | n + 6, h => absurd h (by omega)
theorem sgsV_inj {a b : List Sg} (h : sgsV a = sgsV b) : a = b := by
  have inj : ∀ p q : Sg, sgV p = sgV q → p = q := by
    rintro ⟨c, r⟩ ⟨d, r'⟩ h
    unfold sgV at h
    simp at h
    obtain ⟨h1, h2⟩ := h
    have : r = r' := by revert h2; cases r <;> cases r' <;> decide
    rw [h1, this]
  revert b
  induction a with
  | nil => intro b h; cases b with
    | nil => rfl
    | cons q b => cases h
  | cons p a ih => intro b h; cases b with
    | nil => cases h
    | cons q b =>
      have h' : sgV p :: sgsV a = sgV q :: sgsV b := h
      rw [List.cons.injEq] at h'
      rw [inj p q h'.1, ih h'.2]
theorem F2.length' {A B : Type} {R : A → B → Prop} {l : List A} {r : List B} (h : F2 R l r) : l.length = r.length := (F2.length h).symm
theorem WInv.jlt {b : Nat} {g : List Cell} {j : Nat} {js : List Nat} {ws : List (List Sg)} (h : WInv b g j js ws) : j < g.length := (List.getElem?_eq_some_iff.mp h.at_).1
theorem WInv.blen {b : Nat} {g : List Cell} {j : Nat} {js : List Nat} {ws : List (List Sg)} (h : WInv b g j js ws) : b ≤ g.length := by have := h.jlt; have := h.loj; omega
theorem WInv.jne {b : Nat} {g : List Cell} {j : Nat} {js : List Nat} {ws : List (List Sg)} (h : WInv b g j js ws) : g.length ≠ j := by have := h.jlt; omega
theorem WInv.nin {b : Nat} {g : List Cell} {j : Nat} {js : List Nat} {ws : List (List Sg)} (h : WInv b g j js ws) : g.length ∉ js := fun z => by have := h.each.lt _ z; omega
theorem words_turn {L g0 jn jp jw : Nat} {js : List Nat} {ws : List (List Sg)} {b : Bool} {v : Nat} {x0 : V} {x6 x7 x8 : Option V} {g : List Cell} {Ψ : Fl → List (Option V) → List Cell → Prop}
    (e4 : g[jp]? = some (some piecesV)) (wi : WInv g0 g jw js ws) (hz : total ws ≤ 1000 ∧ ws.length ≤ 1000)
    (h : ∀ js' x6 x7 x8 g', LeB g0 g g' → WInv g0 g' jw js' (wstep (ws, b) v).1 → Ψ .next [some x0, some (.lst jn), some (.lst jp), some (.lst jw), some (.str (roleS (roleOf (wstep (ws, b) v).2))), some (.int (v : Nat)), x6, x7, x8] g') :
    AExs C k (frW C.w L) [some x0, some (.lst jn), some (.lst jp), some (.lst jw), some (.str (roleS (roleOf b))), some (.int (v : Nat)), x6, x7, x8] g (loopBody (bodyOf C.w 111) 5) Ψ := by
  have big : (100000 : Nat) ≤ sizeLine := by decide
  obtain ⟨iw, w, q1, q2, q3, q4⟩ := wi.last
  have hw : w.length ≤ 1000 := Nat.le_trans (mem_total (List.mem_of_getLast? q2)) hz.1
  have ew := (q4 g (Le.refl g)).1
  have hw2 : (sgsV w).length ≤ sizeLine := by rw [sgsV_len]; omega
  -- one append to the last word
  have fin : ∀ (g2 : List Cell) (l : List Sg) (vs : List V) (b' : Bool) x6 x7 x8, Le g g2 → vs = sgsV w ++ sgsV l → wstep (ws, b) v = (addLast ws l, b') →
      Ψ .next [some x0, some (.lst jn), some (.lst jp), some (.lst jw), some (.str (roleS (roleOf b'))), some (.int (v : Nat)), x6, x7, x8] (g2.set iw (some vs)) := by
    intro g2 l vs b' y6 y7 y8 le hvs hst
    have := h js y6 y7 y8 (g2.set iw (some vs)) ((LeB.of le).set q3)
    rw [hst] at this
    refine this ?_
    rw [hvs, sgsV_app]
    exact (q4 g2 le).2 l
  refine ex_cons <| ex_assign2 6 7 rfl rfl (args_cons <| ev_bin <| ev_local 5 rfl rfl <| ev_int <| op_modN 16 rfl (by decide) <| args_cons <| ev_bin <| ev_local 5 rfl rfl <| ev_int <| op_fdivN 16 rfl (by decide) rfl <| args_nil ⟨_, _, rfl, ?_⟩) (by rfl)
  refine ex_cons <| ex_if <| ts_cmp <| ev_local 6 rfl rfl <| ev_int <| c_lt_int ⟨_, rfl, fun hb => ?_, fun hb => ?_⟩
  · have h9 : v % 16 < 9 := by have := of_decide_eq_true hb; omega
    have hst : wstep (ws, b) v = (addLast ws ((pieces.getD (v % 16) []).map fun c => (c, roleOf b)), b) := if_pos h9
    refine ex_cons <| ex_expr <| ev_extend <| ev_sub <| ev_local 3 rfl rfl <| ev_unary <| ev_int <| op_neg <| sub_list_last wi.at_ q1 ⟨_, _, rfl, ew, ?_⟩
    refine ev_comp (compOk (F := frW C.w L) (cl := [("role", L + 1)]) [".0", "sign"] rfl rfl rfl rfl rfl rfl (show ([".0", "sign", "role"] : List Str).Nodup by decide) (by simp) rfl (fun p hp => by
      rw [List.mem_singleton.mp hp]; exact ⟨rfl, rfl, 4, rfl⟩)) (items := signsV (tx (pieces.getD (v % 16) []))) (Sc := fun _ => True) (fun _ => true) (withRole (roleS (roleOf b))) (fun lc => ∃ x, lc = [none, x, some (.str (roleS (roleOf b)))]) (lc0 := [none, none, some (.str (roleS (roleOf b)))]) ⟨_, rfl⟩
      (lc0_one [".0", "sign"] (frW_ok C.w L) 4 rfl rfl) (by rw [signsV_tx, List.length_map]; have := pieces_len _ h9; omega) ?_
    refine ev_sub <| ev_local 2 rfl rfl <| ev_local 6 rfl rfl <| sub_list e4 (by omega) (by omega) (piecesV_at _ h9) ⟨src_str (pieces_ascii _ h9), fun _ _ => trivial, fun a u lc g' hu li le => ?_, fun g' le eg => ?_⟩
    · obtain ⟨x, rfl⟩ := li
      rw [signsV_tx] at hu
      obtain ⟨c, hc, rfl⟩ := List.mem_map.mp hu
      exact ⟨_, ⟨_, rfl⟩, asg_name 1 rfl, tests_nil ⟨Le.refl _, rfl, fun _ => ev_pair' (ev_local 1 rfl rfl ⟨_, rfl, ev_local 2 rfl rfl ⟨_, rfl, Le.refl _, rfl⟩⟩)⟩⟩
    · have e5 : ((signsV (tx (pieces.getD (v % 16) []))).filter fun _ => true).map (withRole (roleS (roleOf b))) = sgsV ((pieces.getD (v % 16) []).map fun c => (c, roleOf b)) := by
        rw [List.filter_eq_self.mpr fun _ _ => rfl, signsV_tx]
        unfold sgsV
        rw [List.map_map, List.map_map]
        rfl
      rw [e5] at eg
      refine ⟨_, _, _, rfl, (q4 g' le).1, eg, ?_, rfl, ex_nil ?_⟩
      · rw [sgsV_len, sgsV_len, List.length_map]
        have := pieces_len _ h9; omega
      · exact ex_nil (fin g' _ _ _ _ _ _ le rfl hst)
  have h9 : ¬ v % 16 < 9 := by have := of_decide_eq_false hb; omega
  refine ex_cons <| ex_if <| ts_cmp <| ev_local 6 rfl rfl <| ev_int <| c_eq_int ⟨_, rfl, fun hb2 => ?_, fun hb2 => ?_⟩
  · have h10 : v % 16 = 9 := by have := eq_of_beq hb2; omega
    have hst : wstep (ws, b) v = (addLast ws [(codeP (v / 16 % 1114112), roleOf b)], b) := by
      unfold wstep
      dsimp only
      rw [if_neg h9, if_pos h10]
    refine ex_cons <| ex_assign 8 rfl <| ev_bin <| ev_local 7 rfl rfl <| ev_int <| op_modN 1114112 rfl (by decide) ?_
    have hlt : v / 16 % 1114112 < 1114112 := Nat.mod_lt _ (by decide)
    generalize v / 16 % 1114112 = c0 at hst hlt
    refine ex_mid (fun l g' => ∃ y7, l = [some x0, some (.lst jn), some (.lst jp), some (.lst jw), some (.str (roleS (roleOf b))), some (.int (v : Nat)), some (.int ((v % 16 : Nat) : Int)), y7, some (.int (codeP c0 : Nat))] ∧ Le g g') ?_ ?_
    · have cT : (c0 = 45 ∨ c0 = 91 ∨ c0 = 93 ∨ (55296 ≤ c0 ∧ c0 < 57344)) → codeP c0 = 97 := fun z => if_pos z
      have cF : ¬ (c0 = 45 ∨ c0 = 91 ∨ c0 = 93 ∨ (55296 ≤ c0 ∧ c0 < 57344)) → codeP c0 = c0 := fun z => if_neg z
      refine ex_if <| ts_or <| ts_cmp <| ev_local 8 rfl rfl <| ev_list <| args_cons <| ev_int <| args_cons <| ev_int <| args_cons <| ev_int <| args_nil ⟨by simp [sizeLine], c_in_ints (ys := [45, 91, 93]) (at_end _ _) ⟨_, rfl, fun b1 => ⟨fun _ => ?_, noF⟩, fun b1 => ?_⟩⟩
      · have z : c0 = 45 ∨ c0 = 91 ∨ c0 = 93 := by
          simp at b1
          omega
        refine ex_cons <| ex_assign 8 rfl <| ev_int <| ex_nil ?_
        have e := cT (by omega)
        refine ⟨some (.int ((v / 16 : Nat) : Int)), ?_, Le.app _ _⟩
        rw [e]; rfl
      · have z : ¬ (c0 = 45 ∨ c0 = 91 ∨ c0 = 93) := by
          simp at b1
          omega
        refine ts_or <| ts_chain <| ev_int <| ev_local 8 rfl rfl <| c_le_int ⟨rfl, _, rfl, fun b2 => ⟨noT, fun _ => ts_or_nil ⟨noT, fun _ => ?_⟩⟩, fun b2 => ev_int <| c_lt_int ⟨_, rfl, fun b3 => ?_, fun b3 => ?_⟩⟩
        · have b2 := of_decide_eq_false b2
          have e := cF (by omega)
          refine ex_nil ⟨some (.int ((v / 16 : Nat) : Int)), ?_, Le.app _ _⟩
          rw [e]; rfl
        · have b2 := of_decide_eq_true b2
          have b3 := of_decide_eq_true b3
          refine ⟨fun _ => ?_, noF⟩
          refine ex_cons <| ex_assign 8 rfl <| ev_int <| ex_nil ?_
          have e := cT (by omega)
          refine ⟨some (.int ((v / 16 : Nat) : Int)), ?_, Le.app _ _⟩
          rw [e]; rfl
        · have b3 := of_decide_eq_false b3
          refine ts_or_nil ⟨noT, fun _ => ?_⟩
          have e := cF (by omega)
          refine ex_nil ⟨some (.int ((v / 16 : Nat) : Int)), ?_, Le.app _ _⟩
          rw [e]; rfl
    rintro _ g' ⟨y7, rfl, le⟩
    have hc : codeP c0 < 1114112 := by unfold codeP; split <;> omega
    refine ex_cons <| ex_expr <| ev_append <| ev_sub <| ev_local 3 rfl rfl <| ev_unary <| ev_int <| op_neg <| sub_list_last (le _ _ wi.at_) q1 ⟨_, _, rfl, le _ _ ew, ev_pair' ?_⟩
    refine ev_call_bi <| ev_builtin rfl (C.mgN (by rfl)) (C.mbK (by decide) boot_chr) ⟨rfl, args_cons <| ev_local 8 rfl rfl <| args_nil <| call_chr (by omega) (by omega) ⟨_, rfl, ev_local 4 rfl rfl ⟨_, rfl, _, le _ _ ew, hw2, rfl, ex_nil <| ex_nil ?_⟩⟩⟩
    exact ex_nil (fin g' _ _ _ _ _ _ le rfl hst)
  have h10 : ¬ v % 16 = 9 := by
    intro z
    rw [z] at hb2
    cases hb2
  refine ex_cons <| ex_if <| ts_cmp <| ev_local 6 rfl rfl <| ev_int <| c_eq_int ⟨_, rfl, fun hb3 => ?_, fun hb3 => ?_⟩
  · have h11 : v % 16 = 10 := by have := eq_of_beq hb3; omega
    have hst : wstep (ws, b) v = (ws ++ [[]], b) := by
      unfold wstep
      dsimp only
      rw [if_neg h9, if_neg h10, if_pos h11]
    refine ex_cons <| ex_expr <| ev_append <| ev_local 3 rfl rfl ⟨_, _, rfl, wi.at_, ev_list <| args_nil ⟨by simp, _, Le.app _ _ _ _ wi.at_, ?_, rfl, ex_nil <| ex_nil <| ex_nil <| ex_nil ?_⟩⟩
    · rw [List.length_map, F2.length' wi.each]; omega
    · have := h (js ++ [g.length]) (some (.int ((v % 16 : Nat) : Int))) (some (.int ((v / 16 : Nat) : Int))) x8 ((g ++ [some []]).set jw (some (js.map V.lst ++ [V.lst g.length]))) ((LeB.of (Le.app _ _)).set wi.loj)
      rw [hst] at this
      refine this ?_
      exact (wi.le (Le.app _ _)).more (at_end _ _) (wi.blen) (wi.jne) (wi.nin) (by rw [List.map_append]; rfl)
  have h11 : ¬ v % 16 = 10 := by
    intro z
    rw [z] at hb3
    cases hb3
  refine ex_cons <| ex_if <| ts_cmp <| ev_local 6 rfl rfl <| ev_int <| c_eq_int ⟨_, rfl, fun hb4 => ?_, fun hb4 => ?_⟩
  · have h12 : v % 16 = 11 := by have := eq_of_beq hb4; omega
    have hst : wstep (ws, b) v = (ws ++ [[(46, roleOf b)]], b) := by
      unfold wstep
      dsimp only
      rw [if_neg h9, if_neg h10, if_neg h11, if_pos h12]
    refine ex_cons <| ex_expr <| ev_append <| ev_local 3 rfl rfl ⟨_, _, rfl, wi.at_, ev_list <| args_cons <| ev_pair' <| ev_str ⟨_, rfl, ev_local 4 rfl rfl ⟨_, rfl, args_nil ⟨by simp [sizeLine], _, Le.app _ _ _ _ wi.at_, ?_, rfl, ex_nil <| ex_nil <| ex_nil <| ex_nil <| ex_nil ?_⟩⟩⟩⟩
    · rw [List.length_map, F2.length' wi.each]; omega
    · have := h (js ++ [g.length]) (some (.int ((v % 16 : Nat) : Int))) (some (.int ((v / 16 : Nat) : Int))) x8 ((g ++ [some (sgsV [(46, roleOf b)])]).set jw (some (js.map V.lst ++ [V.lst g.length]))) ((LeB.of (Le.app _ _)).set wi.loj)
      rw [hst] at this
      refine this ?_
      exact (wi.le (Le.app _ _)).more (at_end _ _) (wi.blen) (wi.jne) (wi.nin) (by rw [List.map_append]; rfl)
  have h12 : ¬ v % 16 = 11 := by
    intro z
    rw [z] at hb4
    cases hb4
  refine ex_cons <| ex_if <| ts_name_eq 4 rfl rfl b (by cases b <;> decide) ⟨fun hb5 => ?_, fun hb5 => ?_⟩
  · have hst : wstep (ws, b) v = (addLast ws [(93, .shut)], false) := by
      unfold wstep
      dsimp only
      rw [if_neg h9, if_neg h10, if_neg h11, if_neg h12, if_pos hb5]
    refine ex_cons <| ex_expr <| ev_append <| ev_sub <| ev_local 3 rfl rfl <| ev_unary <| ev_int <| op_neg <| sub_list_last wi.at_ q1 ⟨_, _, rfl, ew, ev_pair' <| ev_str ⟨_, rfl, ev_str ⟨_, rfl, _, ew, hw2, rfl, ?_⟩⟩⟩
    refine ex_cons <| ex_assign 4 rfl (ev_str <| ex_nil <| ex_nil <| ex_nil <| ex_nil <| ex_nil <| ex_nil ?_) rfl (ownR C.w L)
    exact fin g [(93, .shut)] _ _ _ _ _ (Le.refl _) rfl hst
  · have hb6 : b = false := hb5
    subst hb6
    have hst : wstep (ws, false) v = (addLast ws ([(91, .open_)] ++ (if 13 < v % 16 then [(33, .bar)] else []) ++ [(firsts.getD (v / 16 % 6) 0, .in_)]), true) := by
      unfold wstep
      dsimp only
      rw [if_neg h9, if_neg h10, if_neg h11, if_neg h12]
      rfl
    refine ex_cons <| ex_expr <| ev_append <| ev_sub <| ev_local 3 rfl rfl <| ev_unary <| ev_int <| op_neg <| sub_list_last wi.at_ q1 ⟨_, _, rfl, ew, ev_pair' <| ev_str ⟨_, rfl, ev_str ⟨_, rfl, _, ew, hw2, rfl, ?_⟩⟩⟩
    have wi2 : WInv g0 (g.set iw (some (sgsV (w ++ [(91, .open_)])))) jw js (addLast ws [(91, .open_)]) := (q4 g (Le.refl g)).2 _
    have ew2 : (g.set iw (some (sgsV (w ++ [(91, .open_)]))))[iw]? = some (some (sgsV (w ++ [(91, .open_)]))) := at_set ew
    have lb2 : LeB g0 g (g.set iw (some (sgsV (w ++ [(91, .open_)])))) := (LeB.of (Le.refl g)).set q3
    show Then _ _ _ _ _ _ _ (g.set iw (some (sgsV w ++ sgsV [(91, .open_)])))
    rw [sgsV_app]
    generalize g.set iw (some (sgsV (w ++ [(91, .open_)]))) = g2 at wi2 ew2 lb2
    refine ex_mid (fun l g' => l = [some x0, some (.lst jn), some (.lst jp), some (.lst jw), some (.str (roleS (roleOf false))), some (.int (v : Nat)), some (.int ((v % 16 : Nat) : Int)), some (.int ((v / 16 : Nat) : Int)), x8] ∧ LeB g0 g g' ∧
      g'[iw]? = some (some (sgsV (w ++ [(91, .open_)] ++ (if 13 < v % 16 then [(33, .bar)] else [])))) ∧ WInv g0 g' jw js (addLast ws ([(91, .open_)] ++ (if 13 < v % 16 then [(33, .bar)] else [])))) ?_ ?_
    · obtain ⟨iw', w', p1, p2, p3, p4⟩ := wi2.last
      have : iw' = iw := by rw [q1] at p1; cases p1; rfl
      subst this
      refine ex_if <| ts_cmp <| ev_local 6 rfl rfl <| ev_int <| c_gt_int ⟨_, rfl, fun b1 => ?_, fun b1 => ?_⟩
      · have b1 : 13 < v % 16 := by have := of_decide_eq_true b1; omega
        refine ex_cons <| ex_expr <| ev_append <| ev_sub <| ev_local 3 rfl rfl <| ev_unary <| ev_int <| op_neg <| sub_list_last wi2.at_ p1 ⟨_, _, rfl, ew2, ev_pair' <| ev_str ⟨_, rfl, ev_str ⟨_, rfl, _, ew2, ?_, rfl, ex_nil ?_⟩⟩⟩
        · rw [sgsV_len, List.length_append]; simp; omega
        · have hww : w' = w ++ [(91, .open_)] := sgsV_inj (by have := (p4 g2 (Le.refl g2)).1; rw [ew2] at this; simpa using this.symm)
          subst hww
          rw [if_pos b1]
          have h4 := (p4 g2 (Le.refl g2)).2 [(33, .bar)]
          rw [addLast_add wi.ne] at h4
          refine ⟨rfl, lb2.set q3, ?_, ?_⟩
          · show (g2.set iw' (some (sgsV (w ++ [(91, .open_)]) ++ sgsV [(33, .bar)])))[iw']? = _
            rw [sgsV_app]; exact at_set ew2
          · show WInv g0 (g2.set iw' (some (sgsV (w ++ [(91, .open_)]) ++ sgsV [(33, .bar)]))) _ _ _
            rw [sgsV_app]; exact h4
      · have b1 : ¬ 13 < v % 16 := by have := of_decide_eq_false b1; omega
        rw [if_neg b1, List.append_nil, List.append_nil]
        exact ex_nil ⟨rfl, lb2, ew2, wi2⟩
    rintro _ g3 ⟨rfl, lb3, ew3, wi3⟩
    have hl3 : (w ++ [(91, Role.open_)] ++ (if 13 < v % 16 then [(33, Role.bar)] else [])).length ≤ 1002 := by
      rw [List.length_append, List.length_append]
      split <;> simp <;> omega
    generalize hm : (if 13 < v % 16 then [((33 : Nat), Role.bar)] else []) = mid at ew3 wi3 hst hl3
    obtain ⟨iw', w', p1, p2, p3, p4⟩ := wi3.last
    have : iw' = iw := by rw [q1] at p1; cases p1; rfl
    subst this
    have hww : w' = w ++ [(91, .open_)] ++ mid := sgsV_inj (by have := (p4 g3 (Le.refl g3)).1; rw [ew3] at this; simpa using this.symm)
    subst hww
    refine ex_cons <| ex_expr <| ev_append <| ev_sub <| ev_local 3 rfl rfl <| ev_unary <| ev_int <| op_neg <| sub_list_last wi3.at_ p1 ⟨_, _, rfl, ew3, ev_pair' <| ev_sub <| ev_str <| ev_bin <| ev_local 7 rfl rfl <| ev_int <| op_modN 6 rfl (by decide) <| sub_str (c := firsts.getD (v / 16 % 6) 0) (by omega) (by omega) ?_ ⟨_, rfl, ev_str ⟨_, rfl, _, ew3, by rw [sgsV_len]; omega, rfl, ?_⟩⟩⟩
    · exact firsts_at _ (Nat.mod_lt _ (by decide))
    refine ex_cons <| ex_assign 4 rfl (ev_str <| ex_nil <| ex_nil <| ex_nil <| ex_nil <| ex_nil <| ex_nil ?_) rfl (ownR C.w L)
    have h4 := (p4 g3 (Le.refl g3)).2 [(firsts.getD (v / 16 % 6) 0, .in_)]
    rw [addLast_add wi.ne] at h4
    have := h js (some (.int ((v % 16 : Nat) : Int))) (some (.int ((v / 16 : Nat) : Int))) x8 (g3.set iw' (some (sgsV (w ++ [(91, .open_)] ++ mid) ++ sgsV [(firsts.getD (v / 16 % 6) 0, .in_)]))) (lb3.set q3)
    rw [hst] at this
    refine this ?_
    rw [sgsV_app]
    exact h4
end
end Mine
end

section
open PySem PySem.W PyProof.Rows PySem.Calls StrLaws
set_option maxHeartbeats 4000000
namespace Mine
section
variable {C : Cx} {k : Nat} {F : FrD} {loc : List (Option V)} {hp : List Cell} {Φ : V → List Cell → Prop}
theorem w_words {a : Addr} {xs : Array Value} {is : List Int} (hk : k < 80) (ea : C.h₀.IsList a xs) (hx : F2 IntV is xs.toList) (n1 : a ≠ 57) (n2 : a ≠ 76) (hsz : xs.size ≤ sizeLine)
    (h : ∀ j g, Le hp g → WordsAt g j (wordsP (numbersP is)) → Φ (.lst j) g) : ACall C k hp (.ref 111) [.raw (.ref a)] Φ := by
  have big : (100000 : Nat) ≤ sizeLine := by decide
  refine enter (d_words C.w) (by omega) rfl fun L => ?_
  have okF : FOk (frC C.w 111 "role" ["script", "numbers", "pieces", "words", "role", "v", "kind", "rest", "code"] L) := ((d_words C.w).frame L).2.1
  refine ex_mid (fun l g => ∃ jn, l = [some (.raw (.ref a)), some (.lst jn), none, none, none, none, none, none, none] ∧ Le hp g ∧ g[jn]? = some (some (natsV ((is.take 10).map fun x => (x.fmod 100000000).toNat)))) ?_ ?_
  · refine ex_assign_comp 1 (compOk (F := frC C.w 111 "role" ["script", "numbers", "pieces", "words", "role", "v", "kind", "rest", "code"] L) (cl := []) [".0", "x"] rfl rfl rfl rfl rfl rfl (by decide) (by simp) rfl (fun p hp => nomatch hp))
      (items := (is.take 10).map V.int) (Sc := fun g => g[hp.length]? = some (some ((is.take 10).map V.int))) (fun _ => true) (fmodV 100000000) (fun lc => ∃ x, lc = [none, x]) (lc0 := [none, none]) rfl ⟨_, rfl⟩ (lc0_none [".0", "x"]) (by rw [List.length_map, List.length_take]; omega) rfl
      (ev_take ea hx n1 n2 hsz (ev_local 0 rfl rfl ⟨rfl, src_list (at_end _ _), fun g le => le _ _ (at_end _ _), fun b v lc g hv li le => ?_, fun g le eg => ?_⟩))
    · obtain ⟨x, rfl⟩ := li
      obtain ⟨i, hi, rfl⟩ := List.mem_map.mp hv
      exact ⟨_, ⟨_, rfl⟩, asg_name 1 rfl, tests_nil ⟨Le.refl _, rfl, fun _ => ev_bin (ev_local 1 rfl rfl (ev_int (op_mod (by decide) ⟨Le.refl _, rfl⟩)))⟩⟩
    · rw [numsV] at eg
      exact ⟨_, rfl, (Le.app _ _).trans le, eg⟩
  rintro _ g1 ⟨jn1, rfl, le1, e1⟩
  refine ex_mid (fun l g => ∃ jn, l = [some (.raw (.ref a)), some (.lst jn), none, none, none, none, none, none, none] ∧ Le hp g ∧ g[jn]? = some (some (natsV (numbersP is)))) ?_ ?_
  · have hlen : (natsV ((is.take 10).map fun x => (x.fmod 100000000).toNat)).length ≤ 10 := by rw [natsV_len, List.length_map, List.length_take]; omega
    refine ex_if (ts_cmp (ev_call_bi (ev_builtin rfl (C.mgN (by rfl)) (C.mbK (by decide) boot_len) ⟨rfl, args_cons (ev_local 1 rfl rfl (args_nil (call_len_lst e1 (by omega) (ev_int (c_lt_int ⟨_, rfl, fun hb => ?_, fun hb => ?_⟩)))))⟩)))
    · have hb' := of_decide_eq_true hb
      rw [natsV_len] at hb'
      refine ex_cons <| ex_assign 1 rfl <| ev_bin <| ev_local 1 rfl rfl <| ev_list <| args_cons <| ev_int <| args_cons <| ev_int <| args_cons <| ev_int <| args_cons <| ev_int <| args_nil ⟨by simp [sizeLine], op_lists (Le.app _ _ _ _ e1) (at_end _ _) ?_ <| ex_nil ⟨_, rfl, ?_, ?_⟩⟩
      · show _ + 4 ≤ _
        omega
      · exact (le1.trans (Le.app _ _)).trans (Le.app _ _)
      · rw [at_end]
        unfold numbersP
        dsimp only
        rw [if_pos (by omega), ← natsV_app]
        rfl
    · have hb' := of_decide_eq_false hb
      rw [natsV_len] at hb'
      refine ex_nil ⟨_, rfl, le1, ?_⟩
      unfold numbersP
      dsimp only
      rw [if_neg (by omega)]
      exact e1
  rintro _ g2 ⟨jn, rfl, le2, e2⟩
  refine @ex_mid _ _ _ _ _ _ _ _ (fun l g => ∃ jp, l = [some (.raw (.ref a)), some (.lst jn), some (.lst jp), none, none, none, none, none, none] ∧ Le g2 g ∧ g[jp]? = some (some piecesV)) ?_ ?_
  · refine @ex_assign _ _ _ _ _ 2 _ _ _ _ _ _ rfl ?_ rfl noCell
    refine ev_list <| args_cons <| ev_str <| args_cons <| ev_str <| args_cons <| ev_str <| args_cons <| ev_str <| args_cons <| ev_str <| args_cons <| ev_str <| args_cons <| ev_str <| args_cons <| ev_str <| args_cons <| ev_str <| args_nil ⟨by simp [sizeLine], ?_⟩
    exact ⟨_, rfl, Le.app _ _, at_end _ _⟩
  rintro _ g4 ⟨jp, rfl, le24, e4⟩
  have e3 := le24 _ _ e2
  refine ex_cons <| ex_assign 3 rfl <| ev_list <| args_cons <| ev_list <| args_nil ⟨by simp, args_nil ⟨by simp [sizeLine], ?_⟩⟩
  refine ex_cons <| ex_assign 4 rfl (ev_str ?_) rfl (ownR C.w L)
  obtain ⟨nb, nlt⟩ := numbersP_bound is
  generalize hns : numbersP is = ns at *
  have w0 : WInv g4.length ((g4 ++ [some []]) ++ [some [.lst g4.length]]) (g4 ++ [some []]).length [g4.length] [[]] := by
    refine ⟨at_end _ _, .cons (Le.app _ _ _ _ (at_end _ _)) .nil, by simp, by simp, by simp, by simp, by simp⟩
  refine ex_mid (fun l g => ∃ jw js x5 x6 x7 x8, l = [some (.raw (.ref a)), some (.lst jn), some (.lst jp), some (.lst jw), some (.str (roleS (roleOf (ns.foldl wstep ([[]], false)).2))), x5, x6, x7, x8] ∧ Le g4 g ∧ WInv g4.length g jw js (ns.foldl wstep ([[]], false)).1) ?_ ?_
  · refine ex_for (items := natsV ns) (Sc := fun g => g[jn]? = some (some (natsV ns))) (fun i l g => ∃ jw js x5 x6 x7 x8, l = [some (.raw (.ref a)), some (.lst jn), some (.lst jp), some (.lst jw), some (.str (roleS (roleOf ((ns.take i).foldl wstep ([[]], false)).2))), x5, x6, x7, x8] ∧ Le g4 g ∧ WInv g4.length g jw js ((ns.take i).foldl wstep ([[]], false)).1)
      (ev_local 1 rfl rfl ⟨src_list (Le.app _ _ _ _ (Le.app _ _ _ _ e3)), _, _, none, none, none, none, rfl, (Le.app _ _).trans (Le.app _ _), w0⟩) (fun i l g inv => ?_) (fun i v l g hi inv => ?_) (fun l g inv => ?_)
    · obtain ⟨jw, js, x5, x6, x7, x8, _, le, _⟩ := inv
      exact le _ _ e3
    · obtain ⟨jw, js, x5, x6, x7, x8, rfl, le, wi⟩ := inv
      unfold natsV at hi
      rw [List.getElem?_map] at hi
      cases q : ns[i]? with
      | none => rw [q] at hi; cases hi
      | some n =>
      rw [q] at hi
      cases hi
      have hilt := (List.getElem?_eq_some_iff.mp q).1
      have tk : ns.take (i + 1) = ns.take i ++ [n] := by rw [List.take_add_one, q]; rfl
      have wb := words_bound (ns.take i) 0 _ wb0
      have ltk : (ns.take i).length ≤ 10 := by rw [List.length_take]; omega
      refine ⟨_, asg_name 5 rfl, ?_⟩
      refine words_turn (le _ _ e4) wi ⟨by have := wb.2.1; omega, by have := wb.2.2; omega⟩ fun js' y6 y7 y8 g' lb wi' => ?_
      refine ⟨jw, js', some (.int (n : Nat)), y6, y7, y8, ?_, ?_, ?_⟩
      · rw [tk, List.foldl_append]; rfl
      · intro n' c hn
        exact lb n' c (List.getElem?_eq_some_iff.mp hn).1 (le n' c hn)
      · rw [tk, List.foldl_append]; exact wi'
    · obtain ⟨jw, js, x5, x6, x7, x8, rfl, le, wi⟩ := inv
      rw [natsV_len, List.take_length] at wi ⊢
      exact ⟨jw, js, x5, x6, x7, x8, rfl, le, wi⟩
  rintro _ g5 ⟨jw, js, x5, x6, x7, x8, rfl, le5, wi⟩
  have wb := words_bound ns 0 _ wb0
  have hW : wordsP ns = wordsEnd (ns.foldl wstep ([[]], false)) := rfl
  generalize ns.foldl wstep ([[]], false) = st at wi wb hW
  obtain ⟨ws, b⟩ := st
  obtain ⟨iw, w, q1, q2, q3, q4⟩ := wi.last
  have hw : w.length ≤ 1000 := Nat.le_trans (mem_total (List.mem_of_getLast? q2)) (by have := wb.2.1; dsimp only at this ⊢; omega)
  have ew := (q4 g5 (Le.refl g5)).1
  have hb0 : hp.length ≤ g4.length := (le2.trans le24).len
  refine ex_cons <| ex_if <| ts_name_eq 4 rfl rfl b (by cases b <;> (dsimp only; decide)) ⟨fun hb5 => ?_, fun hb5 => ?_⟩
  · refine ex_cons <| ex_expr <| ev_append <| ev_sub <| ev_local 3 rfl rfl <| ev_unary <| ev_int <| op_neg <| sub_list_last wi.at_ q1 ⟨_, _, rfl, ew, ev_pair' <| ev_str ⟨_, rfl, ev_str ⟨_, rfl, _, ew, by rw [sgsV_len]; omega, rfl, ex_nil ?_⟩⟩⟩
    refine ex_cons <| ex_return <| ev_local 3 rfl rfl ⟨_, rfl, ?_⟩
    refine h _ _ (Le.set ((le2.trans le24).trans le5) (by omega)) ?_
    have hW' : wordsP ns = addLast ws [(93, .shut)] := by
      rw [hW]
      unfold wordsEnd
      rw [if_pos hb5]
    rw [hW']
    show WordsAt (g5.set iw (some (sgsV w ++ sgsV [(93, .shut)]))) _ _
    rw [sgsV_app]
    exact ((q4 g5 (Le.refl g5)).2 _).words
  · refine ex_nil <| ex_cons <| ex_return <| ev_local 3 rfl rfl ⟨_, rfl, ?_⟩
    refine h _ _ ((le2.trans le24).trans le5) ?_
    have hW' : wordsP ns = ws := by
      rw [hW]
      unfold wordsEnd
      rw [if_neg (by simpa using hb5)]
    rw [hW']
    exact wi.words
end
end Mine
end

section
open PySem PySem.W PyProof.Rows PySem.Calls StrLaws
set_option maxHeartbeats 4000000
namespace Mine
noncomputable def riskyV : V → Bool
  | .pair a _ => !safe1 (a.cps.getD 0 0)
  | _ => false
noncomputable def fstV : V → V
  | .pair a _ => .str a
  | v => v
noncomputable abbrev frLn (w : World) (L : Addr) : FrD := frC w 116 "part" ["words", "line", "role", "k", "risky", "bare", "sign", "part"] L
theorem frLn_ok (w : World) (L : Addr) : FOk (frLn w L) := ((d_line w).frame L).2.1
theorem ownP (w : World) (L : Addr) : ∀ c, (some (L + 1)) = some c → c ∈ (frLn w L).own ∧ (frLn w L).env.kindOf "part" = some .cell := fun c h => by
  cases h
  exact ⟨by simp [frC], rfl⟩
theorem risky_empty (w : List Sg) : (((sgsV w).filter riskyV).map fstV).isEmpty = w.all fun p => safe1 p.1 := by
  unfold sgsV
  rw [List.isEmpty_map, List.filter_map, List.isEmpty_map]
  rw [Bool.eq_iff_iff, List.isEmpty_iff, List.filter_eq_nil_iff, List.all_eq_true]
  constructor
  · intro h p hp
    have := h p hp
    simp [riskyV, sgV] at this
    exact this
  · intro h p hp
    have := h p hp
    simp [riskyV, sgV, this]
noncomputable def Kj (jl : Nat) (g g' : List Cell) : Prop := ∀ (n : Nat) c, n ≠ jl → g[n]? = some c → g'[n]? = some c
theorem Kj.refl {jl : Nat} (g : List Cell) : Kj jl g g := fun _ _ _ e => e
theorem Kj.trans {jl : Nat} {a b c : List Cell} (x : Kj jl a b) (y : Kj jl b c) : Kj jl a c := fun n d h e => y n d h (x n d h e)
theorem Kj.of {jl : Nat} {a b : List Cell} (x : Le a b) : Kj jl a b := fun n d _ e => x n d e
theorem Kj.set {jl : Nat} {a b : List Cell} (x : Kj jl a b) {c : Cell} : Kj jl a (b.set jl c) := fun n d h e => by
  rw [List.getElem?_set_ne (fun z => h z.symm)]; exact x n d h e
theorem ascii_tx {l : List Nat} (h : (l.all fun c => decide (c < 128)) = true) : ((tx l).cps.all fun c => decide (c < 128)) = true := by
  unfold tx
  rw [← Array.all_toList, List.toList_toArray]
  exact h
theorem alnum1 (c : Nat) : Txt.isalnum ⟨#[c]⟩ = Unicode.isAlnum c := by
  unfold Txt.isalnum
  have : (⟨#[c]⟩ : Str).length = 1 := rfl
  rw [this]; simp
theorem roleIns (r : Role) : ((["open", "bar", "in"] : List Str).any (· == roleS r)) = insOf r := by cases r <;> decide
theorem endIns_snoc (b : Bool) (l : List Sg) (p : Sg) : endIns b (l ++ [p]) = insOf p.2 := by
  unfold endIns
  rw [List.getLast?_concat]
theorem lt1 {a c : Nat} (h : (⟨#[a]⟩ : Str).cps.toList < (⟨#[c]⟩ : Str).cps.toList) : a < c := by
  have h : [a] < [c] := h
  rcases List.cons_lt_cons_iff.mp h with h | ⟨_, h⟩
  · exact h
  · exact absurd h (List.not_lt_nil _)
theorem gt1 {a c : Nat} (h : a < c) : (⟨#[a]⟩ : Str).cps.toList < (⟨#[c]⟩ : Str).cps.toList := by
  show [a] < [c]
  exact List.cons_lt_cons_iff.mpr (.inl h)
theorem signs5_len : ∀ w : List Sg, (w.flatMap signs5).length ≤ 5 * w.length
  | [] => by simp
  | p :: w => by
    have ih := signs5_len w
    rw [List.flatMap_cons, List.length_append, List.length_cons]
    have : (signs5 p).length ≤ 5 := by unfold signs5; split <;> simp
    omega
theorem safe_split (c : Nat) : safe1 c = (decide (c ≤ 127) && (Unicode.isAlnum c || decide (c ∈ marks))) := by
  by_cases h : c < 128
  · rw [safe_low c h, show decide (c ≤ 127) = true from decide_eq_true (by omega), Bool.true_and]
  · rw [safe_high (by omega), show decide (c ≤ 127) = false from decide_eq_false (by omega), Bool.false_and]
section
variable {C : Cx} {k : Nat} {F : FrD} {loc : List (Option V)} {hp : List Cell} {Φ : V → List Cell → Prop}
theorem line_turn {L j jl i m : Nat} {d : List Sg} {js : List Nat} {w : List Sg} {b : Bool} {x4 x5 x6 x7 : Option V} {g : List Cell} {Ψ : Fl → List (Option V) → List Cell → Prop}
    (ej : g[j]? = some (some (js.map V.lst))) (hi : js[i]? = some m) (ew : g[m]? = some (some (sgsV w))) (hjl : jl ≠ j ∧ jl ≠ m) (ed : g[jl]? = some (some (sgsV d))) (hz : d.length ≤ 100000 ∧ w.length ≤ 1000 ∧ i < 1000)
    (h : ∀ x4 x5 x6 x7 g', Kj jl g g' → g'[jl]? = some (some (sgsV (d ++ ((if i = 0 then [] else [(32, roleOf b)]) ++ wordLine b w)))) →
      Ψ .next [some (.lst j), some (.lst jl), some (.str (roleS (roleOf (endIns b w)))), some (.int (i : Nat)), x4, x5, x6, x7] g') :
    AExs C k (frLn C.w L) [some (.lst j), some (.lst jl), some (.str (roleS (roleOf b))), some (.int (i : Nat)), x4, x5, x6, x7] g (loopBody (bodyOf C.w 116) 2) Ψ := by
  have big : (1000000 : Nat) ≤ sizeLine := by decide
  have eidx : (js.map V.lst)[((i : Nat) : Int).toNat]? = some (.lst m) := by rw [Int.toNat_natCast, List.getElem?_map, hi]; rfl
  refine ex_mid (fun l g' => l = [some (.lst j), some (.lst jl), some (.str (roleS (roleOf b))), some (.int (i : Nat)), x4, x5, x6, x7] ∧ Kj jl g g' ∧ g'[jl]? = some (some (sgsV (d ++ (if i = 0 then [] else [(32, roleOf b)]))))) ?_ ?_
  · refine ex_if <| ts_cmp <| ev_local 3 rfl rfl <| ev_int <| c_gt_int ⟨_, rfl, fun hb => ?_, fun hb => ?_⟩
    · have hb := of_decide_eq_true hb
      refine ex_cons <| ex_expr <| ev_append <| ev_local 1 rfl rfl ⟨_, _, rfl, ed, ev_pair' <| ev_str ⟨_, rfl, ev_local 2 rfl rfl ⟨_, rfl, _, ed, by rw [sgsV_len]; omega, rfl, ex_nil ⟨rfl, fun n c hn e => ?_, ?_⟩⟩⟩⟩
      · rw [List.getElem?_set_ne (fun z => hn z.symm)]; exact e
      · rw [if_neg (by omega), at_set ed, ← sgsV_app]; rfl
    · have hb := of_decide_eq_false hb
      refine ex_nil ⟨rfl, fun _ _ _ e => e, ?_⟩
      rw [if_pos (by omega), List.append_nil]; exact ed
  rintro _ g1 ⟨rfl, k1, ed1⟩
  generalize hd1 : d ++ (if i = 0 then [] else [((32 : Nat), roleOf b)]) = d1 at ed1
  have hz1 : d1.length ≤ 100001 := by rw [← hd1, List.length_append]; split <;> simp <;> omega
  have ej1 := k1 _ _ (Ne.symm hjl.1) ej
  have ew1 := k1 _ _ (Ne.symm hjl.2) ew
  refine ex_mid (fun l g' => ∃ jr, l = [some (.lst j), some (.lst jl), some (.str (roleS (roleOf b))), some (.int (i : Nat)), some (.lst jr), x5, x6, x7] ∧ Le g1 g' ∧ g'[jr]? = some (some (((sgsV w).filter riskyV).map fstV))) ?_ ?_
  · refine ex_assign_comp 4 (compOk (F := frLn C.w L) (cl := []) [".0", "sign", "part"] rfl rfl rfl rfl rfl rfl (by decide) (by simp) rfl (fun p hp => nomatch hp))
      (items := sgsV w) (Sc := fun g => g[m]? = some (some (sgsV w))) riskyV fstV (fun lc => ∃ x y, lc = [none, x, y]) (lc0 := [none, none, none]) rfl ⟨_, _, rfl⟩ (lc0_none [".0", "sign", "part"]) (by rw [sgsV_len]; omega) rfl
      (ev_sub <| ev_local 0 rfl rfl <| ev_local 3 rfl rfl <| sub_list ej1 (by omega) (by omega) eidx ⟨src_list ew1, fun g le => le _ _ ew1, fun a v lc g' hv li le => ?_, fun g' le eg => ⟨_, rfl, le, eg⟩⟩)
    obtain ⟨x, y, rfl⟩ := li
    obtain ⟨p, hp, rfl⟩ := List.mem_map.mp hv
    obtain ⟨c, r⟩ := p
    have hr : riskyV (sgV (c, r)) = !safe1 c := rfl
    have hss := safe_split c
    refine ⟨_, ⟨_, _, rfl⟩, asg_pair 1 2 rfl rfl, tests_one <| ts_or <| ts_cmp <| ev_local 1 rfl rfl <| ev_str <| c_gt_str ⟨_, rfl, fun b1 => ⟨Le.refl _, ?_, fun _ => ev_local 1 rfl rfl ⟨Le.refl _, rfl⟩⟩, fun b1 => ?_⟩⟩
    · have b1 : 127 < c := lt1 (of_decide_eq_true b1)
      rw [hr, hss, show decide (c ≤ 127) = false from decide_eq_false (by omega)]; rfl
    · have b1 : ¬ 127 < c := fun z => of_decide_eq_false b1 (gt1 z)
      rw [show decide (c ≤ 127) = true from decide_eq_true (by omega), Bool.true_and] at hss
      refine ts_or <| ts_not <| ts_or <| ts_plain <| ev_meth "str" "str.isalnum" (ev_local 1 rfl rfl ⟨hasT_str.here, args_nil <| call_isalnum ⟨_, tr_bool, fun b2 => ?_, fun b2 => ?_⟩⟩) PySem.F.plainAttrs_str PySem.F.slot_str_isalnum PySem.F.type_str_isalnum (.inl rfl) (by rfl)
      · refine ⟨noT, fun _ => ts_or_nil ⟨Le.refl _, ?_, noT⟩⟩
        rw [alnum1] at b2
        rw [hr, hss, b2]; rfl
      · rw [alnum1] at b2
        rw [b2, Bool.false_or] at hss
        refine ts_or <| ts_cmp <| ev_local 1 rfl rfl <| ev_str <| c_in_lit (l := marks) rfl ⟨_, rfl, fun b3 => ⟨noT, fun _ => ts_or_nil ⟨Le.refl _, ?_, noT⟩⟩, fun b3 => ts_or_nil ⟨fun _ => ⟨Le.refl _, ?_, fun _ => ev_local 1 rfl rfl ⟨Le.refl _, rfl⟩⟩, noF⟩⟩
        · rw [hr, hss, b3]; rfl
        · rw [hr, hss, b3]; rfl
  rintro _ g2 ⟨jr, rfl, le2, er⟩
  have hemp := risky_empty w
  generalize ((sgsV w).filter riskyV).map fstV = rs at er hemp
  have ej2 := le2 _ _ ej1
  have ew2 := le2 _ _ ew1
  have ed2 := le2 _ _ ed1
  refine ex_mid (fun l g' => l = [some (.lst j), some (.lst jl), some (.str (roleS (roleOf b))), some (.int (i : Nat)), some (.lst jr), some (.bool (bareP w)), x6, x7] ∧ Le g2 g') ?_ ?_
  · have isE : (sgsV w).isEmpty = w.isEmpty := by unfold sgsV; rw [List.isEmpty_map]
    refine ex_assign 5 rfl <| ev_and <| ev_cmp <| ev_sub <| ev_local 0 rfl rfl <| ev_local 3 rfl rfl <| sub_list ej2 (by omega) (by omega) eidx <| ev_list <| args_nil ⟨by simp, c_ne_nil (Le.app _ _ _ _ ew2) (at_end _ _) ⟨_, tr_bool, fun b1 => ?_, fun b1 => ?_⟩⟩
    · refine ev_boolop_one <| ev_cmp <| ev_local 4 rfl rfl <| ev_list <| args_nil ⟨by simp, c_eq_nil (Le.app _ _ _ _ (Le.app _ _ _ _ er)) (at_end _ _) ⟨?_, (Le.app _ _).trans (Le.app _ _)⟩⟩
      rw [isE] at b1
      have : bareP w = rs.isEmpty := by unfold bareP; rw [b1, Bool.true_and, hemp]
      rw [this]; rfl
    · refine ⟨?_, Le.app _ _⟩
      rw [isE] at b1
      have : bareP w = (!(sgsV w).isEmpty) := by unfold bareP; rw [isE, b1, Bool.false_and]
      rw [this]; rfl
  rintro _ g3 ⟨rfl, le3⟩
  have ej3 := le3 _ _ ej2
  have ew3 := le3 _ _ ew2
  have ed3 := le3 _ _ ed2
  refine ex_mid (fun l g' => l = [some (.lst j), some (.lst jl), some (.str (roleS (roleOf b))), some (.int (i : Nat)), some (.lst jr), some (.bool (bareP w)), x6, x7] ∧ Kj jl g3 g' ∧ g'[jl]? = some (some (sgsV (d1 ++ (if bareP w then [] else [(39, roleOf b)]))))) ?_ ?_
  · refine ex_if <| ts_not <| ts_plain <| ev_local 5 rfl rfl ⟨_, tr_bool, fun b1 => ?_, fun b1 => ?_⟩
    · have hb : bareP w = false := by simpa using b1
      refine ex_cons <| ex_expr <| ev_append <| ev_local 1 rfl rfl ⟨_, _, rfl, ed3, ev_pair' <| ev_str ⟨_, rfl, ev_local 2 rfl rfl ⟨_, rfl, _, ed3, by rw [sgsV_len]; omega, rfl, ex_nil ⟨rfl, (Kj.refl _).set, ?_⟩⟩⟩⟩
      rw [hb, at_set ed3, ← sgsV_app]; rfl
    · have hb : bareP w = true := by simpa using b1
      refine ex_nil ⟨rfl, Kj.refl _, ?_⟩
      rw [hb, if_pos rfl, List.append_nil]; exact ed3
  rintro _ g4 ⟨rfl, k4, ed4⟩
  generalize hd2 : d1 ++ (if bareP w then [] else [((39 : Nat), roleOf b)]) = d2 at ed4
  have hz2 : d2.length ≤ 100002 := by rw [← hd2, List.length_append]; split <;> simp <;> omega
  have ew4 := k4 _ _ (Ne.symm hjl.2) ew3
  have ej4 := k4 _ _ (Ne.symm hjl.1) ej3
  refine ex_mid (fun l g' => ∃ x6 x7, l = [some (.lst j), some (.lst jl), some (.str (roleS (roleOf (endIns b w)))), some (.int (i : Nat)), some (.lst jr), some (.bool (bareP w)), x6, x7] ∧ Kj jl g4 g' ∧ g'[jl]? = some (some (sgsV (d2 ++ w.flatMap signs5)))) ?_ ?_
  · refine ex_for (items := sgsV w) (Sc := fun g => g[m]? = some (some (sgsV w))) (fun q l g' => ∃ y6 y7, l = [some (.lst j), some (.lst jl), some (.str (roleS (roleOf (endIns b (w.take q))))), some (.int (i : Nat)), some (.lst jr), some (.bool (bareP w)), y6, y7] ∧ Kj jl g4 g' ∧ g'[jl]? = some (some (sgsV (d2 ++ (w.take q).flatMap signs5))))
      (ev_sub <| ev_local 0 rfl rfl <| ev_local 3 rfl rfl <| sub_list ej4 (by omega) (by omega) eidx ⟨src_list ew4, ?_⟩) (fun q l g' inv => ?_) (fun q v l g' hq inv => ?_) (fun l g' inv => ?_)
    · exact ⟨x6, x7, rfl, Kj.refl _, by rw [ed4]; simp⟩
    · obtain ⟨y6, y7, _, kk, _⟩ := inv
      exact kk _ _ (Ne.symm hjl.2) ew4
    · obtain ⟨y6, y7, rfl, kk, edq⟩ := inv
      obtain ⟨p, hp1, rfl⟩ := sgsV_get hq
      have tk : w.take (q + 1) = w.take q ++ [p] := by rw [List.take_add_one, hp1]; rfl
      have hl5 := signs5_len (w.take q)
      have hlq : (w.take q).length ≤ w.length := by rw [List.length_take]; omega
      refine ⟨_, asg_pair 6 7 rfl rfl noCell (ownP C.w L), ?_⟩
      refine ex_mid (fun l g'' => l = [some (.lst j), some (.lst jl), some (.str (roleS (roleOf (endIns b (w.take q))))), some (.int (i : Nat)), some (.lst jr), some (.bool (bareP w)), some (.str ⟨#[p.1]⟩), some (.str (roleS p.2))] ∧ Kj jl g4 g'' ∧ g''[jl]? = some (some (sgsV (d2 ++ (w.take (q + 1)).flatMap signs5)))) ?_ ?_
      · have efl : (w.take (q + 1)).flatMap signs5 = (w.take q).flatMap signs5 ++ signs5 p := by rw [tk, List.flatMap_append]; simp
        rw [efl, ← List.append_assoc]
        generalize hd3 : d2 ++ (w.take q).flatMap signs5 = d3 at edq
        have hz3 : d3.length ≤ 200000 := by rw [← hd3, List.length_append]; omega
        refine ex_if <| ts_name_eq 6 rfl rfl (decide (p.1 = 39)) (eq1 p.1 39) ⟨fun b1 => ?_, fun b1 => ?_⟩
        · have e5 : signs5 p = [39, 34, 39, 34, 39].map fun c => (c, p.2) := if_pos (of_decide_eq_true b1)
          refine ex_cons <| ex_expr <| ev_extend <| ev_local 1 rfl rfl ⟨_, _, rfl, edq, ?_⟩
          refine ev_comp (compOk (F := frLn C.w L) (cl := [("part", L + 1)]) [".0", "mark"] rfl rfl rfl rfl rfl rfl (show ([".0", "mark", "part"] : List Str).Nodup by decide) (by simp) rfl (fun p hp => by
            rw [List.mem_singleton.mp hp]; exact ⟨rfl, rfl, 7, rfl⟩)) (items := signsV (tx [39, 34, 39, 34, 39])) (Sc := fun _ => True) (fun _ => true) (withRole (roleS p.2)) (fun lc => ∃ x, lc = [none, x, some (.str (roleS p.2))]) (lc0 := [none, none, some (.str (roleS p.2))]) ⟨_, rfl⟩
            (lc0_one [".0", "mark"] (frLn_ok C.w L) 7 rfl rfl) (by rw [signsV_tx]; decide) ?_
          refine ev_str ⟨src_str (x := tx [39, 34, 39, 34, 39]) (ascii_tx (by decide)), fun _ _ => trivial, fun a u lc g'' hu li le => ?_, fun g'' le eg => ?_⟩
          · obtain ⟨x, rfl⟩ := li
            rw [signsV_tx] at hu
            obtain ⟨c, hc, rfl⟩ := List.mem_map.mp hu
            exact ⟨_, ⟨_, rfl⟩, asg_name 1 rfl, tests_nil ⟨Le.refl _, rfl, fun _ => ev_pair' (ev_local 1 rfl rfl ⟨_, rfl, ev_local 2 rfl rfl ⟨_, rfl, Le.refl _, rfl⟩⟩)⟩⟩
          · have e6 : ((signsV (tx [39, 34, 39, 34, 39])).filter fun _ => true).map (withRole (roleS p.2)) = sgsV (signs5 p) := by
              rw [List.filter_eq_self.mpr fun _ _ => rfl, signsV_tx, e5]
              rfl
            rw [e6] at eg
            refine ⟨_, _, _, rfl, le _ _ edq, eg, ?_, rfl, ex_nil ⟨rfl, (kk.trans (Kj.of le)).set, ?_⟩⟩
            · rw [sgsV_len, sgsV_len, e5]; simp; omega
            · rw [at_set (le _ _ edq), sgsV_app]
        · have e5 : signs5 p = [p] := if_neg (of_decide_eq_false b1)
          refine ex_cons <| ex_expr <| ev_append <| ev_local 1 rfl rfl ⟨_, _, rfl, edq, ev_pair' <| ev_local 6 rfl rfl ⟨_, rfl, ev_local 7 rfl rfl ⟨_, rfl, _, edq, by rw [sgsV_len]; omega, rfl, ex_nil ⟨rfl, kk.set, ?_⟩⟩⟩⟩
          rw [at_set edq, e5, ← sgsV_app]; rfl
      rintro _ g'' ⟨rfl, kk2, edq2⟩
      refine ex_cons <| ex_assign 2 rfl <| ev_ifexp <| ts_cmp <| ev_local 7 rfl rfl <| ev_list <| args_cons <| ev_str <| args_cons <| ev_str <| args_cons <| ev_str <| args_nil ⟨by simp [sizeLine], c_in_strs (ys := ["open", "bar", "in"]) (at_end _ _) ⟨_, rfl, fun b1 => ?_, fun b1 => ?_⟩⟩
      all_goals rw [roleIns] at b1
      · refine ev_str <| ex_nil ⟨some (.str ⟨#[p.1]⟩), some (.str (roleS p.2)), ?_, kk2.trans (Kj.of (Le.app _ _)), Le.app _ _ _ _ edq2⟩
        rw [tk, endIns_snoc, b1]; rfl
      · refine ev_str <| ex_nil ⟨some (.str ⟨#[p.1]⟩), some (.str (roleS p.2)), ?_, kk2.trans (Kj.of (Le.app _ _)), Le.app _ _ _ _ edq2⟩
        rw [tk, endIns_snoc, b1]; rfl
    · obtain ⟨y6, y7, rfl, kk, edq⟩ := inv
      rw [sgsV_len, List.take_length] at edq ⊢
      exact ⟨y6, y7, rfl, kk, edq⟩
  rintro _ g5 ⟨y6, y7, rfl, k5, ed5⟩
  have hfl : (w.flatMap signs5).length ≤ 5 * w.length := signs5_len w
  have kall : Kj jl g g5 := (((k1.trans (Kj.of le2)).trans (Kj.of le3)).trans k4).trans k5
  have hwl : wordLine b w = (if bareP w then [] else [(39, roleOf b)]) ++ w.flatMap signs5 ++ (if bareP w then [] else [(39, roleOf (endIns b w))]) := rfl
  refine ex_cons <| ex_if <| ts_not <| ts_plain <| ev_local 5 rfl rfl ⟨_, tr_bool, fun b1 => ?_, fun b1 => ?_⟩
  · have hb : bareP w = false := by simpa using b1
    refine ex_cons <| ex_expr <| ev_append <| ev_local 1 rfl rfl ⟨_, _, rfl, ed5, ev_pair' <| ev_str ⟨_, rfl, ev_local 2 rfl rfl ⟨_, rfl, _, ed5, by rw [sgsV_len, List.length_append]; omega, rfl, ex_nil <| ex_nil ?_⟩⟩⟩
    refine h _ _ _ _ _ kall.set ?_
    rw [at_set ed5, hwl, hb]
    rw [hb] at hd2
    rw [show [V.pair "'" (roleS (roleOf (endIns b w)))] = sgsV [(39, roleOf (endIns b w))] from rfl, sgsV_app, ← hd2, ← hd1]
    simp
  · have hb : bareP w = true := by simpa using b1
    refine ex_nil <| ex_nil ?_
    refine h _ _ _ _ _ kall ?_
    rw [ed5, hwl, hb]
    rw [hb] at hd2
    rw [← hd2, ← hd1]
    simp
end
end Mine
end

section
open PySem PySem.W PyProof.Rows PySem.Calls StrLaws
set_option maxHeartbeats 4000000
namespace Mine
section
variable {C : Cx} {k : Nat} {F : FrD} {loc : List (Option V)} {hp : List Cell} {Φ : V → List Cell → Prop}
theorem w_line {j : Nat} {ws : List (List Sg)} (hk : k < 80) (W : WordsAt hp j ws) (hz : total ws ≤ 1000 ∧ ws.length ≤ 100 ∧ (lineP ws).length ≤ 100000) (h : ∀ n g, Le hp g → g[n]? = some (some (sgsV (lineP ws))) → Φ (.lst n) g) : ACall C k hp (.ref 116) [.lst j] Φ := by
  have big : (1000000 : Nat) ≤ sizeLine := by decide
  obtain ⟨js, ej, each⟩ := W
  have hlen : js.length = ws.length := F2.length' each
  have hjlt : j < hp.length := (List.getElem?_eq_some_iff.mp ej).1
  refine enter (d_line C.w) (by omega) rfl fun L => ?_
  refine ex_cons <| ex_assign 1 rfl <| ev_list <| args_nil ⟨by simp, ?_⟩
  refine ex_cons <| ex_assign 2 rfl <| ev_str ?_
  refine ex_cons <| ex_for (items := uptoV ws.length) (Sc := fun _ => True) (fun i l g => ∃ b d x3 x4 x5 x6 x7, l = [some (.lst j), some (.lst hp.length), some (.str (roleS (roleOf b))), x3, x4, x5, x6, x7] ∧ Le hp g ∧ g[hp.length]? = some (some (sgsV d)) ∧ d ++ lineGo b (decide (i = 0)) (ws.drop i) = lineP ws)
    (ev_call_ty (T := "range") <| ev_builtin rfl (C.mgN (by rfl)) (C.mbK (by decide) boot_range) ⟨rfl, args_cons <| ev_call_bi <| ev_builtin rfl (C.mgN (by rfl)) (C.mbK (by decide) boot_len) ⟨rfl, args_cons <| ev_local 0 rfl rfl <| args_nil <| call_len_lst (Le.app _ _ _ _ ej) (by rw [List.length_map]; omega) <| args_nil <| call_rng ?_⟩⟩)
    (fun _ _ _ _ => trivial) (fun i v l g hi inv => ?_) (fun l g inv => ?_)
  · rw [List.length_map, hlen]
    exact ⟨src_rng (by omega), false, [], none, none, none, none, none, rfl, Le.app _ _, at_end _ _, rfl⟩
  · obtain ⟨b, d, x3, x4, x5, x6, x7, rfl, le, ed, hd⟩ := inv
    rw [uptoV_get] at hi
    split at hi
    case isFalse => cases hi
    rename_i hilt
    cases hi
    have hw : ws[i]? = some ws[i] := List.getElem?_eq_getElem hilt
    have hjs : js[i]? = some (js[i]'(by omega)) := List.getElem?_eq_getElem _
    obtain ⟨w, hw', ew⟩ := F2.get each hjs
    generalize js[i]'(by omega) = m at hjs ew
    have hdr : ws.drop i = w :: ws.drop (i + 1) := by
      rw [List.drop_eq_getElem_cons hilt]
      rw [hw] at hw'; cases hw'; rfl
    have hwl : w.length ≤ 1000 := Nat.le_trans (mem_total (List.mem_of_getElem? hw')) hz.1
    have hdl : d.length ≤ 100000 := by have := congrArg List.length hd; rw [List.length_append] at this; omega
    have hm : m < hp.length := (List.getElem?_eq_some_iff.mp ew).1
    refine ⟨_, asg_name 3 rfl, ?_⟩
    refine line_turn (le _ _ ej) hjs (le _ _ ew) ⟨by omega, by omega⟩ ed ⟨hdl, hwl, by omega⟩ fun y4 y5 y6 y7 g' kk ed' => ?_
    refine ⟨endIns b w, _, some (.int (i : Nat)), y4, y5, y6, y7, rfl, fun n c e => kk n c (by have := (List.getElem?_eq_some_iff.mp e).1; omega) (le n c e), ed', ?_⟩
    rw [hdr] at hd
    rw [← hd]
    show d ++ (_ ++ wordLine b w) ++ lineGo (endIns b w) false (ws.drop (i + 1)) = d ++ ((if decide (i = 0) = true then [] else [(32, roleOf b)]) ++ wordLine b w ++ lineGo (endIns b w) false (ws.drop (i + 1)))
    simp
  · obtain ⟨b, d, x3, x4, x5, x6, x7, rfl, le, ed, hd⟩ := inv
    have hl : (uptoV ws.length).length = ws.length := by unfold uptoV; simp
    rw [hl, List.drop_length] at hd
    have : d = lineP ws := by rw [← hd]; simp [lineGo]
    subst this
    exact ex_cons <| ex_return <| ev_local 1 rfl rfl ⟨_, rfl, h _ _ le ed⟩
end
end Mine
end

section
open PySem PySem.W PyProof.Rows PySem.Calls StrLaws
set_option maxHeartbeats 4000000
namespace Mine
noncomputable def strsV (ps : List (List Nat)) : List V := ps.map fun p => V.str (tx p)
theorem strsV_len (l : List (List Nat)) : (strsV l).length = l.length := List.length_map ..
theorem strsV_app (l m : List (List Nat)) : strsV l ++ strsV m = strsV (l ++ m) := (List.map_append ..).symm
noncomputable def pvV (s : V) : Po → V
  | none => s
  | some x => .str (tx x)
noncomputable def pvsV (s : V) (l : List Po) : List V := l.map (pvV s)
theorem pvsV_get {s : V} {l : List Po} {i : Nat} {o : Po} (h : l[i]? = some o) : (pvsV s l)[((i : Nat) : Int).toNat]? = some (pvV s o) := by
  unfold pvsV
  rw [Int.toNat_natCast, List.getElem?_map, h]; rfl
noncomputable def isObjV : V → Bool
  | .obj _ => true
  | _ => false
theorem pvV_obj (q : Nat) (o : Po) : pvV (.obj q) o = .obj q ∨ ∃ x, pvV (.obj q) o = .str x := by
  cases o with
  | none => exact .inl rfl
  | some x => exact .inr ⟨_, rfl⟩
section
variable {C : Cx} {k : Nat} {F : FrD} {loc : List (Option V)} {hp : List Cell} {Φ : V → List Cell → Prop}
theorem ev_add (i : Nat) {x : Str} {c : Option Addr} {np pos : Pos} {e : Expr} {n : Nat} (hi : F.names[i]? = some (x, c)) (hv : loc[i]? = some (some (.bound "list.append" n)))
    (h : AEv C k F loc hp e fun w hp2 => ∃ vs, hp2[n]? = some (some vs) ∧ vs.length ≤ sizeLine ∧ Φ .none (hp2.set n (some (vs ++ [w]))))
    (hs : starEach [e] F.env = (false, eval e F.env) :: starEach [] F.env := by rfl) (hp' : ((backTo pos (starEach [] F.env)).any fun x => x.fst) = false := by rfl)
    (hc : eval ((Expr.Name x np).Call [e] [] pos) F.env = (do let f ← eval (.Name x np) F.env; callWith pos f [] (backTo pos (starEach [e] F.env)) (backToKw pos (keywordEach [] F.env))) := by rfl)
    (hd : (x == ("__debug__" : Str)) = false := by decide) : AEv C k F loc hp (.Call (.Name x np) [e] [] pos) Φ :=
  ev_call_bd (ev_local i hi hv ⟨isBd_bound, args_cons (h.mono fun w hp2 ⟨vs, e1, hz, p⟩ => args_nil (callV_append e1 hz p)) hs⟩ hd) hs hp' hc
theorem op_iaddN {a b : Nat} (h : Φ (.int ((a + b : Nat) : Int)) hp) : AT2 C k hp (.int (a : Nat)) (.int (b : Nat)) (inplaceOp .Add) Φ := op_iadd h
theorem c_is_po {q : Nat} {o : Po} (h : Φ (.bool (decide (o = none))) hp) : AT2 C k hp (pvV (.obj q) o) (.obj q) (compareOp .Is) Φ := c_is_obj (pvV_obj q o) (by cases o <;> exact h)
theorem c_isnot_po {q : Nat} {o : Po} (h : Φ (.bool (!decide (o = none))) hp) : AT2 C k hp (pvV (.obj q) o) (.obj q) (compareOp .IsNot) Φ := c_isnot_obj (pvV_obj q o) (by cases o <;> exact h)

theorem w_jtp {n q : Nat} {l : List Po} (hk : k < 80) (e : hp[n]? = some (some (pvsV (.obj q) l))) (hlo : lone l) (hl : l.length ≤ 100000) (hz : (textP l).length ≤ 1000000) (h : ∀ g, Le hp g → Φ (.str (tx (textP l))) g) : ACall C k hp (.ref 69) [.lst n, .obj q] Φ := by
  have big : (10000000 : Nat) ≤ sizeLine := by decide
  have hlen : (pvsV (.obj q) l).length = l.length := List.length_map ..
  have hzt : (textGo false l).length ≤ 1000000 := by
    have : textP l = [40, 63, 115, 58] ++ textGo false l ++ [41, 92, 90] := rfl
    rw [this, List.length_append, List.length_append] at hz
    omega
  refine enter (d_jtp C.w) (by omega) rfl fun L => ?_
  refine ex_cons <| ex_assign 2 rfl <| ev_list <| args_nil ⟨by simp, ?_⟩
  refine ex_cons <| ex_assign 3 rfl <| ev_attr_append 2 rfl rfl (at_end _ _) ?_
  refine ex_cons <| ex_assign2 4 5 rfl rfl (args_cons <| ev_int <| args_cons <| ev_call_bi <| ev_builtin rfl (C.mgN (by rfl)) (C.mbK (by decide) boot_len) ⟨rfl, args_cons <| ev_local 0 rfl rfl <| args_nil <| call_len_lst (Le.app _ _ _ _ e) (by omega) <| args_nil ⟨_, _, rfl, ?_⟩⟩) (by rfl)
  rw [hlen]
  refine ex_mid (fun l' g => ∃ i fs, l' = [some (.lst n), some (.obj q), some (.lst hp.length), some (.bound "list.append" hp.length), some (.int (i : Nat)), some (.int (l.length : Nat)), none] ∧ Le hp g ∧ g[hp.length]? = some (some (strsV fs)) ∧ fs.map some ++ l.drop i = l ∧ i ≤ l.length ∧ fs.length ≤ 2 * i ∧ (l.drop i = [] ∨ (l.drop i).head? = some none)) ?_ ?_
  · refine ex_while (fun m l' g => ∃ i fs, l' = [some (.lst n), some (.obj q), some (.lst hp.length), some (.bound "list.append" hp.length), some (.int (i : Nat)), some (.int (l.length : Nat)), none] ∧ Le hp g ∧ g[hp.length]? = some (some (strsV fs)) ∧ fs.map some ++ l.drop i = l ∧ i ≤ l.length ∧ fs.length ≤ 2 * i ∧ m = l.length - i) (l.length - 0) ⟨0, [], rfl, Le.app _ _, at_end _ _, rfl, Nat.zero_le _, Nat.zero_le _, rfl⟩ fun m l' g inv => ?_
    obtain ⟨i, fs, rfl, le, er, hfs, hi, hb, rfl⟩ := inv
    refine ts_and <| ts_cmp <| ev_local 4 rfl rfl <| ev_local 5 rfl rfl <| c_lt_int ⟨_, rfl, fun b1 => ?_, fun b1 => ?_⟩
    · have b1 : i < l.length := by have := of_decide_eq_true b1; omega
      have ho : l[i]? = some l[i] := List.getElem?_eq_getElem b1
      generalize l[i] = o at ho
      have hdr : l.drop i = o :: l.drop (i + 1) := by rw [List.drop_eq_getElem_cons b1]; rw [List.getElem?_eq_getElem b1] at ho; cases ho; rfl
      refine ts_and <| ts_cmp <| ev_sub <| ev_local 0 rfl rfl <| ev_local 4 rfl rfl <| sub_list (le _ _ e) (by omega) (by omega) (pvsV_get ho) <| ev_local 1 rfl rfl <| c_isnot_po ⟨_, rfl, fun b2 => ts_and_nil ⟨fun _ => ?_, noF⟩, fun b2 => ⟨noT, fun _ => ?_⟩⟩
      · cases o with
        | none => cases b2
        | some x =>
          refine ex_cons <| ex_expr <| ev_add 3 rfl rfl <| ev_sub <| ev_local 0 rfl rfl <| ev_local 4 rfl rfl <| sub_list (le _ _ e) (by omega) (by omega) (pvsV_get ho) ⟨_, er, by rw [strsV_len]; omega, rfl, ?_⟩
          refine ex_cons <| ex_aug 4 rfl rfl <| ev_int <| op_iaddN (b := 1) <| ex_nil ⟨_, ?_, i + 1, fs ++ [x], rfl, Le.set le (Nat.le_refl _), ?_, ?_, b1, ?_, rfl⟩
          · omega
          · rw [at_set er, ← strsV_app]; rfl
          · rw [hdr] at hfs
            rw [List.map_append]
            simpa using hfs
          · rw [List.length_append]; simp; omega
      · have b2 : o = none := by simpa using b2
        refine ⟨i, fs, rfl, le, er, hfs, hi, hb, .inr ?_⟩
        rw [hdr, b2]; rfl
    · have b1 : ¬ i < l.length := by have := of_decide_eq_false b1; omega
      refine ⟨noT, fun _ => ⟨i, fs, rfl, le, er, hfs, hi, hb, .inl ?_⟩⟩
      exact List.drop_eq_nil_of_le (by omega)
  rintro _ g1 ⟨i0, fs0, rfl, le1, er1, hfs0, hi0, hb0, hhd0⟩
  have hT0 : fs0.flatten ++ tailT (l.drop i0) = textGo false l := by
    rw [← textGo_false_star _ hhd0, ← textGo_somes, hfs0]
  refine ex_mid (fun l' g => ∃ fs x6, l' = [some (.lst n), some (.obj q), some (.lst hp.length), some (.bound "list.append" hp.length), some (.int (l.length : Nat)), some (.int (l.length : Nat)), x6] ∧ Le hp g ∧ g[hp.length]? = some (some (strsV fs)) ∧ fs.flatten = textGo false l) ?_ ?_
  · refine ex_while (fun m l' g => ∃ i fs x6, l' = [some (.lst n), some (.obj q), some (.lst hp.length), some (.bound "list.append" hp.length), some (.int (i : Nat)), some (.int (l.length : Nat)), x6] ∧ Le hp g ∧ g[hp.length]? = some (some (strsV fs)) ∧ fs.flatten ++ tailT (l.drop i) = textGo false l ∧ i ≤ l.length ∧ fs.length ≤ 2 * i ∧ (l.drop i = [] ∨ (l.drop i).head? = some none) ∧ m = l.length - i) (l.length - i0) ⟨i0, fs0, none, rfl, le1, er1, hT0, hi0, hb0, hhd0, rfl⟩ fun m l' g inv => ?_
    obtain ⟨i, fs, x6, rfl, le, er, hT, hi, hb, hhd, rfl⟩ := inv
    refine ts_cmp <| ev_local 4 rfl rfl <| ev_local 5 rfl rfl <| c_lt_int ⟨_, rfl, fun b1 => ?_, fun b1 => ?_⟩
    · have b1 : i < l.length := by have := of_decide_eq_true b1; omega
      have hdr : l.drop i = l[i] :: l.drop (i + 1) := List.drop_eq_getElem_cons b1
      have hnone : l[i] = none := by
        rcases hhd with z | z
        · rw [hdr] at z; cases z
        · rw [hdr] at z; exact Option.some.inj z
      rw [hnone] at hdr
      have ho : l[i]? = some none := by rw [List.getElem?_eq_getElem b1, hnone]
      refine ex_cons <| ex_assert <| ts_cmp <| ev_sub <| ev_local 0 rfl rfl <| ev_local 4 rfl rfl <| sub_list (le _ _ e) (by omega) (by omega) (pvsV_get ho) <| ev_local 1 rfl rfl <| c_is_po ⟨_, rfl, rfl, ?_⟩
      refine ex_cons <| ex_aug 4 rfl rfl <| ev_int <| op_iaddN (b := 1) ?_
      rw [hdr] at hT
      refine ex_cons <| ex_if <| ts_cmp <| ev_local 4 rfl rfl <| ev_local 5 rfl rfl <| c_eq_int ⟨_, rfl, fun b2 => ?_, fun b2 => ?_⟩
      · have b2 : i + 1 = l.length := by have := eq_of_beq b2; omega
        refine ex_cons <| ex_expr <| ev_add 3 rfl rfl <| ev_str ⟨_, er, by rw [strsV_len]; omega, rfl, ?_⟩
        refine ex_cons <| ex_break ⟨fs ++ [[46, 42]], x6, by rw [← b2]; rfl, Le.set le (Nat.le_refl _), ?_, ?_⟩
        · rw [at_set er, ← strsV_app]; rfl
        · rw [← hT, List.drop_eq_nil_of_le (by omega : l.length ≤ i + 1)]
          have : tailT (none :: ([] : List (List Nat)).map some) = _ := tailT_end []
          simp only [List.map_nil] at this
          rw [this]
          simp
      · have b2 : i + 1 < l.length := by
          have : ¬ ((i + 1 : Nat) : Int) = (l.length : Int) := by simpa using b2
          omega
        have ho2 : l[i + 1]? = some l[i + 1] := List.getElem?_eq_getElem b2
        have hno2 := lone_at hlo ho
        generalize l[i + 1] = o2 at ho2
        refine ex_nil <| ex_cons <| ex_assert <| ts_cmp <| ev_sub <| ev_local 0 rfl rfl <| ev_local 4 rfl rfl <| sub_list (le _ _ e) (by omega) (by omega) (pvsV_get ho2) <| ev_local 1 rfl rfl <| c_isnot_po ⟨_, rfl, ?_, ?_⟩
        · cases o2 with
          | none => exact absurd ho2 hno2
          | some x => rfl
        refine ex_cons <| ex_assign 6 rfl <| ev_list <| args_nil ⟨by simp, ?_⟩
        have hgl : hp.length < g.length := (List.getElem?_eq_some_iff.mp er).1
        refine ex_mid (fun l' g' => ∃ fx, l' = [some (.lst n), some (.obj q), some (.lst hp.length), some (.bound "list.append" hp.length), some (.int (i + 1 + fx.length : Nat)), some (.int (l.length : Nat)), some (.lst g.length)] ∧ Le hp g' ∧ g'[hp.length]? = some (some (strsV fs)) ∧ g'[g.length]? = some (some (strsV fx)) ∧ fx.map some ++ l.drop (i + 1 + fx.length) = l.drop (i + 1) ∧ i + 1 + fx.length ≤ l.length ∧ (l.drop (i + 1 + fx.length) = [] ∨ (l.drop (i + 1 + fx.length)).head? = some none)) ?_ ?_
        · refine ex_while (fun m l' g' => ∃ fx, l' = [some (.lst n), some (.obj q), some (.lst hp.length), some (.bound "list.append" hp.length), some (.int (i + 1 + fx.length : Nat)), some (.int (l.length : Nat)), some (.lst g.length)] ∧ Le hp g' ∧ g'[hp.length]? = some (some (strsV fs)) ∧ g'[g.length]? = some (some (strsV fx)) ∧ fx.map some ++ l.drop (i + 1 + fx.length) = l.drop (i + 1) ∧ i + 1 + fx.length ≤ l.length ∧ m = l.length - fx.length) (l.length - 0) ⟨[], rfl, le.trans (Le.app _ _), Le.app _ _ _ _ er, at_end _ _, rfl, Nat.le_of_lt b2, rfl⟩ fun m l' g' inv => ?_
          obtain ⟨fx, rfl, le', er', ex', hfx, hi', rfl⟩ := inv
          refine ts_and <| ts_cmp <| ev_local 4 rfl rfl <| ev_local 5 rfl rfl <| c_lt_int ⟨_, rfl, fun b3 => ?_, fun b3 => ?_⟩
          · have b3 : i + 1 + fx.length < l.length := by have := of_decide_eq_true b3; omega
            have ho : l[i + 1 + fx.length]? = some l[i + 1 + fx.length] := List.getElem?_eq_getElem b3
            have hdr3 : l.drop (i + 1 + fx.length) = l[i + 1 + fx.length] :: l.drop (i + 1 + fx.length + 1) := List.drop_eq_getElem_cons b3
            generalize l[i + 1 + fx.length] = o at ho hdr3
            refine ts_and <| ts_cmp <| ev_sub <| ev_local 0 rfl rfl <| ev_local 4 rfl rfl <| sub_list (le' _ _ e) (by omega) (by omega) (pvsV_get ho) <| ev_local 1 rfl rfl <| c_isnot_po ⟨_, rfl, fun b4 => ts_and_nil ⟨fun _ => ?_, noF⟩, fun b4 => ⟨noT, fun _ => ?_⟩⟩
            · cases o with
              | none => cases b4
              | some x =>
                refine ex_cons <| ex_expr <| ev_append <| ev_local 6 rfl rfl ⟨_, _, rfl, ex', ev_sub <| ev_local 0 rfl rfl <| ev_local 4 rfl rfl <| sub_list (le' _ _ e) (by omega) (by omega) (pvsV_get ho) ⟨_, ex', by rw [strsV_len]; omega, rfl, ?_⟩⟩
                refine ex_cons <| ex_aug 4 rfl rfl <| ev_int <| op_iaddN (b := 1) <| ex_nil ⟨_, ?_, fx ++ [x], ?_, Le.set le' (by omega), ?_, ?_, ?_, ?_, rfl⟩
                · rw [List.length_append]; simp; omega
                · have : i + 1 + (fx ++ [x]).length = i + 1 + fx.length + 1 := by rw [List.length_append]; rfl
                  rw [this]; rfl
                · exact at_set_ne (by omega) er'
                · rw [at_set ex', ← strsV_app]; rfl
                · rw [hdr3] at hfx
                  have : i + 1 + (fx ++ [x]).length = i + 1 + fx.length + 1 := by rw [List.length_append]; rfl
                  rw [this, List.map_append]
                  simpa using hfx
                · rw [List.length_append]; simp; omega
            · have b4 : o = none := by simpa using b4
              refine ⟨fx, rfl, le', er', ex', hfx, hi', .inr ?_⟩
              rw [hdr3, b4]; rfl
          · have b3 : ¬ i + 1 + fx.length < l.length := by have := of_decide_eq_false b3; omega
            exact ⟨noT, fun _ => ⟨fx, rfl, le', er', ex', hfx, hi', .inl (List.drop_eq_nil_of_le (by omega))⟩⟩
        rintro _ g3 ⟨fx, rfl, le3, er3, ex3, hfx, hi3, hhd3⟩
        have hfxl : fx.flatten.length ≤ 1000000 := by
          have h1 : textGo false l = fs.flatten ++ tailT (none :: l.drop (i + 1)) := hT.symm
          rw [← hfx] at h1
          have h2 := congrArg List.length h1
          rw [List.length_append] at h2
          have h3 : fx.flatten.length ≤ (tailT (none :: (fx.map some ++ l.drop (i + 1 + fx.length)))).length := by
            show _ ≤ (starT _ ++ textGo true _).length
            rw [textGo_somes, List.length_append, List.length_append]; omega
          omega
        refine ex_cons <| ex_assign 6 rfl <| ev_join <| ev_local 6 rfl rfl ⟨_, fx, rfl, ex3, by omega, ?_⟩
        refine ex_cons <| ex_if <| ts_cmp <| ev_local 4 rfl rfl <| ev_local 5 rfl rfl <| c_eq_int ⟨_, rfl, fun b5 => ?_, fun b5 => ?_⟩
        · have b5 : i + 1 + fx.length = l.length := by have := eq_of_beq b5; omega
          have hnil : l.drop (i + 1 + fx.length) = [] := List.drop_eq_nil_of_le (by omega)
          refine ex_cons <| ex_expr <| ev_add 3 rfl rfl <| ev_str ⟨_, er3, by rw [strsV_len]; omega, rfl, ?_⟩
          refine ex_cons <| ex_expr <| ev_add 3 rfl rfl <| ev_local 6 rfl rfl ⟨_, at_set er3, by rw [List.length_append, strsV_len]; simp; omega, rfl, ex_nil <| ex_nil ⟨_, ?_, i + 1 + fx.length, fs ++ [[46, 42]] ++ [fx.flatten], some (.str (tx fx.flatten)), rfl, Le.set (Le.set le3 (Nat.le_refl _)) (Nat.le_refl _), ?_, ?_, hi3, ?_, .inl hnil, rfl⟩⟩
          · omega
          · rw [at_set (at_set er3), ← strsV_app, ← strsV_app]; rfl
          · rw [hnil, ← hT, ← hfx, hnil, List.append_nil, tailT_end]
            simp [tailT]
          · rw [List.length_append, List.length_append]; simp; omega
        · have b5 : i + 1 + fx.length < l.length := by
            have : ¬ ((i + 1 + fx.length : Nat) : Int) = (l.length : Int) := by simpa using b5
            omega
          have hdr5 : l.drop (i + 1 + fx.length) = none :: l.drop (i + 1 + fx.length + 1) := by
            have h1 : l.drop (i + 1 + fx.length) = l[i + 1 + fx.length] :: l.drop (i + 1 + fx.length + 1) := List.drop_eq_getElem_cons b5
            rw [h1] at hhd3
            rcases hhd3 with z | z
            · cases z
            · rw [h1, Option.some.inj z]
          refine ex_cons <| ex_expr <| ev_add 3 rfl rfl <| ev_fstr <| fs_cons <| ev_str ⟨_, rfl, ?_, fs_cons <| ev_fmt <| ev_local 6 rfl rfl ⟨_, rfl, ?_, _, rfl, ?_, fs_cons <| ev_str ⟨_, rfl, ?_, fs_nil ?_ ⟨_, er3, by rw [strsV_len]; omega, rfl, ex_nil <| ex_nil ⟨_, ?_, i + 1 + fx.length, fs ++ [[40, 63, 62, 46, 42, 63] ++ fx.flatten ++ [41]], some (.str (tx fx.flatten)), rfl, Le.set le3 (Nat.le_refl _), ?_, ?_, hi3, ?_, hhd3, rfl⟩⟩⟩⟩⟩
          · decide
          · rw [tx_len]; omega
          · rw [Str.length_append, Str.length_append, tx_len]
            show 0 + 6 + _ ≤ _
            omega
          · rw [Str.length_append, Str.length_append, Str.length_append, tx_len]
            show 0 + 6 + _ + 1 ≤ _
            omega
          · rw [Str.length_append, Str.length_append, Str.length_append, tx_len]
            show 0 + 6 + _ + 1 ≤ _
            omega
          · omega
          · rw [at_set er3, ← strsV_app]
            have : Str.empty ++ Str.ofString "(?>.*?" ++ tx fx.flatten ++ Str.ofString ")" = tx ([40, 63, 62, 46, 42, 63] ++ fx.flatten ++ [41]) := by
              rw [← tx_cat, ← tx_cat]; rfl
            rw [this]; rfl
          · rw [← hT, ← hfx, hdr5, tailT_more]
            simp
          · rw [List.length_append]; simp; omega
    · have b1 : ¬ i < l.length := by have := of_decide_eq_false b1; omega
      have hil : i = l.length := by omega
      subst hil
      refine ⟨fs, x6, rfl, le, er, ?_⟩
      rw [← hT, List.drop_length]
      simp [tailT]
  rintro _ g2 ⟨fs, x6, rfl, le2, er2, hfl⟩
  refine ex_cons <| ex_assert <| ts_cmp <| ev_local 4 rfl rfl <| ev_local 5 rfl rfl <| c_eq_int ⟨_, rfl, by simp, ?_⟩
  refine ex_cons <| ex_assign 2 rfl <| ev_join <| ev_local 2 rfl rfl ⟨_, fs, rfl, er2, by rw [hfl]; omega, ?_⟩
  rw [hfl]
  refine ex_cons <| ex_return <| ev_fstr <| fs_cons <| ev_str ⟨_, rfl, ?_, fs_cons <| ev_fmt <| ev_local 2 rfl rfl ⟨_, rfl, ?_, _, rfl, ?_, fs_cons <| ev_str ⟨_, rfl, ?_, fs_nil ?_ ⟨_, rfl, ?_⟩⟩⟩⟩
  · decide
  · rw [tx_len]; omega
  · rw [Str.length_append, Str.length_append, tx_len]
    show 0 + 4 + _ ≤ _
    omega
  · rw [Str.length_append, Str.length_append, Str.length_append, tx_len]
    show 0 + 4 + _ + 3 ≤ _
    omega
  · rw [Str.length_append, Str.length_append, Str.length_append, tx_len]
    show 0 + 4 + _ + 3 ≤ _
    omega
  · have : Str.empty ++ Str.ofString "(?s:" ++ tx (textGo false l) ++ Str.ofString ")\\Z" = tx (textP l) := by
      unfold textP
      rw [← tx_cat, ← tx_cat]; rfl
    rw [this]
    exact h _ le2
end
end Mine
end

section
open PySem PySem.W PyProof.Rows PySem.Calls StrLaws
set_option maxHeartbeats 4000000
namespace Mine
theorem pvsV_len (s : V) (l : List Po) : (pvsV s l).length = l.length := List.length_map ..
theorem pvsV_app (s : V) (l m : List Po) : pvsV s l ++ pvsV s m = pvsV s (l ++ m) := (List.map_append ..).symm
theorem tx_cps (l : List Nat) : (tx l).cps = l.toArray := rfl
theorem tx_at {l : List Nat} {i c : Nat} (h : l[i]? = some c) : (tx l).cps[((i : Nat) : Int).toNat]? = some c := by
  rw [Int.toNat_natCast, tx_cps]; simpa using h
noncomputable abbrev trNames : List Str := ["pat", "STAR", "QUESTION_MARK", "res", "add", "i", "n", "c", "j", "stuff", "chunks", "k", "chunk"]
noncomputable abbrev frT (w : World) (L : Addr) : FrD := frD w 62 trNames L
noncomputable def IsStar (s : V) : Prop := s = .none ∨ ∃ q, s = .obj q
section
variable {C : Cx} {k : Nat} {F : FrD} {loc : List (Option V)} {hp : List Cell} {Φ : V → List Cell → Prop}
theorem op_addN {a b : Nat} (h : Φ (.int ((a + b : Nat) : Int)) hp) : AT2 C k hp (.int (a : Nat)) (.int (b : Nat)) (binaryOp .Add) Φ := op_add h
theorem c_isnot_star {s : V} (hs : IsStar s) {o : Po} (h : Φ (.bool (!decide (o = none))) hp) : AT2 C k hp (pvV s o) s (compareOp .IsNot) Φ := by
  rcases hs with rfl | ⟨q, rfl⟩
  · exact c_isnot_none (by cases o <;> trivial) (by cases o <;> exact h)
  · exact c_isnot_po h
/-- one sign of the pattern -/
theorem tr_sign {L jr i : Nat} {X : List Nat} {c : Nat} {star : V} (hs : IsStar star) {ps : List Po} {x7 x8 x9 x10 x11 x12 : Option V} {g : List Cell} {Ψ : Fl → List (Option V) → List Cell → Prop} (hk : k < 80)
    (hi : X[i]? = some c) (hc : c ≠ 91) (hX : X.length ≤ 10000) (er : g[jr]? = some (some (pvsV star ps))) (hz : ps.length ≤ 10000)
    (h : ∀ g', Kj jr g g' → g'[jr]? = some (some (pvsV star (tstep ps (.sign c)))) → Ψ .next [some (.str (tx X)), some star, some (.str ⟨#[46]⟩), some (.lst jr), some (.bound "list.append" jr), some (.int (i + 1 : Nat)), some (.int (X.length : Nat)), some (.str ⟨#[c]⟩), x8, x9, x10, x11, x12] g') :
    AExs C k (frT C.w L) [some (.str (tx X)), some star, some (.str ⟨#[46]⟩), some (.lst jr), some (.bound "list.append" jr), some (.int (i : Nat)), some (.int (X.length : Nat)), x7, x8, x9, x10, x11, x12] g (loopBody (bodyOf C.w 62) 3) Ψ := by
  have big : (10000000 : Nat) ≤ sizeLine := by decide
  have hil : i < X.length := (List.getElem?_eq_some_iff.mp hi).1
  have e0 : tstep ps (.sign c) = if c = 63 then ps ++ [some [46]] else if c ≠ 42 then ps ++ [some (escP c)] else if ps = [] ∨ ps.getLast? ≠ some none then ps ++ [none] else ps := rfl
  refine ex_cons <| ex_assign 7 rfl <| ev_sub <| ev_local 0 rfl rfl <| ev_local 5 rfl rfl <| sub_str (c := c) (by omega) (by omega) (tx_at hi) ?_
  refine ex_cons <| ex_assign 5 rfl <| ev_bin <| ev_local 5 rfl rfl <| ev_int <| op_addN (b := 1) ?_
  have fin : ∀ vs, vs = pvsV star (tstep ps (.sign c)) → Ψ .next [some (.str (tx X)), some star, some (.str ⟨#[46]⟩), some (.lst jr), some (.bound "list.append" jr), some (.int (i + 1 : Nat)), some (.int (X.length : Nat)), some (.str ⟨#[c]⟩), x8, x9, x10, x11, x12] (g.set jr (some vs)) := fun vs e => h _ (Kj.refl g).set (by rw [at_set er, e])
  refine ex_cons <| ex_if <| ts_name_eq 7 rfl rfl (decide (c = 42)) (eq1 c 42) ⟨fun b1 => ?_, fun b1 => ?_⟩
  · have b1 : c = 42 := of_decide_eq_true b1
    rw [if_neg (by omega), if_neg (by omega)] at e0
    refine ex_cons <| ex_if <| ts_or <| ts_not <| ts_plain <| ev_local 3 rfl rfl ⟨_, tr_lst er (by rw [pvsV_len]; omega), ⟨fun b2 => ⟨fun _ => ?_, noF⟩, fun b2 => ?_⟩⟩
    · have hn : ps = [] := by
        unfold pvsV at b2
        simpa using b2
      rw [if_pos (.inl hn)] at e0
      refine ex_cons <| ex_expr <| ev_add 4 rfl rfl <| ev_local 1 rfl rfl ⟨_, er, by rw [pvsV_len]; omega, rfl, ex_nil <| ex_nil <| ex_nil <| fin _ ?_⟩
      rw [e0, ← pvsV_app]; rfl
    · have hn : ps ≠ [] := by
        unfold pvsV at b2
        simpa using b2
      obtain ⟨o, ho⟩ : ∃ o, ps.getLast? = some o := ⟨_, List.getLast?_eq_some_getLast hn⟩
      have hlo : (pvsV star ps).getLast? = some (pvV star o) := by unfold pvsV; rw [List.getLast?_map, ho]; rfl
      refine ts_or <| ts_cmp <| ev_sub <| ev_local 3 rfl rfl <| ev_unary <| ev_int <| op_neg <| sub_list_last er hlo <| ev_local 1 rfl rfl <| c_isnot_star hs ⟨_, rfl, fun b4 => ⟨fun _ => ?_, noF⟩, fun b4 => ts_or_nil ⟨noT, fun _ => ?_⟩⟩
      · have ne0 : ps.getLast? ≠ some none := fun z => by
          rw [ho] at z
          cases z
          cases b4
        rw [if_pos (.inr ne0)] at e0
        refine ex_cons <| ex_expr <| ev_add 4 rfl rfl <| ev_local 1 rfl rfl ⟨_, er, by rw [pvsV_len]; omega, rfl, ex_nil <| ex_nil <| ex_nil <| fin _ ?_⟩
        rw [e0, ← pvsV_app]; rfl
      · have : o = none := by simpa using b4
        rw [if_neg (by rw [ho, this]; simpa using hn)] at e0
        exact ex_nil <| ex_nil <| ex_nil <| h _ (Kj.refl g) (by rw [e0]; exact er)
  have b1 : c ≠ 42 := of_decide_eq_false b1
  refine ex_cons <| ex_if <| ts_name_eq 7 rfl rfl (decide (c = 63)) (eq1 c 63) ⟨fun b2 => ?_, fun b2 => ?_⟩
  · rw [if_pos (of_decide_eq_true b2)] at e0
    refine ex_cons <| ex_expr <| ev_add 4 rfl rfl <| ev_local 2 rfl rfl ⟨_, er, by rw [pvsV_len]; omega, rfl, ex_nil <| ex_nil <| ex_nil <| fin _ ?_⟩
    rw [e0, ← pvsV_app]; rfl
  have b2 : c ≠ 63 := of_decide_eq_false b2
  refine ex_cons <| ex_ifF <| ts_name_eq 7 rfl rfl (decide (c = 91)) (eq1 c 91) ⟨decide_eq_false hc, ?_⟩
  rw [if_neg b2, if_pos b1] at e0
  refine ex_cons <| ex_expr <| ev_add 4 rfl rfl <| ev_call_def (f := 55) (ev_global rfl (C.mgK (by rfl)) ⟨rfl, args_cons <| ev_local 7 rfl rfl <| args_nil <| w_escape (by omega) ⟨_, er, by rw [pvsV_len]; omega, rfl, ex_nil <| ex_nil <| ex_nil <| ex_nil <| fin _ ?_⟩⟩) (by rfl)
  rw [e0, ← pvsV_app]; rfl
end
end Mine
end

section
open PySem PySem.W PyProof.Rows PySem.Calls StrLaws
set_option maxHeartbeats 4000000
namespace Mine
theorem rep_tx (S : List Nat) : Txt.replace (tx S) (Str.ofString "\\") (Str.ofString "\\\\") = tx (repl1 92 [92, 92] S) := by
  refine str_ext ?_
  have := replace_flat (tx S) 92 #[92, 92]
  have h2 : (tx S).cps.toList = S := List.toList_toArray ..
  rw [h2] at this
  refine Eq.trans this ?_
  exact (List.toList_toArray ..).symm
theorem sub2_tx (S : List Nat) : sub2 (tx (repl1 92 [92, 92] S)) = tx (S.flatMap sMap) := by
  refine str_ext ?_
  have h2 : ∀ l, (tx l).cps.toList = l := fun l => List.toList_toArray ..
  have := sub2_flat (tx (repl1 92 [92, 92] S)) (fun y => ⟨#[92]⟩ ++ y) (fun c => if good2 c then [92, c] else [c]) (fun c h => by rw [h]; rfl) (fun c h => by rw [h]; rfl)
  rw [h2, sMap_two] at this
  rw [h2]
  exact this
theorem lamOk (params : Arguments) (body : Expr) (scope : Scope) (pm : Value) (c : Addr) (h1 : scope.names = [(("_m" : Str), NameKind.local)]) (h2 : scope.kind = .function) (h3 : scope.isCoroutine = false) (h4 : scope.isGenerator = false)
    (h5 : ∀ v : Value, bindArgs (lamFd params body scope pm c) ⟨[v], []⟩ = pure [(("_m" : Str), v)]) : LamOk (lamFd params body scope pm c) := ⟨h1, h2, h3, h4, rfl, rfl, rfl, h5⟩
noncomputable def stIf (ss : List Stmt) (n : Nat) : List Stmt × List Stmt := match ss[n]? with
  | some (.If _ b e _) => (b, e)
  | _ => ([], [])
/-- the lists of statements of _translate's loop, from the outside in -/
noncomputable def t0 (w : World) : List Stmt := loopBody (bodyOf w 62) 3
noncomputable def t3 (w : World) : List Stmt := (stIf (stIf (stIf (t0 w) 2).2 0).2 0).1
noncomputable def t4 (w : World) : List Stmt := (stIf (t3 w) 4).2
noncomputable def t6 (w : World) : List Stmt := (stIf (stIf (t4 w) 4).2 0).2
section
variable {C : Cx} {k : Nat} {F : FrD} {loc : List (Option V)} {hp : List Cell} {Φ : V → List Cell → Prop}
/-- the set's text is added -/
theorem tr_fin {L jr : Nat} {X M : List Nat} {star : V} {ps : List Po} {i x7 x8 x10 x11 x12 : Option V} {g : List Cell} {Ψ : Fl → List (Option V) → List Cell → Prop}
    (hM : M ≠ []) (hMl : M.length ≤ 100000) (er : g[jr]? = some (some (pvsV star ps))) (hz : ps.length ≤ 10000)
    (h : ∀ x9 g', Kj jr g g' → g'[jr]? = some (some (pvsV star (ps ++ [some (91 :: headFix M ++ [93])]))) → Ψ .next [some (.str (tx X)), some star, some (.str ⟨#[46]⟩), some (.lst jr), some (.bound "list.append" jr), i, some (.int (X.length : Nat)), x7, x8, x9, x10, x11, x12] g') :
    AExs C k (frT C.w L) [some (.str (tx X)), some star, some (.str ⟨#[46]⟩), some (.lst jr), some (.bound "list.append" jr), i, some (.int (X.length : Nat)), x7, x8, some (.str (tx M)), x10, x11, x12] g (t6 C.w) Ψ := by
  have big : (10000000 : Nat) ≤ sizeLine := by decide
  have hl : (headFix M).length ≤ M.length + 1 := by
    cases M with
    | nil => exact absurd rfl hM
    | cons m mt =>
      have e : headFix (m :: mt) = if m = 33 then 94 :: mt else if m = 94 ∨ m = 91 then 92 :: m :: mt else m :: mt := rfl
      rw [e]
      split
      · simp
      split
      · simp
      · simp
  refine ex_mid (fun l g' => l = [some (.str (tx X)), some star, some (.str ⟨#[46]⟩), some (.lst jr), some (.bound "list.append" jr), i, some (.int (X.length : Nat)), x7, x8, some (.str (tx (headFix M))), x10, x11, x12] ∧ Le g g') ?_ ?_
  · obtain ⟨m, mt, rfl⟩ : ∃ m mt, M = m :: mt := by cases M with
      | nil => exact absurd rfl hM
      | cons m mt => exact ⟨m, mt, rfl⟩
    have e : headFix (m :: mt) = if m = 33 then 94 :: mt else if m = 94 ∨ m = 91 then 92 :: m :: mt else m :: mt := rfl
    have h0 : (tx (m :: mt)).cps[((0 : Int)).toNat]? = some m := tx_at (i := 0) rfl
    refine ex_if <| ts_cmp <| ev_sub <| ev_local 9 rfl rfl <| ev_int <| sub_str (c := m) (by decide) (by decide) h0 <| ev_str <| c_eq_str ⟨_, rfl, fun b1 => ?_, fun b1 => ?_⟩
    · rw [if_pos (is1 (d := 33) b1)] at e
      rw [e]
      refine ex_cons <| ex_assign 9 rfl <| ev_bin <| ev_str <| ev_from <| ev_local 9 rfl rfl ⟨_, rfl, ev_int ⟨1, rfl, by rw [tx_cps]; simp, by rw [tx_cps]; simp at hMl ⊢; omega, op_cat_tx (l := [94]) (m := mt) ?_ ?_ <| ex_nil ⟨rfl, Le.refl _⟩⟩⟩
      · have : (tx (m :: mt)).cps.toList = m :: mt := List.toList_toArray ..
        rw [this]; rfl
      · simp at hMl ⊢; omega
    · rw [if_neg (not1 (d := 33) b1)] at e
      refine ex_cons <| ex_if <| ts_cmp <| ev_sub <| ev_local 9 rfl rfl <| ev_int <| sub_str (c := m) (by decide) (by decide) h0 <| ev_pair' <| ev_str ⟨_, rfl, ev_str ⟨_, rfl, c_in_pair ⟨_, rfl, fun b2 => ?_, fun b2 => ?_⟩⟩⟩
      · have hm : m = 94 ∨ m = 91 := by
          have : ((⟨#[94]⟩ : Str) == ⟨#[m]⟩ || ((⟨#[91]⟩ : Str) == ⟨#[m]⟩ || false)) = true := b2
          rw [eq1, eq1] at this
          simp at this
          omega
        rw [if_pos hm] at e
        rw [e]
        refine ex_cons <| ex_assign 9 rfl <| ev_bin <| ev_str <| ev_local 9 rfl rfl <| op_cat_tx (l := [92]) (m := m :: mt) rfl ?_ <| ex_nil <| ex_nil ⟨rfl, Le.refl _⟩
        simp at hMl ⊢; omega
      · have hm : ¬ (m = 94 ∨ m = 91) := by
          have : ((⟨#[94]⟩ : Str) == ⟨#[m]⟩ || ((⟨#[91]⟩ : Str) == ⟨#[m]⟩ || false)) = false := b2
          rw [eq1, eq1] at this
          simp at this
          omega
        rw [if_neg hm] at e
        rw [e]
        exact ex_nil <| ex_nil ⟨rfl, Le.refl _⟩
  rintro _ g' ⟨rfl, le'⟩
  have er3 := le' _ _ er
  refine ex_cons <| ex_expr <| ev_add 4 rfl rfl <| ev_fstr <| fs_cons <| ev_str ⟨_, rfl, ?_, fs_cons <| ev_fmt <| ev_local 9 rfl rfl ⟨_, rfl, ?_, _, rfl, ?_, fs_cons <| ev_str ⟨_, rfl, ?_, fs_nil ?_ ⟨_, er3, by rw [pvsV_len]; omega, rfl, ?_⟩⟩⟩⟩
  · decide
  · rw [tx_len]; omega
  · rw [Str.length_append, Str.length_append, tx_len]
    show 0 + 1 + _ ≤ _
    omega
  · rw [Str.length_append, Str.length_append, Str.length_append, tx_len]
    show 0 + 1 + _ + 1 ≤ _
    omega
  · rw [Str.length_append, Str.length_append, Str.length_append, tx_len]
    show 0 + 1 + _ + 1 ≤ _
    omega
  · have e : Str.empty ++ Str.ofString "[" ++ tx (headFix M) ++ Str.ofString "]" = tx (91 :: headFix M ++ [93]) := by
      have : 91 :: headFix M ++ [93] = [91] ++ headFix M ++ [93] := rfl
      rw [this, ← tx_cat, ← tx_cat]; rfl
    rw [e]
    refine ex_nil <| h _ _ (Kj.of le').set ?_
    rw [at_set er3, ← pvsV_app]; rfl
end
end Mine
end

section
open PySem PySem.W PyProof.Rows PySem.Calls StrLaws
set_option maxHeartbeats 4000000
namespace Mine
theorem tr_qual (w : World) (L : Addr) : (frT w L).env.qual ++ "<lambda>" = ("_translate.<locals>.<lambda>" : Str) := by
  show (fdOf w 62).qualname ++ ".<locals>." ++ "<lambda>" = _
  have : (fdOf w 62).qualname = "_translate" := rfl
  rw [this]
  decide +kernel
section
variable {C : Cx} {k : Nat} {F : FrD} {loc : List (Option V)} {hp : List Cell} {Φ : V → List Cell → Prop}
/-- the stuff of a set is read -/
theorem tr_stuff {L jr i j : Nat} {X S : List Nat} {star : V} {ps : List Po} {x7 x9 x10 x11 x12 : Option V} {g : List Cell} {Ψ : Fl → List (Option V) → List Cell → Prop} (hk : k < 60) (hloud : C.loud = true)
    (hij : i ≤ j ∧ j ≤ X.length) (hXl : X.length ≤ 10000) (hcut : (X.drop i).take (j - i) = S) (hS45 : 45 ∉ S) (hM : S.flatMap sMap ≠ [] ∧ S.flatMap sMap ≠ [33])
    (er : g[jr]? = some (some (pvsV star ps))) (hz : ps.length ≤ 10000)
    (h : ∀ x9 g', Kj jr g g' → g'[jr]? = some (some (pvsV star (ps ++ [some (91 :: headFix (S.flatMap sMap) ++ [93])]))) → Ψ .next [some (.str (tx X)), some star, some (.str ⟨#[46]⟩), some (.lst jr), some (.bound "list.append" jr), some (.int (j + 1 : Nat)), some (.int (X.length : Nat)), x7, some (.int (j : Nat)), x9, x10, x11, x12] g') :
    AExs C k (frT C.w L) [some (.str (tx X)), some star, some (.str ⟨#[46]⟩), some (.lst jr), some (.bound "list.append" jr), some (.int (i : Nat)), some (.int (X.length : Nat)), x7, some (.int (j : Nat)), x9, x10, x11, x12] g (t4 C.w) Ψ := by
  have big : (10000000 : Nat) ≤ sizeLine := by decide
  have hSl : S.length ≤ 10000 := by rw [← hcut, List.length_take, List.length_drop]; omega
  have hMl := sMaps_len S
  have hcut2 : (⟨((tx X).cps.toList.drop i).take (j - i) |>.toArray⟩ : Str) = tx S := by
    have : (tx X).cps.toList = X := List.toList_toArray ..
    rw [this, hcut]; rfl
  refine ex_cons <| ex_assign 9 rfl <| ev_cut (x := "") <| ev_local 0 rfl rfl ⟨_, rfl, ev_local 5 rfl rfl ⟨i, rfl, ev_local 8 rfl rfl ⟨j, rfl, hij.1, by rw [tx_cps]; simp; omega, by rw [tx_cps]; simp; omega, ?_⟩⟩⟩
  rw [hcut2]
  refine ex_cons <| ex_if_replace 9 rfl rfl (by decide) (by rw [tx_len]; omega) (by decide) ?_ ?_
  · have := found_one (tx S) 45
    have h2 : (tx S).cps.toList = S := List.toList_toArray ..
    rw [h2, decide_eq_false hS45] at this
    rw [Bool.not_eq_false'] at this
    exact this
  rw [rep_tx]
  have hrl : (repl1 92 [92, 92] S).length ≤ 2 * S.length := repl1_len 92 [92, 92] 2 (by decide) (by decide) S
  refine ex_cons <| ex_assign 9 rfl <| ev_sub_lam 9 (by omega) hloud rfl rfl rfl rfl (tr_qual C.w L) ⟨rfl, rfl⟩ rfl rfl (fun pm c => lamOk _ _ _ pm c rfl rfl rfl rfl fun v => rfl) (fun pm c f y hp' L' h1 h2 => ?_) (by rw [tx_cps]; simp; omega) fun zs => ?_
  · refine ev_bin <| ev_str <| ev_or <| ev_meth "re.Match" "re.Match.group" (ev_local 0 rfl rfl ⟨hasTh_mtch, args_cons <| ev_int <| args_nil <| call_group ⟨_, tr_str (by omega), fun b1 => op_cat ?_ ⟨rfl, rfl⟩, fun b1 => ?_⟩ (by omega)⟩) pa_match slot_group type_group (.inr ⟨_, _, rfl, rfl, rfl⟩) (by rfl)
    · show 1 + y.length ≤ _
      omega
    · have := of_decide_eq_false b1
      omega
  rw [sub2_tx]
  refine ex_cons <| ex_assign 5 rfl <| ev_bin <| ev_local 8 rfl rfl <| ev_int <| op_addN (b := 1) ?_
  refine ex_cons <| ex_ifF <| ts_not <| ts_plain <| ev_local 9 rfl rfl ⟨_, tr_str (by rw [tx_len]; omega), ?_, ?_⟩
  · rw [tx_len]
    have : (S.flatMap sMap).length ≠ 0 := fun z => hM.1 (List.eq_nil_of_length_eq_zero z)
    rw [decide_eq_true this]; rfl
  refine ex_cons <| ex_ifF <| ts_name_eq 9 rfl rfl (decide (S.flatMap sMap = [33])) (tx_eq (S.flatMap sMap) [33]) ⟨decide_eq_false hM.2, ?_⟩
  refine tr_fin hM.1 (by omega) (Le.app _ _ _ _ er) hz fun x9 g' kk er' => ?_
  exact ex_nil <| ex_nil <| h x9 g' ((Kj.of (Le.app _ _)).trans kk) er'
end
end Mine
end

section
open PySem PySem.W PyProof.Rows PySem.Calls StrLaws
set_option maxHeartbeats 4000000
namespace Mine
section
variable {C : Cx} {k : Nat} {F : FrD} {loc : List (Option V)} {hp : List Cell} {Φ : V → List Cell → Prop}
/-- one set of the pattern -/
theorem tr_set {L jr : Nat} {X A R : List Nat} {b : Bool} {ins : List Nat} {star : V} {ps : List Po} {x7 x8 x9 x10 x11 x12 : Option V} {g : List Cell} {Ψ : Fl → List (Option V) → List Cell → Prop} (hk : k < 60) (hloud : C.loud = true)
    (hX : X = A ++ (91 :: (barL b ++ ins ++ [93]) ++ R)) (ok : Tok.ok (.set b ins)) (hXl : X.length ≤ 10000) (er : g[jr]? = some (some (pvsV star ps))) (hz : ps.length ≤ 10000)
    (h : ∀ x7 x8 x9 g', Kj jr g g' → g'[jr]? = some (some (pvsV star (tstep ps (.set b ins)))) → Ψ .next [some (.str (tx X)), some star, some (.str ⟨#[46]⟩), some (.lst jr), some (.bound "list.append" jr), some (.int (A.length + (Tok.chars (.set b ins)).length : Nat)), some (.int (X.length : Nat)), x7, x8, x9, x10, x11, x12] g') :
    AExs C k (frT C.w L) [some (.str (tx X)), some star, some (.str ⟨#[46]⟩), some (.lst jr), some (.bound "list.append" jr), some (.int (A.length : Nat)), some (.int (X.length : Nat)), x7, x8, x9, x10, x11, x12] g (loopBody (bodyOf C.w 62) 3) Ψ := by
  have big : (10000000 : Nat) ≤ sizeLine := by decide
  have hset := setP_text ok
  have hstuff := stuff_ok ok
  obtain ⟨ok1, ok2, ok3⟩ := ok
  have hcl : (Tok.chars (.set b ins)).length = (barL b ++ ins).length + 2 := by
    show (91 :: (barL b ++ ins ++ [93])).length = _
    rw [List.length_cons, List.length_append]; rfl
  rw [hcl] at h
  have hB : (barL b).length = if b then 1 else 0 := by cases b <;> rfl
  have hS45 : 45 ∉ barL b ++ ins := by
    intro z
    rcases List.mem_append.mp z with z | z
    · cases b <;> simp [barL] at z
    · exact (ok2 _ z).2 rfl
  obtain ⟨m0, mt, hins⟩ : ∃ m0 mt, ins = m0 :: mt := by cases ins with
    | nil => exact absurd rfl ok1
    | cons a r => exact ⟨a, r, rfl⟩
  have hSl : (barL b ++ ins).length = (barL b).length + ins.length := List.length_append
  have hinsl : 1 ≤ ins.length := by rw [hins]; simp
  have hXl2 : X.length = A.length + 1 + (barL b ++ ins).length + 1 + R.length := by
    rw [hX]; simp only [List.length_append, List.length_cons, List.length_nil]; omega
  have hc0 : X[A.length]? = some 91 := by rw [hX, List.getElem?_append_right (Nat.le_refl _)]; simp
  have hat : ∀ p c, (barL b ++ ins ++ [93])[p]? = some c → X[A.length + 1 + p]? = some c := fun p c e => by
    rw [hX, List.getElem?_append_right (by omega)]
    have : A.length + 1 + p - A.length = p + 1 := by omega
    rw [this, List.cons_append, List.getElem?_cons_succ, List.getElem?_append_left (List.getElem?_eq_some_iff.mp e).1]
    exact e
  have hat93 : X[A.length + 1 + (barL b ++ ins).length]? = some 93 := hat _ _ (by rw [List.getElem?_append_right (Nat.le_refl _)]; simp)
  have hatB : b = true → X[A.length + 1]? = some 33 := fun hb => hat 0 33 (by rw [hb]; rfl)
  have hatI : ∀ p c, ins[p]? = some c → X[A.length + 1 + (barL b).length + p]? = some c := fun p c e => by
    have := hat ((barL b).length + p) c (by
      rw [List.getElem?_append_left (by rw [List.length_append]; have := (List.getElem?_eq_some_iff.mp e).1; omega), List.getElem?_append_right (by omega), Nat.add_sub_cancel_left]
      exact e)
    rw [← Nat.add_assoc] at this
    exact this
  have hcut : (X.drop (A.length + 1)).take (A.length + 1 + (barL b ++ ins).length - (A.length + 1)) = barL b ++ ins := by
    rw [hX, Nat.add_sub_cancel_left]
    have e1 : (A ++ (91 :: (barL b ++ ins ++ [93]) ++ R)).drop (A.length + 1) = (barL b ++ ins) ++ (93 :: R) := by
      rw [← List.drop_drop, List.drop_left]
      simp
    rw [e1, List.take_left]
  have htst : tstep ps (.set b ins) = ps ++ [some (91 :: headFix ((barL b ++ ins).flatMap sMap) ++ [93])] := by
    show ps ++ [some (setP b ins ++ [93])] = _
    rw [hset]
  rw [htst] at h
  generalize hSg : barL b ++ ins = S at *
  refine ex_cons <| ex_assign 7 rfl <| ev_sub <| ev_local 0 rfl rfl <| ev_local 5 rfl rfl <| sub_str (c := 91) (by omega) (by omega) (tx_at hc0) ?_
  refine ex_cons <| ex_assign 5 rfl <| ev_bin <| ev_local 5 rfl rfl <| ev_int <| op_addN (b := 1) ?_
  refine ex_cons <| ex_ifF <| ts_name_eq 7 rfl rfl false rfl ⟨rfl, ?_⟩
  refine ex_cons <| ex_ifF <| ts_name_eq 7 rfl rfl false rfl ⟨rfl, ?_⟩
  refine ex_cons <| ex_ifT <| ts_name_eq 7 rfl rfl true rfl ⟨rfl, ?_⟩
  refine ex_cons <| ex_assign 8 rfl <| ev_local 5 rfl rfl ?_
  refine ex_mid (fun l g' => l = [some (.str (tx X)), some star, some (.str ⟨#[46]⟩), some (.lst jr), some (.bound "list.append" jr), some (.int (A.length + 1 : Nat)), some (.int (X.length : Nat)), some (.str ⟨#[91]⟩), some (.int (A.length + 1 + (barL b).length : Nat)), x9, x10, x11, x12] ∧ g = g') ?_ ?_
  · refine ex_if <| ts_and <| ts_cmp <| ev_local 8 rfl rfl <| ev_local 6 rfl rfl <| c_lt_int ⟨_, rfl, fun b1 => ?_, fun b1 => ?_⟩
    · cases b with
      | true =>
        refine ts_and <| ts_cmp <| ev_sub <| ev_local 0 rfl rfl <| ev_local 8 rfl rfl <| sub_str (c := 33) (by omega) (by omega) (tx_at (hatB rfl)) <| ev_str <| c_eq_str ⟨_, rfl, fun b2 => ts_and_nil ⟨fun _ => ?_, noF⟩, fun b2 => by cases b2⟩
        exact ex_cons <| ex_assign 8 rfl <| ev_bin <| ev_local 8 rfl rfl <| ev_int <| op_addN (b := 1) <| ex_nil ⟨rfl, rfl⟩
      | false =>
        have e := hatI 0 m0 (by rw [hins]; rfl)
        have hm : m0 ≠ 33 := fun z => ok3 rfl (by rw [hins, z]; rfl)
        refine ts_and <| ts_cmp <| ev_sub <| ev_local 0 rfl rfl <| ev_local 8 rfl rfl <| sub_str (c := m0) (by omega) (by omega) (tx_at e) <| ev_str <| c_eq_str ⟨_, rfl, fun b2 => absurd (is1 b2) hm, fun b2 => ⟨noT, fun _ => ex_nil ⟨rfl, rfl⟩⟩⟩
    · have := of_decide_eq_false b1
      omega
  rintro _ _ ⟨rfl, rfl⟩
  have e0 := hatI 0 m0 (by rw [hins]; rfl)
  rw [Nat.add_zero] at e0
  have hm93 : m0 ≠ 93 := (ok2 m0 (by rw [hins]; simp)).1
  refine ex_cons <| ex_if <| ts_and <| ts_cmp <| ev_local 8 rfl rfl <| ev_local 6 rfl rfl <| c_lt_int ⟨_, rfl, fun b1 => ?_, fun b1 => ?_⟩
  rotate_left
  · have := of_decide_eq_false b1
    omega
  refine ts_and <| ts_cmp <| ev_sub <| ev_local 0 rfl rfl <| ev_local 8 rfl rfl <| sub_str (c := m0) (by omega) (by omega) (tx_at e0) <| ev_str <| c_eq_str ⟨_, rfl, fun b2 => absurd (is1 b2) hm93, fun b2 => ⟨noT, fun _ => ex_nil ?_⟩⟩
  refine ex_mid (fun l g' => l = [some (.str (tx X)), some star, some (.str ⟨#[46]⟩), some (.lst jr), some (.bound "list.append" jr), some (.int (A.length + 1 : Nat)), some (.int (X.length : Nat)), some (.str ⟨#[91]⟩), some (.int (A.length + 1 + S.length : Nat)), x9, x10, x11, x12] ∧ g = g') ?_ ?_
  · refine ex_while (fun m l g' => ∃ p, l = [some (.str (tx X)), some star, some (.str ⟨#[46]⟩), some (.lst jr), some (.bound "list.append" jr), some (.int (A.length + 1 : Nat)), some (.int (X.length : Nat)), some (.str ⟨#[91]⟩), some (.int (A.length + 1 + (barL b).length + p : Nat)), x9, x10, x11, x12] ∧ g = g' ∧ p ≤ ins.length ∧ m = ins.length - p) (ins.length - 0) ⟨0, rfl, rfl, Nat.zero_le _, rfl⟩ fun m l g' inv => ?_
    obtain ⟨p, rfl, rfl, hp, rfl⟩ := inv
    refine ts_and <| ts_cmp <| ev_local 8 rfl rfl <| ev_local 6 rfl rfl <| c_lt_int ⟨_, rfl, fun b1 => ?_, fun b1 => ?_⟩
    rotate_left
    · have := of_decide_eq_false b1
      omega
    by_cases hpl : p < ins.length
    · have e1 := hatI p _ (List.getElem?_eq_getElem hpl)
      have hne := (ok2 _ (List.getElem_mem hpl)).1
      generalize ins[p] = c at e1 hne
      refine ts_and <| ts_cmp <| ev_sub <| ev_local 0 rfl rfl <| ev_local 8 rfl rfl <| sub_str (c := c) (by omega) (by omega) (tx_at e1) <| ev_str <| c_ne_str ⟨_, rfl, fun b2 => ts_and_nil ⟨fun _ => ?_, noF⟩, fun b2 => absurd (notnt1 b2) hne⟩
      exact ex_cons <| ex_assign 8 rfl <| ev_bin <| ev_local 8 rfl rfl <| ev_int <| op_addN (b := 1) <| ex_nil ⟨_, by omega, p + 1, rfl, rfl, hpl, rfl⟩
    · have e1 : X[A.length + 1 + (barL b).length + p]? = some 93 := by
        have : A.length + 1 + (barL b).length + p = A.length + 1 + S.length := by omega
        rw [this]; exact hat93
      refine ts_and <| ts_cmp <| ev_sub <| ev_local 0 rfl rfl <| ev_local 8 rfl rfl <| sub_str (c := 93) (by omega) (by omega) (tx_at e1) <| ev_str <| c_ne_str ⟨_, rfl, fun b2 => absurd rfl (isnt1 b2), fun b2 => ⟨noT, fun _ => ⟨?_, rfl⟩⟩⟩
      have : A.length + 1 + (barL b).length + p = A.length + 1 + S.length := by omega
      rw [this]
  rintro _ _ ⟨rfl, rfl⟩
  refine ex_cons <| ex_ifF <| ts_cmp <| ev_local 8 rfl rfl <| ev_local 6 rfl rfl <| c_ge_int ⟨_, rfl, decide_eq_false (by omega), ?_⟩
  refine tr_stuff hk hloud ⟨by omega, by omega⟩ hXl hcut hS45 hstuff er hz fun y9 g' kk er' => ?_
  refine ex_nil <| ex_nil <| ex_nil <| ex_nil ?_
  have := h (some (.str ⟨#[91]⟩)) (some (.int (A.length + 1 + S.length : Nat))) y9 g' kk er'
  have e9 : A.length + (S.length + 2) = A.length + 1 + S.length + 1 := by omega
  rw [e9] at this
  exact this
end
end Mine
end

section
open PySem PySem.W PyProof.Rows PySem.Calls StrLaws
set_option maxHeartbeats 4000000
namespace Mine
section
variable {C : Cx} {k : Nat} {F : FrD} {loc : List (Option V)} {hp : List Cell} {Φ : V → List Cell → Prop}
theorem Kj.le {g0 g g' : List Cell} {jr : Nat} (x : Kj jr g g') (y : Le g0 g) (h : g0.length ≤ jr) : Le g0 g' := fun n c e => x n c (by have := (List.getElem?_eq_some_iff.mp e).1; omega) (y n c e)
/-- the walk of _translate -/
theorem w_tr {star : V} (hs : IsStar star) {ts : List Tok} (hts : ∀ t ∈ ts, t.ok) (hx : (charsL ts).length ≤ 10000) (hk : k < 55) (hloud : C.loud = true) (h : ∀ n g, Le hp g → g[n]? = some (some (pvsV star (trP ts))) → Φ (.lst n) g) : ACall C k hp (.ref 62) [.str (tx (charsL ts)), star, .str ⟨#[46]⟩] Φ := by
  have big : (10000000 : Nat) ≤ sizeLine := by decide
  refine enter (d_tr C.w) (by omega) rfl fun L => ?_
  refine ex_cons <| ex_assign 3 rfl <| ev_list <| args_nil ⟨by simp, ?_⟩
  refine ex_cons <| ex_assign 4 rfl <| ev_attr_append 3 rfl rfl (at_end _ _) ?_
  refine ex_cons <| ex_assign2 5 6 rfl rfl (args_cons <| ev_int <| args_cons <| ev_call_bi <| ev_builtin rfl (C.mgN (by rfl)) (C.mbK (by decide) boot_len) ⟨rfl, args_cons <| ev_local 0 rfl rfl <| args_nil <| call_len_str (by rw [tx_len]; omega) <| args_nil ⟨_, _, rfl, ?_⟩⟩) (by rfl)
  rw [tx_len]
  refine ex_mid (fun l g => ∃ x7 x8 x9 x10 x11 x12, l = [some (.str (tx (charsL ts))), some star, some (.str ⟨#[46]⟩), some (.lst hp.length), some (.bound "list.append" hp.length), some (.int ((charsL ts).length : Nat)), some (.int ((charsL ts).length : Nat)), x7, x8, x9, x10, x11, x12] ∧ Le hp g ∧ g[hp.length]? = some (some (pvsV star (trP ts)))) ?_ ?_
  · refine ex_while (fun m l g => ∃ done rest x7 x8 x9 x10 x11 x12, ts = done ++ rest ∧ m = rest.length ∧ l = [some (.str (tx (charsL ts))), some star, some (.str ⟨#[46]⟩), some (.lst hp.length), some (.bound "list.append" hp.length), some (.int ((charsL done).length : Nat)), some (.int ((charsL ts).length : Nat)), x7, x8, x9, x10, x11, x12] ∧ Le hp g ∧ g[hp.length]? = some (some (pvsV star (trP done)))) ts.length
      ⟨[], ts, none, none, none, none, none, none, rfl, rfl, rfl, Le.app _ _, at_end _ _⟩ fun m l g inv => ?_
    obtain ⟨done, rest, x7, x8, x9, x10, x11, x12, hdr, rfl, rfl, le, er⟩ := inv
    have hch : charsL ts = charsL done ++ charsL rest := by rw [hdr, charsL_app]
    have hlen : (charsL ts).length = (charsL done).length + (charsL rest).length := by rw [hch, List.length_append]
    have hpl : (trP done).length ≤ 10000 := by have := tr_len done; omega
    refine ts_cmp <| ev_local 5 rfl rfl <| ev_local 6 rfl rfl <| c_lt_int ⟨_, rfl, fun b1 => ?_, fun b1 => ?_⟩
    · have b1 := of_decide_eq_true b1
      cases rest with
      | nil =>
        have : (charsL ([] : List Tok)).length = 0 := rfl
        omega
      | cons t rest =>
        have htok : t.ok := hts t (by rw [hdr]; simp)
        have hcons : charsL (t :: rest) = t.chars ++ charsL rest := rfl
        have hdone : (charsL (done ++ [t])).length = (charsL done).length + t.chars.length := by rw [charsL_app, charsL_one, List.length_append]
        have hdr2 : ts = (done ++ [t]) ++ rest := by rw [hdr]; simp
        cases t with
        | sign c =>
          have hi : (charsL ts)[(charsL done).length]? = some c := by
            rw [hch, List.getElem?_append_right (Nat.le_refl _), hcons]; simp [Tok.chars]
          refine tr_sign hs (by omega) hi htok hx er hpl fun g' kk er' => ?_
          refine ⟨_, Nat.lt_succ_self _, done ++ [.sign c], rest, some (.str ⟨#[c]⟩), x8, x9, x10, x11, x12, hdr2, rfl, ?_, kk.le le (Nat.le_refl _), ?_⟩
          · rw [hdone]; rfl
          · rw [trP_snoc]; exact er'
        | set b ins =>
          refine tr_set (R := charsL rest) (by omega) hloud (by rw [hch, hcons]; rfl) htok hx er hpl fun y7 y8 y9 g' kk er' => ?_
          refine ⟨_, Nat.lt_succ_self _, done ++ [.set b ins], rest, y7, y8, y9, x10, x11, x12, hdr2, rfl, ?_, kk.le le (Nat.le_refl _), ?_⟩
          · rw [hdone]
          · rw [trP_snoc]; exact er'
    · have b1 := of_decide_eq_false b1
      have hr : rest = [] := by
        cases rest with
        | nil => rfl
        | cons t rest =>
          have hcons : charsL (t :: rest) = t.chars ++ charsL rest := rfl
          have := chars_pos t
          rw [hcons, List.length_append] at hlen
          omega
      subst hr
      rw [List.append_nil] at hdr
      subst hdr
      exact ⟨x7, x8, x9, x10, x11, x12, rfl, le, er⟩
  rintro _ g ⟨x7, x8, x9, x10, x11, x12, rfl, le, er⟩
  refine ex_cons <| ex_assert <| ts_cmp <| ev_local 5 rfl rfl <| ev_local 6 rfl rfl <| c_eq_int ⟨_, rfl, by simp, ?_⟩
  exact ex_cons <| ex_return <| ev_local 3 rfl rfl ⟨_, rfl, h _ _ le er⟩
end
end Mine
end

section
open PySem PySem.W PyProof.Rows PySem.Calls StrLaws
set_option maxHeartbeats 4000000
namespace Mine
noncomputable def joinFst (vs : List V) : List Nat := vs.flatMap fun v => match v with
  | .pair a _ => a.cps.toList
  | _ => []
noncomputable def wordTx (hp : List Cell) : V → V
  | .lst i => match hp[i]? with
    | some (some vs) => .str (tx (joinFst vs))
    | _ => .none
  | v => v
theorem joinFst_sgs (w : List Sg) : joinFst (sgsV w) = w.map fun p => p.1 := by
  unfold joinFst sgsV
  induction w with
  | nil => rfl
  | cons p w ih =>
    rw [List.map_cons, List.flatMap_cons, ih]; rfl
theorem wordTx_at {hp : List Cell} {i : Nat} {w : List Sg} (e : hp[i]? = some (some (sgsV w))) : wordTx hp (.lst i) = .str (txt w) := by
  show (match hp[i]? with
    | some (some vs) => V.str (tx (joinFst vs))
    | _ => V.none) = _
  rw [e]
  show V.str (tx (joinFst (sgsV w))) = _
  rw [joinFst_sgs]; rfl
theorem words_txt {hp : List Cell} {js : List Nat} {ws : List (List Sg)} (h : F2 (fun i w => hp[i]? = some (some (sgsV w))) js ws) : (((js.map V.lst).filter fun _ => true).map (wordTx hp)) = (ws.map txt).map V.str := by
  rw [List.filter_eq_self.mpr fun _ _ => rfl]
  induction h with
  | nil => rfl
  | cons a _ ih =>
    rw [List.map_cons, List.map_cons, List.map_cons, List.map_cons, ih, wordTx_at a]
theorem F2.memL {A B : Type} {R : A → B → Prop} {l : List A} {r : List B} (h : F2 R l r) {a : A} (ha : a ∈ l) : ∃ b, b ∈ r ∧ R a b := F2.mem h ha
theorem pvs_pos (l : List Po) : pvsV .none l = posV l := by
  unfold pvsV posV
  refine List.map_congr_left fun o _ => ?_
  cases o <;> rfl
theorem pos_opts (l : List Po) : posV l = (l.map fun o => o.map tx).map optV := by
  unfold posV
  rw [List.map_map]; rfl
theorem fstsV (w : List Sg) : ((sgsV w).filter fun _ => true).map fstV = (w.map fun p => [p.1]).map fun p => V.str (tx p) := by
  rw [List.filter_eq_self.mpr fun _ _ => rfl]
  unfold sgsV
  rw [List.map_map, List.map_map]
  rfl
theorem flat_one (w : List Sg) : (w.map fun p => [p.1]).flatten = w.map fun p => p.1 := by
  induction w with
  | nil => rfl
  | cons p w ih => rw [List.map_cons, List.flatten_cons, ih]; rfl
section
variable {C : Cx} {k : Nat} {F : FrD} {loc : List (Option V)} {hp : List Cell} {Φ : V → List Cell → Prop}
theorem w_translate {ts : List Tok} (hts : ∀ t ∈ ts, t.ok) (hx : (charsL ts).length ≤ 10000) (hk : k < 50) (hloud : C.loud = true) (h : ∀ g, Le hp g → Φ (.str (tx (textP (trP ts)))) g) : ACall C k hp (.ref 43) [.str (tx (charsL ts))] Φ := by
  refine enter (d_translate C.w) (by omega) rfl fun L => ?_
  refine ex_cons <| ex_assign 1 rfl <| ev_object <| ev_builtin rfl (C.mgN (by rfl)) (C.mbK (by decide) boot_object) ⟨rfl, ?_⟩
  refine ex_cons <| ex_assign 2 rfl <| ev_call_def (f := 62) (ev_global rfl (C.mgK (by rfl)) ⟨rfl, args_cons <| ev_local 0 rfl rfl <| args_cons <| ev_local 1 rfl rfl <| args_cons <| ev_str <| args_nil <| w_tr (.inr ⟨_, rfl⟩) hts hx (by omega) hloud fun n g le er => ?_⟩) (by rfl)
  refine ex_cons <| ex_return <| ev_call_def (f := 69) (ev_global rfl (C.mgK (by rfl)) ⟨rfl, args_cons <| ev_local 2 rfl rfl <| args_cons <| ev_local 1 rfl rfl <| args_nil <| w_jtp (by omega) er (lone_tr ts) ?_ ?_ fun g' le' => ⟨_, rfl, h _ (((Le.app _ _).trans le).trans le')⟩⟩) (by rfl)
  · have := tr_len ts; omega
  · have := textP_bound ts; omega

theorem w_law {a : Addr} {xs : Array Value} {is : List Int} (hk : k < 40) (hloud : C.loud = true) (ea : C.h₀.IsList a xs) (hx : F2 IntV is xs.toList) (n1 : a ≠ 57) (n2 : a ≠ 76) (hsz : xs.size ≤ sizeLine) :
    ACall C k hp (.ref 140) [.raw (.ref a)] fun v _ => v = .bool true := by
  have big : (10000000 : Nat) ≤ sizeLine := by decide
  have lb := line_bound is
  have nb := numbersP_bound is
  have wb := wordsP_bound (numbersP is)
  obtain ⟨ts, hts, hch, hpt⟩ := sent_toks (numbersP is)
  generalize hws : wordsP (numbersP is) = ws at *
  have hsl := sentG_len (lineP ws) 10
  have hcl : (charsL ts).length ≤ 376 := by
    rw [hch, List.length_map]; omega
  refine enter (d_law C.w) (by omega) rfl fun L => ?_
  refine ex_cons <| ex_assign 1 rfl <| ev_call_def (f := 111) (ev_global rfl (C.mgK (by rfl)) ⟨rfl, args_cons <| ev_local 0 rfl rfl <| args_nil <| w_words (by omega) ea hx n1 n2 hsz fun j g1 le1 W => ?_⟩) (by rfl)
  rw [hws] at W
  obtain ⟨js, ej, each⟩ := W
  have hjl : js.length = ws.length := F2.length' each
  refine ex_mid (fun l g => l = [some (.raw (.ref a)), some (.lst j), some (.str (tx (charsL ts))), none] ∧ Le g1 g) ?_ ?_
  · refine ex_assign 2 rfl <| ev_call_def (f := 106) (ev_global rfl (C.mgK (by rfl)) ⟨rfl, args_cons <| ev_call_def (f := 81) (ev_global rfl (C.mgK (by rfl)) ⟨rfl, args_cons ?_⟩) (by rfl)⟩) (by rfl)
    refine ev_comp (compOk (F := frD C.w 140 ["script", "words", "line", "parts"] L) (cl := []) [".0", "word"] rfl rfl rfl rfl rfl rfl (by decide) (by simp) rfl (fun p hp => nomatch hp)) (items := js.map V.lst) (Sc := fun g => g[j]? = some (some (js.map V.lst))) (fun _ => true) (wordTx g1) (fun lc => ∃ x, lc = [none, x]) (lc0 := [none, none]) ⟨_, rfl⟩ (lc0_none [".0", "word"]) (by rw [List.length_map]; omega)
      (ev_local 1 rfl rfl ⟨src_list ej, fun g le => le _ _ ej, fun b v lc g hv li le => ?_, fun g le eg => ?_⟩)
    · obtain ⟨x, rfl⟩ := li
      obtain ⟨i, hi, rfl⟩ := List.mem_map.mp hv
      obtain ⟨w, hw, ew⟩ := F2.memL each hi
      have hwl := mem_total hw
      refine ⟨_, ⟨_, rfl⟩, asg_name 1 rfl, tests_nil ⟨Le.refl _, rfl, fun _ => ev_join ?_⟩⟩
      refine ev_comp (compOk (cl := []) [".0", "sign", "part"] rfl rfl rfl rfl rfl rfl (by decide) (by simp) rfl (fun p hp => nomatch hp)) (items := sgsV w) (Sc := fun g => g[i]? = some (some (sgsV w))) (fun _ => true) fstV (fun lc => ∃ x y, lc = [none, x, y]) (lc0 := [none, none, none]) ⟨_, _, rfl⟩ (lc0_none [".0", "sign", "part"]) (by rw [sgsV_len]; omega)
        (ev_local 1 rfl rfl ⟨src_list (le _ _ ew), fun g' le' => le' _ _ (le _ _ ew), fun b' v' lc' g' hv' li' le' => ?_, fun g' le' eg' => ?_⟩)
      · obtain ⟨x', y', rfl⟩ := li'
        obtain ⟨p, hp, rfl⟩ := List.mem_map.mp hv'
        exact ⟨_, ⟨_, _, rfl⟩, asg_pair 1 2 rfl rfl, tests_nil ⟨Le.refl _, rfl, fun _ => ev_local 1 rfl rfl ⟨Le.refl _, rfl⟩⟩⟩
      · rw [fstsV] at eg'
        refine ⟨_, w.map fun p => [p.1], rfl, eg', ?_, le', ?_⟩
        · rw [flat_one, List.length_map]; omega
        · rw [flat_one, wordTx_at ew]; rfl
    · rw [words_txt each] at eg
      have hlt : (lineP ws).map (fun p : Sg => p.1) = (Str.join ⟨#[32]⟩ ((ws.map txt).map quoteS)).cps.toList := by
        rw [List.map_map]; exact line_text ws false
      have hjs : (Str.join ⟨#[32]⟩ ((ws.map txt).map quoteS)).cps.size ≤ 1000 := by
        have e2 : (Str.join ⟨#[32]⟩ ((ws.map txt).map quoteS)).cps.size = (lineP ws).length := by rw [← Array.length_toList, ← hlt, List.length_map]
        rw [e2]; omega
      refine args_nil <| w_join (by omega) hloud eg (fun x hx => ?_) (by rw [List.length_map]; omega) <| args_nil <| w_quotedata (by omega) hjs fun g' le' => ⟨?_, le.trans le'⟩
      · obtain ⟨w, hw, rfl⟩ := List.mem_map.mp hx
        have := mem_total hw
        show (w.map (fun p => p.1)).toArray.size ≤ 1000
        simp; omega
      · have : sub3 (sub4 (Str.join ⟨#[32]⟩ ((ws.map txt).map quoteS))) = tx (charsL ts) := by
          refine str_ext ?_
          rw [data_list, ← hlt, ← sent_fst, ← hch]
          exact (List.toList_toArray ..).symm
        rw [this]; rfl
  rintro _ g2 ⟨rfl, le2⟩
  refine ex_cons <| ex_assign 3 rfl <| ev_call_def (f := 130) (ev_global rfl (C.mgK (by rfl)) ⟨rfl, args_cons <| ev_call_def (f := 123) (ev_global rfl (C.mgK (by rfl)) ⟨rfl, args_cons <| ev_call_def (f := 116) (ev_global rfl (C.mgK (by rfl)) ⟨rfl, args_cons <| ev_local 1 rfl rfl <| args_nil <|
    w_line (by omega) ⟨js, le2 _ _ ej, each.mono fun i w _ e => le2 _ _ e⟩ ⟨by omega, by omega, by omega⟩ fun n3 g3 le3 e3 => args_nil <| w_sent (by omega) e3 (by omega) fun n4 g4 le4 e4 => args_nil <| w_parts (by omega) e4 (by omega) fun n5 g5 le5 e5 => ?_⟩) (by rfl)⟩) (by rfl)⟩) (by rfl)
  rw [hpt] at e5
  refine ex_cons <| ex_return <| ev_and <| ev_cmp <| ev_call_def (f := 62) (ev_global rfl (C.mgK (by rfl)) ⟨rfl, args_cons <| ev_local 2 rfl rfl <| args_cons <| ev_none <| args_cons <| ev_str <| args_nil <| w_tr (.inl rfl) hts (by omega) (by omega) hloud fun n6 g6 le6 e6 => ?_⟩) (by rfl)
  rw [pvs_pos, pos_opts] at e6
  have e5' := le6 _ _ e5
  rw [pos_opts] at e5'
  refine ev_local 3 rfl rfl <| c_eq_opts e6 e5' ⟨true, by rw [decide_eq_true rfl]; exact tr_bool, fun _ => ?_, noF⟩
  refine ev_boolop_one <| ev_cmp <| ev_call_def (f := 43) (ev_global rfl (C.mgK (by rfl)) ⟨rfl, args_cons <| ev_local 2 rfl rfl <| args_nil <| w_translate hts (by omega) (by omega) hloud fun g7 le7 => ?_⟩) (by rfl)
  have e5'' := le7 _ _ (le6 _ _ e5)
  have htl := tr_len ts
  have htb := textP_bound ts
  refine ev_call_def (f := 135) (ev_global rfl (C.mgK (by rfl)) ⟨rfl, args_cons <| ev_local 3 rfl rfl <| args_nil <| w_text (by omega) e5'' (by omega) (by omega) fun g8 le8 => c_eq_str ⟨_, rfl, ?_⟩⟩) (by rfl)
  simp
end
end Mine
end

section
open PySem PySem.W PyProof.Rows PySem.Calls StrLaws
set_option maxHeartbeats 4000000
namespace Mine
theorem ints_of {R : WRecords} {cl : Str → Option Addr} {h : Heap} : ∀ (ds : List WData) {vs : List Value} {as : List Addr}, WShape.hasItems R ds .int = true → ReadsAllW R cl h vs ds as → ∃ is : List Int, ds = is.map WData.int ∧ F2 IntV is vs
  | [], _, _, _, h => by
    cases h
    exact ⟨[], rfl, .nil⟩
  | d :: ds, _, _, hs, h => by
    cases h with
    | cons r rs =>
    have hs' : (WShape.has R d .int && WShape.hasItems R ds .int) = true := by
      simpa [WShape.hasItems] using hs
    rw [Bool.and_eq_true] at hs'
    obtain ⟨is, e, f⟩ := ints_of ds hs'.2 rs
    have hd := hs'.1
    cases r with
    | int i t => exact ⟨i :: is, by rw [e]; rfl, .cons ⟨t, rfl⟩ f⟩
    | _ => simp [WShape.has, WShape.arms] at hd
theorem one_list {R : WRecords} {args : List WData} (h : WShape.hasAll R args [.list .int] = true) : ∃ xs, args = [.list xs] ∧ WShape.hasItems R xs .int = true := by
  match args, h with
  | [], h => simp [WShape.hasAll] at h
  | [d], h =>
    have h' : WShape.has R d (.list .int) = true := by
      simpa [WShape.hasAll] using h
    cases d with
    | list xs => exact ⟨xs, rfl, by simpa [WShape.has, WShape.arms] using h'⟩
    | _ => simp [WShape.has, WShape.arms] at h'
  | d :: e :: r, h =>
    simp [WShape.hasAll] at h
theorem few {xs : List WData} (h : WData.layableAll [.list xs] = true) : xs.length ≤ 1048576 := by
  have h' : (WData.layable (.list xs) && true) = true := h
  rw [Bool.and_true] at h'
  exact length_le_of_layableW h'
theorem post_true (args : List WData) : Challenge.rw_in0261_01.row.toRowW.claim.post args (.bool true) args = true := by
  show (WShape.has [] (.bool true) .bool && WTm.holds [] (.eq .res (.lit (.bool true))) { args := args, res := some (.bool true), after := args }) = true
  have e : PySem.W.same (WData.bool true) (WData.bool true) = true := by simp [PySem.W.same]
  simp [WShape.has, WShape.arms, WTm.holds, WTm.value, e]
theorem F2.lenR {A B : Type} {R : A → B → Prop} {l : List A} {r : List B} (h : F2 R l r) : r.length = l.length := F2.length h
/-- the whole -/
theorem wholeQ : Challenge.rw_in0261_01.Holds := headQ fun w s₀ s₁ mg mb G Y a o pm cd doc dV kV ho hd hcd hD hmg hgens args vals as hpre hlay hrd hwl hlo => by
  have Y' : (kmHook heapQ [3,35,36,42,43,45,54,55,61,62,68,69,73,74,80,81,82,88,89,93,94,98,99,105,106,110,111,115,116,122,123,129,130,134,135,139,140] (fun _ => rfl) [57, 76]).says w s₁.heap := Y
  have K : (KF w).In s₁.heap := km_in_of Y'
  have Ts := km_tabs_of Y'
  have t57 : s₁.heap.get? 57 = some (tabObj #[]) := Ts 57 (by simp)
  have t76 : s₁.heap.get? 76 = some (tabObj #[]) := Ts 76 (by simp)
  have T := G.T
  have ok : H0 w mg mb s₁.heap := ⟨K, T.g, T.b, T.nolimit, T.builtins, T.bmain, ⟨_, t57⟩, ⟨_, t76⟩⟩
  have ea : a = 140 := by
    have m1 : mg "law" = some (.ref 140) := mg_of K T.g (by rfl)
    have m2 : mg "law" = some (.ref a) := hmg
    rw [m1] at m2
    cases m2; rfl
  subst ea
  have hp1 : WShape.hasAll [] args [.list .int] = true := (Bool.and_eq_true_iff.mp hpre).1
  obtain ⟨xs, rfl, hit⟩ := one_list hp1
  cases hrd with
  | cons r1 r2 =>
  cases r2
  cases r1 with
  | list e1 e2 e3 e4 =>
  rename_i al ol vs nl asl
  obtain ⟨is, hxs, hf⟩ := ints_of _ hit e4
  have hsz : vs.size ≤ sizeLine := by
    have h1 := few hlay
    have h2 := F2.lenR hf
    rw [hxs, List.length_map] at h1
    have h3 : (1048576 : Nat) ≤ sizeLine := by decide
    rw [Array.length_toList] at h2
    omega
  have n57 : al ≠ 57 := fun z => by
    rw [z, t57] at e1
    cases e1; cases e2
  have n76 : al ≠ 76 := fun z => by
    rw [z, t76] at e1
    cases e1; cases e2
  let C : Cx := { prog := Challenge.rw_in0261_01.row.toRowW.prog, w := w, mg := mg, mb := mb, h₀ := s₁.heap, ok := ok, loud := true, g₀ := #[], d₀ := s₁.drawn }
  have H : HR C [] [] s₁.heap := ⟨⟨fun b o e _ _ => e, ⟨_, t57, .inl rfl⟩, ⟨_, t76, .inl rfl⟩, fun l => by cases l⟩, rfl, List.nodup_nil, (fun a h => nomatch h), (fun i a c h _ => by simp at h)⟩
  have B : Br C s₁ := ⟨fun _ => .of_eq hgens, fun l => by cases l⟩
  refine w_law (C := C) (k := 0) (hp := []) (by decide) rfl ⟨ol, e1, e2, _, e3⟩ hf n57 n76 hsz callerA [] s₁ _ _ [.ref al] ⟨rfl, by decide, by decide, by decide⟩ H B (.cons rfl .nil) fun v hp' α' s' x pv n H' r => ?_
  subst pv
  have hx : x = .bool true := r
  subst hx
  refine ⟨.inl ⟨.bool true, .bool true, [], rfl, fun _ => rfl, .bool true, post_true _, fun _ => ⟨List.nodup_nil, fun a h => nomatch h⟩⟩, ⟨fun b o e => ?_, fun b o e => n.there b o e⟩, n.os, (n.bare B).1 rfl⟩
  by_cases h57 : b = 57
  · subst h57
    rw [t57] at e
    cases e
    obtain ⟨ps, e', _⟩ := H'.base.t57
    refine .inr (.inl ⟨⟨61, _, _, K 61 _ rfl, rfl, rfl, rfl⟩, rfl, #[], ps, rfl, ?_⟩)
    rw [e']; simp [tabObj]
  · by_cases h76 : b = 76
    · subst h76
      rw [t76] at e
      cases e
      obtain ⟨ps, e', _⟩ := H'.base.t76
      refine .inr (.inl ⟨⟨80, _, _, K 80 _ rfl, rfl, rfl, rfl⟩, rfl, #[], ps, rfl, ?_⟩)
      rw [e']; simp [tabObj]
    · exact .inl (H'.base.keep b o e h57 h76)
end Mine
end

theorem PySem.Challenge.cw_in0261_01_holds : PySem.Challenge.rw_in0261_01.Holds := by
  exact Mine.wholeQ
