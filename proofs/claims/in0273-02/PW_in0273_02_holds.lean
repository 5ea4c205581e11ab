import PyProof.Rows.All
import Wide.All
import OpenK.AllK
import Wide.FinOn
import PySem.Challenge.RW_in0273_02
open PySem PySem.W PyProof.Rows
set_option Elab.async false
set_option compiler.extract_closed false
set_option genSizeOf false
set_option linter.all false
set_option maxRecDepth 100000
set_option maxHeartbeats 16000000
namespace Mine
noncomputable def top (i : Nat) : Stmt := PySem.Challenge.pw_in0273_02.main.body.getD i (.Pass ⟨0, 0, 0, 0⟩)
noncomputable def bodyOf : Stmt → List Stmt
  | .FunctionDef _ _ b .. => b
  | .ClassDef _ _ _ b .. => b
  | _ => []
noncomputable def parOf : Stmt → Arguments
  | .FunctionDef _ p .. => p
  | _ => ⟨[], [], none, [], [], none, []⟩
noncomputable def scOf : Stmt → Scope
  | .FunctionDef _ _ _ _ _ _ s .. => s
  | .ClassDef _ _ _ _ _ _ s .. => s
  | _ => default
noncomputable def fB (i : Nat) : List Stmt := bodyOf (top i)
noncomputable def fP (i : Nat) : Arguments := parOf (top i)
noncomputable def fS (i : Nat) : Scope := scOf (top i)
noncomputable def mem (i j : Nat) : Stmt := (bodyOf (top i)).getD j (.Pass ⟨0, 0, 0, 0⟩)
noncomputable def mB (i j : Nat) : List Stmt := bodyOf (mem i j)
noncomputable def mP (i j : Nat) : Arguments := parOf (mem i j)
noncomputable def mS (i j : Nat) : Scope := scOf (mem i j)
noncomputable abbrev de (P : Params) (k : Str) (t : Tok) (v : Value) : DictEntry := ⟨PyData.keyHash P k, .str k t, v⟩
noncomputable def frag (P : Params) : Frag := [
  (3, (.mk (.type "dict") none (.dict #[(de P "__name__" 165 (.str "law_in0273_02" 617)), (de P "__doc__" 166 .none), (de P "__package__" 167 .none), (de P "__loader__" 168 (.builtin "__main__.__loader__#opaque")), (de P "__spec__" 169 .none), (de P "__annotations__" 170 (.ref 6)), (de P "__builtins__" 171 (.ref 4)), (de P "__file__" 173 (.str "/claim/cut.py" 172)), (de P "__cached__" 174 .none), (de P "_sre" 275 (.ref 12)), (de P "_twin_re_1" 321 (.ref 36)), (de P "translate" 330 (.ref 43)), (de P "_special_chars_map" 478 (.ref 45)), (de P "escape" 485 (.ref 55)), (de P "_translate" 506 (.ref 62)), (de P "_join_translated_parts" 519 (.ref 69)), (de P "Entry" 583 (.ref 107)), (de P "translate_pattern" 592 (.ref 118)), (de P "merge_entries" 601 (.ref 125)), (de P "_initial_missing" 604 (.ref 126)), (de P "reduce" 616 (.ref 134)), (de P "_law_items" 624 (.ref 139)), (de P "_law_bite" 634 (.ref 146)), (de P "_law_next" 640 (.ref 151)), (de P "_law_reads" 650 (.ref 158)), (de P "_law_ends" 656 (.ref 163)), (de P "_law_record" 672 (.ref 170)), (de P "law" 678 (.ref 175))] 28) #[])),
  (35, (.mk (.type "tuple") none (.seq #[(.int 14 0), (.int 14 0), (.int 4 0), (.int 1 0), (.int 1 0), (.int 9 0), (.int 0 0), (.int 64 0), (.int 0 0), (.int 1342177280 0), (.int 0 0), (.int 0 0), (.int 0 0), (.int 0 0), (.int 0 0), (.int 17 0), (.int 0 0), (.int 13 0), (.int 11 0), (.int 9 0), (.int 0 0), (.int 64 0), (.int 0 0), (.int 1342177280 0), (.int 0 0), (.int 0 0), (.int 0 0), (.int 0 0), (.int 0 0), (.int 17 0), (.int 1 0), (.int 1 0)] 0) #[])),
  (36, (.mk (.type "re.Pattern") none (.fields #[(.str "([&~|])" 285), (.int 32 320), (.int 1 0), .none, .none, (.ref 35), (.int 0 0)]) #[])),
  (37, (.mk (.type "tuple") none (.seq #[] 0) #[])),
  (39, (.mk (.type "tuple") none (.seq #[(.str "pat" 325), (.str "STAR" 326), (.str "parts" 327)] 0) #[])),
  (40, (.mk (.type "tuple") none (.seq #[] 0) #[])),
  (42, (.mk (.type "code") none (.fields #[(.str "translate" 322), (.str "translate" 323), (.str "/claim/cut.py" 324), (.int 4 0), (.int 1 0), (.int 0 0), (.int 0 0), (.int 3 0), (.ref 37), (.bool true), (.int 276 0), (.ref 38), .none, (.ref 39), (.ref 40), (.ref 41), (.int 328 0), (.int 4 0), (.str "/claim/cut.py" 329)]) #[])),
  (43, (.mk (.type "function") none (.func (.mk "translate" "translate" (fP 3) (.stmts (fB 3)) (fS 3) 3 [] .none .none .none (.str "cpy313.fnmatch" 282) none (.ref 42) .none 0)) #[])),
  (45, (.mk (.type "dict") none (.dict #[(DictEntry.mk 40 (.int 40 334) (.str "\\(" 338)), (DictEntry.mk 41 (.int 41 340) (.str "\\)" 344)), (DictEntry.mk 91 (.int 91 346) (.str "\\[" 350)), (DictEntry.mk 93 (.int 93 352) (.str "\\]" 356)), (DictEntry.mk 123 (.int 123 358) (.str "\\{" 362)), (DictEntry.mk 125 (.int 125 364) (.str "\\}" 368)), (DictEntry.mk 63 (.int 63 370) (.str "\\?" 374)), (DictEntry.mk 42 (.int 42 376) (.str "\\*" 380)), (DictEntry.mk 43 (.int 43 382) (.str "\\+" 386)), (DictEntry.mk 45 (.int 45 388) (.str "\\-" 392)), (DictEntry.mk 124 (.int 124 394) (.str "\\|" 398)), (DictEntry.mk 94 (.int 94 400) (.str "\\^" 404)), (DictEntry.mk 36 (.int 36 406) (.str "\\$" 410)), (DictEntry.mk 92 (.int 92 412) (.str "\\\\" 416)), (DictEntry.mk 46 (.int 46 418) (.str "\\." 422)), (DictEntry.mk 38 (.int 38 424) (.str "\\&" 428)), (DictEntry.mk 126 (.int 126 430) (.str "\\~" 434)), (DictEntry.mk 35 (.int 35 436) (.str "\\#" 440)), (DictEntry.mk 32 (.int 32 442) (.str "\\ " 446)), (DictEntry.mk 9 (.int 9 448) (.str "\\\t" 452)), (DictEntry.mk 10 (.int 10 454) (.str "\\\n" 458)), (DictEntry.mk 13 (.int 13 460) (.str "\\\x0d" 464)), (DictEntry.mk 11 (.int 11 466) (.str "\\\x0b" 470)), (DictEntry.mk 12 (.int 12 472) (.str "\\\x0c" 476))] 24) #[])),
  (49, (.mk (.type "tuple") none (.seq #[] 0) #[])),
  (51, (.mk (.type "tuple") none (.seq #[(.str "pattern" 482)] 0) #[])),
  (52, (.mk (.type "tuple") none (.seq #[] 0) #[])),
  (54, (.mk (.type "code") none (.fields #[(.str "escape" 479), (.str "escape" 480), (.str "/claim/cut.py" 481), (.int 10 0), (.int 1 0), (.int 0 0), (.int 0 0), (.int 3 0), (.ref 49), (.bool true), (.int 276 0), (.ref 50), .none, (.ref 51), (.ref 52), (.ref 53), (.int 483 0), (.int 10 0), (.str "/claim/cut.py" 484)]) #[])),
  (55, (.mk (.type "function") none (.func (.mk "escape" "escape" (fP 6) (.stmts (fB 6)) (fS 6) 3 [] .none .none .none (.str "re" 331) none (.ref 54) .none 0)) #[])),
  (56, (.mk (.type "tuple") none (.seq #[] 0) #[])),
  (58, (.mk (.type "tuple") none (.seq #[(.str "pat" 491), (.str "STAR" 492), (.str "QUESTION_MARK" 493), (.str "res" 494), (.str "add" 495), (.str "i" 496), (.str "n" 497), (.str "c" 498), (.str "j" 499), (.str "stuff" 500), (.str "chunks" 501), (.str "k" 502), (.str "chunk" 503)] 0) #[])),
  (59, (.mk (.type "tuple") none (.seq #[] 0) #[])),
  (61, (.mk (.type "code") none (.fields #[(.str "_translate" 488), (.str "_translate" 489), (.str "/claim/cut.py" 490), (.int 17 0), (.int 3 0), (.int 0 0), (.int 0 0), (.int 3 0), (.ref 56), (.bool true), (.int 276 0), (.ref 57), .none, (.ref 58), (.ref 59), (.ref 60), (.int 504 0), (.int 17 0), (.str "/claim/cut.py" 505)]) #[])),
  (62, (.mk (.type "function") none (.func (.mk "_translate" "_translate" (fP 8) (.stmts (fB 8)) (fS 8) 3 [] .none .none .none (.str "cpy313.fnmatch" 486) none (.ref 61) .none 0)) #[])),
  (63, (.mk (.type "tuple") none (.seq #[] 0) #[])),
  (65, (.mk (.type "tuple") none (.seq #[(.str "inp" 510), (.str "STAR" 511), (.str "res" 512), (.str "add" 513), (.str "i" 514), (.str "n" 515), (.str "fixed" 516)] 0) #[])),
  (66, (.mk (.type "tuple") none (.seq #[] 0) #[])),
  (68, (.mk (.type "code") none (.fields #[(.str "_join_translated_parts" 507), (.str "_join_translated_parts" 508), (.str "/claim/cut.py" 509), (.int 79 0), (.int 2 0), (.int 0 0), (.int 0 0), (.int 3 0), (.ref 63), (.bool true), (.int 276 0), (.ref 64), .none, (.ref 65), (.ref 66), (.ref 67), (.int 517 0), (.int 79 0), (.str "/claim/cut.py" 518)]) #[])),
  (69, (.mk (.type "function") none (.func (.mk "_join_translated_parts" "_join_translated_parts" (fP 9) (.stmts (fB 9)) (fS 9) 3 [] .none .none .none (.str "cpy313.fnmatch" 486) none (.ref 68) .none 0)) #[])),
  (77, (.mk (.type "tuple") none (.seq #[] 0) #[])),
  (79, (.mk (.type "tuple") none (.seq #[(.str "self" 537)] 0) #[])),
  (80, (.mk (.type "tuple") none (.seq #[] 0) #[])),
  (82, (.mk (.type "code") none (.fields #[(.str "__init__" 534), (.str "Entry.__init__" 535), (.str "/claim/cut.py" 536), (.int 109 0), (.int 1 0), (.int 0 0), (.int 0 0), (.int 3 0), (.ref 77), (.bool true), (.int 276 0), (.ref 78), .none, (.ref 79), (.ref 80), (.ref 81), (.int 538 0), (.int 109 0), (.str "/claim/cut.py" 539)]) #[])),
  (83, (.mk (.type "function") none (.func (.mk "__init__" "Entry.__init__" (mP 11 0) (.stmts (mB 11 0)) (mS 11 0) 3 [] .none .none .none (.str "cpy313.urllib.robotparser" 520) none (.ref 82) .none 0)) #[])),
  (84, (.mk (.type "tuple") none (.seq #[] 0) #[])),
  (86, (.mk (.type "tuple") none (.seq #[(.str "self" 544), (.str "ret" 545), (.str "agent" 546), (.str "rate" 547)] 0) #[])),
  (87, (.mk (.type "tuple") none (.seq #[] 0) #[])),
  (89, (.mk (.type "code") none (.fields #[(.str "__str__" 541), (.str "Entry.__str__" 542), (.str "/claim/cut.py" 543), (.int 115 0), (.int 1 0), (.int 0 0), (.int 0 0), (.int 3 0), (.ref 84), (.bool true), (.int 276 0), (.ref 85), .none, (.ref 86), (.ref 87), (.ref 88), (.int 548 0), (.int 115 0), (.str "/claim/cut.py" 549)]) #[])),
  (90, (.mk (.type "function") none (.func (.mk "__str__" "Entry.__str__" (mP 11 1) (.stmts (mB 11 1)) (mS 11 1) 3 [] .none .none .none (.str "cpy313.urllib.robotparser" 520) none (.ref 89) .none 0)) #[])),
  (91, (.mk (.type "tuple") none (.seq #[] 0) #[])),
  (93, (.mk (.type "tuple") none (.seq #[(.str "self" 554), (.str "useragent" 555), (.str "agent" 556)] 0) #[])),
  (94, (.mk (.type "tuple") none (.seq #[] 0) #[])),
  (96, (.mk (.type "code") none (.fields #[(.str "applies_to" 551), (.str "Entry.applies_to" 552), (.str "/claim/cut.py" 553), (.int 132 0), (.int 2 0), (.int 0 0), (.int 0 0), (.int 3 0), (.ref 91), (.bool true), (.int 276 0), (.ref 92), .none, (.ref 93), (.ref 94), (.ref 95), (.int 557 0), (.int 132 0), (.str "/claim/cut.py" 558)]) #[])),
  (97, (.mk (.type "function") none (.func (.mk "applies_to" "Entry.applies_to" (mP 11 2) (.stmts (mB 11 2)) (mS 11 2) 3 [] .none .none .none (.str "cpy313.urllib.robotparser" 520) none (.ref 96) .none 0)) #[])),
  (98, (.mk (.type "tuple") none (.seq #[] 0) #[])),
  (100, (.mk (.type "tuple") none (.seq #[(.str "self" 563), (.str "filename" 564), (.str "best_match" 565), (.str "allowance" 566), (.str "line" 567), (.str "m" 568)] 0) #[])),
  (101, (.mk (.type "tuple") none (.seq #[] 0) #[])),
  (103, (.mk (.type "code") none (.fields #[(.str "allowance" 560), (.str "Entry.allowance" 561), (.str "/claim/cut.py" 562), (.int 143 0), (.int 2 0), (.int 0 0), (.int 0 0), (.int 3 0), (.ref 98), (.bool true), (.int 276 0), (.ref 99), .none, (.ref 100), (.ref 101), (.ref 102), (.int 569 0), (.int 143 0), (.str "/claim/cut.py" 570)]) #[])),
  (104, (.mk (.type "function") none (.func (.mk "allowance" "Entry.allowance" (mP 11 3) (.stmts (mB 11 3)) (mS 11 3) 3 [] .none .none .none (.str "cpy313.urllib.robotparser" 520) none (.ref 103) .none 0)) #[])),
  (105, (.mk (.type "tuple") none (.seq #[(.str "delay" 572), (.str "req_rate" 573), (.str "rulelines" 574), (.str "useragents" 575)] 0) #[])),
  (106, (.mk (.type "dict") none (.dict #[(de P "__module__" 529 (.str "cpy313.urllib.robotparser" 520)), (de P "__firstlineno__" 533 (.int 107 532)), (de P "__init__" 540 (.ref 83)), (de P "__str__" 550 (.ref 90)), (de P "applies_to" 559 (.ref 97)), (de P "allowance" 571 (.ref 104)), (de P "__static_attributes__" 576 (.ref 105)), (de P "__dict__" 578 (.ref 108)), (de P "__weakref__" 580 (.ref 109)), (de P "__doc__" 581 .none)] 4) #[])),
  (107, (.mk (.type "type") none (.cls (.mk "Entry" [(.type "object")] [(.ref 107), (.type "object")] 106 "Entry" true [] [] false none false)) #[none, none, (some (.str "Entry" 522)), (some (.str "Entry" 530)), (some (.builtin "object.__new__")), (some (.bool true))])),
  (108, (.mk (.type "getset_descriptor") none (.fields #[(.str "__dict__" 577), (.ref 107), (.builtin "function.__dict__"), (.builtin "function.__dict__#set")]) #[])),
  (109, (.mk (.type "getset_descriptor") none (.fields #[(.str "__weakref__" 579), (.ref 107), (.builtin "ExceptionGroup.__weakref__"), .none]) #[])),
  (112, (.mk (.type "tuple") none (.seq #[] 0) #[])),
  (114, (.mk (.type "tuple") none (.seq #[(.str "path" 587), (.str "parts" 588), (.str "i" 589)] 0) #[])),
  (115, (.mk (.type "tuple") none (.seq #[] 0) #[])),
  (117, (.mk (.type "code") none (.fields #[(.str "translate_pattern" 584), (.str "translate_pattern" 585), (.str "/claim/cut.py" 586), (.int 155 0), (.int 1 0), (.int 0 0), (.int 0 0), (.int 3 0), (.ref 112), (.bool true), (.int 276 0), (.ref 113), .none, (.ref 114), (.ref 115), (.ref 116), (.int 590 0), (.int 155 0), (.str "/claim/cut.py" 591)]) #[])),
  (118, (.mk (.type "function") none (.func (.mk "translate_pattern" "translate_pattern" (fP 12) (.stmts (fB 12)) (fS 12) 3 [] .none .none .none (.str "cpy313.urllib.robotparser" 520) none (.ref 117) .none 0)) #[])),
  (119, (.mk (.type "tuple") none (.seq #[] 0) #[])),
  (121, (.mk (.type "tuple") none (.seq #[(.str "e1" 596), (.str "e2" 597), (.str "entry" 598)] 0) #[])),
  (122, (.mk (.type "tuple") none (.seq #[] 0) #[])),
  (124, (.mk (.type "code") none (.fields #[(.str "merge_entries" 593), (.str "merge_entries" 594), (.str "/claim/cut.py" 595), (.int 161 0), (.int 2 0), (.int 0 0), (.int 0 0), (.int 3 0), (.ref 119), (.bool true), (.int 276 0), (.ref 120), .none, (.ref 121), (.ref 122), (.ref 123), (.int 599 0), (.int 161 0), (.str "/claim/cut.py" 600)]) #[])),
  (125, (.mk (.type "function") none (.func (.mk "merge_entries" "merge_entries" (fP 13) (.stmts (fB 13)) (fS 13) 3 [] .none .none .none (.str "cpy313.urllib.robotparser" 520) none (.ref 124) .none 0)) #[])),
  (126, (.mk (.type "object") none .plain #[])),
  (127, (.mk (.type "tuple") none (.seq #[(.ref 126)] 0) #[])),
  (128, (.mk (.type "tuple") none (.seq #[] 0) #[])),
  (130, (.mk (.type "tuple") none (.seq #[(.str "function" 608), (.str "sequence" 609), (.str "initial" 610), (.str "it" 611), (.str "value" 612), (.str "element" 613)] 0) #[])),
  (131, (.mk (.type "tuple") none (.seq #[] 0) #[])),
  (133, (.mk (.type "code") none (.fields #[(.str "reduce" 605), (.str "reduce" 606), (.str "/claim/cut.py" 607), (.int 170 0), (.int 3 0), (.int 0 0), (.int 0 0), (.int 3 0), (.ref 128), (.bool true), (.int 276 0), (.ref 129), .none, (.ref 130), (.ref 131), (.ref 132), (.int 614 0), (.int 170 0), (.str "/claim/cut.py" 615)]) #[])),
  (134, (.mk (.type "function") none (.func (.mk "reduce" "reduce" (fP 16) (.stmts (fB 16)) (fS 16) 3 [] (.ref 127) .none .none (.str "cpy313.functools" 602) none (.ref 133) .none 0)) #[])),
  (135, (.mk (.type "tuple") none (.seq #[] 0) #[])),
  (138, (.mk (.type "code") none (.fields #[(.str "_law_items" 619), (.str "_law_items" 620), (.str "/claim/cut.py" 621), (.int 183 0), (.int 4 0), (.int 0 0), (.int 0 0), (.int 3 0), (.ref 135), (.bool true), (.int 276 0), (.ref 136), .none, .none, .none, (.ref 137), (.int 622 0), (.int 183 0), (.str "/claim/cut.py" 623)]) #[])),
  (139, (.mk (.type "function") none (.func (.mk "_law_items" "_law_items" (fP 18) (.stmts (fB 18)) (fS 18) 3 [] .none .none .none (.str "law_in0273_02" 617) none (.ref 138) .none 0)) #[])),
  (140, (.mk (.type "tuple") none (.seq #[] 0) #[])),
  (142, (.mk (.type "tuple") none (.seq #[(.str "items" 628), (.str "sign" 629), (.str "left" 630), (.str "k" 631)] 0) #[])),
  (143, (.mk (.type "tuple") none (.seq #[] 0) #[])),
  (145, (.mk (.type "code") none (.fields #[(.str "_law_bite" 625), (.str "_law_bite" 626), (.str "/claim/cut.py" 627), (.int 190 0), (.int 2 0), (.int 0 0), (.int 0 0), (.int 3 0), (.ref 140), (.bool true), (.int 276 0), (.ref 141), .none, (.ref 142), (.ref 143), (.ref 144), (.int 632 0), (.int 190 0), (.str "/claim/cut.py" 633)]) #[])),
  (146, (.mk (.type "function") none (.func (.mk "_law_bite" "_law_bite" (fP 19) (.stmts (fB 19)) (fS 19) 3 [] .none .none .none (.str "law_in0273_02" 617) none (.ref 145) .none 0)) #[])),
  (147, (.mk (.type "tuple") none (.seq #[] 0) #[])),
  (150, (.mk (.type "code") none (.fields #[(.str "_law_next" 635), (.str "_law_next" 636), (.str "/claim/cut.py" 637), (.int 199 0), (.int 2 0), (.int 0 0), (.int 0 0), (.int 3 0), (.ref 147), (.bool true), (.int 276 0), (.ref 148), .none, .none, .none, (.ref 149), (.int 638 0), (.int 199 0), (.str "/claim/cut.py" 639)]) #[])),
  (151, (.mk (.type "function") none (.func (.mk "_law_next" "_law_next" (fP 20) (.stmts (fB 20)) (fS 20) 3 [] .none .none .none (.str "law_in0273_02" 617) none (.ref 150) .none 0)) #[])),
  (152, (.mk (.type "tuple") none (.seq #[] 0) #[])),
  (154, (.mk (.type "tuple") none (.seq #[(.str "item" 644), (.str "sign" 645), (.str "bar" 646), (.str "inner" 647)] 0) #[])),
  (155, (.mk (.type "tuple") none (.seq #[] 0) #[])),
  (157, (.mk (.type "code") none (.fields #[(.str "_law_reads" 641), (.str "_law_reads" 642), (.str "/claim/cut.py" 643), (.int 209 0), (.int 2 0), (.int 0 0), (.int 0 0), (.int 3 0), (.ref 152), (.bool true), (.int 276 0), (.ref 153), .none, (.ref 154), (.ref 155), (.ref 156), (.int 648 0), (.int 209 0), (.str "/claim/cut.py" 649)]) #[])),
  (158, (.mk (.type "function") none (.func (.mk "_law_reads" "_law_reads" (fP 21) (.stmts (fB 21)) (fS 21) 3 [] .none .none .none (.str "law_in0273_02" 617) none (.ref 157) .none 0)) #[])),
  (159, (.mk (.type "tuple") none (.seq #[] 0) #[])),
  (162, (.mk (.type "code") none (.fields #[(.str "_law_ends" 651), (.str "_law_ends" 652), (.str "/claim/cut.py" 653), (.int 219 0), (.int 2 0), (.int 0 0), (.int 0 0), (.int 3 0), (.ref 159), (.bool true), (.int 276 0), (.ref 160), .none, .none, .none, (.ref 161), (.int 654 0), (.int 219 0), (.str "/claim/cut.py" 655)]) #[])),
  (163, (.mk (.type "function") none (.func (.mk "_law_ends" "_law_ends" (fP 22) (.stmts (fB 22)) (fS 22) 3 [] .none .none .none (.str "law_in0273_02" 617) none (.ref 162) .none 0)) #[])),
  (164, (.mk (.type "tuple") none (.seq #[] 0) #[])),
  (166, (.mk (.type "tuple") none (.seq #[(.str "path" 660), (.str "robots" 661), (.str "allow" 662), (.str "name" 663), (.str "text" 664), (.str "shell" 665), (.str "rule" 666), (.str "record" 667)] 0) #[])),
  (167, (.mk (.type "tuple") none (.seq #[(.str "name" 668), (.str "far" 669)] 0) #[])),
  (169, (.mk (.type "code") none (.fields #[(.str "_law_record" 657), (.str "_law_record" 658), (.str "/claim/cut.py" 659), (.int 242 0), (.int 4 0), (.int 0 0), (.int 0 0), (.int 3 0), (.ref 164), (.bool true), (.int 276 0), (.ref 165), .none, (.ref 166), (.ref 167), (.ref 168), (.int 670 0), (.int 242 0), (.str "/claim/cut.py" 671)]) #[])),
  (170, (.mk (.type "function") none (.func (.mk "_law_record" "_law_record" (fP 23) (.stmts (fB 23)) (fS 23) 3 [] .none .none .none (.str "law_in0273_02" 617) none (.ref 169) .none 0)) #[])),
  (171, (.mk (.type "tuple") none (.seq #[] 0) #[])),
  (174, (.mk (.type "code") none (.fields #[(.str "law" 673), (.str "law" 674), (.str "/claim/cut.py" 675), (.int 255 0), (.int 1 0), (.int 0 0), (.int 0 0), (.int 3 0), (.ref 171), (.bool true), (.int 276 0), (.ref 172), .none, .none, .none, (.ref 173), (.int 676 0), (.int 255 0), (.str "/claim/cut.py" 677)]) #[])),
  (175, (.mk (.type "function") none (.func (.mk "law" "law" (fP 24) (.stmts (fB 24)) (fS 24) 3 [] .none .none .none (.str "law_in0273_02" 617) none (.ref 174) .none 0)) #[]))]
noncomputable def view : Program := { PySem.Challenge.pw_in0273_02 with main := { PySem.Challenge.pw_in0273_02.main with body := [top 0, top 2, top 3, top 5, top 6, top 8, top 9, top 11, top 12, top 13, top 15, top 18, top 19, top 20, top 21, top 22, top 23, top 24] } }
noncomputable def hook : Hook := kmHook frag [3, 35, 36, 37, 39, 40, 42, 43, 45, 49, 51, 52, 54, 55, 56, 58, 59, 61, 62, 63, 65, 66, 68, 69, 77, 79, 80, 82, 83, 84, 86, 87, 89, 90, 91, 93, 94, 96, 97, 98, 100, 101, 103, 104, 105, 106, 107, 108, 109, 112, 114, 115, 117, 118, 119, 121, 122, 124, 125, 126, 127, 128, 130, 131, 133, 134, 135, 138, 139, 140, 142, 143, 145, 146, 147, 150, 151, 152, 154, 155, 157, 158, 159, 162, 163, 164, 166, 167, 169, 170, 171, 174, 175] (fun _ => by kernel_rfl) [57, 165, 172]
noncomputable def loose : List Str := [Str.ofString "_twin_re_1", Str.ofString "_special_chars_map", Str.ofString "_initial_missing", Str.ofString "reduce"]
noncomputable def seenF (s : Shared) : Bool := xlAt view [] s && recOk (RowW.records PySem.Challenge.rw_in0273_02.row.toRowW) s
theorem said : PySem.Challenge.rw_in0273_02.wellSaid = true := by decide +kernel
def LeftAt (w : World) : Prop :=
  (openEnds treeTable PySem.Challenge.rw_in0273_02.row.prog w 4488).map (fun s => (openSeen view loose (importedModules PySem.Challenge.rw_in0273_02.row.prog.main.body) seenF true s, hook.obs s)) = some (openGood view loose, hook.val w)
theorem left_ff : ∀ w : World, LeftAt ((w.withFollow "comprehension-iter-twice" false).withFollow "special-get-raises" false) := fun w => by unfold LeftAt; kernel_rfl
theorem left_ft : ∀ w : World, LeftAt ((w.withFollow "comprehension-iter-twice" false).withFollow "special-get-raises" true) := fun w => by unfold LeftAt; kernel_rfl
theorem left_tf : ∀ w : World, LeftAt ((w.withFollow "comprehension-iter-twice" true).withFollow "special-get-raises" false) := fun w => by unfold LeftAt; kernel_rfl
theorem left_tt : ∀ w : World, LeftAt ((w.withFollow "comprehension-iter-twice" true).withFollow "special-get-raises" true) := fun w => by unfold LeftAt; kernel_rfl
theorem left : LeftO PySem.Challenge.rw_in0273_02.row.prog view loose seenF hook.obs hook.val 4488 := fun w =>
  byRow2 "special-get-raises" (P := LeftAt) (byRow2 "comprehension-iter-twice" (P := fun w => LeftAt (w.withFollow "special-get-raises" false)) left_ff left_tf) (byRow2 "comprehension-iter-twice" (P := fun w => LeftAt (w.withFollow "special-get-raises" true)) left_ft left_tt) w
end Mine
namespace Mine
theorem elA {p0 p1 : Prop} {G : Prop} (h : p0 ∧ p1) (k : p0 → p1 → G) : G := k h.1 h.2
theorem elE.{u0} {α0 : Sort u0} {p0 : α0 → Prop} {G : Prop} (h : ∃ x0, p0 x0) (k : ∀ x0, p0 x0 → G) : G := h.elim fun x0 h => k x0 h
theorem elAA {p0 p1 p2 : Prop} {G : Prop} (h : p0 ∧ p1 ∧ p2) (k : p0 → p1 → p2 → G) : G := k h.1 h.2.1 h.2.2
theorem elEA.{u0} {α0 : Sort u0} {p0 p1 : α0 → Prop} {G : Prop} (h : ∃ x0, p0 x0 ∧ p1 x0) (k : ∀ x0, p0 x0 → p1 x0 → G) : G := h.elim fun x0 h => k x0 h.1 h.2
theorem elEE.{u0, u1} {α0 : Sort u0} {α1 : Sort u1} {p0 : α0 → α1 → Prop} {G : Prop} (h : ∃ x0, ∃ x1, p0 x0 x1) (k : ∀ x0 x1, p0 x0 x1 → G) : G := h.elim fun x0 h => h.elim fun x1 h => k x0 x1 h
theorem elAAA {p0 p1 p2 p3 : Prop} {G : Prop} (h : p0 ∧ p1 ∧ p2 ∧ p3) (k : p0 → p1 → p2 → p3 → G) : G := k h.1 h.2.1 h.2.2.1 h.2.2.2
theorem elEAA.{u0} {α0 : Sort u0} {p0 p1 p2 : α0 → Prop} {G : Prop} (h : ∃ x0, p0 x0 ∧ p1 x0 ∧ p2 x0) (k : ∀ x0, p0 x0 → p1 x0 → p2 x0 → G) : G := h.elim fun x0 h => k x0 h.1 h.2.1 h.2.2
theorem elEEA.{u0, u1} {α0 : Sort u0} {α1 : Sort u1} {p0 p1 : α0 → α1 → Prop} {G : Prop} (h : ∃ x0, ∃ x1, p0 x0 x1 ∧ p1 x0 x1) (k : ∀ x0 x1, p0 x0 x1 → p1 x0 x1 → G) : G := h.elim fun x0 h => h.elim fun x1 h => k x0 x1 h.1 h.2
theorem elEEE.{u0, u1, u2} {α0 : Sort u0} {α1 : Sort u1} {α2 : Sort u2} {p0 : α0 → α1 → α2 → Prop} {G : Prop} (h : ∃ x0, ∃ x1, ∃ x2, p0 x0 x1 x2) (k : ∀ x0 x1 x2, p0 x0 x1 x2 → G) : G := h.elim fun x0 h => h.elim fun x1 h => h.elim fun x2 h => k x0 x1 x2 h
theorem elEAAA.{u0} {α0 : Sort u0} {p0 p1 p2 p3 : α0 → Prop} {G : Prop} (h : ∃ x0, p0 x0 ∧ p1 x0 ∧ p2 x0 ∧ p3 x0) (k : ∀ x0, p0 x0 → p1 x0 → p2 x0 → p3 x0 → G) : G := h.elim fun x0 h => k x0 h.1 h.2.1 h.2.2.1 h.2.2.2
theorem elEEAA.{u0, u1} {α0 : Sort u0} {α1 : Sort u1} {p0 p1 p2 : α0 → α1 → Prop} {G : Prop} (h : ∃ x0, ∃ x1, p0 x0 x1 ∧ p1 x0 x1 ∧ p2 x0 x1) (k : ∀ x0 x1, p0 x0 x1 → p1 x0 x1 → p2 x0 x1 → G) : G := h.elim fun x0 h => h.elim fun x1 h => k x0 x1 h.1 h.2.1 h.2.2
theorem elEEEA.{u0, u1, u2} {α0 : Sort u0} {α1 : Sort u1} {α2 : Sort u2} {p0 p1 : α0 → α1 → α2 → Prop} {G : Prop} (h : ∃ x0, ∃ x1, ∃ x2, p0 x0 x1 x2 ∧ p1 x0 x1 x2) (k : ∀ x0 x1 x2, p0 x0 x1 x2 → p1 x0 x1 x2 → G) : G := h.elim fun x0 h => h.elim fun x1 h => h.elim fun x2 h => k x0 x1 x2 h.1 h.2
theorem elEEEE.{u0, u1, u2, u3} {α0 : Sort u0} {α1 : Sort u1} {α2 : Sort u2} {α3 : Sort u3} {p0 : α0 → α1 → α2 → α3 → Prop} {G : Prop} (h : ∃ x0, ∃ x1, ∃ x2, ∃ x3, p0 x0 x1 x2 x3) (k : ∀ x0 x1 x2 x3, p0 x0 x1 x2 x3 → G) : G := h.elim fun x0 h => h.elim fun x1 h => h.elim fun x2 h => h.elim fun x3 h => k x0 x1 x2 x3 h
theorem elEAAAA.{u0} {α0 : Sort u0} {p0 p1 p2 p3 p4 : α0 → Prop} {G : Prop} (h : ∃ x0, p0 x0 ∧ p1 x0 ∧ p2 x0 ∧ p3 x0 ∧ p4 x0) (k : ∀ x0, p0 x0 → p1 x0 → p2 x0 → p3 x0 → p4 x0 → G) : G := h.elim fun x0 h => k x0 h.1 h.2.1 h.2.2.1 h.2.2.2.1 h.2.2.2.2
theorem elEEAAA.{u0, u1} {α0 : Sort u0} {α1 : Sort u1} {p0 p1 p2 p3 : α0 → α1 → Prop} {G : Prop} (h : ∃ x0, ∃ x1, p0 x0 x1 ∧ p1 x0 x1 ∧ p2 x0 x1 ∧ p3 x0 x1) (k : ∀ x0 x1, p0 x0 x1 → p1 x0 x1 → p2 x0 x1 → p3 x0 x1 → G) : G := h.elim fun x0 h => h.elim fun x1 h => k x0 x1 h.1 h.2.1 h.2.2.1 h.2.2.2
theorem elEEEAA.{u0, u1, u2} {α0 : Sort u0} {α1 : Sort u1} {α2 : Sort u2} {p0 p1 p2 : α0 → α1 → α2 → Prop} {G : Prop} (h : ∃ x0, ∃ x1, ∃ x2, p0 x0 x1 x2 ∧ p1 x0 x1 x2 ∧ p2 x0 x1 x2) (k : ∀ x0 x1 x2, p0 x0 x1 x2 → p1 x0 x1 x2 → p2 x0 x1 x2 → G) : G := h.elim fun x0 h => h.elim fun x1 h => h.elim fun x2 h => k x0 x1 x2 h.1 h.2.1 h.2.2
theorem elEEEEA.{u0, u1, u2, u3} {α0 : Sort u0} {α1 : Sort u1} {α2 : Sort u2} {α3 : Sort u3} {p0 p1 : α0 → α1 → α2 → α3 → Prop} {G : Prop} (h : ∃ x0, ∃ x1, ∃ x2, ∃ x3, p0 x0 x1 x2 x3 ∧ p1 x0 x1 x2 x3) (k : ∀ x0 x1 x2 x3, p0 x0 x1 x2 x3 → p1 x0 x1 x2 x3 → G) : G := h.elim fun x0 h => h.elim fun x1 h => h.elim fun x2 h => h.elim fun x3 h => k x0 x1 x2 x3 h.1 h.2
theorem elEAAAAA.{u0} {α0 : Sort u0} {p0 p1 p2 p3 p4 p5 : α0 → Prop} {G : Prop} (h : ∃ x0, p0 x0 ∧ p1 x0 ∧ p2 x0 ∧ p3 x0 ∧ p4 x0 ∧ p5 x0) (k : ∀ x0, p0 x0 → p1 x0 → p2 x0 → p3 x0 → p4 x0 → p5 x0 → G) : G := h.elim fun x0 h => k x0 h.1 h.2.1 h.2.2.1 h.2.2.2.1 h.2.2.2.2.1 h.2.2.2.2.2
theorem elEEAAAA.{u0, u1} {α0 : Sort u0} {α1 : Sort u1} {p0 p1 p2 p3 p4 : α0 → α1 → Prop} {G : Prop} (h : ∃ x0, ∃ x1, p0 x0 x1 ∧ p1 x0 x1 ∧ p2 x0 x1 ∧ p3 x0 x1 ∧ p4 x0 x1) (k : ∀ x0 x1, p0 x0 x1 → p1 x0 x1 → p2 x0 x1 → p3 x0 x1 → p4 x0 x1 → G) : G := h.elim fun x0 h => h.elim fun x1 h => k x0 x1 h.1 h.2.1 h.2.2.1 h.2.2.2.1 h.2.2.2.2
theorem elEEEAAA.{u0, u1, u2} {α0 : Sort u0} {α1 : Sort u1} {α2 : Sort u2} {p0 p1 p2 p3 : α0 → α1 → α2 → Prop} {G : Prop} (h : ∃ x0, ∃ x1, ∃ x2, p0 x0 x1 x2 ∧ p1 x0 x1 x2 ∧ p2 x0 x1 x2 ∧ p3 x0 x1 x2) (k : ∀ x0 x1 x2, p0 x0 x1 x2 → p1 x0 x1 x2 → p2 x0 x1 x2 → p3 x0 x1 x2 → G) : G := h.elim fun x0 h => h.elim fun x1 h => h.elim fun x2 h => k x0 x1 x2 h.1 h.2.1 h.2.2.1 h.2.2.2
theorem elEEEEAA.{u0, u1, u2, u3} {α0 : Sort u0} {α1 : Sort u1} {α2 : Sort u2} {α3 : Sort u3} {p0 p1 p2 : α0 → α1 → α2 → α3 → Prop} {G : Prop} (h : ∃ x0, ∃ x1, ∃ x2, ∃ x3, p0 x0 x1 x2 x3 ∧ p1 x0 x1 x2 x3 ∧ p2 x0 x1 x2 x3) (k : ∀ x0 x1 x2 x3, p0 x0 x1 x2 x3 → p1 x0 x1 x2 x3 → p2 x0 x1 x2 x3 → G) : G := h.elim fun x0 h => h.elim fun x1 h => h.elim fun x2 h => h.elim fun x3 h => k x0 x1 x2 x3 h.1 h.2.1 h.2.2
theorem elEEEEEA.{u0, u1, u2, u3, u4} {α0 : Sort u0} {α1 : Sort u1} {α2 : Sort u2} {α3 : Sort u3} {α4 : Sort u4} {p0 p1 : α0 → α1 → α2 → α3 → α4 → Prop} {G : Prop} (h : ∃ x0, ∃ x1, ∃ x2, ∃ x3, ∃ x4, p0 x0 x1 x2 x3 x4 ∧ p1 x0 x1 x2 x3 x4) (k : ∀ x0 x1 x2 x3 x4, p0 x0 x1 x2 x3 x4 → p1 x0 x1 x2 x3 x4 → G) : G := h.elim fun x0 h => h.elim fun x1 h => h.elim fun x2 h => h.elim fun x3 h => h.elim fun x4 h => k x0 x1 x2 x3 x4 h.1 h.2
theorem elEEEAAAA.{u0, u1, u2} {α0 : Sort u0} {α1 : Sort u1} {α2 : Sort u2} {p0 p1 p2 p3 p4 : α0 → α1 → α2 → Prop} {G : Prop} (h : ∃ x0, ∃ x1, ∃ x2, p0 x0 x1 x2 ∧ p1 x0 x1 x2 ∧ p2 x0 x1 x2 ∧ p3 x0 x1 x2 ∧ p4 x0 x1 x2) (k : ∀ x0 x1 x2, p0 x0 x1 x2 → p1 x0 x1 x2 → p2 x0 x1 x2 → p3 x0 x1 x2 → p4 x0 x1 x2 → G) : G := h.elim fun x0 h => h.elim fun x1 h => h.elim fun x2 h => k x0 x1 x2 h.1 h.2.1 h.2.2.1 h.2.2.2.1 h.2.2.2.2
theorem elEEEEAAA.{u0, u1, u2, u3} {α0 : Sort u0} {α1 : Sort u1} {α2 : Sort u2} {α3 : Sort u3} {p0 p1 p2 p3 : α0 → α1 → α2 → α3 → Prop} {G : Prop} (h : ∃ x0, ∃ x1, ∃ x2, ∃ x3, p0 x0 x1 x2 x3 ∧ p1 x0 x1 x2 x3 ∧ p2 x0 x1 x2 x3 ∧ p3 x0 x1 x2 x3) (k : ∀ x0 x1 x2 x3, p0 x0 x1 x2 x3 → p1 x0 x1 x2 x3 → p2 x0 x1 x2 x3 → p3 x0 x1 x2 x3 → G) : G := h.elim fun x0 h => h.elim fun x1 h => h.elim fun x2 h => h.elim fun x3 h => k x0 x1 x2 x3 h.1 h.2.1 h.2.2.1 h.2.2.2
theorem elEEEEAAAA.{u0, u1, u2, u3} {α0 : Sort u0} {α1 : Sort u1} {α2 : Sort u2} {α3 : Sort u3} {p0 p1 p2 p3 p4 : α0 → α1 → α2 → α3 → Prop} {G : Prop} (h : ∃ x0, ∃ x1, ∃ x2, ∃ x3, p0 x0 x1 x2 x3 ∧ p1 x0 x1 x2 x3 ∧ p2 x0 x1 x2 x3 ∧ p3 x0 x1 x2 x3 ∧ p4 x0 x1 x2 x3) (k : ∀ x0 x1 x2 x3, p0 x0 x1 x2 x3 → p1 x0 x1 x2 x3 → p2 x0 x1 x2 x3 → p3 x0 x1 x2 x3 → p4 x0 x1 x2 x3 → G) : G := h.elim fun x0 h => h.elim fun x1 h => h.elim fun x2 h => h.elim fun x3 h => k x0 x1 x2 x3 h.1 h.2.1 h.2.2.1 h.2.2.2.1 h.2.2.2.2
theorem elEEEEEEEA.{u0, u1, u2, u3, u4, u5, u6} {α0 : Sort u0} {α1 : Sort u1} {α2 : Sort u2} {α3 : Sort u3} {α4 : Sort u4} {α5 : Sort u5} {α6 : Sort u6} {p0 p1 : α0 → α1 → α2 → α3 → α4 → α5 → α6 → Prop} {G : Prop} (h : ∃ x0, ∃ x1, ∃ x2, ∃ x3, ∃ x4, ∃ x5, ∃ x6, p0 x0 x1 x2 x3 x4 x5 x6 ∧ p1 x0 x1 x2 x3 x4 x5 x6) (k : ∀ x0 x1 x2 x3 x4 x5 x6, p0 x0 x1 x2 x3 x4 x5 x6 → p1 x0 x1 x2 x3 x4 x5 x6 → G) : G := h.elim fun x0 h => h.elim fun x1 h => h.elim fun x2 h => h.elim fun x3 h => h.elim fun x4 h => h.elim fun x5 h => h.elim fun x6 h => k x0 x1 x2 x3 x4 x5 x6 h.1 h.2
theorem elEEEEAAAAA.{u0, u1, u2, u3} {α0 : Sort u0} {α1 : Sort u1} {α2 : Sort u2} {α3 : Sort u3} {p0 p1 p2 p3 p4 p5 : α0 → α1 → α2 → α3 → Prop} {G : Prop} (h : ∃ x0, ∃ x1, ∃ x2, ∃ x3, p0 x0 x1 x2 x3 ∧ p1 x0 x1 x2 x3 ∧ p2 x0 x1 x2 x3 ∧ p3 x0 x1 x2 x3 ∧ p4 x0 x1 x2 x3 ∧ p5 x0 x1 x2 x3) (k : ∀ x0 x1 x2 x3, p0 x0 x1 x2 x3 → p1 x0 x1 x2 x3 → p2 x0 x1 x2 x3 → p3 x0 x1 x2 x3 → p4 x0 x1 x2 x3 → p5 x0 x1 x2 x3 → G) : G := h.elim fun x0 h => h.elim fun x1 h => h.elim fun x2 h => h.elim fun x3 h => k x0 x1 x2 x3 h.1 h.2.1 h.2.2.1 h.2.2.2.1 h.2.2.2.2.1 h.2.2.2.2.2
theorem elEEEEEEAAAAAA.{u0, u1, u2, u3, u4, u5} {α0 : Sort u0} {α1 : Sort u1} {α2 : Sort u2} {α3 : Sort u3} {α4 : Sort u4} {α5 : Sort u5} {p0 p1 p2 p3 p4 p5 p6 : α0 → α1 → α2 → α3 → α4 → α5 → Prop} {G : Prop} (h : ∃ x0, ∃ x1, ∃ x2, ∃ x3, ∃ x4, ∃ x5, p0 x0 x1 x2 x3 x4 x5 ∧ p1 x0 x1 x2 x3 x4 x5 ∧ p2 x0 x1 x2 x3 x4 x5 ∧ p3 x0 x1 x2 x3 x4 x5 ∧ p4 x0 x1 x2 x3 x4 x5 ∧ p5 x0 x1 x2 x3 x4 x5 ∧ p6 x0 x1 x2 x3 x4 x5) (k : ∀ x0 x1 x2 x3 x4 x5, p0 x0 x1 x2 x3 x4 x5 → p1 x0 x1 x2 x3 x4 x5 → p2 x0 x1 x2 x3 x4 x5 → p3 x0 x1 x2 x3 x4 x5 → p4 x0 x1 x2 x3 x4 x5 → p5 x0 x1 x2 x3 x4 x5 → p6 x0 x1 x2 x3 x4 x5 → G) : G := h.elim fun x0 h => h.elim fun x1 h => h.elim fun x2 h => h.elim fun x3 h => h.elim fun x4 h => h.elim fun x5 h => k x0 x1 x2 x3 x4 x5 h.1 h.2.1 h.2.2.1 h.2.2.2.1 h.2.2.2.2.1 h.2.2.2.2.2.1 h.2.2.2.2.2.2
theorem elEEEEEEEAAAAA.{u0, u1, u2, u3, u4, u5, u6} {α0 : Sort u0} {α1 : Sort u1} {α2 : Sort u2} {α3 : Sort u3} {α4 : Sort u4} {α5 : Sort u5} {α6 : Sort u6} {p0 p1 p2 p3 p4 p5 : α0 → α1 → α2 → α3 → α4 → α5 → α6 → Prop} {G : Prop} (h : ∃ x0, ∃ x1, ∃ x2, ∃ x3, ∃ x4, ∃ x5, ∃ x6, p0 x0 x1 x2 x3 x4 x5 x6 ∧ p1 x0 x1 x2 x3 x4 x5 x6 ∧ p2 x0 x1 x2 x3 x4 x5 x6 ∧ p3 x0 x1 x2 x3 x4 x5 x6 ∧ p4 x0 x1 x2 x3 x4 x5 x6 ∧ p5 x0 x1 x2 x3 x4 x5 x6) (k : ∀ x0 x1 x2 x3 x4 x5 x6, p0 x0 x1 x2 x3 x4 x5 x6 → p1 x0 x1 x2 x3 x4 x5 x6 → p2 x0 x1 x2 x3 x4 x5 x6 → p3 x0 x1 x2 x3 x4 x5 x6 → p4 x0 x1 x2 x3 x4 x5 x6 → p5 x0 x1 x2 x3 x4 x5 x6 → G) : G := h.elim fun x0 h => h.elim fun x1 h => h.elim fun x2 h => h.elim fun x3 h => h.elim fun x4 h => h.elim fun x5 h => h.elim fun x6 h => k x0 x1 x2 x3 x4 x5 x6 h.1 h.2.1 h.2.2.1 h.2.2.2.1 h.2.2.2.2.1 h.2.2.2.2.2
end Mine
namespace Mine
theorem ft {P : Prop} (h : false = true) : P := Bool.noConfusion h
theorem tf {P : Prop} (h : true = false) : P := Bool.noConfusion h
theorem nsm {α : Type} {a : α} {P : Prop} (h : none = some a) : P := nomatch h
theorem snm {α : Type} {a : α} {P : Prop} (h : some a = none) : P := nomatch h
end Mine
namespace Mine
noncomputable abbrev Kn := Addr → Option Obj
noncomputable def Kn.le (K K' : Kn) : Prop := ∀ a o, K a = some o → K' a = some o
theorem Kn.le_refl (K : Kn) : K.le K := fun _ _ e => e
theorem Kn.le_trans {K K' K'' : Kn} (h : K.le K') (h' : K'.le K'') : K.le K'' := fun a o e => h' a o (h a o e)
inductive D where
  | none
  | bool (b : Bool)
  | int (i : Int)
  | str (s : Str)
  | tstr (s : Str) (t : Tok)
  | list (xs : List D)
  | tuple (xs : List D)
  | tok (n : Nat)
  | range (a b c : Int)
  | rule (allow : Bool) (f : Str → Int)
  | entry (rs : List D)
  | dic (ks : List Str) (xs : List D)
  | set (xs : List Nat)
set_option genInjectivity false in
structure Sys where
  prog : Program
  w : World
  os : OsState
  K0 : Kn
  T : List Addr
  tabOk : Kn → Addr → Array Value → Prop
  tabMono : ∀ K K' P ps, Kn.le K K' → tabOk K P ps → tabOk K' P ps
  mg : Str → Option Value
  mb : Str → Option Value
  nsG : ∀ h : Heap, (∀ a o, K0 a = some o → h.get? a = some o) → h.Ns mainGlobals mg
  nsB : ∀ h : Heap, (∀ a o, K0 a = some o → h.get? a = some o) → h.Ns builtinsNs mb
  noLim : ∀ h : Heap, (∀ a o, K0 a = some o → h.get? a = some o) → h.NoLimit
  ι : Nat → Addr
  ruleP : Kn → Value → Bool → (Str → Int) → Prop
  ruleMono : ∀ K K' v b f, Kn.le K K' → ruleP K v b f → ruleP K' v b f
  entP : Kn → Value → List Value → Prop
  entMono : ∀ K K' v vs, Kn.le K K' → entP K v vs → entP K' v vs
noncomputable def lst (vs : List Value) (n : Nat) : Obj := ⟨.type "list", none, .seq vs.toArray n, #[]⟩
noncomputable def rng (a b c : Int) (t u v : Tok) : Obj := ⟨.type "range", none, .fields #[.int a t, .int b u, .int c v], #[]⟩
noncomputable def tpl (vs : List Value) (n : Nat) : Obj := ⟨.type "tuple", none, .seq vs.toArray n, #[]⟩
noncomputable def dicAt (prog : Program) (w : World) (K : Kn) (v : Value) (ks : List Str) (vs : List Value) : Prop :=
  ∃ a o es ep, v = .ref a ∧ K a = some o ∧ o.ExactDict ∧ o.data = .dict es ep ∧ KeysOf (PySem.strKind prog w) es ∧ ∀ k, findBy (PySem.strKind prog w).is es k = valueAt (ks.zip vs) k
theorem dicAt.mono {prog : Program} {w : World} {K K' : Kn} {v : Value} {ks : List Str} {vs : List Value} (h : K.le K') (d : dicAt prog w K v ks vs) : dicAt prog w K' v ks vs :=
  let ⟨a, o, es, ep, h1, h2, h3⟩ := d; ⟨a, o, es, ep, h1, h _ _ h2, h3⟩
noncomputable def tabOf (bt : Bool) (xs : List Nat) : SetTable := { mask := if xs.length ≤ 4 then 7 else 31, place := xs.toArray, dummies := #[], finger := 0, led := !bt, moves := if xs.length ≤ 4 then 0 else 1, plain := true }
noncomputable def setAt (bt : Bool) (o : Obj) (xs : List Nat) : Prop :=
  ∃ es ep, o = { cls := .type "set", dict := none, data := .set es ep (tabOf bt xs), slots := #[] } ∧ es.size = xs.length ∧ (∀ (i x : Nat), xs[i]? = some x → ∃ t, es[i]? = some ((x : Int), .int x t)) ∧ xs.Pairwise (· < ·) ∧ ∀ x ∈ xs, x < 8
inductive Rep (S : Sys) (K : Kn) : Value → D → Prop
  | none : Rep S K .none .none
  | bool (b) : Rep S K (.bool b) (.bool b)
  | int (i t) : Rep S K (.int i t) (.int i)
  | str {s} (t) (h : PyData.strOk s = true) : Rep S K (.str s t) (.str s)
  | tstr {s} (t : Tok) (h : PyData.strOk s = true) (h0 : t ≠ 0) : Rep S K (.str s t) (.tstr s t)
  | list {a : Addr} {vs : List Value} {xs : List D} {n : Nat} (e : K a = some (lst vs n)) (hl : vs.length = xs.length) (h : ∀ (i : Nat) (v : Value) (d : D), vs[i]? = some v → xs[i]? = some d → Rep S K v d) : Rep S K (.ref a) (.list xs)
  | tuple {a : Addr} {vs : List Value} {xs : List D} {n : Nat} (e : K a = some (tpl vs n)) (hl : vs.length = xs.length) (h : ∀ (i : Nat) (v : Value) (d : D), vs[i]? = some v → xs[i]? = some d → Rep S K v d) : Rep S K (.ref a) (.tuple xs)
  | tok (n) : Rep S K (.ref (S.ι n)) (.tok n)
  | range {r a b c t u v} (e : K r = some (rng a b c t u v)) : Rep S K (.ref r) (.range a b c)
  | rule {v b f} (h : S.ruleP K v b f) : Rep S K v (.rule b f)
  | entry {v : Value} {vs : List Value} {xs : List D} (e : S.entP K v vs) (hl : vs.length = xs.length) (h : ∀ (i : Nat) (v : Value) (d : D), vs[i]? = some v → xs[i]? = some d → Rep S K v d) : Rep S K v (.entry xs)
  | dic {v : Value} {ks : List Str} {vs : List Value} {xs : List D} (e : dicAt S.prog S.w K v ks vs) (hl : vs.length = xs.length) (h : ∀ (i : Nat) (v : Value) (d : D), vs[i]? = some v → xs[i]? = some d → Rep S K v d) : Rep S K v (.dic ks xs)
  | set {a : Addr} {o : Obj} {xs : List Nat} (e : K a = some o) (h : setAt (S.w.params.followText "set-order") o xs) : Rep S K (.ref a) (.set xs)
theorem Rep.mono {S : Sys} {K K' : Kn} (hk : K.le K') {v : Value} {d : D} (h : Rep S K v d) : Rep S K' v d := by
  induction h with
  | none => exact .none
  | bool b => exact .bool b
  | int i t => exact .int i t
  | str t h => exact .str t h
  | tstr t h h0 => exact .tstr t h h0
  | list e hl _ ih => exact .list (hk _ _ e) hl ih
  | tuple e hl _ ih => exact .tuple (hk _ _ e) hl ih
  | tok n => exact .tok n
  | range e => exact .range (hk _ _ e)
  | rule h => exact .rule (S.ruleMono _ _ _ _ _ hk h)
  | entry e hl _ ih => exact .entry (S.entMono _ _ _ _ hk e) hl ih
  | dic e hl _ ih => exact .dic (e.mono hk) hl ih
  | set e h => exact .set (hk _ _ e) h
set_option genInjectivity false in
structure RepL (S : Sys) (K : Kn) (vs : List Value) (ds : List D) : Prop where
  len : vs.length = ds.length
  all : ∀ (i : Nat) (v : Value) (d : D), vs[i]? = some v → ds[i]? = some d → Rep S K v d
theorem RepL.mono {S : Sys} {K K' : Kn} (hk : K.le K') {vs ds} (h : RepL S K vs ds) : RepL S K' vs ds :=
  ⟨h.len, fun i v d e e' => (h.all i v d e e').mono hk⟩
theorem RepL.nil {S K} : RepL S K [] [] := ⟨rfl, fun i v d e => by simp at e⟩
theorem RepL.cons {S K v d vs ds} (h : Rep S K v d) (t : RepL S K vs ds) : RepL S K (v :: vs) (d :: ds) := by
  refine ⟨by simp [t.len], fun i u e => ?_⟩
  cases i with
  | zero => intro h1 h2; simp at h1 h2; subst h1 h2; exact h
  | succ i => intro h1 h2; exact t.all i u e (by simpa using h1) (by simpa using h2)
theorem RepL.head {S K v d vs ds} (h : RepL S K (v :: vs) (d :: ds)) : Rep S K v d := h.all 0 v d rfl rfl
theorem RepL.tail {S K v d vs ds} (h : RepL S K (v :: vs) (d :: ds)) : RepL S K vs ds :=
  ⟨by have := h.len; simpa using this, fun i u e h1 h2 => h.all (i + 1) u e (by simpa using h1) (by simpa using h2)⟩
theorem RepL.nil_inv {S K vs} (h : RepL S K vs []) : vs = [] := List.length_eq_zero_iff.mp (by simpa using h.len)
theorem RepL.cons_inv {S K vs d ds} (h : RepL S K vs (d :: ds)) : ∃ v vs', vs = v :: vs' ∧ Rep S K v d ∧ RepL S K vs' ds := by
  cases vs with
  | nil => have := h.len; simp at this
  | cons v vs => exact ⟨v, vs, rfl, h.head, h.tail⟩
theorem RepL.append {S K} : ∀ {vs ds us es}, RepL S K vs ds → RepL S K us es → RepL S K (vs ++ us) (ds ++ es)
  | vs, [], us, es, h, h' => by rw [h.nil_inv]; simpa using h'
  | vs, d :: ds, us, es, h, h' => by
    (refine elEEAA h.cons_inv fun v vs' e92 hv ht => ?_; subst e92)
    exact RepL.cons hv (RepL.append ht h')
theorem RepL.of_get {S K vs ds} (h : RepL S K vs ds) {i : Nat} {d : D} (e : ds[i]? = some d) : ∃ v, vs[i]? = some v ∧ Rep S K v d := by
  have hi : i < ds.length := (List.getElem?_eq_some_iff.mp e).1
  have hi' : i < vs.length := by rw [h.len]; exact hi
  exact ⟨vs[i], by simp [hi'], h.all i _ d (by simp [hi']) e⟩
theorem Rep.list' {S : Sys} {K : Kn} {a vs xs n} (e : K a = some (lst vs n)) (h : RepL S K vs xs) : Rep S K (.ref a) (.list xs) := .list e h.len h.all
theorem Rep.tuple' {S : Sys} {K : Kn} {a vs xs n} (e : K a = some (tpl vs n)) (h : RepL S K vs xs) : Rep S K (.ref a) (.tuple xs) := .tuple e h.len h.all
theorem Rep.entry' {S : Sys} {K : Kn} {v vs xs} (e : S.entP K v vs) (h : RepL S K vs xs) : Rep S K v (.entry xs) := .entry e h.len h.all
theorem Rep.list_inv {S : Sys} {K : Kn} {v xs} (h : Rep S K v (.list xs)) : ∃ a vs n, v = .ref a ∧ K a = some (lst vs n) ∧ RepL S K vs xs := by
  cases h with | list e hl h => exact ⟨_, _, _, rfl, e, ⟨hl, h⟩⟩
theorem Rep.tuple_inv {S : Sys} {K : Kn} {v xs} (h : Rep S K v (.tuple xs)) : ∃ a vs n, v = .ref a ∧ K a = some (tpl vs n) ∧ RepL S K vs xs := by
  cases h with | tuple e hl h => exact ⟨_, _, _, rfl, e, ⟨hl, h⟩⟩
theorem Rep.str_inv {S : Sys} {K : Kn} {v s} (h : Rep S K v (.str s)) : ∃ t, v = .str s t ∧ PyData.strOk s = true := by
  cases h with | str t h => exact ⟨t, rfl, h⟩
theorem Rep.tstr_inv {S : Sys} {K : Kn} {v s t} (h : Rep S K v (.tstr s t)) : v = .str s t ∧ PyData.strOk s = true ∧ t ≠ 0 := by
  cases h with | tstr t h h0 => exact ⟨rfl, h, h0⟩
theorem Rep.int_inv {S : Sys} {K : Kn} {v i} (h : Rep S K v (.int i)) : ∃ t, v = .int i t := by
  cases h with | int i t => exact ⟨t, rfl⟩
theorem Rep.bool_inv {S : Sys} {K : Kn} {v b} (h : Rep S K v (.bool b)) : v = .bool b := by
  cases h with | bool b => rfl
theorem Rep.none_inv {S : Sys} {K : Kn} {v} (h : Rep S K v .none) : v = .none := by
  cases h with | none => rfl
theorem Rep.range_inv {S : Sys} {K : Kn} {x a b c} (h : Rep S K x (.range a b c)) : ∃ r t u v, x = .ref r ∧ K r = some (rng a b c t u v) := by
  cases h with | range e => exact ⟨_, _, _, _, rfl, e⟩
theorem Rep.tok_inv {S : Sys} {K : Kn} {v n} (h : Rep S K v (.tok n)) : v = .ref (S.ι n) := by
  cases h with | tok => rfl
set_option genInjectivity false in
structure Ok (S : Sys) (K : Kn) (s : Shared) : Prop where
  kn : ∀ a o, K a = some o → s.heap.get? a = some o
  base : S.K0.le K
  tabs : ∀ P ∈ S.T, K P = none ∧ ∃ ps, s.heap.get? P = some (tabObj ps) ∧ S.tabOk K P ps
  bare : AllBare s.gens
  os : s.os = S.os
set_option genInjectivity false in
structure Le (S : Sys) (s s' : Shared) (K K' : Kn) : Prop where
  keep : ∀ b o, b ∉ S.T → s.heap.get? b = some o → s'.heap.get? b = some o
  ext : K.le K'
  old : ∀ a, s.heap.get? a ≠ none → K' a = K a
  tok : s.toks ≤ s'.toks
theorem Le.refl {S s K} : Le S s s K K := ⟨fun _ _ _ e => e, K.le_refl, fun _ _ => rfl, Nat.le_refl _⟩
theorem Le.trans {S s s' s'' K K' K''} (o : Ok S K s) (o' : Ok S K' s') (h : Le S s s' K K') (h' : Le S s' s'' K' K'') : Le S s s'' K K'' := by
  refine ⟨fun b ob hb e => h'.keep b ob hb (h.keep b ob hb e), Kn.le_trans h.ext h'.ext, fun a ha => ?_, Nat.le_trans h.tok h'.tok⟩
  refine (h'.old a ?_).trans (h.old a ha)
  by_cases hT : a ∈ S.T
  · obtain ⟨_, ps, e, _⟩ := o'.tabs a hT
    rw [e]; simp
  · cases e : s.heap.get? a with
    | none => exact absurd e ha
    | some ob => rw [h.keep a ob hT e]; simp
noncomputable def Room (k : Nat) (A : Around) : Prop := A.handled = none ∧ A.depth + k ≤ 600 ∧ A.units + 12 * k ≤ 6000
theorem Room.in1 {k A} (h : Room (k + 1) A) : Room k A.in1 := ⟨h.1, by have := h.2.1; simp; exact Nat.le_of_lt ‹_›, by have := h.2.2; simp; lia⟩
theorem Room.deeper {k A env} (h : Room (k + 1) A) : Room k (A.deeper env) := ⟨h.1, by have := h.2.1; simp [Around.deeper]; lia, by have := h.2.2; simp [Around.deeper]; lia⟩
theorem Room.depth {k A} (h : Room k A) : A.depth < recursionLimit := by have := h.2.1; unfold recursionLimit; lia
theorem Room.units {k A} (h : Room k A) : A.units + 64 < cLine := by have := h.2.2; unfold cLine; lia
noncomputable def Kn.add (K : Kn) (a : Addr) (o : Obj) : Kn := fun b => if b = a then some o else K b
theorem Kn.add_self (K : Kn) (a : Addr) (o : Obj) : K.add a o a = some o := by simp [Kn.add]
theorem Kn.add_ne {K : Kn} {a b : Addr} {o : Obj} (h : b ≠ a) : K.add a o b = K b := by simp [Kn.add, h]
theorem Kn.le_add {K : Kn} {a : Addr} {o : Obj} (h : K a = none) : K.le (K.add a o) := fun b ob e => by
  by_cases hb : b = a
  · subst hb; rw [h] at e; exact nsm e
  · rw [Kn.add_ne hb]; exact e
theorem get_size (h : Heap) : h.get? h.objs.size = none := by
  cases e : h.get? h.objs.size with
  | none => rfl
  | some o => exact absurd (Heap.lt_size e) (Nat.lt_irrefl _)
theorem Ok.noneK {S K s a} (o : Ok S K s) (h : s.heap.get? a = none) : K a = none := by
  cases e : K a with
  | none => rfl
  | some ob => rw [o.kn _ _ e] at h; exact snm h
theorem Ok.notT {S K s a} (o : Ok S K s) (h : s.heap.get? a = none) : a ∉ S.T := fun hm => by
  obtain ⟨_, ps, e, _⟩ := o.tabs a hm
  rw [e] at h; exact snm h
theorem Ok.notT' {S K s a ob} (o : Ok S K s) (h : s.heap.get? a = some ob) (hd : ∀ vs, ob.data ≠ .fields vs) : a ∉ S.T := fun hm => by
  obtain ⟨_, ps, e, _⟩ := o.tabs a hm
  rw [e] at h; (replace h := Option.some.inj h; subst h); exact hd _ rfl
theorem Ok.grow {S K s h' tk} (o : Ok S K s) (hk : ∀ b ob, s.heap.get? b = some ob → h'.get? b = some ob) : Ok S K { s with heap := h', toks := tk } :=
  ⟨fun a ob e => hk _ _ (o.kn a ob e), o.base, fun P hP => let ⟨h1, ps, e, h2⟩ := o.tabs P hP; ⟨h1, ps, hk _ _ e, h2⟩, o.bare, o.os⟩
theorem Le.grow {S K} {s : Shared} {h' tk} (hk : ∀ b ob, s.heap.get? b = some ob → h'.get? b = some ob) (ht : s.toks ≤ tk := by first | assumption | lia) : Le S s { s with heap := h', toks := tk } K K :=
  ⟨fun b ob _ e => hk b ob e, K.le_refl, fun _ _ => rfl, ht⟩
theorem Ok.freeze {S K s a ob} (o : Ok S K s) (h : s.heap.get? a = some ob) (hn : K a = none) (hT : a ∉ S.T) : Ok S (K.add a ob) s := by
  have hle : K.le (K.add a ob) := Kn.le_add hn
  refine ⟨fun b x e => ?_, Kn.le_trans o.base hle, fun P hP => ?_, o.bare, o.os⟩
  · by_cases hb : b = a
    · subst hb; rw [Kn.add_self] at e; (replace e := Option.some.inj e; subst e); exact h
    · rw [Kn.add_ne hb] at e; exact o.kn b x e
  · obtain ⟨h1, ps, e, h2⟩ := o.tabs P hP
    exact ⟨by rw [Kn.add_ne (fun q : P = a => hT (q ▸ hP))]; exact h1, ps, e, S.tabMono _ _ _ _ hle h2⟩
theorem Ok.push {S K s ob} (o : Ok S K s) (hf : ob.isFreed = false) : Ok S (K.add s.heap.objs.size ob) { s with heap := s.heap.push ob } := by
  have hn := get_size s.heap
  have o1 : Ok S K { s with heap := s.heap.push ob } := o.grow (tk := s.toks) fun b x e => Heap.get?_push_of_some _ e
  exact o1.freeze (Heap.get?_push_size _ hf) (o.noneK hn) (o.notT hn)
theorem Le.push {S K s ob} (o : Ok S K s) : Le S s { s with heap := s.heap.push ob } K (K.add s.heap.objs.size ob) := by
  have hn := get_size s.heap
  refine ⟨fun b x _ e => Heap.get?_push_of_some _ e, Kn.le_add (o.noneK hn), fun a ha => Kn.add_ne fun q => ha (q ▸ hn), Nat.le_refl _⟩
theorem Ok.toks {S K} {s : Shared} {tk} (o : Ok S K s) : Ok S K { s with toks := tk } := o.grow fun _ _ e => e
theorem Le.toks {S K} {s : Shared} {tk} (ht : s.toks ≤ tk := by first | assumption | lia) : Le S s { s with toks := tk } K K := Le.grow (fun _ _ e => e) ht
inductive Ent where
  | val (d : D)
  | own (xs : List D)
  | app (x : Str)
noncomputable abbrev Sto := Str → Option Ent
noncomputable def Sto.upd (σ : Sto) (x : Str) (e : Option Ent) : Sto := fun y => if y = x then e else σ y
theorem Sto.upd_self (σ : Sto) (x e) : σ.upd x e x = e := by simp [Sto.upd]
theorem Sto.upd_ne (σ : Sto) {x y : Str} (e) (h : y ≠ x) : σ.upd x e y = σ y := by simp [Sto.upd, h]
set_option genInjectivity false in
structure Cx where
  sc : Scope
  code : Value
  wr : List Str
  fr : Bool
  tk : Nat
  ql : Str
noncomputable def appObj (a : Addr) : Obj := ⟨.type "builtin_function_or_method", none, .fields #[.builtin "list.append", .ref a], #[]⟩
noncomputable def EntR (S : Sys) (K : Kn) (h : Heap) (α : Str → Addr) (x : Str) : Ent → Value → Prop
  | .val d, v => Rep S K v d
  | .own xs, v => v = .ref (α x) ∧ K (α x) = none ∧ ∃ vs n, h.get? (α x) = some (lst vs n) ∧ RepL S K vs xs
  | .app y, v => ∃ q, v = .ref q ∧ K q = some (appObj (α y))
set_option genInjectivity false in
structure FmA (S : Sys) (cx : Cx) (env : Env) (σ : Sto) (s : Shared) (K : Kn) (α : Str → Addr) : Prop where
  scope : env.scope = cx.sc
  code : env.code = cx.code ∧ env.qual = cx.ql
  kind : cx.sc.kind = .function
  globals : env.globals = mainGlobals
  builtins : env.builtins = builtinsNs
  tok : cx.tk ≤ s.toks
  ns : ∃ m, s.heap.Ns env.locals m ∧ ∀ x e, cx.sc.names.lookup x = some .local → σ x = some e → ∃ v, m x = some v ∧ EntR S K s.heap α x e v
  cla : ∀ x, (cx.sc.names.lookup x = some .cell ∨ cx.sc.names.lookup x = some .free) → ∃ c v, env.cells.lookup x = some c ∧ s.heap.IsCell c v
  cel : ∀ x e, (cx.sc.names.lookup x = some .cell ∨ cx.sc.names.lookup x = some .free) → σ x = some e → ∃ c v, env.cells.lookup x = some c ∧ s.heap.IsCell c (some v) ∧ EntR S K s.heap α x e v
noncomputable def Fm (S : Sys) (cx : Cx) (env : Env) (σ : Sto) (s : Shared) (K : Kn) : Prop := ∃ α, FmA S cx env σ s K α
theorem EntR.le {S K K' s s' α x e v} (o : Ok S K s) (l : Le S s s' K K') (h : EntR S K s.heap α x e v) : EntR S K' s'.heap α x e v := by
  cases e with
  | val d => exact Rep.mono l.ext h
  | own xs =>
    obtain ⟨rfl, hn, vs, n, e, r⟩ := h
    refine ⟨rfl, ?_, vs, n, l.keep _ _ (o.notT' e fun vs => by simp [lst]) e, r.mono l.ext⟩
    rw [l.old _ (by rw [e]; simp)]; exact hn
  | app y => (refine elEA h fun q e91 e => ?_; try clear h; subst e91); exact ⟨q, rfl, l.ext _ _ e⟩
theorem ns_le {S K K' s s' a m} (o : Ok S K s) (l : Le S s s' K K') (h : s.heap.Ns a m) : s'.heap.Ns a m := by
  refine h.at' fun ob e => l.keep _ _ (o.notT' e fun vs q => ?_) e
  (refine elEEEAA h fun o' es ep e' hd _ => ?_; try clear h)
  rw [e] at e'; (replace e' := Option.some.inj e'; subst e'); rw [hd] at q; cases q
theorem cell_le {S K K' s s' c v} (o : Ok S K s) (l : Le S s s' K K') (h : s.heap.IsCell c v) : s'.heap.IsCell c v := by
  (refine elEA h fun ob e hd => ?_; try clear h)
  exact ⟨ob, l.keep _ _ (o.notT' e fun vs q => by rw [hd] at q; cases q) e, hd⟩
theorem Fm.le {S cx env σ s s' K K'} (o : Ok S K s) (l : Le S s s' K K') (h : Fm S cx env σ s K) : Fm S cx env σ s' K' := by
  refine elE h fun α h => ?_
  refine ⟨α, h.scope, h.code, h.kind, h.globals, h.builtins, Nat.le_trans h.tok l.tok, ?_, fun x hx => let ⟨c, v, h1, h2⟩ := h.cla x hx; ⟨c, v, h1, cell_le o l h2⟩, fun x e hx hs => ?_⟩
  · refine elEA h.ns fun m hm hx => ?_
    exact ⟨m, ns_le o l hm, fun x e hl hs => let ⟨v, hv, r⟩ := hx x e hl hs; ⟨v, hv, r.le o l⟩⟩
  · refine elEEAA (h.cel x e hx hs) fun c v hc hv r => ?_
    exact ⟨c, v, hc, cell_le o l hv, r.le o l⟩
theorem withTk {α : Type} {M : Model} {A : Around} {s : Shared} {t : Sem α} {Q : α → Shared → Prop} {E : Value → Shared → Prop} (h : wpAny M A t (fun a s' => s.toks ≤ s'.toks → Q a s') E s) : wpAny M A t Q E s :=
  wpAny_with_toks (Nat.le_refl _) (wpAny_mono h (fun _ _ q => q) fun _ _ e _ => e)
noncomputable abbrev M (S : Sys) : Model := model S.prog S.w
noncomputable def EvS (S : Sys) (k : Nat) (cx : Cx) (σ : Sto) (e : Expr) (d : D) : Prop :=
  ∀ (A : Around) (env : Env) (s : Shared) (K : Kn) (Q : Value → Shared → Prop) (E : Value → Shared → Prop),
    Room k A → Ok S K s → Fm S cx env σ s K → (∀ v s' K', Le S s s' K K' → Ok S K' s' → Rep S K' v d → Q v s') → wpAny (M S) A (eval e env) Q E s
noncomputable def EvT (S : Sys) (k : Nat) (cx : Cx) (σ : Sto) (e : Expr) (b : Bool) : Prop :=
  ∀ (A : Around) (env : Env) (s : Shared) (K : Kn) (Q : Bool → Shared → Prop) (E : Value → Shared → Prop),
    Room k A → Ok S K s → Fm S cx env σ s K → (∀ s' K', Le S s s' K K' → Ok S K' s' → Q b s') → wpAny (M S) A (isTrue e env (eval e env)) Q E s
noncomputable def EvL (S : Sys) (k : Nat) (cx : Cx) (σ : Sto) (es : List Expr) (ds : List D) : Prop :=
  ∀ (A : Around) (env : Env) (pos : Pos) (s : Shared) (K : Kn) (Q : List Value → Shared → Prop) (E : Value → Shared → Prop),
    Room k A → Ok S K s → Fm S cx env σ s K → (∀ vs s' K', Le S s s' K K' → Ok S K' s' → RepL S K' vs ds → Q vs s') → wpAny (M S) A (spliced (backTo pos (starEach es env))) Q E s
noncomputable abbrev ecP (M : Model) (A : Around) (env : Env) (rest : List Stmt) (E : Value → Shared → Prop) (Q : Flow → Shared → Prop) (f : Flow) (s' : Shared) : Prop := match f with
  | .next => wpAny M A (execs rest env) Q E s'
  | f => Q f s'
theorem execsC {M : Model} {A : Around} {env : Env} {st : Stmt} {rest : List Stmt} {E : Value → Shared → Prop} {s : Shared} {Q : Flow → Shared → Prop} (h : wpAny M A (exec st env) (ecP M A env rest E Q) E s) : wpAny M A (execs (st :: rest) env) Q E s := wpAny_execs_cons h
noncomputable abbrev fwP (M : Model) (A : Around) (env : Env) (E : Value → Shared → Prop) (Q : Flow → Shared → Prop) (r : Result) (s' : Shared) : Prop := match r with
  | .ok f => Q f s'
  | .error e => cameBackBy M A env E e s'
theorem forW {M : Model} {A : Around} {env : Env} {E : Value → Shared → Prop} {s : Shared} {target iter : Expr} {body orelse : List Stmt} {pos : Pos} {Q : Flow → Shared → Prop}
    (h : wpAny M A (eval iter env) (fun x s₁ => wpAny M A (pyIter x) (fun it s₂ => codeAny M A (.forLoop target it body orelse env) (fwP M A env E Q) s₂) E s₁) E s)
    (hs : ∀ x, foldedSetIterable iter env x = pure x := by intro _; rfl) : wpAny M A (exec (.For target iter body orelse pos) env) Q E s := wpAny_For h hs
end Mine
namespace Mine
variable {S : Sys} {k : Nat} {cx : Cx} {σ : Sto}
theorem strOk_nil : PyData.strOk Str.empty = true := by decide +kernel
theorem EvS.cint {i : Int} {n pos} : EvS S k cx σ (.Constant (.int i) n pos) (.int i) :=
  fun _ _ _ _ _ _ _ o _ h => wpAny_Constant_int (h _ _ _ Le.toks o.toks (.int _ _))
theorem EvS.cstr {x : Str} {n pos} (hx : PyData.strOk x = true := by decide +kernel) : EvS S k cx σ (.Constant (.str x) n pos) (.str x) :=
  fun _ _ _ _ _ _ _ o _ h => wpAny_Constant_str (h _ _ _ Le.toks o.toks (.str _ hx))
theorem EvS.cbool {b : Bool} {n pos} : EvS S k cx σ (.Constant (.bool b) n pos) (.bool b) :=
  fun _ _ _ _ _ _ _ o _ h => wpAny_Constant_bool (h _ _ _ Le.refl o (.bool _))
theorem EvS.cnone {n pos} : EvS S k cx σ (.Constant .none n pos) .none :=
  fun _ _ _ _ _ _ _ o _ h => wpAny_Constant_none (h _ _ _ Le.refl o .none)
theorem loadEnt {A env s K E} {x : Str} {e : Ent} {Q : Value → Shared → Prop} {α} (fm : FmA S cx env σ s K α)
    (hk : cx.sc.names.lookup x = some .local ∨ cx.sc.names.lookup x = some .cell ∨ cx.sc.names.lookup x = some .free) (he : σ x = some e)
    (h : ∀ v, EntR S K s.heap α x e v → Q v s) (hn : (x == ("__classdict__" : Str)) = false := by decide) : wpAny (M S) A (loadName env x) Q E s := by
  have hkind : env.scope.kind = .function := by rw [fm.scope]; exact fm.kind
  have hko : ∀ y, env.kindOf y = cx.sc.names.lookup y := fun y => by unfold Env.kindOf; rw [fm.scope]
  rcases hk with hk | hk | hk
  · refine elEA fm.ns fun m hm hx => ?_
    refine elEA (hx x e hk he) fun v hv r => ?_
    exact wpAny_loadName_local hkind ((hko x).trans hk) hm hv (h v r)
  · refine elEEAA (fm.cel x e (.inl hk) he) fun c v hc hv r => ?_
    exact wpAny_loadName_cell hkind ((hko x).trans hk) hc hv (h v r)
  · refine elEEAA (fm.cel x e (.inr hk) he) fun c v hc hv r => ?_
    exact wpAny_loadName_free hkind ((hko x).trans hk) hc hv (h v r) hn
noncomputable def isVar (sc : Scope) (x : Str) : Bool := match sc.names.lookup x with
  | some .local => !(x == ("__classdict__" : Str)) && !(x == ("__debug__" : Str))
  | some .cell => !(x == ("__classdict__" : Str)) && !(x == ("__debug__" : Str))
  | some .free => !(x == ("__classdict__" : Str)) && !(x == ("__debug__" : Str))
  | _ => false
theorem isVar_or {sc : Scope} {x : Str} (h : isVar sc x = true) :
    (sc.names.lookup x = some .local ∨ sc.names.lookup x = some .cell ∨ sc.names.lookup x = some .free) ∧ (x == ("__classdict__" : Str)) = false ∧ (x == ("__debug__" : Str)) = false := by
  unfold isVar at h
  split at h <;> first | (simp only [Bool.and_eq_true, Bool.not_eq_true'] at h; rename_i e; exact ⟨by simp [e], h.1, h.2⟩) | exact ft h
theorem EvS.name {x : Str} {pos} {d : D} (hv : isVar cx.sc x = true) (he : σ x = some (.val d)) : EvS S k cx σ (.Name x pos) d := by
  intro A env s K Q E r o fm h
  refine elE fm fun α fm => ?_
  refine elAA (isVar_or hv) fun h1 h2 h3 => ?_
  exact wpAny_Name (loadEnt fm h1 he (fun v rv => h v s K Le.refl o rv) h2) h3
noncomputable def isGlob (sc : Scope) (x : Str) : Bool := match sc.names.lookup x with
  | some .globalImplicit => !(x == ("__debug__" : Str))
  | _ => false
theorem loadGlob {A env s K E} {x : Str} {v : Value} {Q : Value → Shared → Prop} (o : Ok S K s) (fm : Fm S cx env σ s K) (hx : isGlob cx.sc x = true)
    (hg : S.mg x = some v ∨ (S.mg x = none ∧ S.mb x = some v)) (h : Q v s) : wpAny (M S) A (loadName env x) Q E s := by
  refine elE fm fun α fm => ?_
  unfold isGlob at hx
  split at hx
  · rename_i e
    have hkind : env.scope.kind = .function := by rw [fm.scope]; exact fm.kind
    have hko : env.kindOf x = some .globalImplicit := by unfold Env.kindOf; rw [fm.scope]; exact e
    have kn : ∀ a ob, S.K0 a = some ob → s.heap.get? a = some ob := fun a ob e => o.kn _ _ (o.base _ _ e)
    unfold loadName
    simp only [Env.blockKind, hkind, hko, ScopeKind.isAnnotationScope, Bool.false_and, Bool.false_eq_true, if_false]
    unfold loadGlobal
    rw [fm.globals, fm.builtins]
    rcases hg with hg | ⟨hg, hb⟩
    · exact wpAny_bind (wpAny_nsGet (S.nsG _ kn) (by rw [hg]; exact wpAny_pure h))
    · refine wpAny_bind (wpAny_nsGet (S.nsG _ kn) ?_)
      rw [hg]
      exact wpAny_bind (wpAny_nsGet (S.nsB _ kn) (by rw [hb]; exact wpAny_pure h))
  · exact ft hx
theorem evalGlob {A env s K E} {x : Str} {pos} {v : Value} {Q : Value → Shared → Prop} (o : Ok S K s) (fm : Fm S cx env σ s K) (hx : isGlob cx.sc x = true)
    (hg : S.mg x = some v ∨ (S.mg x = none ∧ S.mb x = some v)) (h : Q v s) : wpAny (M S) A (eval (.Name x pos) env) Q E s := by
  refine wpAny_Name (loadGlob o fm hx hg h) ?_
  unfold isGlob at hx
  split at hx
  · simpa using hx
  · exact ft hx
noncomputable def BinS (S : Sys) (k : Nat) (op : Operator) (d1 d2 d : D) : Prop :=
  ∀ (A : Around) (s : Shared) (K : Kn) (v1 v2 : Value) (Q : Value → Shared → Prop) (E : Value → Shared → Prop), Room k A → Ok S K s → Rep S K v1 d1 → Rep S K v2 d2 →
    (∀ v s' K', Le S s s' K K' → Ok S K' s' → Rep S K' v d → Q v s') → wpAny (M S) A (binaryOp op v1 v2) Q E s
noncomputable def CmpS (S : Sys) (k : Nat) (op : CmpOp) (d1 d2 : D) (b : Bool) : Prop :=
  ∀ (A : Around) (s : Shared) (K : Kn) (v1 v2 : Value) (Q : Value → Shared → Prop) (E : Value → Shared → Prop), Room k A → Ok S K s → Rep S K v1 d1 → Rep S K v2 d2 →
    (∀ s' K', Le S s s' K K' → Ok S K' s' → Q (.bool b) s') → wpAny (M S) A (compareOp op v1 v2) Q E s
noncomputable def TruS (S : Sys) (k : Nat) (d : D) (b : Bool) : Prop :=
  ∀ (A : Around) (s : Shared) (K : Kn) (v : Value) (Q : Bool → Shared → Prop) (E : Value → Shared → Prop), Room k A → Ok S K s → Rep S K v d →
    (∀ s' K', Le S s s' K K' → Ok S K' s' → Q b s') → wpAny (M S) A (truthy v) Q E s
theorem EvS.bin {l r : Expr} {op pos} {d1 d2 d : D} (h1 : EvS S k cx σ l d1) (h2 : EvS S k cx σ r d2) (hb : BinS S k op d1 d2 d) : EvS S k cx σ (.BinOp l op r pos) d := by
  intro A env s K Q E ro o fm h
  refine wpAny_BinOp (h1 A env s K _ E ro o fm fun v1 s1 K1 l1 o1 r1 => ?_)
  refine h2 A env s1 K1 _ E ro o1 (fm.le o l1) fun v2 s2 K2 l2 o2 r2 => ?_
  exact hb A s2 K2 v1 v2 Q E ro o2 (r1.mono l2.ext) r2 fun v s3 K3 l3 o3 r3 => h v s3 K3 (Le.trans o o2 (Le.trans o o1 l1 l2) l3) o3 r3
theorem EvS.cmp {l r : Expr} {op pos} {d1 d2 : D} {b : Bool} (h1 : EvS S k cx σ l d1) (h2 : EvS S k cx σ r d2) (hb : CmpS S k op d1 d2 b) (hm : behindInMarks op r = false := by with_unfolding_all rfl) :
    EvS S k cx σ (.Compare l [op] [r] pos) (.bool b) := by
  intro A env s K Q E ro o fm h
  refine wpAny_Compare1 (h1 A env s K _ E ro o fm fun v1 s1 K1 l1 o1 r1 => ?_) hm
  refine h2 A env s1 K1 _ E ro o1 (fm.le o l1) fun v2 s2 K2 l2 o2 r2 => ?_
  exact hb A s2 K2 v1 v2 Q E ro o2 (r1.mono l2.ext) r2 fun s3 K3 l3 o3 => h _ s3 K3 (Le.trans o o2 (Le.trans o o1 l1 l2) l3) o3 (.bool b)
theorem EvT.cmp {l r : Expr} {op pos} {d1 d2 : D} {b : Bool} (h1 : EvS S k cx σ l d1) (h2 : EvS S k cx σ r d2) (hb : CmpS S k op d1 d2 b) (hm : behindInMarks op r = false := by with_unfolding_all rfl) :
    EvT S k cx σ (.Compare l [op] [r] pos) b := by
  intro A env s K Q E ro o fm h
  refine wpAny_isTrue_Compare1 (h1 A env s K _ E ro o fm fun v1 s1 K1 l1 o1 r1 => ?_) hm
  refine h2 A env s1 K1 _ E ro o1 (fm.le o l1) fun v2 s2 K2 l2 o2 r2 => ?_
  exact hb A s2 K2 v1 v2 _ E ro o2 (r1.mono l2.ext) r2 fun s3 K3 l3 o3 => wpAny_truthy_bool (h s3 K3 (Le.trans o o2 (Le.trans o o1 l1 l2) l3) o3)
theorem TruS.bool {b : Bool} : TruS S k (.bool b) b := by
  intro A s K v Q E _ o r h
  rw [r.bool_inv]
  exact wpAny_truthy_bool (h s K Le.refl o)
theorem EvT.not {x : Expr} {pos} {b : Bool} (h : EvT S k cx σ x b) : EvT S k cx σ (.UnaryOp .Not x pos) (!b) := by
  intro A env s K Q E ro o fm hq
  exact wpAny_isTrue_Not (h A env s K _ E ro o fm fun s' K' l o' => hq s' K' l o')
noncomputable def EvAll (S : Sys) (k : Nat) (cx : Cx) (σ : Sto) (op : BoolOp) (es : List Expr) (b : Bool) : Prop :=
  ∀ (A : Around) (env : Env) (s : Shared) (K : Kn) (Q : Bool → Shared → Prop) (E : Value → Shared → Prop),
    Room k A → Ok S K s → Fm S cx env σ s K → (∀ s' K', Le S s s' K K' → Ok S K' s' → Q b s') → wpAny (M S) A (allTrue op es env) Q E s
theorem EvAll.nil {op} : EvAll S k cx σ op [] (op == .And) := fun _ _ _ _ _ _ _ o _ h => wpAny_pure (h _ _ Le.refl o)
theorem EvAll.and_false {x es} (h : EvT S k cx σ x false) : EvAll S k cx σ .And (x :: es) false := by
  intro A env s K Q E ro o fm hq
  exact wpAny_allTrue_And_cons (h A env s K _ E ro o fm fun s' K' l o' => hq s' K' l o')
theorem EvAll.and_true {x es b} (h : EvT S k cx σ x true) (h' : EvAll S k cx σ .And es b) : EvAll S k cx σ .And (x :: es) b := by
  intro A env s K Q E ro o fm hq
  exact wpAny_allTrue_And_cons (h A env s K _ E ro o fm fun s' K' l o' => h' A env s' K' Q E ro o' (fm.le o l) fun s2 K2 l2 o2 => hq s2 K2 (Le.trans o o' l l2) o2)
theorem EvAll.or_true {x es} (h : EvT S k cx σ x true) : EvAll S k cx σ .Or (x :: es) true := by
  intro A env s K Q E ro o fm hq
  exact wpAny_allTrue_Or_cons (h A env s K _ E ro o fm fun s' K' l o' => hq s' K' l o')
theorem EvAll.or_false {x es b} (h : EvT S k cx σ x false) (h' : EvAll S k cx σ .Or es b) : EvAll S k cx σ .Or (x :: es) b := by
  intro A env s K Q E ro o fm hq
  exact wpAny_allTrue_Or_cons (h A env s K _ E ro o fm fun s' K' l o' => h' A env s' K' Q E ro o' (fm.le o l) fun s2 K2 l2 o2 => hq s2 K2 (Le.trans o o' l l2) o2)
theorem EvT.boolop {op es pos b} (h : EvAll S k cx σ op es b) : EvT S k cx σ (.BoolOp op es pos) b :=
  fun A env s K Q E ro o fm hq => wpAny_isTrue_BoolOp (h A env s K Q E ro o fm hq)
theorem EvT.val {e : Expr} {d b} (h : EvS S k cx σ e d) (ht : TruS S k d b)
    (he : ∀ (env : Env) (whole : Sem Value), isTrue e env whole = (do let v ← whole; standAt e.pos; holding [v] (truthy v)) := by intro _ _; rfl) : EvT S k cx σ e b := by
  intro A env s K Q E ro o fm hq
  refine wpAny_isTrue_value (h A env s K _ E ro o fm fun v s' K' l o' r => ?_) (he env _)
  exact ht A s' K' v Q E ro o' r fun s2 K2 l2 o2 => hq s2 K2 (Le.trans o o' l l2) o2
theorem EvS.ifexp_true {t b e pos d} (h : EvT S k cx σ t true) (h' : EvS S k cx σ b d) : EvS S k cx σ (.IfExp t b e pos) d := by
  intro A env s K Q E ro o fm hq
  refine wpAny_IfExp (h A env s K _ E ro o fm fun s' K' l o' => ?_)
  exact h' A env s' K' Q E ro o' (fm.le o l) fun v s2 K2 l2 o2 r => hq v s2 K2 (Le.trans o o' l l2) o2 r
theorem EvS.ifexp_false {t b e pos d} (h : EvT S k cx σ t false) (h' : EvS S k cx σ e d) : EvS S k cx σ (.IfExp t b e pos) d := by
  intro A env s K Q E ro o fm hq
  refine wpAny_IfExp (h A env s K _ E ro o fm fun s' K' l o' => ?_)
  exact h' A env s' K' Q E ro o' (fm.le o l) fun v s2 K2 l2 o2 r => hq v s2 K2 (Le.trans o o' l l2) o2 r
theorem EvS.neg {x : Expr} {pos} {i : Int} (h : EvS S k cx σ x (.int i)) : EvS S k cx σ (.UnaryOp .USub x pos) (.int (-i)) := by
  intro A env s K Q E ro o fm hq
  refine wpAny_UnaryOp (h A env s K _ E ro o fm fun v s' K' l o' r => ?_)
  (refine elE r.int_inv fun t e91 => ?_; subst e91)
  exact neg_int (hq _ _ K' (Le.trans o o' l Le.toks) o'.toks (.int _ _))
theorem EvS.and_stop {x y : Expr} {pos d} (h : EvS S k cx σ x d) (ht : TruS S k d false) : EvS S k cx σ (.BoolOp .And [x, y] pos) d := by
  intro A env s K Q E ro o fm hq
  refine wpAny_And2 (h A env s K _ E ro o fm fun v s' K' l o' r => ?_)
  exact ht A s' K' v _ E ro o' r fun s2 K2 l2 o2 => hq v s2 K2 (Le.trans o o' l l2) o2 (r.mono l2.ext)
theorem EvS.and_go {x y : Expr} {pos d d'} (h : EvS S k cx σ x d) (ht : TruS S k d true) (h' : EvS S k cx σ y d') : EvS S k cx σ (.BoolOp .And [x, y] pos) d' := by
  intro A env s K Q E ro o fm hq
  refine wpAny_And2 (h A env s K _ E ro o fm fun v s' K' l o' r => ?_)
  refine ht A s' K' v _ E ro o' r fun s2 K2 l2 o2 => ?_
  have l02 := Le.trans o o' l l2
  exact h' A env s2 K2 Q E ro o2 (fm.le o l02) fun v s3 K3 l3 o3 r3 => hq v s3 K3 (Le.trans o o2 l02 l3) o3 r3
theorem EvS.or_stop {x y : Expr} {pos d} (h : EvS S k cx σ x d) (ht : TruS S k d true) : EvS S k cx σ (.BoolOp .Or [x, y] pos) d := by
  intro A env s K Q E ro o fm hq
  refine wpAny_Or2 (h A env s K _ E ro o fm fun v s' K' l o' r => ?_)
  exact ht A s' K' v _ E ro o' r fun s2 K2 l2 o2 => hq v s2 K2 (Le.trans o o' l l2) o2 (r.mono l2.ext)
theorem EvS.or_go {x y : Expr} {pos d d'} (h : EvS S k cx σ x d) (ht : TruS S k d false) (h' : EvS S k cx σ y d') : EvS S k cx σ (.BoolOp .Or [x, y] pos) d' := by
  intro A env s K Q E ro o fm hq
  refine wpAny_Or2 (h A env s K _ E ro o fm fun v s' K' l o' r => ?_)
  refine ht A s' K' v _ E ro o' r fun s2 K2 l2 o2 => ?_
  have l02 := Le.trans o o' l l2
  exact h' A env s2 K2 Q E ro o2 (fm.le o l02) fun v s3 K3 l3 o3 r3 => hq v s3 K3 (Le.trans o o2 l02 l3) o3 r3
theorem EvL.nil : EvL S k cx σ [] [] := fun _ _ _ _ _ _ _ _ o _ h => wpAny_items_nil (h _ _ _ Le.refl o .nil)
noncomputable def Plain (e : Expr) : Bool := match e with | .Starred .. => false | _ => true
theorem starEach_plain {e : Expr} (h : Plain e = true) (rest : List Expr) (env : Env) : starEach (e :: rest) env = (false, eval e env) :: starEach rest env := by
  cases e <;> first | rfl | exact ft h
theorem EvL.cons {e : Expr} {es : List Expr} {d : D} {ds : List D} (h : EvS S k cx σ e d) (t : EvL S k cx σ es ds) (hp : Plain e = true := by rfl) : EvL S k cx σ (e :: es) (d :: ds) := by
  intro A env pos s K Q E ro o fm hq
  refine wpAny_items_cons (h A env s K _ E ro o fm fun v s' K' l o' r => ?_) (starEach_plain hp _ _)
  exact t A env pos s' K' _ E ro o' (fm.le o l) fun vs s2 K2 l2 o2 r2 => hq (v :: vs) s2 K2 (Le.trans o o' l l2) o2 (.cons (r.mono l2.ext) r2)
theorem EvS.list {es pos} {ds : List D} (h : EvL S k cx σ es ds) (hl : ds.length ≤ sizeLine := by simp [sizeLine]) : EvS S k cx σ (.List es pos) (.list ds) := by
  intro A env s K Q E ro o fm hq
  refine wpAny_List (h A env pos s K _ E ro o fm fun vs s' K' l o' r => ⟨by rw [r.len]; exact hl, ?_⟩)
  exact hq _ _ _ (Le.trans o o' l (Le.push o')) (o'.push rfl) (Rep.list' (n := 0) (Kn.add_self ..) (r.mono (Le.push o').ext))
theorem EvS.tuple {es n pos} {ds : List D} (h : EvL S k cx σ es ds) (hl : ds.length ≤ sizeLine := by simp [sizeLine]) : EvS S k cx σ (.Tuple es n pos) (.tuple ds) := by
  intro A env s K Q E ro o fm hq
  refine wpAny_Tuple (h A env pos s K _ E ro o fm fun vs s' K' l o' r => ⟨by rw [r.len]; exact hl, ?_⟩)
  exact hq _ _ _ (Le.trans o o' l (Le.push o')) (o'.push rfl) (Rep.tuple' (n := 0) (Kn.add_self ..) (r.mono (Le.push o').ext))
end Mine
namespace Mine
variable {S : Sys} {k : Nat} {cx : Cx} {σ : Sto}
mutual
noncomputable def toP : D → PyData
  | .none => .none
  | .bool b => .bool b
  | .int i => .int i
  | .str s => .str s
  | .tstr s _ => .str s
  | .list xs => .list (toPs xs)
  | .tuple xs => .tuple (toPs xs)
  | .tok _ => .none
  | .range _ _ _ => .none
  | .rule _ _ => .none
  | .entry _ => .none
  | .dic _ _ => .none
  | .set _ => .none
noncomputable def toPs : List D → List PyData
  | [] => []
  | d :: ds => toP d :: toPs ds
end
noncomputable def okD : Nat → D → Bool
  | _, .none => true
  | _, .bool _ => true
  | _, .int _ => true
  | _, .str _ => true
  | n + 1, .list xs => xs.all (okD n)
  | n + 1, .tuple xs => xs.all (okD n)
  | _, _ => false
theorem reads_all {K : Kn} {h : Heap} {n : Nat} (ih : ∀ (v : Value) (d : D), Rep S K v d → okD n d = true → ∃ as, Reads h v (toP d) as) :
    ∀ (vs : List Value) (ds : List D), RepL S K vs ds → ds.all (okD n) = true → ∃ as, ReadsAll h vs (toPs ds) as
  | vs, [], r, _ => by rw [r.nil_inv]; exact ⟨_, ReadsAll.nil⟩
  | vs, d :: ds, r, ho => by
    (refine elEEAA r.cons_inv fun v vs' e92 rv rt => ?_; subst e92)
    rw [List.all_cons, Bool.and_eq_true] at ho
    refine elE (ih v d rv ho.1) fun as q => ?_
    refine elE (reads_all ih vs' ds rt ho.2) fun bs q' => ?_
    rw [toPs]; exact ⟨_, ReadsAll.cons q q'⟩
theorem reads_of {K : Kn} {h : Heap} (kn : ∀ a o, K a = some o → h.get? a = some o) : ∀ (n : Nat) (v : Value) (d : D), Rep S K v d → okD n d = true → ∃ as, Reads h v (toP d) as := by
  intro n
  induction n with
  | zero =>
    intro v d r ho
    cases r with
    | none => exact ⟨_, Reads.none⟩
    | bool b => exact ⟨_, Reads.bool b⟩
    | int i t => exact ⟨_, Reads.int i t⟩
    | str t _ => exact ⟨_, Reads.str _ t⟩
    | _ => simp [okD] at ho
  | succ n ih =>
    intro v d r ho
    cases r with
    | none => exact ⟨_, Reads.none⟩
    | bool b => exact ⟨_, Reads.bool b⟩
    | int i t => exact ⟨_, Reads.int i t⟩
    | str t _ => exact ⟨_, Reads.str _ t⟩
    | list e hl h =>
      refine elE (reads_all ih _ _ ⟨hl, h⟩ (by simpa [okD] using ho)) fun as q => ?_
      rw [toP]
      exact ⟨_, Reads.list (kn _ _ e) rfl rfl (by simpa using q)⟩
    | tuple e hl h =>
      refine elE (reads_all ih _ _ ⟨hl, h⟩ (by simpa [okD] using ho)) fun as q => ?_
      rw [toP]
      exact ⟨_, Reads.tuple (kn _ _ e) rfl rfl (by simpa using q)⟩
    | _ => simp [okD] at ho
theorem lay_all {K : Kn} {n : Nat} (ih : ∀ (v : Value) (d : D), Rep S K v d → okD n d = true → (toP d).canLay0 = true ∧ (toP d).depth ≤ n) :
    ∀ (vs : List Value) (ds : List D), RepL S K vs ds → ds.all (okD n) = true → PyData.canLayAll0 (toPs ds) = true ∧ PyData.depthAll (toPs ds) ≤ n
  | _, [], _, _ => by simp [toPs, PyData.canLayAll0, PyData.depthAll]
  | vs, d :: ds, r, ho => by
    (refine elEEAA r.cons_inv fun v vs' e92 rv rt => ?_; subst e92)
    rw [List.all_cons, Bool.and_eq_true] at ho
    have h1 := ih v d rv ho.1
    have h2 := lay_all ih vs' ds rt ho.2
    have a1 := h1.2
    have a2 := h2.2
    simp only [toPs, PyData.canLayAll0, PyData.depthAll, h1.1, h2.1, Bool.and_self, true_and]
    lia
theorem lay_of {K : Kn} : ∀ (n : Nat) (v : Value) (d : D), Rep S K v d → okD n d = true → (toP d).canLay0 = true ∧ (toP d).depth ≤ n := by
  intro n
  induction n with
  | zero =>
    intro v d r ho
    cases r with
    | none => simp [toP, PyData.canLay0, PyData.depth]
    | bool b => simp [toP, PyData.canLay0, PyData.depth]
    | int i t => simp [toP, PyData.canLay0, PyData.depth]
    | str t h => simp [toP, PyData.canLay0, PyData.depth, h]
    | _ => simp [okD] at ho
  | succ n ih =>
    intro v d r ho
    cases r with
    | none => simp [toP, PyData.canLay0, PyData.depth]
    | bool b => simp [toP, PyData.canLay0, PyData.depth]
    | int i t => simp [toP, PyData.canLay0, PyData.depth]
    | str t h => simp [toP, PyData.canLay0, PyData.depth, h]
    | list e hl h =>
      have q := lay_all ih _ _ ⟨hl, h⟩ (by simpa [okD] using ho)
      have q2 := q.2
      simp only [toP, PyData.canLay0, PyData.depth, q.1, true_and]
      exact Nat.lt_succ_of_le ‹_›
    | tuple e hl h =>
      have q := lay_all ih _ _ ⟨hl, h⟩ (by simpa [okD] using ho)
      have q2 := q.2
      simp only [toP, PyData.canLay0, PyData.depth, q.1, true_and]
      exact Nat.lt_succ_of_le ‹_›
    | _ => simp [okD] at ho
theorem shaped_of {K : Kn} {v d} (r : Rep S K v d) (ho : okD 8 d = true) : SeqAt.shaped (toP d) = true := by
  have q := lay_of 8 v d r ho
  unfold SeqAt.shaped
  rw [q.1, Bool.true_and]
  exact decide_eq_true (Nat.le_trans q.2 (by decide))
noncomputable def eqvD (a b : D) : Bool := PyData.eqv (toP a) (toP b)
theorem CmpS.eq {d1 d2 : D} (h1 : okD 8 d1 = true := by rfl) (h2 : okD 8 d2 = true := by rfl) : CmpS S k .Eq d1 d2 (eqvD d1 d2) := by
  intro A s K v1 v2 Q E ro o r1 r2 h
  refine elE (reads_of o.kn 8 v1 d1 r1 h1) fun as q1 => ?_
  refine elE (reads_of o.kn 8 v2 d2 r2 h2) fun bs q2 => ?_
  exact eq_dataH q1 q2 (shaped_of r1 h1) (shaped_of r2 h2) ro.units (h s K Le.refl o)
theorem CmpS.ne {d1 d2 : D} (h1 : okD 8 d1 = true := by rfl) (h2 : okD 8 d2 = true := by rfl) : CmpS S k .NotEq d1 d2 (!eqvD d1 d2) := by
  intro A s K v1 v2 Q E ro o r1 r2 h
  refine elE (reads_of o.kn 8 v1 d1 r1 h1) fun as q1 => ?_
  refine elE (reads_of o.kn 8 v2 d2 r2 h2) fun bs q2 => ?_
  exact ne_dataH q1 q2 (shaped_of r1 h1) (shaped_of r2 h2) ro.units (h s K Le.refl o)
theorem canLayAll_of {K : Kn} {v ds} (r : Rep S K v (.list ds)) (ho : okD 8 (.list ds) = true) : PyData.canLayAll0 (toPs ds) = true ∧ PyData.depthAll (toPs ds) ≤ 8 := by
  have q := lay_of 8 v _ r ho
  have q2 := q.2
  simp only [toP, PyData.canLay0, PyData.depth] at q q2
  exact ⟨q.1, by exact Nat.le_of_lt ‹_›⟩
theorem CmpS.isIn {d1 : D} {ds : List D} (h1 : okD 8 d1 = true := by rfl) (h2 : okD 8 (.list ds) = true := by rfl) : CmpS S k .In d1 (.list ds) (ds.any fun e => eqvD e d1) := by
  intro A s K v1 v2 Q E ro o r1 r2 h
  refine elE (reads_of o.kn 8 v1 d1 r1 h1) fun as q1 => ?_
  refine elE (reads_of o.kn 8 v2 _ r2 h2) fun bs q2 => ?_
  rw [toP] at q2
  have c := canLayAll_of r2 h2
  have c1 := lay_of 8 v1 d1 r1 h1
  have e : ((toPs ds).any fun y => PyData.eqv y (toP d1)) = ds.any fun e => eqvD e d1 := by
    clear h h2 r2 q2 c
    induction ds with
    | nil => rfl
    | cons d ds ih => simp only [toPs, List.any_cons, ih, eqvD]
  refine SeqAt.in_list_reads q2 q1 c.1 c1.1 ?_ (by rw [e]; exact h s K Le.refl o)
  have := ro.units
  have := Nat.min_le_left (PyData.depthAll (toPs ds)) (toP d1).depth
  have := c.2
  lia
theorem CmpS.notIn {d1 : D} {ds : List D} (h1 : okD 8 d1 = true := by rfl) (h2 : okD 8 (.list ds) = true := by rfl) : CmpS S k .NotIn d1 (.list ds) (!ds.any fun e => eqvD e d1) := by
  intro A s K v1 v2 Q E ro o r1 r2 h
  refine elE (reads_of o.kn 8 v1 d1 r1 h1) fun as q1 => ?_
  refine elE (reads_of o.kn 8 v2 _ r2 h2) fun bs q2 => ?_
  rw [toP] at q2
  have c := canLayAll_of r2 h2
  have c1 := lay_of 8 v1 d1 r1 h1
  have e : ((toPs ds).any fun y => PyData.eqv y (toP d1)) = ds.any fun e => eqvD e d1 := by
    clear h h2 r2 q2 c
    induction ds with
    | nil => rfl
    | cons d ds ih => simp only [toPs, List.any_cons, ih, eqvD]
  refine SeqAt.notIn_list_reads q2 q1 c.1 c1.1 ?_ (by rw [e]; exact h s K Le.refl o)
  have := ro.units
  have := Nat.min_le_left (PyData.depthAll (toPs ds)) (toP d1).depth
  have := c.2
  lia
theorem CmpS.lt {a b : Int} : CmpS S k .Lt (.int a) (.int b) (decide (a < b)) := by
  intro A s K v1 v2 Q E ro o r1 r2 h
  (refine elE r1.int_inv fun t e91 => ?_; subst e91)
  (refine elE r2.int_inv fun u e91 => ?_; subst e91)
  exact PyProof.Rows.lt_int (h s K Le.refl o)
theorem CmpS.gt {a b : Int} : CmpS S k .Gt (.int a) (.int b) (decide (b < a)) := by
  intro A s K v1 v2 Q E ro o r1 r2 h
  (refine elE r1.int_inv fun t e91 => ?_; subst e91)
  (refine elE r2.int_inv fun u e91 => ?_; subst e91)
  exact PyProof.Rows.gt_int (h s K Le.refl o)
theorem CmpS.ge {a b : Int} : CmpS S k .GtE (.int a) (.int b) (decide (b ≤ a)) := by
  intro A s K v1 v2 Q E ro o r1 r2 h
  (refine elE r1.int_inv fun t e91 => ?_; subst e91)
  (refine elE r2.int_inv fun u e91 => ?_; subst e91)
  exact PyProof.Rows.ge_int (h s K Le.refl o)
theorem CmpS.eqInt {a b : Int} : CmpS S k .Eq (.int a) (.int b) (a == b) := by
  intro A s K v1 v2 Q E ro o r1 r2 h
  (refine elE r1.int_inv fun t e91 => ?_; subst e91)
  (refine elE r2.int_inv fun u e91 => ?_; subst e91)
  exact eq_int (h s K Le.refl o)
theorem CmpS.neInt {a b : Int} : CmpS S k .NotEq (.int a) (.int b) (a != b) := by
  intro A s K v1 v2 Q E ro o r1 r2 h
  (refine elE r1.int_inv fun t e91 => ?_; subst e91)
  (refine elE r2.int_inv fun u e91 => ?_; subst e91)
  exact PyProof.Rows.ne_int (h s K Le.refl o)
theorem CmpS.eqStr {a b : Str} : CmpS S k .Eq (.str a) (.str b) (a == b) := by
  intro A s K v1 v2 Q E ro o r1 r2 h
  (refine elEA r1.str_inv fun t e91 _ => ?_; subst e91)
  (refine elEA r2.str_inv fun u e91 _ => ?_; subst e91)
  exact eq_str (h s K Le.refl o)
theorem CmpS.neStr {a b : Str} : CmpS S k .NotEq (.str a) (.str b) (a != b) := by
  intro A s K v1 v2 Q E ro o r1 r2 h
  (refine elEA r1.str_inv fun t e91 _ => ?_; subst e91)
  (refine elEA r2.str_inv fun u e91 _ => ?_; subst e91)
  exact ne_str (h s K Le.refl o)
theorem CmpS.inStr {a b : Str} : CmpS S k .In (.str a) (.str b) (Txt.contains b a) := by
  intro A s K v1 v2 Q E ro o r1 r2 h
  (refine elEA r1.str_inv fun t e91 _ => ?_; subst e91)
  (refine elEA r2.str_inv fun u e91 _ => ?_; subst e91)
  exact SB.contains (h s K Le.refl o)
theorem CmpS.notInStr {a b : Str} : CmpS S k .NotIn (.str a) (.str b) (!Txt.contains b a) := by
  intro A s K v1 v2 Q E ro o r1 r2 h
  (refine elEA r1.str_inv fun t e91 _ => ?_; subst e91)
  (refine elEA r2.str_inv fun u e91 _ => ?_; subst e91)
  exact SB.notContains (h s K Le.refl o)
theorem CmpS.isBool {a b : Bool} : CmpS S k .Is (.bool a) (.bool b) (a == b) := by
  intro A s K v1 v2 Q E ro o r1 r2 h
  rw [r1.bool_inv, r2.bool_inv]
  refine wpAny_is_plain rfl ?_
  have := h s K Le.refl o
  cases a <;> cases b <;> exact this
theorem CmpS.isNotBool {a b : Bool} : CmpS S k .IsNot (.bool a) (.bool b) (!(a == b)) := by
  intro A s K v1 v2 Q E ro o r1 r2 h
  rw [r1.bool_inv, r2.bool_inv]
  refine wpAny_isNot_plain rfl ?_
  have := h s K Le.refl o
  cases a <;> cases b <;> exact this
theorem TruS.int {i : Int} : TruS S k (.int i) (i != 0) := by
  intro A s K v Q E ro o r h
  (refine elE r.int_inv fun t e91 => ?_; subst e91)
  exact PyProof.Rows.truthy_int (h s K Le.refl o)
theorem TruS.str {x : Str} (hl : x.length ≤ sizeLine) : TruS S k (.str x) ((x.length : Int) != 0) := by
  intro A s K v Q E ro o r h
  (refine elEA r.str_inv fun t e91 _ => ?_; subst e91)
  rw [sizeLine_eq] at hl
  exact P.truthy_str (by lia) (h _ K Le.toks o.toks)
theorem BinS.add {a b : Int} : BinS S k .Add (.int a) (.int b) (.int (a + b)) := by
  intro A s K v1 v2 Q E ro o r1 r2 h
  (refine elE r1.int_inv fun t e91 => ?_; subst e91)
  (refine elE r2.int_inv fun u e91 => ?_; subst e91)
  exact add_int (h _ _ K Le.toks o.toks (.int _ _))
theorem BinS.sub {a b : Int} : BinS S k .Sub (.int a) (.int b) (.int (a - b)) := by
  intro A s K v1 v2 Q E ro o r1 r2 h
  (refine elE r1.int_inv fun t e91 => ?_; subst e91)
  (refine elE r2.int_inv fun u e91 => ?_; subst e91)
  exact sub_int (h _ _ K Le.toks o.toks (.int _ _))
theorem BinS.mul {a b : Int} (hm : IntMulOk a b) : BinS S k .Mult (.int a) (.int b) (.int (a * b)) := by
  intro A s K v1 v2 Q E ro o r1 r2 h
  (refine elE r1.int_inv fun t e91 => ?_; subst e91)
  (refine elE r2.int_inv fun u e91 => ?_; subst e91)
  exact PyProof.Rows.mul_int (h _ _ K Le.toks o.toks (.int _ _)) hm
theorem BinS.mod {a b : Int} (hb : b ≠ 0) : BinS S k .Mod (.int a) (.int b) (.int (a.fmod b)) := by
  intro A s K v1 v2 Q E ro o r1 r2 h
  (refine elE r1.int_inv fun t e91 => ?_; subst e91)
  (refine elE r2.int_inv fun u e91 => ?_; subst e91)
  exact PyProof.Rows.mod_int' hb (h _ _ K Le.toks o.toks (.int _ _))
theorem small_div {a b : Int} (hb : b.natAbs < 2 ^ 64) : Builtin.divisionGoesByPylong a b = false := by
  unfold Builtin.divisionGoesByPylong
  have : ¬ ((if (b == 0) = true then 0 else b.natAbs.log2 / 30 + 1) > 300) := by
    split
    · decide
    · have : b.natAbs.log2 < 64 := by
        by_cases hz : b.natAbs = 0
        · rw [hz]; decide
        · exact (Nat.log2_lt hz).mpr hb
      lia
  simp only [this, decide_false, Bool.false_and]
theorem BinS.floordiv {a b : Int} (hb : b ≠ 0) (hs : b.natAbs < 2 ^ 64) : BinS S k .FloorDiv (.int a) (.int b) (.int (a.fdiv b)) := by
  intro A s K v1 v2 Q E ro o r1 r2 h
  (refine elE r1.int_inv fun t e91 => ?_; subst e91)
  (refine elE r2.int_inv fun u e91 => ?_; subst e91)
  exact PyProof.Rows.floordiv_int hb (h _ _ K Le.toks o.toks (.int _ _)) (.inl (small_div hs))
theorem BinS.pow {a n : Int} (h0 : 0 ≤ n) (hs : (Builtin.Int.intBits a : Int) * n ≤ 2 ^ 27) : BinS S k .Pow (.int a) (.int n) (.int (a ^ n.toNat)) := by
  intro A s K v1 v2 Q E ro o r1 r2 h
  (refine elE r1.int_inv fun t e91 => ?_; subst e91)
  (refine elE r2.int_inv fun u e91 => ?_; subst e91)
  exact PyProof.Rows.pow_int h0 hs (h _ _ K Le.toks o.toks (.int _ _))
theorem strOk_append {a b : Str} (ha : PyData.strOk a = true) (hb : PyData.strOk b = true) : PyData.strOk (a ++ b) = true := by
  unfold PyData.strOk at *
  rw [Str.cps_append, Array.all_append, ha, hb]
  rfl
theorem BinS.addStr {a b : Str} (hl : a.length + b.length ≤ sizeLine) : BinS S k .Add (.str a) (.str b) (.str (a ++ b)) := by
  intro A s K v1 v2 Q E ro o r1 r2 h
  (refine elEA r1.str_inv fun t e91 h1 => ?_; subst e91)
  (refine elEA r2.str_inv fun u e91 h2 => ?_; subst e91)
  exact withTk (SB.add (fun t' tk ht => h _ _ K (Le.toks ht) o.toks (.str _ (strOk_append h1 h2))) hl)
end Mine
namespace Mine
variable {S : Sys} {k : Nat} {cx : Cx} {σ : Sto}
theorem listAt {S : Sys} {K s a vs n} (o : Ok S K s) (e : K a = some (lst vs n)) : s.heap.IsList a vs.toArray := ⟨_, o.kn _ _ e, rfl, n, rfl⟩
theorem BinS.addList {a b : List D} (hl : a.length + b.length ≤ sizeLine) : BinS S k .Add (.list a) (.list b) (.list (a ++ b)) := by
  intro A s K v1 v2 Q E ro o r1 r2 h
  (refine elEEEAA r1.list_inv fun x vs n e93 e1 q1 => ?_; subst e93)
  (refine elEEEAA r2.list_inv fun y us m e93 e2 q2 => ?_; subst e93)
  refine P.add_list (o.kn _ _ e1) (o.kn _ _ e2) ?_ (by simp only [List.size_toArray, q1.len, q2.len]; exact hl)
  rw [List.append_toArray]
  exact h _ _ _ (Le.push o) (o.push rfl) (Rep.list' (n := 0) (Kn.add_self ..) ((RepL.append q1 q2).mono (Le.push o).ext))
noncomputable def IdxS (S : Sys) (k : Nat) (d1 d2 d : D) : Prop :=
  ∀ (A : Around) (s : Shared) (K : Kn) (v1 v2 : Value) (value slice : Expr) (Q : Value → Shared → Prop) (E : Value → Shared → Prop), Room k A → Ok S K s → Rep S K v1 d1 → Rep S K v2 d2 →
    subscripted slice false v1 v2 = operate [v1, v2] (getItem v1 v2) →
    (∀ v s' K', Le S s s' K K' → Ok S K' s' → Rep S K' v d → Q v s') → wpAny (M S) A (subscriptTail value slice v1 v2) Q E s
theorem EvS.index {value slice : Expr} {pos} {d1 d2 d : D} (h1 : EvS S k cx σ value d1) (h2 : EvS S k cx σ slice d2) (hi : IdxS S k d1 d2 d)
    (hs : ∀ v1 v2 : Value, subscripted slice false v1 v2 = operate [v1, v2] (getItem v1 v2) := by intro _ _; rfl) : EvS S k cx σ (.Subscript value slice pos) d := by
  intro A env s K Q E ro o fm h
  refine Subscript_ (h1 A env s K _ E ro o fm fun v1 s1 K1 l1 o1 r1 => ?_)
  refine h2 A env s1 K1 _ E ro o1 (fm.le o l1) fun v2 s2 K2 l2 o2 r2 => ?_
  exact hi A s2 K2 v1 v2 value slice Q E ro o2 (r1.mono l2.ext) r2 (hs v1 v2) fun v s3 K3 l3 o3 r3 => h v s3 K3 (Le.trans o o2 (Le.trans o o1 l1 l2) l3) o3 r3
theorem itemTail {A s} {value slice : Expr} {l : Addr} {vs : List Value} {i : Int} {u : Tok} {v : Value} {j : Nat} {Q : Value → Shared → Prop} {E : Value → Shared → Prop} (hL : s.heap.IsList l vs.toArray)
    (hlo : -(2 ^ 63) ≤ i) (hhi : i < 2 ^ 63) (hj : seqIndex? i vs.length = some j) (hx : vs[j]? = some v)
    (hs : subscripted slice false (.ref l) (.int i u) = operate [.ref l, .int i u] (getItem (.ref l) (.int i u))) (h : Q v s) :
    wpAny (M S) A (subscriptTail value slice (.ref l) (.int i u)) Q E s := by
  refine tail_any hL.typeIs slot_list_getitem.lookup ?_ hs
  unfold seqIndex? at hj
  by_cases h0 : i < 0
  · simp only [h0, if_true] at hj
    split at hj
    · rename_i hb
      have hj' := Option.some.inj hj
      simp only [Bool.and_eq_true, decide_eq_true_eq] at hb
      exact wpAny_getItem_list_neg hL h0 (by simp only [List.size_toArray]; lia) hlo (by simp only [List.size_toArray]; rw [hj']; simpa using hx) h
    · exact nsm hj
  · simp only [h0, if_false] at hj
    split at hj
    · rename_i hb
      have hj' := Option.some.inj hj
      exact wpAny_getItem_list hL (by lia) hhi (by rw [hj']; simpa using hx) h
    · exact nsm hj
theorem IdxS.list {ds : List D} {i : Int} {j : Nat} {d : D} (hlo : -(2 ^ 63) ≤ i) (hhi : i < 2 ^ 63) (hj : seqIndex? i ds.length = some j) (hx : ds[j]? = some d) : IdxS S k (.list ds) (.int i) d := by
  intro A s K v1 v2 value slice Q E ro o r1 r2 hs h
  (refine elEEEAA r1.list_inv fun l vs n e93 e q => ?_; subst e93)
  (refine elE r2.int_inv fun u e91 => ?_; subst e91)
  refine elEA (q.of_get hx) fun v hv rv => ?_
  exact itemTail (listAt o e) hlo hhi (by rw [q.len]; exact hj) hv hs (h v s K Le.refl o rv)
theorem strOk_item {x : Str} {i : Int} (h : PyData.strOk x = true) : PyData.strOk (Txt.item x i) = true := by
  unfold Txt.item
  cases e : Txt.charAt x i with
  | none => decide +kernel
  | some c =>
    show (#[c] : Array Nat).all (· < 0x110000) = true
    unfold Txt.charAt at e
    refine elEA (Option.bind_eq_some_iff.mp e) fun j _ e => ?_
    have hm := Array.mem_of_getElem? e
    unfold PyData.strOk at h
    have := (Array.all_eq_true_iff_forall_mem.mp h) c hm
    simpa using this
theorem IdxS.str {x : Str} {i : Int} (hf : fitsSsize i = true) (hlo : -(x.length : Int) ≤ i) (hhi : i < x.length) : IdxS S k (.str x) (.int i) (.str (Txt.item x i)) := by
  intro A s K v1 v2 value slice Q E ro o r1 r2 hs h
  (refine elEA r1.str_inv fun t e91 hx => ?_; subst e91)
  (refine elE r2.int_inv fun u e91 => ?_; subst e91)
  exact item_str hf hlo hhi (fun _ => h _ _ K Le.toks o.toks (.str _ (strOk_item hx))) hs (by intro r; cases value <;> rfl)
theorem EvS.ownIndex {x : Str} {p pos} {slice : Expr} {ds : List D} {i : Int} {j : Nat} {d : D} (hv : isVar cx.sc x = true) (he : σ x = some (.own ds)) (h2 : EvS S k cx σ slice (.int i))
    (hlo : -(2 ^ 63) ≤ i) (hhi : i < 2 ^ 63) (hj : seqIndex? i ds.length = some j) (hx : ds[j]? = some d)
    (hs : ∀ v1 v2 : Value, subscripted slice false v1 v2 = operate [v1, v2] (getItem v1 v2) := by intro _ _; rfl) : EvS S k cx σ (.Subscript (.Name x p) slice pos) d := by
  intro A env s K Q E ro o fm h
  refine elAA (isVar_or hv) fun h1 h3 h4 => ?_
  have fm' := fm
  (refine elE fm' fun α fa => ?_; try clear fm')
  refine Subscript_ (wpAny_Name (loadEnt fa h1 he (fun v ev => ?_) h3) h4)
  obtain ⟨rfl, hn, vs, n, e, q⟩ := ev
  refine h2 A env s K _ E ro o fm fun v2 s2 K2 l2 o2 r2 => ?_
  (refine elE r2.int_inv fun u e91 => ?_; subst e91)
  refine elEA (q.of_get hx) fun v hv' rv => ?_
  have e2 := l2.keep _ _ (o.notT' e fun vs => by simp [lst]) e
  exact itemTail ⟨_, e2, rfl, n, rfl⟩ hlo hhi (by rw [q.len]; exact hj) hv' (hs _ _) (h v s2 K2 l2 o2 (rv.mono l2.ext))
noncomputable def pickL {α : Type} (ds : List α) (lo hi st : Option Int) : List α :=
  (sliceRange (sliceBounds lo hi st ds.length).1 (sliceBounds lo hi st ds.length).2.1 (sliceBounds lo hi st ds.length).2.2).filterMap (ds[·]?)
theorem RepL.pick {K vs ds} (r : RepL S K vs ds) : ∀ is : List Nat, RepL S K (is.filterMap (vs[·]?)) (is.filterMap (ds[·]?))
  | [] => by simpa using RepL.nil
  | i :: is => by
    simp only [List.filterMap_cons]
    cases e : ds[i]? with
    | none =>
      have : vs[i]? = none := by
        rw [List.getElem?_eq_none_iff] at e ⊢
        rw [r.len]; exact e
      rw [this]; exact r.pick is
    | some d =>
      refine elEA (r.of_get e) fun v hv rv => ?_
      rw [hv]; exact RepL.cons rv (r.pick is)
inductive EvP (S : Sys) (k : Nat) (cx : Cx) (σ : Sto) : Option Expr → Option Int → Prop
  | none : EvP S k cx σ none none
  | some {e i} (h : EvS S k cx σ e (.int i)) : EvP S k cx σ (some e) (some i)
theorem evalPartS {A env s K} {e : Option Expr} {p : Option Int} {Q : Value → Shared → Prop} {E : Value → Shared → Prop} (hp : EvP S k cx σ e p) (ro : Room k A) (o : Ok S K s) (fm : Fm S cx env σ s K)
    (h : ∀ v s' K', Le S s s' K K' → Ok S K' s' → IsPart v p → Q v s') : wpAny (M S) A (evalPart e env) Q E s := by
  cases hp with
  | none => exact wpAny_evalPart_none (h _ s K Le.refl o .none)
  | some he => exact wpAny_evalPart_some (he A env s K Q E ro o fm fun v s' K' l o' r => by (refine elE r.int_inv fun t e91 => ?_; subst e91); exact h _ s' K' l o' (.int _ _))
noncomputable def SlcS (S : Sys) (k : Nat) (d1 : D) (lo hi st : Option Int) (d : D) : Prop :=
  ∀ (A : Around) (s : Shared) (K : Kn) (v1 : Value) (sl : Addr) (vl vu vs : Value) (value slice : Expr) (ops : List Value) (Q : Value → Shared → Prop) (E : Value → Shared → Prop), Room k A → Ok S K s → Rep S K v1 d1 →
    s.heap.IsSliceOf sl vl vu vs → IsPart vl lo → IsPart vu hi → IsPart vs st →
    subscripted slice false v1 (.ref sl) = operate ops (getItem v1 (.ref sl)) →
    (∀ v s' K', Le S s s' K K' → Ok S K' s' → Rep S K' v d → Q v s') → wpAny (M S) A (subscriptTail value slice v1 (.ref sl)) Q E s
theorem EvS.slice {value : Expr} {lo hi st : Option Expr} {p pos} {d1 d : D} {l u t : Option Int} (h1 : EvS S k cx σ value d1) (hl : EvP S k cx σ lo l) (hu : EvP S k cx σ hi u) (ht : EvP S k cx σ st t)
    (hsl : SlcS S k d1 l u t d) : EvS S k cx σ (.Subscript value (.Slice lo hi st p) pos) d := by
  intro A env s K Q E ro o fm h
  refine Subscript_ (h1 A env s K _ E ro o fm fun v1 s1 K1 l1 o1 r1 => ?_)
  have fm1 := fm.le o l1
  refine wpAny_Slice (evalPartS hl ro o1 fm1 fun vl s2 K2 l2 o2 r2 => ?_)
  refine evalPartS hu ro o2 (fm1.le o1 l2) fun vu s3 K3 l3 o3 r3 => ?_
  refine evalPartS ht ro o3 ((fm1.le o1 l2).le o2 l3) fun vt s4 K4 l4 o4 r4 => ?_
  have l14 := Le.trans o1 o3 (Le.trans o1 o2 l2 l3) l4
  have l04 := Le.trans o o1 l1 l14
  have o5 : Ok S K4 { s4 with heap := s4.heap.push { cls := .type "slice", data := .fields #[vl, vu, vt] } } := o4.grow (tk := s4.toks) fun _ _ e => Heap.get?_push_of_some _ e
  have l5 : Le S s4 { s4 with heap := s4.heap.push { cls := .type "slice", data := .fields #[vl, vu, vt] } } K4 K4 := Le.grow (tk := s4.toks) fun _ _ e => Heap.get?_push_of_some _ e
  have hs : ∃ ops, subscripted (.Slice lo hi st p) false v1 (.ref s4.heap.objs.size) = operate ops (getItem v1 (.ref s4.heap.objs.size)) := by
    cases st with
    | none => exact ⟨_, rfl⟩
    | some st => exact ⟨_, rfl⟩
  refine elE hs fun ops hs => ?_
  exact hsl A _ K4 v1 _ vl vu vt value _ ops Q E ro o5 (r1.mono l14.ext) (Heap.IsSliceOf.new ..) r2 r3 r4 hs
    fun v s6 K6 l6 o6 r6 => h v s6 K6 (Le.trans o o5 (Le.trans o o4 l04 l5) l6) o6 r6
theorem SlcS.list {ds : List D} {l u t : Option Int} (h0 : t ≠ some 0) (hl : ds.length ≤ sizeLine) : SlcS S k (.list ds) l u t (.list (pickL ds l u t)) := by
  intro A s K v1 sl vl vu vt value slice ops Q E ro o r1 hsl pl pu pt hs h
  (refine elEEEAA r1.list_inv fun a vs n e93 e q => ?_; subst e93)
  have hL := listAt o e
  refine tail_any hL.typeIs slot_list_getitem.lookup (wpAny_getItem_list_slice hL hsl pl pu pt h0 ?_ (by simp only [List.size_toArray, q.len]; exact hl)) hs
  have hz : slicePick vs.toArray l u t = (pickL vs l u t).toArray := by
    unfold slicePick pickL
    simp only [List.size_toArray, List.getElem?_toArray]
  rw [hz]
  have q' : RepL S K (pickL vs l u t) (pickL ds l u t) := by
    unfold pickL
    rw [q.len]
    exact q.pick _
  exact h _ _ _ (Le.push o) (o.push rfl) (Rep.list' (n := 0) (Kn.add_self ..) (q'.mono (Le.push o).ext))
theorem strOk_slice {x : Str} {l u : Option Int} (h : PyData.strOk x = true) : PyData.strOk (Txt.slice x l u) = true := by
  unfold Txt.slice
  split
  · exact h
  · unfold PyData.strOk at *
    rw [Array.all_eq_true_iff_forall_mem]
    intro c hc
    rw [List.mem_toArray, List.mem_filterMap] at hc
    (refine elEA hc fun j _ hj => ?_; try clear hc)
    exact (Array.all_eq_true_iff_forall_mem.mp h) c (Array.mem_of_getElem? hj)
end Mine
namespace Mine
variable {S : Sys} {k : Nat} {cx : Cx} {σ : Sto}
theorem Ok.upd {K s h' tk a} (o : Ok S K s) (hn : K a = none) (hT : a ∉ S.T) (hs : Heap.SameBut a s.heap h') : Ok S K { s with heap := h', toks := tk } := by
  refine ⟨fun b x e => ?_, o.base, fun P hP => ?_, o.bare, o.os⟩
  · have hb : b ≠ a := fun q => by subst q; rw [hn] at e; exact nsm e
    exact (hs.2 b hb).trans (o.kn b x e)
  · obtain ⟨h1, ps, e, h2⟩ := o.tabs P hP
    exact ⟨h1, ps, (hs.2 P fun q => hT (q ▸ hP)).trans e, h2⟩
set_option genInjectivity false in
structure FrA (S : Sys) (cx : Cx) (env : Env) (σ : Sto) (B : Kn) (K₀ : Kn) (s : Shared) (K : Kn) (α : Str → Addr) : Prop where
  ok : Ok S K s
  fm : FmA S cx env σ s K α
  keep : ∀ b o, B b = some o → b ∉ S.T → s.heap.get? b = some o
  ext : K₀.le K
  old : ∀ a, B a ≠ none → K a = K₀ a
  locN : B env.locals = none ∧ K env.locals = none
  cells : ∀ x ∈ cx.wr, cx.sc.names.lookup x = some .cell → ∃ c v, env.cells.lookup x = some c ∧ s.heap.IsCell c v ∧ B c = none ∧ K c = none
  apart : ∀ x y c, y ∈ cx.wr → (cx.sc.names.lookup x = some .cell ∨ cx.sc.names.lookup x = some .free) → cx.sc.names.lookup y = some .cell → env.cells.lookup x = some c → env.cells.lookup y = some c → x = y
  ownN : cx.fr = true → ∀ x xs, isVar cx.sc x = true → σ x = some (.own xs) → B (α x) = none
  ownI : cx.fr = true → ∀ x y xs ys, isVar cx.sc x = true → isVar cx.sc y = true → σ x = some (.own xs) → σ y = some (.own ys) → α x = α y → x = y
noncomputable def FrI (S : Sys) (cx : Cx) (env : Env) (σ : Sto) (B : Kn) (K₀ : Kn) (s : Shared) (K : Kn) : Prop := ∃ α, FrA S cx env σ B K₀ s K α
theorem FrA.fmI {env B K₀ s K α} (f : FrA S cx env σ B K₀ s K α) : Fm S cx env σ s K := ⟨α, f.fm⟩
theorem FrI.fm {env B K₀ s K} (f : FrI S cx env σ B K₀ s K) : Fm S cx env σ s K := let ⟨_, f⟩ := f; f.fmI
theorem FrI.ok {env B K₀ s K} (f : FrI S cx env σ B K₀ s K) : Ok S K s := let ⟨_, f⟩ := f; f.ok
theorem FmA.le {env s s' K K' α} (o : Ok S K s) (l : Le S s s' K K') (h : FmA S cx env σ s K α) : FmA S cx env σ s' K' α := by
  refine ⟨h.scope, h.code, h.kind, h.globals, h.builtins, Nat.le_trans h.tok l.tok, ?_, fun x hx => let ⟨c, v, h1, h2⟩ := h.cla x hx; ⟨c, v, h1, cell_le o l h2⟩, fun x e hx hs => ?_⟩
  · refine elEA h.ns fun m hm hx => ?_
    exact ⟨m, ns_le o l hm, fun x e hl hs => let ⟨v, hv, r⟩ := hx x e hl hs; ⟨v, hv, r.le o l⟩⟩
  · refine elEEAA (h.cel x e hx hs) fun c v hc hv r => ?_
    exact ⟨c, v, hc, cell_le o l hv, r.le o l⟩
theorem FrA.locS {env B K₀ s K α} (f : FrA S cx env σ B K₀ s K α) : s.heap.get? env.locals ≠ none := by
  obtain ⟨m, ⟨o, es, ep, e, _⟩, _⟩ := f.fm.ns
  rw [e]; simp
theorem FrA.le {env B K₀ s s' K K' α} (f : FrA S cx env σ B K₀ s K α) (l : Le S s s' K K') (o' : Ok S K' s') : FrA S cx env σ B K₀ s' K' α := by
  refine ⟨o', f.fm.le f.ok l, fun b o e hT => l.keep b o hT (f.keep b o e hT), Kn.le_trans f.ext l.ext, fun a ha => ?_, ⟨f.locN.1, (l.old _ f.locS).trans f.locN.2⟩, fun x hw hx => ?_, f.apart, f.ownN, f.ownI⟩
  · by_cases hT : a ∈ S.T
    · rw [(o'.tabs a hT).1, ← f.old a ha, (f.ok.tabs a hT).1]
    · refine (l.old a ?_).trans (f.old a ha)
      cases e : B a with
      | none => exact absurd e ha
      | some o => rw [f.keep a o e hT]; simp
  · refine elEEAAA (f.cells x hw hx) fun c v hc hv hn hk => ?_
    refine ⟨c, v, hc, cell_le f.ok l hv, hn, (l.old c ?_).trans hk⟩
    (refine elEA hv fun o e _ => ?_; try clear hv)
    rw [e]; simp
theorem FrI.le {env B K₀ s s' K K'} (f : FrI S cx env σ B K₀ s K) (l : Le S s s' K K') (o' : Ok S K' s') : FrI S cx env σ B K₀ s' K' := let ⟨α, f⟩ := f; ⟨α, f.le l o'⟩
theorem FmA.ownAt {env s K α x xs} (f : FmA S cx env σ s K α) (hv : isVar cx.sc x = true) (he : σ x = some (.own xs)) : K (α x) = none ∧ ∃ vs n, s.heap.get? (α x) = some (lst vs n) ∧ RepL S K vs xs := by
  rcases (isVar_or hv).1 with h | h | h
  · refine elEA f.ns fun m _ hx => ?_
    refine elEAAA (hx x _ h he) fun v _ _ h1 h2 => ?_
    exact ⟨h1, h2⟩
  · refine elEEAAAA (f.cel x _ (.inl h) he) fun c v _ _ _ h1 h2 => ?_
    exact ⟨h1, h2⟩
  · refine elEEAAAA (f.cel x _ (.inr h) he) fun c v _ _ _ h1 h2 => ?_
    exact ⟨h1, h2⟩
noncomputable def Sto.sub (σ σ' : Sto) : Prop := ∀ x e, σ x = some e → σ' x = some e
theorem FmA.weak {env s K α} {σ' : Sto} (h : FmA S cx env σ' s K α) (hs : σ.sub σ') : FmA S cx env σ s K α :=
  ⟨h.scope, h.code, h.kind, h.globals, h.builtins, h.tok, let ⟨m, hm, q⟩ := h.ns; ⟨m, hm, fun x e hl hx => q x e hl (hs x e hx)⟩, h.cla, fun x e hx he => h.cel x e hx (hs x e he)⟩
theorem FrI.weak {env B K₀ s K} {σ' : Sto} (f : FrI S cx env σ' B K₀ s K) (hs : σ.sub σ') : FrI S cx env σ B K₀ s K := by
  refine elE f fun α f => ?_
  exact ⟨α, f.ok, f.fm.weak hs, f.keep, f.ext, f.old, f.locN, f.cells, f.apart, fun hf x xs hv e => f.ownN hf x xs hv (hs _ _ e), fun hf x y xs ys hv hv' e e' => f.ownI hf x y xs ys hv hv' (hs _ _ e) (hs _ _ e')⟩
theorem FrA.stored {env B K₀ s K α h' tk a} {σ' : Sto} (f : FrA S cx env σ B K₀ s K α) (hn : K a = none) (h0 : B a = none) (hT : a ∉ S.T) (hs : Heap.SameBut a s.heap h')
    (hown : ∀ x xs, σ' x = some (.own xs) → σ x = some (.own xs))
    (hcell : ∀ c v, s.heap.IsCell c v → ∃ v', h'.IsCell c v')
    (fm' : FmA S cx env σ' { s with heap := h', toks := tk } K α) : FrA S cx env σ' B K₀ { s with heap := h', toks := tk } K α := by
  refine ⟨f.ok.upd hn hT hs, fm', fun b o e hb => ?_, f.ext, f.old, f.locN, fun x hw hx => ?_, f.apart, fun hf x xs hv e => f.ownN hf x xs hv (hown x xs e), fun hf x y xs ys hv hv' e e' => f.ownI hf x y xs ys hv hv' (hown _ _ e) (hown _ _ e')⟩
  · have : b ≠ a := fun q => by subst q; rw [h0] at e; exact nsm e
    exact (hs.2 b this).trans (f.keep b o e hb)
  · refine elEEAAA (f.cells x hw hx) fun c v hc hv h1 h2 => ?_
    refine elE (hcell c v hv) fun v' hv' => ?_
    exact ⟨c, v', hc, hv', h1, h2⟩
theorem EntR.upd {K} {h h' : Heap} {α : Str → Addr} {x : Str} {e : Ent} {v : Value} {a : Addr} (hs : Heap.SameBut a h h') (hna : ∀ ob, h.get? a = some ob → (∀ vs n, ob ≠ lst vs n)) (r : EntR S K h α x e v) : EntR S K h' α x e v := by
  cases e with
  | val d => exact r
  | own xs =>
    obtain ⟨rfl, hn, vs, n, e, q⟩ := r
    refine ⟨rfl, hn, vs, n, (hs.2 _ fun z => ?_).trans e, q⟩
    rw [z] at e
    exact hna _ e vs n rfl
  | app y => exact r
noncomputable def isVarW (cx : Cx) (x : Str) : Bool := match cx.sc.names.lookup x with
  | some .local => !(x == ("__classdict__" : Str)) && !(x == ("__debug__" : Str))
  | some .cell => !(x == ("__classdict__" : Str)) && !(x == ("__debug__" : Str)) && cx.wr.contains x
  | _ => false
theorem isVarW_or {cx : Cx} {x : Str} (h : isVarW cx x = true) : cx.sc.names.lookup x = some .local ∨ (cx.sc.names.lookup x = some .cell ∧ x ∈ cx.wr) := by
  unfold isVarW at h
  split at h
  · rename_i e; exact .inl e
  · rename_i e
    simp only [Bool.and_eq_true] at h
    exact .inr ⟨e, by simpa using h.2⟩
  · exact ft h
theorem isVarW_var {cx : Cx} {x : Str} (h : isVarW cx x = true) : isVar cx.sc x = true := by
  unfold isVarW at h
  unfold isVar
  split at h
  · rename_i e; rw [e]; exact h
  · rename_i e; rw [e]
    simp only [Bool.and_eq_true] at h ⊢
    exact h.1
  · exact ft h
theorem FrA.stored' {env B K₀ s K α h' tk a} {σ' : Sto} (f : FrA S cx env σ B K₀ s K α) (hn : K a = none) (h0 : B a = none) (hT : a ∉ S.T) (hs : Heap.SameBut a s.heap h')
    (hcell : ∀ c v, s.heap.IsCell c v → ∃ v', h'.IsCell c v')
    (fm' : FmA S cx env σ' { s with heap := h', toks := tk } K α)
    (hN : cx.fr = true → ∀ x xs, isVar cx.sc x = true → σ' x = some (.own xs) → B (α x) = none)
    (hI : cx.fr = true → ∀ x y xs ys, isVar cx.sc x = true → isVar cx.sc y = true → σ' x = some (.own xs) → σ' y = some (.own ys) → α x = α y → x = y) : FrA S cx env σ' B K₀ { s with heap := h', toks := tk } K α := by
  refine ⟨f.ok.upd hn hT hs, fm', fun b o e hb => ?_, f.ext, f.old, f.locN, fun x hw hx => ?_, f.apart, hN, hI⟩
  · have : b ≠ a := fun q => by subst q; rw [h0] at e; exact nsm e
    exact (hs.2 b this).trans (f.keep b o e hb)
  · refine elEEAAA (f.cells x hw hx) fun c v hc hv h1 h2 => ?_
    refine elE (hcell c v hv) fun v' hv' => ?_
    exact ⟨c, v', hc, hv', h1, h2⟩
theorem storeEntA {A env B K₀ s K E α} {x : Str} {v : Value} {en : Ent} {Q : Unit → Shared → Prop} (f : FrA S cx env σ B K₀ s K α) (hx : isVarW cx x = true) (r : EntR S K s.heap α x en v)
    (hoN : ∀ xs, en = .own xs → B (α x) = none) (hoI : ∀ xs, en = .own xs → ∀ y ys, isVar cx.sc y = true → y ≠ x → σ y = some (.own ys) → α y ≠ α x)
    (h : ∀ s', FrA S cx env (σ.upd x (some en)) B K₀ s' K α → Q () s') : wpAny (M S) A (storeName env x v) Q E s := by
  have hkind : env.scope.kind = .function := by rw [f.fm.scope]; exact f.fm.kind
  have hko : ∀ y, env.kindOf y = cx.sc.names.lookup y := fun y => by unfold Env.kindOf; rw [f.fm.scope]
  have hN : cx.fr = true → ∀ y ys, isVar cx.sc y = true → σ.upd x (some en) y = some (.own ys) → B (α y) = none := fun hf y ys hv e => by
    by_cases hy : y = x
    · subst hy; rw [Sto.upd_self] at e; exact hoN ys (Option.some.inj e)
    · rw [Sto.upd_ne _ _ hy] at e; exact f.ownN hf y ys hv e
  have hI : cx.fr = true → ∀ y z ys zs, isVar cx.sc y = true → isVar cx.sc z = true → σ.upd x (some en) y = some (.own ys) → σ.upd x (some en) z = some (.own zs) → α y = α z → y = z := fun hf y z ys zs hv hv' e e' q => by
    by_cases hy : y = x
    · by_cases hz : z = x
      · exact hy.trans hz.symm
      · rw [hy, Sto.upd_self] at e
        rw [Sto.upd_ne _ _ hz] at e'
        exact absurd (q.symm.trans (by rw [hy])) (hoI ys (Option.some.inj e) z zs hv' hz e')
    · rw [Sto.upd_ne _ _ hy] at e
      by_cases hz : z = x
      · rw [hz, Sto.upd_self] at e'
        exact absurd (q.trans (by rw [hz])) (hoI zs (Option.some.inj e') y ys hv hy e)
      · rw [Sto.upd_ne _ _ hz] at e'
        exact f.ownI hf y z ys zs hv hv' e e' q
  rcases isVarW_or hx with hk | ⟨hk, hw⟩
  · refine elEA f.fm.ns fun m hm hx' => ?_
    refine wpAny_storeName_local ((hko x).trans hk) hm (fun h' hm' hs => ?_) (by rw [hkind]; rfl)
    have hd : ∀ ob, s.heap.get? env.locals = some ob → (∀ c, ob.data ≠ .cell c) ∧ (∀ vs n, ob ≠ lst vs n) ∧ ∀ vs, ob.data ≠ .fields vs := fun ob e => by
      (refine elEEEAA hm fun o' es ep e' hd _ => ?_; try clear hm)
      rw [e] at e'; (replace e' := Option.some.inj e'; subst e')
      exact ⟨fun c q => (by rw [hd] at q; cases q), fun vs n q => (by rw [q] at hd; cases hd), fun vs q => (by rw [hd] at q; cases q)⟩
    have hT : env.locals ∉ S.T := fun hm9 => by
      obtain ⟨_, ps, e, _⟩ := f.ok.tabs _ hm9
      exact (hd _ e).2.2 _ rfl
    have hc : ∀ c w, s.heap.IsCell c w → h'.IsCell c w := fun c w y => y.sameBut hs fun q => by
      (refine elEA y fun ob e hd' => ?_; try clear y)
      rw [q] at e
      exact (hd _ e).1 _ hd'
    refine h _ (f.stored' f.locN.2 f.locN.1 hT hs (fun c w y => ⟨w, hc c w y⟩) ?_ hN hI)
    refine ⟨f.fm.scope, f.fm.code, f.fm.kind, f.fm.globals, f.fm.builtins, Nat.le_succ_of_le f.fm.tok, ⟨_, hm', fun y e hl he => ?_⟩, fun y hy => let ⟨c, w, h1, h2⟩ := f.fm.cla y hy; ⟨c, w, h1, hc c w h2⟩, fun y e hy he => ?_⟩
    · by_cases hyx : y = x
      · subst hyx
        rw [Sto.upd_self] at he; (replace he := Option.some.inj he; subst he)
        exact ⟨v, by simp, r.upd hs fun ob e => (hd ob e).2.1⟩
      · rw [Sto.upd_ne _ _ hyx] at he
        refine elEA (hx' y e hl he) fun u hu ru => ?_
        exact ⟨u, by simp [hyx, hu], ru.upd hs fun ob e => (hd ob e).2.1⟩
    · have hyx : y ≠ x := fun q => by subst q; rcases hy with hy | hy <;> rw [hk] at hy <;> cases hy
      rw [Sto.upd_ne _ _ hyx] at he
      refine elEEAA (f.fm.cel y e hy he) fun c u h1 h2 ru => ?_
      exact ⟨c, u, h1, hc c _ h2, ru.upd hs fun ob e => (hd ob e).2.1⟩
  · refine elEEAAA (f.cells x hw hk) fun c v0 hc hv hn hK => ?_
    refine wpAny_storeName_cell hkind ((hko x).trans hk) hc hv fun h' hv' hs => ?_
    refine elEA (id hv) fun oc ec dc => ?_
    have hd : ∀ ob, s.heap.get? c = some ob → (∀ vs n, ob ≠ lst vs n) ∧ (∀ vs, ob.data ≠ .fields vs) ∧ ∀ es ep, ob.data ≠ .dict es ep := fun ob e => by
      rw [ec] at e; (replace e := Option.some.inj e; subst e)
      exact ⟨fun vs n q => (by rw [q] at dc; cases dc), fun vs q => (by rw [dc] at q; cases q), fun es ep q => (by rw [dc] at q; cases q)⟩
    have hT : c ∉ S.T := fun hm9 => by
      obtain ⟨_, ps, e, _⟩ := f.ok.tabs _ hm9
      exact (hd _ e).2.1 _ rfl
    have hcell : ∀ c' w, s.heap.IsCell c' w → ∃ w', h'.IsCell c' w' := fun c' w y => by
      by_cases q : c' = c
      · subst q; exact ⟨_, hv'⟩
      · exact ⟨w, y.sameBut hs q⟩
    have hstate : ({ s with heap := h' } : Shared) = { s with heap := h', toks := s.toks } := rfl
    refine h _ ?_
    rw [hstate]
    refine f.stored' hK hn hT hs hcell ?_ hN hI
    refine ⟨f.fm.scope, f.fm.code, f.fm.kind, f.fm.globals, f.fm.builtins, f.fm.tok, ?_, fun y hy => let ⟨c', w, h1, h2⟩ := f.fm.cla y hy; let ⟨w', h3⟩ := hcell c' w h2; ⟨c', w', h1, h3⟩, fun y e hy he => ?_⟩
    · refine elEA f.fm.ns fun m hm hx' => ?_
      refine ⟨m, hm.sameBut hs fun q => ?_, fun y e hl he => ?_⟩
      · (refine elEEEAA hm fun o' es ep e' hd' _ => ?_; try clear hm)
        rw [q] at e'
        exact (hd _ e').2.2 _ _ hd'
      · have hyx : y ≠ x := fun q => by subst q; rw [hk] at hl; cases hl
        rw [Sto.upd_ne _ _ hyx] at he
        refine elEA (hx' y e hl he) fun u hu ru => ?_
        exact ⟨u, hu, ru.upd hs fun ob e => (hd ob e).1⟩
    · by_cases hyx : y = x
      · subst hyx
        rw [Sto.upd_self] at he; (replace he := Option.some.inj he; subst he)
        exact ⟨c, v, hc, hv', r.upd hs fun ob e => (hd ob e).1⟩
      · rw [Sto.upd_ne _ _ hyx] at he
        refine elEEAA (f.fm.cel y e hy he) fun c' u h1 h2 ru => ?_
        refine ⟨c', u, h1, h2.sameBut hs fun q => hyx ?_, ru.upd hs fun ob e => (hd ob e).1⟩
        subst q
        exact f.apart y x _ hw hy hk h1 hc
theorem storeValA {A env B K₀ s K E α} {x : Str} {v : Value} {d : D} {Q : Unit → Shared → Prop} (f : FrA S cx env σ B K₀ s K α) (hx : isVarW cx x = true) (r : Rep S K v d)
    (h : ∀ s', FrA S cx env (σ.upd x (some (.val d))) B K₀ s' K α → Q () s') : wpAny (M S) A (storeName env x v) Q E s :=
  storeEntA (en := .val d) f hx r (fun _ e => by cases e) (fun _ e => by cases e) h
theorem storeVal {A env B K₀ s K E} {x : Str} {v : Value} {d : D} {Q : Unit → Shared → Prop} (f : FrI S cx env σ B K₀ s K) (hx : isVarW cx x = true) (r : Rep S K v d)
    (h : ∀ s', FrI S cx env (σ.upd x (some (.val d))) B K₀ s' K → Q () s') : wpAny (M S) A (storeName env x v) Q E s :=
  let ⟨α, f⟩ := f
  storeValA f hx r fun s' f' => h s' ⟨α, f'⟩
inductive Fl where
  | next | brk | cont
  | ret (d : D)
noncomputable def FlR (S : Sys) (K : Kn) (f : Flow) : Fl → Prop
  | .next => f = .next
  | .brk => f = .brk
  | .cont => f = .cont
  | .ret d => ∃ v, f = .ret v ∧ Rep S K v d
noncomputable def Ex1 (S : Sys) (k : Nat) (cx : Cx) (σ : Sto) (st : Stmt) (fl : Fl) (σ' : Sto) : Prop :=
  ∀ (A : Around) (env : Env) (B : Kn) (K₀ : Kn) (s : Shared) (K : Kn) (Q : Flow → Shared → Prop) (E : Value → Shared → Prop), Room k A → FrI S cx env σ B K₀ s K →
    (∀ f s' K', FrI S cx env σ' B K₀ s' K' → FlR S K' f fl → Q f s') → wpAny (M S) A (exec st env) Q E s
noncomputable def ExS (S : Sys) (k : Nat) (cx : Cx) (σ : Sto) (sts : List Stmt) (fl : Fl) (σ' : Sto) : Prop :=
  ∀ (A : Around) (env : Env) (B : Kn) (K₀ : Kn) (s : Shared) (K : Kn) (Q : Flow → Shared → Prop) (E : Value → Shared → Prop), Room k A → FrI S cx env σ B K₀ s K →
    (∀ f s' K', FrI S cx env σ' B K₀ s' K' → FlR S K' f fl → Q f s') → wpAny (M S) A (execs sts env) Q E s
theorem ExS.nil : ExS S k cx σ [] .next σ := fun _ _ _ _ s K _ _ _ f h => wpAny_execs_nil (h _ s K f rfl)
theorem ExS.cons {st sts fl} {σ₁ σ₂ : Sto} (h1 : Ex1 S k cx σ st .next σ₁) (h2 : ExS S k cx σ₁ sts fl σ₂) : ExS S k cx σ (st :: sts) fl σ₂ := by
  intro A env B K₀ s K Q E ro f h
  refine execsC (h1 A env B K₀ s K _ E ro f fun fl' s' K' f' r => ?_)
  subst r
  exact h2 A env B K₀ s' K' Q E ro f' h
theorem ExS.stop {st sts fl} {σ₁ : Sto} (h1 : Ex1 S k cx σ st fl σ₁) (hn : fl ≠ .next) : ExS S k cx σ (st :: sts) fl σ₁ := by
  intro A env B K₀ s K Q E ro f h
  refine execsC (h1 A env B K₀ s K _ E ro f fun fl' s' K' f' r => ?_)
  cases fl with
  | next => exact absurd rfl hn
  | brk => subst r; exact h _ s' K' f' rfl
  | cont => subst r; exact h _ s' K' f' rfl
  | ret d => obtain ⟨v, rfl, r⟩ := r; exact h _ s' K' f' ⟨v, rfl, r⟩
theorem ExS.one {st fl} {σ₁ : Sto} (h1 : Ex1 S k cx σ st fl σ₁) : ExS S k cx σ [st] fl σ₁ := by
  cases fl with
  | next => exact ExS.cons h1 ExS.nil
  | brk => exact ExS.stop h1 (by intro e; cases e)
  | cont => exact ExS.stop h1 (by intro e; cases e)
  | ret d => exact ExS.stop h1 (by intro e; cases e)
theorem Ex1.ret {e pos d} (h : EvS S k cx σ e d) : Ex1 S k cx σ (.Return (some e) pos) (.ret d) σ := by
  intro A env B K₀ s K Q E ro f hq
  refine wpAny_Return_some (h A env s K _ E ro f.ok f.fm fun v s' K' l o' r => hq _ s' K' (f.le l o') ⟨v, rfl, r⟩)
theorem Ex1.brk {pos} : Ex1 S k cx σ (.Break pos) .brk σ := fun _ _ _ _ s K _ _ _ f h => wpAny_Break (h _ s K f rfl)
theorem Ex1.if_true {t b e pos fl} {σ' : Sto} (h : EvT S k cx σ t true) (hb : ExS S k cx σ b fl σ') : Ex1 S k cx σ (.If t b e pos) fl σ' := by
  intro A env B K₀ s K Q E ro f hq
  refine wpAny_If (h A env s K _ E ro f.ok f.fm fun s' K' l o' => ?_)
  exact hb A env B K₀ s' K' Q E ro (f.le l o') hq
theorem Ex1.if_false {t b e pos fl} {σ' : Sto} (h : EvT S k cx σ t false) (hb : ExS S k cx σ e fl σ') : Ex1 S k cx σ (.If t b e pos) fl σ' := by
  intro A env B K₀ s K Q E ro f hq
  refine wpAny_If (h A env s K _ E ro f.ok f.fm fun s' K' l o' => ?_)
  exact hb A env B K₀ s' K' Q E ro (f.le l o') hq
theorem Ex1.assert {t m pos} (h : EvT S k cx σ t true) : Ex1 S k cx σ (.Assert t m pos) .next σ := by
  intro A env B K₀ s K Q E ro f hq
  exact wpAny_Assert_holds (h A env s K _ E ro f.ok f.fm fun s' K' l o' => ⟨rfl, hq _ s' K' (f.le l o') rfl⟩)
noncomputable def notComp (e : Expr) : Bool := match e with | .ListComp .. => false | .SetComp .. => false | .DictComp .. => false | _ => true
theorem swaps_no {e : Expr} (h : notComp e = true) (t : Option Expr) (l : Nat) (env : Env) : swapsWith e t l env = pure false := by
  cases e <;> first | rfl | exact ft h
theorem Ex1.assign {x p e pos d} (h : EvS S k cx σ e d) (hx : isVarW cx x = true) (hn : notComp e = true := by rfl) :
    Ex1 S k cx σ (.Assign [.Name x p] e pos) .next (σ.upd x (some (.val d))) := by
  intro A env B K₀ s K Q E ro f hq
  refine wpAny_Assign_Name (h A env s K _ E ro f.ok f.fm fun v s' K' l o' r => ?_) (swaps_no hn _ _ _)
  exact storeVal (f.le l o') hx r fun s2 f2 => hq _ s2 K' f2 rfl
theorem Ex1.weak {st fl} {σ₁ σ₂ : Sto} (h : Ex1 S k cx σ st fl σ₁) (hs : σ₂.sub σ₁) : Ex1 S k cx σ st fl σ₂ :=
  fun A env B K₀ s K Q E ro f hq => h A env B K₀ s K Q E ro f fun fl' s' K' f' r => hq fl' s' K' (f'.weak hs) r
theorem ExS.weak {st fl} {σ₁ σ₂ : Sto} (h : ExS S k cx σ st fl σ₁) (hs : σ₂.sub σ₁) : ExS S k cx σ st fl σ₂ :=
  fun A env B K₀ s K Q E ro f hq => h A env B K₀ s K Q E ro f fun fl' s' K' f' r => hq fl' s' K' (f'.weak hs) r
noncomputable def IncS (S : Sys) (k : Nat) (op : Operator) (d1 d2 d : D) : Prop :=
  ∀ (A : Around) (s : Shared) (K : Kn) (v1 v2 : Value) (Q : Value → Shared → Prop) (E : Value → Shared → Prop), Room k A → Ok S K s → Rep S K v1 d1 → Rep S K v2 d2 →
    (∀ v s' K', Le S s s' K K' → Ok S K' s' → Rep S K' v d → Q v s') → wpAny (M S) A (inplaceOp op v1 v2) Q E s
theorem IncS.add {a b : Int} : IncS S k .Add (.int a) (.int b) (.int (a + b)) := by
  intro A s K v1 v2 Q E ro o r1 r2 h
  (refine elE r1.int_inv fun t e91 => ?_; subst e91)
  (refine elE r2.int_inv fun u e91 => ?_; subst e91)
  exact wpAny_iadd_int (h _ _ K Le.toks o.toks (.int _ _))
theorem Ex1.aug {x p op e pos d1 d2 d} (he : σ x = some (.val d1)) (h : EvS S k cx σ e d2) (hi : IncS S k op d1 d2 d) (hx : isVarW cx x = true) :
    Ex1 S k cx σ (.AugAssign (.Name x p) op e pos) .next (σ.upd x (some (.val d))) := by
  intro A env B K₀ s K Q E ro f hq
  have fm := f.fm
  refine elE fm fun α fm => ?_
  refine wpAny_AugAssign_Name (loadEnt fm (isVar_or (isVarW_var hx)).1 he (fun v1 r1 => ?_) (isVar_or (isVarW_var hx)).2.1)
  refine h A env s K _ E ro f.ok f.fm fun v2 s2 K2 l2 o2 r2 => ?_
  refine hi A s2 K2 v1 v2 _ E ro o2 (Rep.mono l2.ext r1) r2 fun v s3 K3 l3 o3 r3 => ?_
  exact storeVal ((f.le l2 o2).le l3 o3) hx r3 fun s4 f4 => hq _ s4 K3 f4 rfl
end Mine
namespace Mine
variable {S : Sys} {k : Nat} {cx : Cx} {σ : Sto}
set_option genInjectivity false in
structure Itr (S : Sys) (K : Kn) (I : Addr) (fp : List Addr) (P : Nat → Value → Prop) (St : Nat → Heap → Prop) (ds : List D) : Prop where
  walks : ∀ A' : Around, A'.handled = none → Walks S.prog S.w A' I fp [I] ds.length P St
  fpK : ∀ b ∈ fp, b = I ∨ ∃ o, K b = some o
  items : ∀ i v, i < ds.length → P i v → ∃ d, ds[i]? = some d ∧ Rep S K v d
  alive : ∀ i h, St i h → ∃ o vs n, h.get? I = some o ∧ o.data = .fields vs ∧ o.cls = .type n ∧ (["enumerate", "zip", "dict_itemiterator", "dict_reverseitemiterator", "odict_iterator", "itertools.zip_longest", "itertools.pairwise"].contains n) = false
noncomputable def IterS (S : Sys) (d : D) (ds : List D) : Prop :=
  ∀ (A : Around) (s : Shared) (K : Kn) (v : Value) (Q : Value → Shared → Prop) (E : Value → Shared → Prop), A.handled = none → Ok S K s → Rep S K v d →
    (∀ o fp P St, Itr S K s.heap.objs.size fp P St ds → St 0 (s.heap.push o) → Q (.ref s.heap.objs.size) { s with heap := s.heap.push o }) → wpAny (M S) A (pyIter v) Q E s
theorem size_notK {K s} (o : Ok S K s) : K s.heap.objs.size = none := o.noneK (get_size _)
theorem ne_size {K s a ob} (o : Ok S K s) (e : K a = some ob) : a ≠ s.heap.objs.size := fun q => by rw [q, size_notK o] at e; exact nsm e
theorem IterS.list {ds : List D} : IterS S (.list ds) ds := by
  intro A s K v Q E hh o r h
  (refine elEEEAA r.list_inv fun a vs n e93 e q => ?_; subst e93)
  have hL := listAt o e
  have hne := ne_size o e
  refine wpAny_pyIter_list hL (h _ [s.heap.objs.size, a] (fun i v => vs.toArray[i]? = some v) (fun i h => h.IsListIter s.heap.objs.size a i ∧ h.IsList a vs.toArray) ⟨fun A' hA => ?_, ?_, ?_, ?_⟩ ⟨⟨_, Heap.get?_push_size _ rfl, rfl, rfl⟩, hL.push _⟩)
  · have W := Walks.list (prog := S.prog) (w := S.w) hA _ _ hne vs.toArray
    rw [show vs.toArray.size = ds.length by rw [List.size_toArray, q.len]] at W
    exact W
  · intro b hb
    simp only [List.mem_cons, List.not_mem_nil, or_false] at hb
    rcases hb with rfl | rfl
    · exact .inl rfl
    · exact .inr ⟨_, e⟩
  · intro i v _ hv
    have hv' : vs[i]? = some v := by simpa using hv
    have hi : i < vs.length := (List.getElem?_eq_some_iff.mp hv').1
    have hi' : i < ds.length := q.len ▸ hi
    exact ⟨ds[i], by simp [hi'], q.all i v _ hv' (by simp [hi'])⟩
  · rintro i h' ⟨⟨ob, e', hc, hd⟩, _⟩
    exact ⟨ob, _, _, e', hd, hc, by decide⟩
theorem IterS.tuple {ds : List D} : IterS S (.tuple ds) ds := by
  intro A s K v Q E hh o r h
  (refine elEEEAA r.tuple_inv fun a vs n e93 e q => ?_; subst e93)
  have hL : s.heap.IsTuple a vs.toArray := ⟨_, o.kn _ _ e, rfl, n, rfl⟩
  have hne := ne_size o e
  refine wpAny_pyIter_tuple hL (h _ [s.heap.objs.size, a] (fun i v => vs.toArray[i]? = some v) (fun i h => h.IsTupleIter s.heap.objs.size a i ∧ h.IsTuple a vs.toArray) ⟨fun A' hA => ?_, ?_, ?_, ?_⟩ ⟨⟨_, Heap.get?_push_size _ rfl, rfl, rfl⟩, ?_⟩)
  · have W := Walks.tuple (prog := S.prog) (w := S.w) hA _ _ hne vs.toArray
    rw [show vs.toArray.size = ds.length by rw [List.size_toArray, q.len]] at W
    exact W
  · intro b hb
    simp only [List.mem_cons, List.not_mem_nil, or_false] at hb
    rcases hb with rfl | rfl
    · exact .inl rfl
    · exact .inr ⟨_, e⟩
  · intro i v _ hv
    have hv' : vs[i]? = some v := by simpa using hv
    have hi : i < vs.length := (List.getElem?_eq_some_iff.mp hv').1
    have hi' : i < ds.length := q.len ▸ hi
    exact ⟨ds[i], by simp [hi'], q.all i v _ hv' (by simp [hi'])⟩
  · rintro i h' ⟨⟨ob, e', hc, hd⟩, _⟩
    exact ⟨ob, _, _, e', hd, hc, by decide⟩
  · (refine elEA hL fun ob e' r => ?_; try clear hL)
    exact ⟨ob, Heap.get?_push_of_some _ e', r⟩
noncomputable def sign (c : Nat) : Str := ⟨#[c]⟩
theorem strOk_sign {x : Str} {i : Nat} {c : Nat} (h : PyData.strOk x = true) (e : x.cps[i]? = some c) : PyData.strOk (sign c) = true := by
  unfold PyData.strOk at *
  have := (Array.all_eq_true_iff_forall_mem.mp h) c (Array.mem_of_getElem? e)
  simpa [sign] using this
noncomputable def rangeL (a c : Int) (n : Nat) : List D := (List.range n).map fun i : Nat => .int (a + i * c)
theorem IterS.range {a b c : Int} {n : Nat} (hs : Builtin.Range.small a b c = true) (hn : Builtin.Range.rangeSize a b c = n) : IterS S (.range a b c) (rangeL a c n) := by
  intro A s K v Q E hh o r h
  (refine elEEEEA r.range_inv fun r' t u v' e94 e => ?_; subst e94)
  have hlen : (rangeL a c n).length = n := by simp [rangeL]
  refine wpAny_pyIter_range (o.kn _ _ e) hs (h _ _ _ _ ⟨fun A' hA => hlen ▸ Walks.range hA _ a c n, fun b hb => .inl (by simpa using hb), ?_, ?_⟩ ?_)
  · intro i v hi q9; (refine elE q9 fun t e91 => ?_; try clear q9; subst e91)
    rw [hlen] at hi
    exact ⟨.int (a + i * c), by simp [rangeL, hi], .int _ _⟩
  · intro i h' e'
    exact ⟨_, _, _, e', rfl, rfl, by decide⟩
  · show IsRangeIter _ _ _ _ _
    rw [hn]
    have := Heap.get?_push_size s.heap (o := { cls := .type "range_iterator", data := .fields #[rawInt a, rawInt (n : Int), rawInt c] }) rfl
    simp only [Int.natCast_zero, Int.zero_mul, Int.add_zero, Int.sub_zero, hlen]
    exact this
theorem Ok.ext1 {K s h' tk I} (o : Ok S K s) (hn : K I = none) (hT : I ∉ S.T) (hk : ∀ b ob, b ≠ I → s.heap.get? b = some ob → h'.get? b = some ob) : Ok S K { s with heap := h', toks := tk } := by
  refine ⟨fun b x e => ?_, o.base, fun P hP => ?_, o.bare, o.os⟩
  · have hb : b ≠ I := fun q => by subst q; rw [hn] at e; exact nsm e
    exact hk b x hb (o.kn b x e)
  · obtain ⟨h1, ps, e, h2⟩ := o.tabs P hP
    exact ⟨h1, ps, hk P _ (fun q => hT (q ▸ hP)) e, h2⟩
noncomputable def IsF (h : Heap) (I : Addr) : Prop := ∃ o vs, h.get? I = some o ∧ o.data = .fields vs
theorem EntR.ext1 {K} {h h' : Heap} {α : Str → Addr} {x : Str} {e : Ent} {v : Value} {I : Addr} (hI : IsF h I) (hk : ∀ b ob, b ≠ I → h.get? b = some ob → h'.get? b = some ob) (r : EntR S K h α x e v) : EntR S K h' α x e v := by
  cases e with
  | val d => exact r
  | own xs =>
    obtain ⟨rfl, hn, vs, n, e, q⟩ := r
    refine ⟨rfl, hn, vs, n, hk _ _ (fun z => ?_) e, q⟩
    (refine elEEA hI fun ob us e' hd => ?_; try clear hI)
    rw [z, e'] at e; (replace e := Option.some.inj e; subst e); cases hd
  | app y => exact r
theorem FmA.ext1 {env s K α h' tk I} (f : FmA S cx env σ s K α) (hI : IsF s.heap I) (ht : s.toks ≤ tk) (hk : ∀ b ob, b ≠ I → s.heap.get? b = some ob → h'.get? b = some ob) : FmA S cx env σ { s with heap := h', toks := tk } K α := by
  have hc9 : ∀ c v, s.heap.IsCell c v → h'.IsCell c v := fun c v ⟨ob, e1, hd1⟩ => ⟨ob, hk _ _ (fun z => by
    (refine elEEA hI fun ob' us e' hd => ?_; try clear hI)
    rw [z, e'] at e1; (replace e1 := Option.some.inj e1; subst e1); rw [hd] at hd1; cases hd1) e1, hd1⟩
  refine ⟨f.scope, f.code, f.kind, f.globals, f.builtins, Nat.le_trans f.tok ht, ?_, fun x hx => let ⟨c, v, h1, h2⟩ := f.cla x hx; ⟨c, v, h1, hc9 c v h2⟩, fun x e hx hs => ?_⟩
  · refine elEA f.ns fun m hm hx => ?_
    refine ⟨m, hm.at' fun ob e => hk _ _ (fun z => ?_) e, fun x e hl hs => let ⟨v, hv, r⟩ := hx x e hl hs; ⟨v, hv, r.ext1 hI hk⟩⟩
    (refine elEEA hI fun ob' us e' hd => ?_; try clear hI)
    (refine elEEEAA hm fun o' es ep e'' hd' _ => ?_; try clear hm)
    rw [z, e'] at e''; (replace e'' := Option.some.inj e''; subst e''); rw [hd] at hd'; cases hd'
  · obtain ⟨c, v, hc, ⟨ob, e1, hd1⟩, r⟩ := f.cel x e hx hs
    refine ⟨c, v, hc, ⟨ob, hk _ _ (fun z => ?_) e1, hd1⟩, r.ext1 hI hk⟩
    (refine elEEA hI fun ob' us e' hd => ?_; try clear hI)
    rw [z, e'] at e1; (replace e1 := Option.some.inj e1; subst e1); rw [hd] at hd1; cases hd1
theorem FrA.ext1 {env B K₀ s K α h' tk I} (f : FrA S cx env σ B K₀ s K α) (hI : IsF s.heap I) (hn : K I = none) (hT : I ∉ S.T) (h0 : B I = none) (ht : s.toks ≤ tk) (hk : ∀ b ob, b ≠ I → s.heap.get? b = some ob → h'.get? b = some ob) :
    FrA S cx env σ B K₀ { s with heap := h', toks := tk } K α := by
  refine ⟨f.ok.ext1 hn hT hk, f.fm.ext1 hI ht hk, fun b o e hb => ?_, f.ext, f.old, f.locN, fun x hw hx => ?_, f.apart, f.ownN, f.ownI⟩
  · exact hk b o (fun q => by subst q; rw [h0] at e; exact nsm e) (f.keep b o e hb)
  · obtain ⟨c, v, hc, ⟨ob, e1, hd1⟩, h1, h2⟩ := f.cells x hw hx
    refine ⟨c, v, hc, ⟨ob, hk _ _ (fun z => ?_) e1, hd1⟩, h1, h2⟩
    (refine elEEA hI fun ob' us e' hd => ?_; try clear hI)
    rw [z, e'] at e1; (replace e1 := Option.some.inj e1; subst e1); rw [hd] at hd1; cases hd1
theorem FrI.ext1 {env B K₀ s K h' tk I} (f : FrI S cx env σ B K₀ s K) (hI : IsF s.heap I) (hn : K I = none) (hT : I ∉ S.T) (h0 : B I = none) (ht : s.toks ≤ tk) (hk : ∀ b ob, b ≠ I → s.heap.get? b = some ob → h'.get? b = some ob) :
    FrI S cx env σ B K₀ { s with heap := h', toks := tk } K := let ⟨α, f⟩ := f; ⟨α, f.ext1 hI hn hT h0 ht hk⟩
theorem FrA.watchN {env B K₀ s K I ob α} (f : FrA S cx env σ B K₀ s K α) (e : s.heap.get? I = some ob) (h1 : I ≠ env.locals) (h2 : ∀ c, ob.data ≠ .cell c) (h3 : cx.fr = false ∨ ∀ vs n, ob ≠ lst vs n) : FrA S cx env σ (B.add I ob) K s K α := by
  refine ⟨f.ok, f.fm, fun b o eb hb => ?_, K.le_refl, fun _ _ => rfl, ⟨?_, f.locN.2⟩, fun x hw hx => ?_, f.apart, fun hf x xs hv ex => ?_, f.ownI⟩
  · by_cases q : b = I
    · subst q; rw [Kn.add_self] at eb; (replace eb := Option.some.inj eb; subst eb); exact e
    · rw [Kn.add_ne q] at eb; exact f.keep b o eb hb
  · rw [Kn.add_ne (Ne.symm h1)]
    exact f.locN.1
  · refine elEEAAA (f.cells x hw hx) fun c v hc hv h4 h5 => ?_
    refine ⟨c, v, hc, hv, ?_, h5⟩
    (refine elEA hv fun o' e' hd' => ?_; try clear hv)
    rw [Kn.add_ne fun q => ?_]
    · exact h4
    · rw [q, e] at e'; (replace e' := Option.some.inj e'; subst e'); exact h2 _ hd'
  · rw [Kn.add_ne]
    · exact f.ownN hf x xs hv ex
    · obtain ⟨_, vs, n, e', _⟩ := f.fm.ownAt hv ex
      intro q
      rw [q, e] at e'; (replace e' := Option.some.inj e'; subst e')
      rcases h3 with h3 | h3
      · rw [h3] at hf; exact ft hf
      · exact h3 _ _ rfl
theorem FrA.watchG {env B K₀ s K I ob α} (f : FrA S cx env σ B K₀ s K α) (e : s.heap.get? I = some ob) (h1 : ∀ es ep, ob.data ≠ .dict es ep) (h2 : ∀ c, ob.data ≠ .cell c) (h3 : cx.fr = false ∨ ∀ vs n, ob ≠ lst vs n) : FrA S cx env σ (B.add I ob) K s K α := by
  refine f.watchN e (fun q => ?_) h2 h3
  obtain ⟨m, ⟨o', es, ep, e', hd', _⟩, _⟩ := f.fm.ns
  rw [← q, e] at e'; (replace e' := Option.some.inj e'; subst e'); exact h1 _ _ hd'
theorem FrI.watchG {env B K₀ s K I ob} (f : FrI S cx env σ B K₀ s K) (e : s.heap.get? I = some ob) (h1 : ∀ es ep, ob.data ≠ .dict es ep) (h2 : ∀ c, ob.data ≠ .cell c) (h3 : cx.fr = false ∨ ∀ vs n, ob ≠ lst vs n) : FrI S cx env σ (B.add I ob) K s K :=
  let ⟨α, f⟩ := f; ⟨α, f.watchG e h1 h2 h3⟩
theorem FrI.watch {env B K₀ s K I ob vs} (f : FrI S cx env σ B K₀ s K) (e : s.heap.get? I = some ob) (hd : ob.data = .fields vs) : FrI S cx env σ (B.add I ob) K s K :=
  f.watchG e (fun _ _ q => by rw [hd] at q; cases q) (fun _ q => by rw [hd] at q; cases q) (.inr fun _ _ q => by rw [q] at hd; cases hd)
theorem FrA.unwatch {env B K₀ s s' K K' I ob α α'} {σ' : Sto} (f : FrA S cx env σ B K₀ s K α) (f' : FrA S cx env σ' (B.add I ob) K s' K' α') (h0 : B I = none) : FrA S cx env σ' B K₀ s' K' α' := by
  have hB : ∀ {a}, B a ≠ none → a ≠ I := fun h q => h (q ▸ h0)
  refine ⟨f'.ok, f'.fm, fun b o e hb => f'.keep b o (by rw [Kn.add_ne (hB (by rw [e]; simp))]; exact e) hb, Kn.le_trans f.ext f'.ext, fun a ha => ?_, ⟨?_, f'.locN.2⟩, fun x hw hx => ?_, f'.apart, fun hf x xs hv ex => ?_, f'.ownI⟩
  · exact (f'.old a (by rw [Kn.add_ne (hB ha)]; exact ha)).trans (f.old a ha)
  · have := f'.locN.1
    by_cases q : env.locals = I
    · rw [q]; exact h0
    · rwa [Kn.add_ne q] at this
  · refine elEEAAA (f'.cells x hw hx) fun c v hc hv h1 h2 => ?_
    refine ⟨c, v, hc, hv, ?_, h2⟩
    by_cases q : c = I
    · rw [q]; exact h0
    · rwa [Kn.add_ne q] at h1
  · have := f'.ownN hf x xs hv ex
    by_cases q : α' x = I
    · rw [q]; exact h0
    · rwa [Kn.add_ne q] at this
theorem FrI.unwatch {env B K₀ s s' K K' I ob} {σ' : Sto} (f : FrI S cx env σ B K₀ s K) (f' : FrI S cx env σ' (B.add I ob) K s' K') (h0 : B I = none) : FrI S cx env σ' B K₀ s' K' :=
  let ⟨_, f⟩ := f
  let ⟨α', f'⟩ := f'
  ⟨α', f.unwatch f' h0⟩
theorem storeKeep {A env B K₀ s K E α a oC es ep} {x : Str} {v : Value} {d : D} {Q : Unit → Shared → Prop} (f : FrA S cx env σ B K₀ s K α) (hx : isVarW cx x = true) (r : Rep S K v d) (eC : s.heap.get? a = some oC) (dC : oC.data = .dict es ep) (hL : a ≠ env.locals) (hT : a ∉ S.T) (hB : B a = none)
    (h : ∀ s', FrA S cx env (σ.upd x (some (.val d))) B K₀ s' K α → s'.heap.get? a = some oC → Q () s') : wpAny (M S) A (storeName env x v) Q E s := by
  have fw := f.watchN eC hL (fun c q => by rw [dC] at q; cases q) (.inr fun vs n q => by rw [q] at dC; cases dC)
  exact storeValA fw hx r fun s' f' => h s' (f.unwatch f' hB) (f'.keep _ _ (Kn.add_self ..) hT)
end Mine
namespace Mine
variable {S : Sys} {k : Nat} {cx : Cx} {σ : Sto}
noncomputable def BindS (S : Sys) (k : Nat) (cx : Cx) (t : Expr) (d : D) (σ σ' : Sto) : Prop :=
  ∀ (A : Around) (env : Env) (B : Kn) (K₀ : Kn) (s : Shared) (K : Kn) (v : Value) (α : Str → Addr) (Q : Unit → Shared → Prop) (E : Value → Shared → Prop), Room k A → FrA S cx env σ B K₀ s K α → Rep S K v d →
    (∀ s', FrA S cx env σ' B K₀ s' K α → Q () s') → wpAny (M S) A (assign t env v) Q E s
theorem BindS.name {x p d} (hx : isVarW cx x = true) : BindS S k cx (.Name x p) d σ (σ.upd x (some (.val d))) :=
  fun _ _ _ _ _ _ _ _ _ _ _ f r h => wpAny_assign_Name (storeValA f hx r h)
theorem FrA.grow {env B K₀ s K h' tk α} (f : FrA S cx env σ B K₀ s K α) (hk : ∀ b ob, s.heap.get? b = some ob → h'.get? b = some ob) (ht : s.toks ≤ tk := by first | exact Nat.le_refl _ | assumption) : FrA S cx env σ B K₀ { s with heap := h', toks := tk } K α :=
  f.le (Le.grow hk ht) (f.ok.grow hk)
theorem FrI.grow {env B K₀ s K h' tk} (f : FrI S cx env σ B K₀ s K) (hk : ∀ b ob, s.heap.get? b = some ob → h'.get? b = some ob) (ht : s.toks ≤ tk := by first | exact Nat.le_refl _ | assumption) : FrI S cx env σ B K₀ { s with heap := h', toks := tk } K :=
  f.le (Le.grow hk ht) (f.ok.grow hk)
theorem drawS {A : Around} {K : Kn} {I fp P St ds} (hh : A.handled = none) (it : Itr S K I fp P St ds) (fpK : ∀ h : Heap, (∀ a o, K a = some o → h.get? a = some o) → True) :
    ∀ (n i : Nat) (s : Shared) (Q : List Value → Shared → Prop) (E : Value → Shared → Prop), i + n ≤ ds.length → St i s.heap →
      (∀ vs h' tk, RepL S K vs ((ds.drop i).take n) → St (i + n) h' → (∀ b o, b ≠ I → s.heap.get? b = some o → h'.get? b = some o) → Q vs { s with heap := h', toks := tk }) → wpAny (M S) A (draw (.ref I) n) Q E s
  | 0, i, s, Q, E, _, st, h => by
    refine wpAny_pure (h [] s.heap s.toks (by simpa using RepL.nil) (by simpa using st) fun _ _ _ e => e)
  | n + 1, i, s, Q, E, hi, st, h => by
    unfold draw
    refine wpAny_bind ((it.walks A hh).item i s _ E (by lia) st fun v h1 tk1 hP st1 hk1 => ?_)
    refine elEA (it.items i v (by omega) hP) fun d hd rd => ?_
    refine wpAny_bind (wpAny_holding ?_)
    refine drawS hh it fpK n (i + 1) _ _ E (by lia) st1 fun vs h2 tk2 r2 st2 hk2 => wpAny_pure ?_
    refine h (v :: vs) h2 tk2 ?_ ?_ fun b o hb e => hk2 b o hb (hk1 b o (by simpa using hb) e)
    · have : (ds.drop i).take (n + 1) = d :: (ds.drop (i + 1)).take n := by
        rw [List.drop_eq_getElem_cons (by lia : i < ds.length), List.take_succ_cons]
        have := (List.getElem?_eq_some_iff.mp hd).2
        rw [this]
      rw [this]
      exact RepL.cons rd r2
    · have : i + (n + 1) = i + 1 + n := by lia
      rw [this]; exact st2
theorem wpAny_notIterableAtAll {A : Around} {s : Shared} {v : Value} {T : String} {r : Value} {Q : Bool → Shared → Prop} {E : Value → Shared → Prop} (hT : s.TypeIs v T) (hl : typeLookup (.type T) "__iter__" = pure (some r)) (h : Q false s) :
    wpAny (M S) A (notIterableAtAll v) Q E s := by
  unfold notIterableAtAll
  exact wpAny_bind (wpAny_specialOf hT hl (wpAny_pure h))
theorem unpackS {A : Around} {s : Shared} {K : Kn} {v : Value} {d : D} {ds : List D} {T : String} {r : Value} {Q : List Value → Shared → Prop} {E : Value → Shared → Prop} (hh : A.handled = none) (o : Ok S K s) (rv : Rep S K v d) (hi : IterS S d ds)
    (hT : s.TypeIs v T) (hl : typeLookup (.type T) "__iter__" = pure (some r))
    (h : ∀ vs h' tk, s.toks ≤ tk → RepL S K vs ds → (∀ b ob, s.heap.get? b = some ob → h'.get? b = some ob) → Q vs { s with heap := h', toks := tk }) : wpAny (M S) A (unpackItems v ds.length none) Q E s := by
  refine withTk ?_
  unfold unpackItems
  refine wpAny_bind (wpAny_notIterableAtAll hT hl ?_)
  refine wpAny_ite_false rfl ?_
  refine wpAny_bind (wpAny_holding (hi A s K v _ E hh o rv fun ob fp P St it st => ?_))
  have hne : ∀ b ob', s.heap.get? b = some ob' → b ≠ s.heap.objs.size := fun b ob' e => Nat.ne_of_lt (Heap.lt_size e)
  refine wpAny_bind (wpAny_holding (drawS hh it (fun _ _ => trivial) ds.length 0 _ _ E (by lia) st fun vs h1 tk1 r1 st1 hk1 => ?_))
  have r1' : RepL S K vs ds := by simpa using r1
  have hlen : ¬ (vs.length < ds.length) := by rw [r1'.len]; lia
  simp only [hlen, if_false]
  refine wpAny_bind (wpAny_holding ((it.walks A hh).done _ _ E (by simpa using st1) fun h2 tk2 hk2 => ?_))
  simp only [Option.isSome_none, Bool.false_eq_true, if_false]
  exact wpAny_pure fun ht => (h vs h2 tk2 ht r1' fun b ob' e => hk2 b ob' (by simpa using hne b ob' e) (hk1 b ob' (hne b ob' e) (Heap.get?_push_of_some _ e)))
inductive BindL (S : Sys) (k : Nat) (cx : Cx) : List Expr → List D → Sto → Sto → Prop
  | nil {a : Sto} : BindL S k cx [] [] a a
  | cons {t : Expr} {ts : List Expr} {d : D} {ds : List D} {a b c : Sto} (h : BindS S k cx t d a b) (hp : Plain t = true) (r : BindL S k cx ts ds b c) : BindL S k cx (t :: ts) (d :: ds) a c
theorem assignEach_plain {t : Expr} (h : Plain t = true) (rest : List Expr) (env : Env) : assignEach (t :: rest) env = (false, assign t env) :: assignEach rest env := by
  cases t <;> first | rfl | exact ft h
theorem BindL.run {ts ds} {σ σ' : Sto} (b : BindL S k cx ts ds σ σ') : ∀ {A env B K₀ s K vs α} {Q : Unit → Shared → Prop} {E : Value → Shared → Prop}, Room k A → FrA S cx env σ B K₀ s K α → RepL S K vs ds →
    (∀ s', FrA S cx env σ' B K₀ s' K α → Q () s') → wpAny (M S) A (assignInOrder ((assignEach ts env).map (·.2)) vs) Q E s := by
  induction b with
  | nil =>
    intro A env B K₀ s K vs α Q E ro f r h
    exact wpAny_pure (h s f)
  | cons hb hp _ ih =>
    intro A env B K₀ s K vs α Q E ro f r h
    (refine elEEAA r.cons_inv fun v vs' e92 rv rt => ?_; subst e92)
    rw [assignEach_plain hp, List.map_cons]
    exact wpAny_bind (wpAny_holding (hb A env B K₀ s K v α _ E ro f rv fun s' f' => ih ro f' rt h))
theorem BindL.noStar {ts ds} {σ σ' : Sto} (b : BindL S k cx ts ds σ σ') (env : Env) : (assignEach ts env).length = ds.length ∧ (assignEach ts env).findIdx? (·.1) = none := by
  induction b with
  | nil => exact ⟨rfl, rfl⟩
  | cons _ hp _ ih =>
    rw [assignEach_plain hp]
    refine ⟨by simp [ih.1], ?_⟩
    rw [List.findIdx?_cons, ih.2]; rfl
theorem BindS.tup {ts : List Expr} {n pos} {d : D} {ds : List D} {σ' : Sto} (hd : d = .list ds ∨ d = .tuple ds) (b : BindL S k cx ts ds σ σ') : BindS S k cx (.Tuple ts n pos) d σ σ' := by
  intro A env B K₀ s K v α Q E ro f r h
  show wpAny (M S) A (do standAt pos; PySem.unpack v (assignEach ts env)) Q E s
  refine wpAny_bind (wpAny_standAt ?_)
  unfold PySem.unpack
  refine elA (b.noStar env) fun h1 h2 => ?_
  rw [h1, h2]
  have fin : ∀ vs h' tk, s.toks ≤ tk → RepL S K vs ds → (∀ b ob, s.heap.get? b = some ob → h'.get? b = some ob) → wpAny (M S) A (assignInOrder ((assignEach ts env).map (·.2)) vs) Q E { s with heap := h', toks := tk } :=
    fun vs h' tk ht r' hk => b.run ro (f.grow hk ht) r' h
  refine wpAny_bind (wpAny_holding ?_)
  rcases hd with rfl | rfl
  · have r' := r
    (refine elEEEAA r.list_inv fun a us m e93 e _ => ?_; subst e93)
    exact unpackS ro.1 f.ok r' IterS.list (listAt f.ok e).typeIs slot_list_iter.lookup fin
  · have r' := r
    (refine elEEEAA r.tuple_inv fun a us m e93 e _ => ?_; subst e93)
    exact unpackS ro.1 f.ok r' IterS.tuple ⟨_, f.ok.kn _ _ e, rfl⟩ F.slot_tuple_iter.lookup fin
theorem ownedGo {A : Around} {s : Shared} {I : Addr} {v : Value} {target : Expr} {Q : Unit → Shared → Prop} {E : Value → Shared → Prop}
    (hI : ∃ o vs n, s.heap.get? I = some o ∧ o.data = .fields vs ∧ o.cls = .type n ∧ (["enumerate", "zip", "dict_itemiterator", "dict_reverseitemiterator", "odict_iterator", "itertools.zip_longest", "itertools.pairwise"].contains n) = false) (h : Q () s) :
    wpAny (M S) A (letOwnedTupleGo target (.ref I) v) Q E s := by
  (refine elEEEAAA hI fun o vs n e hd hc hn => ?_; try clear hI)
  have key : wpAny (M S) A (do
      let (.ref r, .ref a) := ((Value.ref I : Value), v) | return
      let o ← load r
      match o.cls, o.data with
      | .type n, .fields vs =>
        if ["enumerate", "zip", "dict_itemiterator", "dict_reverseitemiterator", "odict_iterator", "itertools.zip_longest", "itertools.pairwise"].contains n && vs[0]? == some (rawInt a) then
          rule "for.unpacks-the-owned-tuple"
          updateField r 0 .none
      | _, _ => pure () : Sem Unit) Q E s := by
    cases v with
    | ref a =>
      refine wpAny_bind (wpAny_load e ?_)
      rw [hc, hd]
      simp only [hn, Bool.false_and, Bool.false_eq_true, if_false]
      exact wpAny_pure h
    | _ => exact wpAny_pure h
  cases target <;> first | exact wpAny_pure h | exact key
noncomputable abbrev nbE (S : Sys) (A : Around) (env : Env) (R : Result → Shared → Prop) : Value → Shared → Prop := notedBy (M S) A env fun e s' => R (.error e) s'
noncomputable abbrev flB (J : Nat → Shared → Prop) (R : Result → Shared → Prop) (n : Nat) (f : Flow) (s₃ : Shared) : Prop := match f with
  | .next => ∃ m, m < n ∧ J m s₃
  | .cont => ∃ m, m < n ∧ J m s₃
  | .brk => R (.ok .next) s₃
  | .ret v => R (.ok (.ret v)) s₃
noncomputable abbrev flT (S : Sys) (A : Around) (target : Expr) (it : Value) (body orelse : List Stmt) (env : Env) (J : Nat → Shared → Prop) (R : Result → Shared → Prop) (n : Nat) (r : Option Value) (s₁ : Shared) : Prop := match r with
  | none => wpAny (M S) A (execs orelse env) (fun f s₃ => R (.ok f) s₃) (nbE S A env R) s₁
  | some v => wpAny (M S) A (letOwnedTupleGo target it v) (fun _ s₁' => wpAny (M S) A (assign target env v) (fun _ s₂ => wpAny (M S) A (execs body env) (flB J R n) (nbE S A env R) s₂) (nbE S A env R) s₁') (nbE S A env R) s₁
theorem forLoopL {A : Around} {R : Result → Shared → Prop} {target : Expr} {it : Value} {body orelse : List Stmt} {env : Env} {s : Shared} (J : Nat → Shared → Prop) {E9 : Value → Shared → Prop}
    (turn : ∀ n s, J n s → wpAny (M S) A (pyNext it) (flT S A target it body orelse env J R n) (nbE S A env R) s)
    (n : Nat) (h : J n s) : codeAny (M S) A (.forLoop target it body orelse env) R s := by
  refine codeAny_loop' rfl J (fun n s hI => ?_) n h
  show wpAny _ _ ((forTurn target it body orelse env).onRaise (fun x => do noteFrame x env; theTreesLotGoes x)) _ _ s
  refine wpAny_noted ?_
  simp only [forTurn]
  refine wpAny_bind (wpAny_standAt (wpAny_bind (wpAny_onRaise (wpAny_mono (turn n s hI) (fun r s₁ h₁ => ?_) fun _ _ h' => wpAny_standAt h'))))
  cases r with
  | none => exact wpAny_pure (.inr ⟨rfl, codeAny_block h₁⟩)
  | some v =>
    refine wpAny_bind (wpAny_mono h₁ (fun _ s₁' h₁' => ?_) fun _ _ h' => h')
    refine wpAny_bind (wpAny_mono h₁' (fun _ s₂ h₂ => wpAny_bind (wpAny_mono h₂ (fun f s₃ h₃ => ?_) fun _ _ h' => h')) fun _ _ h' => h')
    cases f with
    | next => exact wpAny_pure (.inl ⟨rfl, h₃⟩)
    | cont => exact wpAny_pure (.inl ⟨rfl, h₃⟩)
    | brk => exact wpAny_pure h₃
    | ret v => exact wpAny_pure h₃
end Mine
namespace Mine
variable {S : Sys} {k : Nat} {cx : Cx} {σ : Sto}
noncomputable def compTurnG (gens : List Comprehension) (emit : Sem Unit) (e : Expr) (depth : Nat) (it acc : Value) (env : Env) : Sem PySem.Fin := do
  let some g := gens[depth]? | unsupported "internal:comprehension-depth"
  standAt (if g.is_async != 0 then e.pos else g.iter.pos)
  match ← if g.is_async != 0 then asyncNext it else pyNext it with
  | none => pure (.done .next)
  | some v =>
    letOwnedTupleGo g.target it v
    assign g.target env v
    let mut ok := true
    for c in g.ifs do
      if ok then ok ← isTrue c env (eval c env)
    if ok then
      match gens[depth + 1]? with
      | some g' =>
        let x ← eval g'.iter env
        standAt g'.iter.pos
        let x ← if g'.is_async != 0 then foldedIterable g'.iter x else foldedSetIterable g'.iter env x
        let _ ← runOwn (.compStart e (depth + 1) (← holding [x] (if g'.is_async != 0 then asyncIter x else pyIter x)) acc env) env
      | none => emit
    again (.compLoop e depth it acc env)
set_option genInjectivity false in
structure Kind (S : Sys) where
  e : Expr
  gens : List Comprehension
  elt : Expr
  putv : Value → Value → Sem Unit
  turn : ∀ depth it acc env, compTurn e depth it acc env = compTurnG gens (eval elt env >>= fun v => putv acc v) e depth it acc env
  cl : clausesOf e = gens
  wt : ∀ d it acc env, (Code.compLoop e d it acc env).isFrame = false ∧ (Code.compStart e d it acc env).isFrame = false
  fits : List D → Prop
  fitsPre : ∀ l l', fits (l ++ l') → fits l
  Acc : Kn → List D → Obj → Prop
  accMono : ∀ K K' ds ob, Kn.le K K' → Acc K ds ob → Acc K' ds ob
  accPlain : ∀ K ds ob, Acc K ds ob → (∀ es ep, ob.data ≠ .dict es ep) ∧ (∀ c, ob.data ≠ .cell c) ∧ (∀ vs, ob.data ≠ .fields vs)
  put : ∀ (A : Around) (s : Shared) (K : Kn) (a : Addr) (ob : Obj) (ds : List D) (v : Value) (d : D) (Q : Unit → Shared → Prop) (E : Value → Shared → Prop) (k : Nat), Room k A → Ok S K s → K a = none → s.heap.get? a = some ob → Acc K ds ob → Rep S K v d → fits (ds ++ [d]) →
    (∀ ob' h' tk, s.toks ≤ tk → h'.get? a = some ob' → Acc K (ds ++ [d]) ob' → (∀ b o, b ≠ a → s.heap.get? b = some o → h'.get? b = some o) → Q () { s with heap := h', toks := tk }) →
    wpAny (M S) A (putv (.ref a) v) Q E s
  newAcc : Sem Value
  mkAcc : ∀ (A : Around) (s : Shared) (Q : Value → Shared → Prop) (E : Value → Shared → Prop), (∀ ob, ob.isFreed = false → (∀ K, Acc K [] ob) → Q (.ref s.heap.objs.size) { s with heap := s.heap.push ob }) → wpAny (M S) A newAcc Q E s
  res : List D → D
  done : ∀ K a out ob, Acc K out ob → K a = some ob → Rep S K (.ref a) (res out)
noncomputable def kList (S : Sys) (elt : Expr) (gens : List Comprehension) (scope : Scope) (pos : Pos) : Kind S where
  e := .ListComp elt gens scope pos
  gens := gens
  elt := elt
  putv := fun acc v => do let _ ← call (.builtin "list.append") [acc, v]
  turn := fun _ _ _ _ => rfl
  cl := rfl
  wt := fun _ _ _ _ => ⟨rfl, rfl⟩
  fits := fun ds => ds.length ≤ sizeLine
  fitsPre := fun l l' h => by rw [List.length_append] at h; lia
  Acc := fun K ds ob => ∃ vs n, ob = lst vs n ∧ RepL S K vs ds
  accMono := fun K K' ds ob hk ⟨vs, n, e, r⟩ => ⟨vs, n, e, r.mono hk⟩
  accPlain := fun K ds ob ⟨vs, n, e, r⟩ => by subst e; exact ⟨fun _ _ q => (by cases q), fun _ q => (by cases q), fun _ q => (by cases q)⟩
  put := by
    intro A s K a ob ds v d Q E k ro o hK e hA rv hl h
    have hl : ds.length + 1 ≤ sizeLine := by simpa using hl
    (refine elEEA hA fun vs n e92 r => ?_; try clear hA; subst e92)
    refine wpAny_bind (wpAny_list_append_plain (items := vs.toArray) ⟨n, e⟩ (fun h' ⟨n', e'⟩ hs => ?_) (by rw [List.size_toArray, r.len]; exact Nat.le_of_lt ‹_›))
    refine wpAny_pure ?_
    refine h (lst (vs ++ [v]) n') h' s.toks (Nat.le_refl _) ?_ ⟨_, _, rfl, RepL.append r (RepL.cons rv .nil)⟩ fun b o hb e => (hs.2 b hb).trans e
    rw [e', List.push_toArray]; rfl
  newAcc := newList []
  mkAcc := fun A s Q E h => wpAny_newList (h _ rfl fun K => ⟨[], 0, rfl, .nil⟩)
  res := .list
  done := fun K a out ob ⟨vs, n, e, r⟩ ha => by subst e; exact Rep.list' ha r
inductive TestR (S : Sys) (k : Nat) (cx : Cx) (σ : Sto) : List Expr → Bool → Prop
  | nil : TestR S k cx σ [] true
  | no {c : Expr} {cs : List Expr} (h : EvT S k cx σ c false) : TestR S k cx σ (c :: cs) false
  | yes {c : Expr} {cs : List Expr} {b : Bool} (h : EvT S k cx σ c true) (r : TestR S k cx σ cs b) : TestR S k cx σ (c :: cs) b
theorem tests_false {A : Around} {env : Env} {s : Shared} {Q : Bool → Shared → Prop} {E : Value → Shared → Prop} : ∀ (cs : List Expr), Q false s →
    wpAny (M S) A (forIn cs false fun c r => if r = true then do let ok ← isTrue c env (eval c env); pure (ForInStep.yield ok) else pure (ForInStep.yield r)) Q E s
  | [], h => by rw [List.forIn_nil]; exact wpAny_pure h
  | c :: cs, h => by
    rw [List.forIn_cons]
    simp only [Bool.false_eq_true, if_false]
    exact wpAny_bind (wpAny_pure (tests_false cs h))
theorem TestR.run {cs b} (t : TestR S k cx σ cs b) : ∀ {A : Around} {env s K} {Q : Bool → Shared → Prop} {E : Value → Shared → Prop}, Room k A → Ok S K s → Fm S cx env σ s K →
    (∀ s' K', Le S s s' K K' → Ok S K' s' → Q b s') → wpAny (M S) A (forIn cs true fun c r => if r = true then do let ok ← isTrue c env (eval c env); pure (ForInStep.yield ok) else pure (ForInStep.yield r)) Q E s := by
  induction t with
  | nil =>
    intro A env s K Q E ro o fm h
    rw [List.forIn_nil]
    exact wpAny_pure (h s K Le.refl o)
  | no hc =>
    intro A env s K Q E ro o fm h
    rw [List.forIn_cons]
    simp only [if_true]
    refine wpAny_bind (wpAny_bind (hc A env s K _ E ro o fm fun s' K' l o' => wpAny_pure ?_))
    exact tests_false _ (h s' K' l o')
  | yes hc _ ih =>
    intro A env s K Q E ro o fm h
    rw [List.forIn_cons]
    simp only [if_true]
    refine wpAny_bind (wpAny_bind (hc A env s K _ E ro o fm fun s' K' l o' => wpAny_pure ?_))
    exact ih ro o' (fm.le o l) fun s2 K2 l2 o2 => h s2 K2 (Le.trans o o' l l2) o2
inductive TurnsR (P : D → List D → Prop) : List D → List D → Prop
  | nil : TurnsR P [] []
  | cons {d : D} {ds o os : List D} (h : P d o) (r : TurnsR P ds os) : TurnsR P (d :: ds) (o ++ os)
noncomputable def Sto.ownSub (σ' σ : Sto) : Prop := ∀ x xs, σ' x = some (.own xs) → σ x = some (.own xs)
noncomputable def GenR (S : Sys) (k : Nat) (cx : Cx) (elt : Expr) : List Comprehension → Sto → List D → Prop
  | [], σ, out => ∃ d, EvS S k cx σ elt d ∧ out = [d]
  | g :: gs, σ, out => g.is_async = 0 ∧ (∀ (env : Env) (x : Value), foldedSetIterable g.iter env x = pure x) ∧ ∃ di ds, EvS S k cx σ g.iter di ∧ IterS S di ds ∧
      TurnsR (fun d o => ∃ σ', BindS S k cx g.target d σ σ' ∧ σ.sub σ' ∧ σ'.ownSub σ ∧ ((TestR S k cx σ' g.ifs false ∧ o = []) ∨ (TestR S k cx σ' g.ifs true ∧ GenR S k cx elt gs σ' o))) ds out
noncomputable def GenT (S : Sys) (k : Nat) (cx : Cx) (elt : Expr) (g : Comprehension) (gs : List Comprehension) (σ : Sto) (ds out : List D) : Prop :=
  TurnsR (fun d o => ∃ σ', BindS S k cx g.target d σ σ' ∧ σ.sub σ' ∧ σ'.ownSub σ ∧ ((TestR S k cx σ' g.ifs false ∧ o = []) ∨ (TestR S k cx σ' g.ifs true ∧ GenR S k cx elt gs σ' o))) ds out
set_option genInjectivity false in
structure CompI (κ : Kind S) (cx : Cx) (env : Env) (σ : Sto) (B : Kn) (K₀ : Kn) (D₀ : Addr) (out : List D) (s : Shared) (K : Kn) (α : Str → Addr) : Prop where
  fr : FrA S cx env σ B K₀ s K α
  acc : ∃ ob, s.heap.get? D₀ = some ob ∧ κ.Acc K out ob
  nB : B D₀ = none
  nK : K D₀ = none
  nT : D₀ ∉ S.T
  nO : ∀ x xs, (cx.sc.names.lookup x = some .local ∨ cx.sc.names.lookup x = some .cell ∨ cx.sc.names.lookup x = some .free) → σ x = some (.own xs) → α x ≠ D₀
theorem CompI.le {κ : Kind S} {env B K₀ D₀ out s s' K K' α} (c : CompI κ cx env σ B K₀ D₀ out s K α) (l : Le S s s' K K') (o' : Ok S K' s') : CompI κ cx env σ B K₀ D₀ out s' K' α := by
  refine elEA c.acc fun ob e a => ?_
  exact ⟨c.fr.le l o', ⟨ob, l.keep _ _ c.nT e, κ.accMono _ _ _ _ l.ext a⟩, c.nB, (l.old _ (by rw [e]; simp)).trans c.nK, c.nT, c.nO⟩
theorem CompI.ext1 {κ : Kind S} {env B K₀ D₀ out s K h' tk I α} (c : CompI κ cx env σ B K₀ D₀ out s K α) (hI : IsF s.heap I) (hn : K I = none) (hT : I ∉ S.T) (h0 : B I = none) (ht : s.toks ≤ tk) (hk : ∀ b ob, b ≠ I → s.heap.get? b = some ob → h'.get? b = some ob) :
    CompI κ cx env σ B K₀ D₀ out { s with heap := h', toks := tk } K α := by
  refine elEA c.acc fun ob e a => ?_
  refine ⟨c.fr.ext1 hI hn hT h0 ht hk, ⟨ob, hk _ _ (fun q => ?_) e, a⟩, c.nB, c.nK, c.nT, c.nO⟩
  (refine elEEA hI fun o vs e' hd => ?_; try clear hI)
  rw [q, e'] at e; (replace e := Option.some.inj e; subst e)
  exact (κ.accPlain _ _ _ a).2.2 _ hd
theorem CompI.weak {κ : Kind S} {σ' : Sto} {env B K₀ D₀ out s K α} (hf : cx.fr = false) (c : CompI κ cx env σ' B K₀ D₀ out s K α) (h : σ.sub σ') : CompI κ cx env σ B K₀ D₀ out s K α := by
  obtain ⟨f, h1, h2, h3, h4, h5⟩ := c
  exact ⟨⟨f.ok, f.fm.weak h, f.keep, f.ext, f.old, f.locN, f.cells, f.apart, fun q => (by rw [hf] at q; exact ft q), fun q => (by rw [hf] at q; exact ft q)⟩, h1, h2, h3, h4, fun x xs hv e => h5 x xs hv (h _ _ e)⟩
theorem CompI.bind {κ : Kind S} {env B K₀ D₀ out s K t d v α} {σ' : Sto} {A : Around} {Q : Unit → Shared → Prop} {E : Value → Shared → Prop} (hf : cx.fr = false) (c : CompI κ cx env σ B K₀ D₀ out s K α) (b : BindS S k cx t d σ σ') (hw : σ'.ownSub σ) (ro : Room k A) (r : Rep S K v d)
    (h : ∀ s', CompI κ cx env σ' B K₀ D₀ out s' K α → Q () s') : wpAny (M S) A (assign t env v) Q E s := by
  refine elEA c.acc fun ob e a => ?_
  refine elAA (κ.accPlain _ _ _ a) fun p1 p2 p3 => ?_
  have fw := c.fr.watchG e p1 p2 (.inl hf)
  refine b A env _ K s K v α Q E ro fw r fun s' f' => h s' ?_
  exact ⟨FrA.unwatch c.fr f' c.nB, ⟨ob, f'.keep _ _ (Kn.add_self ..) c.nT, a⟩, c.nB, c.nK, c.nT, fun x xs hv e => c.nO x xs hv (hw _ _ e)⟩
theorem CompI.put {κ : Kind S} {env B K₀ D₀ out s K v d α} {A : Around} {Q : Unit → Shared → Prop} {E : Value → Shared → Prop} (hf : cx.fr = false) (c : CompI κ cx env σ B K₀ D₀ out s K α) (ro : Room k A) (r : Rep S K v d) (hl : κ.fits (out ++ [d]))
    (h : ∀ s', CompI κ cx env σ B K₀ D₀ (out ++ [d]) s' K α → (∀ b o, b ≠ D₀ → s.heap.get? b = some o → s'.heap.get? b = some o) → Q () s') : wpAny (M S) A (κ.putv (.ref D₀) v) Q E s := by
  refine elEA c.acc fun ob e a => ?_
  refine κ.put A s K D₀ ob out v d Q E k ro c.fr.ok c.nK e a r hl fun ob' h' tk ht e' a' hk => h _ ⟨?_, ⟨ob', e', a'⟩, c.nB, c.nK, c.nT, c.nO⟩ hk
  refine elAA (κ.accPlain _ _ _ a) fun p1 p2 p3 => ?_
  have f := c.fr
  have ent : ∀ {x e v}, (cx.sc.names.lookup x = some .local ∨ cx.sc.names.lookup x = some .cell ∨ cx.sc.names.lookup x = some .free) → σ x = some e → EntR S K s.heap α x e v → EntR S K h' α x e v := fun {x e v} hv hs rv => by
    cases e with
    | val d => exact rv
    | own xs =>
      obtain ⟨rfl, hn, vs, n, e3, q3⟩ := rv
      exact ⟨rfl, hn, vs, n, hk _ _ (c.nO x xs hv hs) e3, q3⟩
    | app y => exact rv
  have hc9 : ∀ c v, s.heap.IsCell c v → h'.IsCell c v := fun c' v ⟨o1, e1, hd1⟩ => ⟨o1, hk _ _ (fun q => by
    rw [q, e] at e1; (replace e1 := Option.some.inj e1; subst e1); exact p2 _ hd1) e1, hd1⟩
  refine ⟨f.ok.ext1 c.nK c.nT hk, ⟨f.fm.scope, f.fm.code, f.fm.kind, f.fm.globals, f.fm.builtins, Nat.le_trans f.fm.tok ht, ?_, fun x hx => let ⟨c', w, h1, h2⟩ := f.fm.cla x hx; ⟨c', w, h1, hc9 c' w h2⟩, fun x e1 hx hs => ?_⟩, fun b o eb hb => hk b o (fun q => ?_) (f.keep b o eb hb), f.ext, f.old, f.locN, fun x hw hx => ?_, f.apart, fun q => ?_, fun q => ?_⟩
  · refine elEA f.fm.ns fun m hm hx => ?_
    refine ⟨m, hm.at' fun o1 e1 => hk _ _ (fun q => ?_) e1, fun x e hl hs => ?_⟩
    · (refine elEEEAA hm fun o' es ep e'' hd _ => ?_; try clear hm)
      rw [q, e] at e''; (replace e'' := Option.some.inj e''; subst e''); exact p1 _ _ hd
    · refine elEA (hx x e hl hs) fun v hv rv => ?_
      exact ⟨v, hv, ent (.inl hl) hs rv⟩
  · obtain ⟨c', v', hc, ⟨o1, e2, hd1⟩, rv⟩ := f.fm.cel x e1 hx hs
    refine ⟨c', v', hc, ⟨o1, hk _ _ (fun q => ?_) e2, hd1⟩, ent (.inr hx) hs rv⟩
    rw [q, e] at e2; (replace e2 := Option.some.inj e2; subst e2); exact p2 _ hd1
  · rw [q, c.nB] at eb; exact nsm eb
  · obtain ⟨c', v', hc, ⟨o1, e1, hd1⟩, h4, h5⟩ := f.cells x hw hx
    refine ⟨c', v', hc, ⟨o1, hk _ _ (fun q => ?_) e1, hd1⟩, h4, h5⟩
    rw [q, e] at e1; (replace e1 := Option.some.inj e1; subst e1); exact p2 _ hd1
  · rw [hf] at q; exact ft q
  · rw [hf] at q; exact ft q
theorem wt0 {κ : Kind S} (d it acc env) : (Code.compLoop κ.e d it acc env).weight = 0 ∧ (Code.compLoop κ.e d it acc env).cUnits = 0 ∧ (Code.compStart κ.e d it acc env).weight = 0 ∧ (Code.compStart κ.e d it acc env).cUnits = 0 := by
  refine elA (κ.wt d it acc env) fun h1 h2 => ?_
  have f1 : (Code.compLoop κ.e d it acc env).frames = 0 := (if_neg (by rw [h1]; exact Bool.false_ne_true) : (if (Code.compLoop κ.e d it acc env).isFrame then 1 else 0) = 0)
  have f2 : (Code.compStart κ.e d it acc env).frames = 0 := (if_neg (by rw [h2]; exact Bool.false_ne_true) : (if (Code.compStart κ.e d it acc env).isFrame then 1 else 0) = 0)
  refine ⟨?_, ?_, ?_, ?_⟩
  · unfold Code.weight; rw [f1]; rfl
  · show 3 * (Code.compLoop κ.e d it acc env).frames = 0; rw [f1]
  · unfold Code.weight; rw [f2]; rfl
  · show 3 * (Code.compStart κ.e d it acc env).frames = 0; rw [f2]
theorem compLoop_tree {κ : Kind S} {A : Around} {R : Result → Shared → Prop} {s : Shared} {depth : Nat} {it acc : Value} {env : Env}
    (h : wpAny (M S) A (compTurn κ.e depth it acc env) (fun fin s' => match fin with | .done f => R (.ok f) s' | .again c' => c'.quiet = true ∧ codeAny (M S) A c' R s') (notedBy (M S) A env fun e s' => R (.error e) s') s) :
    codeAny (M S) A (.compLoop κ.e depth it acc env) R s := by
  refine codeAny_of_tree ?_
  rw [Around.under_of_weight (wt0 depth it acc env).1 (wt0 depth it acc env).2.1]
  show wpAny _ _ (if (Code.compLoop κ.e depth it acc env).isFrame then (compTurn κ.e depth it acc env).onRaise (leaving env) else (compTurn κ.e depth it acc env).onRaise (fun x => do noteFrame x env; theTreesLotGoes x)) _ _ s
  rw [(κ.wt depth it acc env).1]
  refine wpAny_ite_false rfl ?_
  exact wpAny_noted h
theorem compStart_tree {κ : Kind S} {A : Around} {R : Result → Shared → Prop} {s : Shared} {depth : Nat} {g : Comprehension} {I : Addr} {acc : Value} {env : Env} (hg : κ.gens[depth]? = some g) (ha : g.is_async = 0)
    (hit : ∀ (Q : Value → Shared → Prop) (E : Value → Shared → Prop), Q (.ref I) s → wpAny (M S) A (pyIter (.ref I)) Q E s)
    (h : codeAny (M S) A (.compLoop κ.e depth (.ref I) acc env) R s) : codeAny (M S) A (.compStart κ.e depth (.ref I) acc env) R s := by
  refine codeAny_of_tree ?_
  rw [Around.under_of_weight (wt0 depth (.ref I) acc env).2.2.1 (wt0 depth (.ref I) acc env).2.2.2]
  show wpAny _ _ (if (Code.compStart κ.e depth (.ref I) acc env).isFrame then (compStart κ.e depth (.ref I) acc env).onRaise (leaving env) else (compStart κ.e depth (.ref I) acc env).onRaise (fun x => do noteFrame x env; standAt theWindowsPlace)) _ _ s
  rw [(κ.wt depth (.ref I) acc env).2]
  refine wpAny_ite_false rfl ?_
  refine wpAny_onRaise ?_
  unfold compStart
  rw [κ.cl, hg]
  simp only [Option.elim_some, ha, bne_self_eq_false, Bool.false_eq_true, if_false]
  refine wpAny_bind (wpAny_askSetting (wpAny_ite ?_))
  split
  · exact wpAny_pure ⟨rfl, h⟩
  · refine wpAny_bind (wpAny_rule (wpAny_bind (wpAny_standAt (wpAny_bind (hit _ _ ?_)))))
    exact wpAny_pure ⟨rfl, h⟩
noncomputable def innerTree (κ : Kind S) (depth : Nat) (acc : Value) (env : Env) : Sem Unit :=
  match κ.gens[depth + 1]? with
  | some g' => do
    let x ← eval g'.iter env
    standAt g'.iter.pos
    let x ← if g'.is_async != 0 then foldedIterable g'.iter x else foldedSetIterable g'.iter env x
    let _ ← runOwn (.compStart κ.e (depth + 1) (← holding [x] (if g'.is_async != 0 then asyncIter x else pyIter x)) acc env) env
  | none => eval κ.elt env >>= fun v => κ.putv acc v
noncomputable def InnerOK (κ : Kind S) (k : Nat) (cx : Cx) (D₀ : Addr) (env : Env) (A : Around) (gs : List Comprehension) (depth : Nat) : Prop :=
  ∀ (σ : Sto) (out : List D), GenR S k cx κ.elt gs σ out → ∀ (s : Shared) (K B K₀ : Kn) (acc : List D) (α : Str → Addr) (Q : Unit → Shared → Prop) (E : Value → Shared → Prop), CompI κ cx env σ B K₀ D₀ acc s K α → κ.fits (acc ++ out) →
    (∀ s' K', CompI κ cx env σ B K₀ D₀ (acc ++ out) s' K' α → Q () s') → wpAny (M S) A (innerTree κ depth (.ref D₀) env) Q E s
noncomputable def LoopOK (κ : Kind S) (k : Nat) (cx : Cx) (D₀ : Addr) (env : Env) (A : Around) (g : Comprehension) (gs : List Comprehension) (depth : Nat) : Prop :=
    ∀ (σ : Sto) (ds out : List D), GenT S k cx κ.elt g gs σ ds out → ∀ (all : List D) (i : Nat), all.drop i = ds → i ≤ all.length →
    ∀ (Kᵢ : Kn) (I : Addr) (fp : List Addr) (P : Nat → Value → Prop) (St : Nat → Heap → Prop), Itr S Kᵢ I fp P St all →
    ∀ (s : Shared) (K B K₀ : Kn) (acc : List D) (α : Str → Addr) (R : Result → Shared → Prop), CompI κ cx env σ B K₀ D₀ acc s K α → Kᵢ.le K → St i s.heap → K I = none → I ∉ S.T → B I = none → κ.fits (acc ++ out) →
    (∀ s' K', CompI κ cx env σ B K₀ D₀ (acc ++ out) s' K' α → R (.ok .next) s') → codeAny (M S) A (.compLoop κ.e depth (.ref I) (.ref D₀) env) R s
theorem innerOK_nil {κ : Kind S} (hf : cx.fr = false) {D₀ : Addr} {env : Env} {A : Around} (ro : Room k A) {depth : Nat} (hg : κ.gens.drop (depth + 1) = []) : InnerOK κ k cx D₀ env A [] depth := by
  rintro σ out ⟨d, hd, rfl⟩ s K B K₀ acc α Q E c hl h
  have hn : κ.gens[depth + 1]? = none := by
    have := congrArg List.head? hg
    rwa [List.head?_drop] at this
  unfold innerTree
  rw [hn]
  refine wpAny_bind (hd A env s K _ E ro c.fr.ok c.fr.fmI fun v s1 K1 l1 o1 r1 => ?_)
  exact (c.le l1 o1).put hf ro r1 hl fun s2 c2 _ => h s2 K1 c2
theorem loopOK_of {κ : Kind S} (hf : cx.fr = false) {D₀ : Addr} {env : Env} {A : Around} (ro : Room k A) {g : Comprehension} {gs : List Comprehension} {depth : Nat} (hgd : κ.gens[depth]? = some g) (ha : g.is_async = 0) (ha' : ∀ g', κ.gens[depth + 1]? = some g' → g'.is_async = 0)
    (inn : InnerOK κ k cx D₀ env A gs depth) : LoopOK κ k cx D₀ env A g gs depth := by
  intro σ ds out T
  induction T with
  | nil =>
    intro all i hd hi Kᵢ I fp P St it s K B K₀ acc α R c hle st hKI hT hB hl h
    have hin : i = all.length := by
      have := congrArg List.length hd
      simp at this; lia
    subst hin
    refine compLoop_tree ?_
    rw [κ.turn]
    unfold compTurnG
    rw [hgd]
    simp only [ha, bne_self_eq_false, Bool.false_eq_true, if_false]
    refine wpAny_bind (wpAny_standAt (wpAny_bind (withTk ((it.walks A ro.1).done s _ _ st fun h3 tk3 hk3 ht3 => ?_))))
    have isF : IsF s.heap I := let ⟨o, vs, _, e, hd, _⟩ := it.alive _ _ st; ⟨o, vs, e, hd⟩
    refine wpAny_pure ?_
    exact h _ K (by simpa using c.ext1 (h' := h3) (tk := tk3) isF hKI hT hB ht3 fun b ob hb e => hk3 b ob (by simpa using hb) e)
  | @cons d ds o os hP _ ih =>
    intro all i hd hi Kᵢ I fp P St it s K B K₀ acc α R c hle st hKI hT hB hl h
    have hlt : i < all.length := by
      have := congrArg List.length hd
      simp at this; lia
    have hdd : all[i]? = some d := by
      have := congrArg List.head? hd
      rwa [List.head?_drop] at this
    have hdrop : all.drop (i + 1) = ds := by
      have := congrArg List.tail hd
      rwa [List.tail_drop] at this
    refine compLoop_tree ?_
    rw [κ.turn]
    unfold compTurnG
    rw [hgd]
    simp only [ha, bne_self_eq_false, Bool.false_eq_true, if_false]
    refine wpAny_bind (wpAny_standAt (wpAny_bind (withTk ((it.walks A ro.1).item i s _ _ hlt st fun v h3 tk3 hPv st3 hk3 ht3 => ?_))))
    have isF : ∀ {j h'}, St j h' → IsF h' I := fun st => let ⟨o, vs, _, e, hd, _⟩ := it.alive _ _ st; ⟨o, vs, e, hd⟩
    have c3 := c.ext1 (h' := h3) (tk := tk3) (isF st) hKI hT hB ht3 fun b ob hb e => hk3 b ob (by simpa using hb) e
    refine elEA (it.items i v hlt hPv) fun d' hd' rd => ?_
    rw [hdd] at hd'; (replace hd' := Option.some.inj hd'; subst hd')
    have rd' := rd.mono hle
    refine wpAny_bind (ownedGo (it.alive _ _ st3) ?_)
    refine elEEA (isF st3) fun o3 vs3 e3 hd3 => ?_
    (refine elEAAA hP fun σ' hb hsub hown htest => ?_; try clear hP)
    have cw : CompI κ cx env σ (B.add I o3) K D₀ acc { s with heap := h3, toks := tk3 } K α := by
      refine ⟨c3.fr.watchG e3 (fun _ _ q => by rw [hd3] at q; cases q) (fun _ q => by rw [hd3] at q; cases q) (.inl hf), c3.acc, ?_, c3.nK, c3.nT, c3.nO⟩
      rw [Kn.add_ne]
      · exact c3.nB
      · intro q
        refine elEA c3.acc fun ob e a => ?_
        rw [q] at e
        have : some ob = some o3 := e.symm.trans e3
        (replace this := Option.some.inj this; subst this)
        exact (κ.accPlain _ _ _ a).2.2 _ hd3
    have back : ∀ {s' K'} {σ9 : Sto} {out9}, CompI κ cx env σ9 (B.add I o3) K D₀ out9 s' K' α → CompI κ cx env σ9 B K₀ D₀ out9 s' K' α ∧ St (i + 1) s'.heap ∧ Kᵢ.le K' ∧ K' I = none := fun {s' K' σ9 out9} c9 => by
      have f9 := c9.fr
      refine ⟨⟨FrA.unwatch c3.fr f9 hB, c9.acc, c3.nB, c9.nK, c9.nT, c9.nO⟩, ?_, Kn.le_trans hle f9.ext, (f9.old I (by rw [Kn.add_self]; simp)).trans hKI⟩
      refine (it.walks A ro.1).frame (i + 1) _ _ st3 fun b hb o e => ?_
      rcases it.fpK b hb with rfl | ⟨o', ho'⟩
      · have : some o3 = some o := e3.symm.trans e
        (replace this := Option.some.inj this; subst this)
        exact f9.keep b o3 (Kn.add_self ..) hT
      · have e' := c3.fr.ok.kn b o' (hle b o' ho')
        have : o' = o := Option.some.inj (e'.symm.trans e)
        subst this
        exact f9.ok.kn b o' (f9.ext b o' (hle b o' ho'))
    have go : ∀ {s' K'} {σ9 : Sto}, σ.sub σ9 → CompI κ cx env σ9 (B.add I o3) K D₀ (acc ++ o) s' K' α → codeAny (M S) A (.compLoop κ.e depth (.ref I) (.ref D₀) env) R s' := fun {s' K' σ9} hs9 c9 => by
      refine elAAA (back (c9.weak hf hs9)) fun c10 st10 hle10 hI10 => ?_
      exact ih all (i + 1) hdrop (by assumption) Kᵢ I fp P St it s' K' B K₀ (acc ++ o) α R c10 hle10 st10 hI10 hT hB (by rw [List.append_assoc]; exact hl)
        fun s2 K2 c2 => h s2 K2 (by simpa using c2)
    refine wpAny_bind (cw.bind hf hb hown ro rd' fun s4 c4 => ?_)
    rcases htest with ⟨ht, rfl⟩ | ⟨ht, hr⟩
    · refine wpAny_bind (ht.run ro c4.fr.ok c4.fr.fmI fun s5 K5 l5 o5 => ?_)
      refine wpAny_ite_false rfl ?_
      exact wpAny_pure ⟨rfl, go hsub (by simpa using c4.le l5 o5)⟩
    · refine wpAny_bind (ht.run ro c4.fr.ok c4.fr.fmI fun s5 K5 l5 o5 => ?_)
      refine wpAny_ite_true rfl ?_
      have key := inn σ' o hr s5 K5 _ _ acc α (fun _ s6 => wpAny (M S) A (again (.compLoop κ.e depth (.ref I) (.ref D₀) env)) (fun fin s' => match fin with | .done f => R (.ok f) s' | .again c' => c'.quiet = true ∧ codeAny (M S) A c' R s') (notedBy (M S) A env fun e s' => R (.error e) s') s6)
        (notedBy (M S) A env fun e s' => R (.error e) s') (c4.le l5 o5) (κ.fitsPre _ _ (by rw [List.append_assoc]; exact hl)) fun s6 K6 c6 => wpAny_pure ⟨rfl, go hsub c6⟩
      unfold innerTree at key
      cases hgg : κ.gens[depth + 1]? with
      | none =>
        rw [hgg] at key
        exact wpAny_bind key
      | some g' =>
        rw [hgg] at key
        simp only [ha' g' hgg, bne_self_eq_false, Bool.false_eq_true, if_false] at key ⊢
        simpa only [bind_assoc, pure_bind] using wpAny_bind key
theorem innerOK_cons {κ : Kind S} (hf : cx.fr = false) {D₀ : Addr} {env : Env} {A : Around} (ro : Room k A) {g' : Comprehension} {gs : List Comprehension} {depth : Nat} (hgd : κ.gens[depth + 1]? = some g')
    (lp : LoopOK κ k cx D₀ env A g' gs (depth + 1)) : InnerOK κ k cx D₀ env A (g' :: gs) depth := by
  rintro σ out ⟨ha, hfold, di, ds, hdi, hit, T⟩ s K B K₀ acc α Q E c hl h
  unfold innerTree
  rw [hgd]
  simp only [ha, bne_self_eq_false, Bool.false_eq_true, if_false]
  refine wpAny_bind (hdi A env s K _ E ro c.fr.ok c.fr.fmI fun v s1 K1 l1 o1 r1 => ?_)
  refine wpAny_bind (wpAny_standAt (wpAny_bind (wpAny_of_eq (hfold env v) (wpAny_bind (wpAny_holding (hit A s1 K1 v _ E ro.1 o1 r1 fun ob fp P St it st => ?_))))))
  have c1 := c.le l1 o1
  generalize hI : s1.heap.objs.size = I at it
  have hnew : s1.heap.get? I = none := hI ▸ get_size _
  have hT : I ∉ S.T := o1.notT hnew
  have hB : B I = none := by
    cases e : B I with
    | none => rfl
    | some o => rw [c1.fr.keep I o e hT] at hnew; exact snm hnew
  have hKI : K1 I = none := o1.noneK hnew
  have c2 : CompI κ cx env σ B K₀ D₀ acc { s1 with heap := s1.heap.push ob } K1 α :=
    c1.le (Le.grow (tk := s1.toks) fun _ _ e => Heap.get?_push_of_some _ e) (o1.grow (tk := s1.toks) fun _ _ e => Heap.get?_push_of_some _ e)
  refine wpAny_bind (wpAny_runOwn (compStart_tree hgd ha (fun Q E hq => (it.walks A ro.1).self 0 _ Q E st hq) ?_))
  exact lp σ ds out T ds 0 (by rfl) (by exact Nat.zero_le _) K1 I fp P St it _ K1 B K₀ acc α _ c2 K1.le_refl st hKI hT hB hl fun s' K' c' => wpAny_pure (h s' K' c')
theorem compGens {κ : Kind S} (hf : cx.fr = false) {D₀ : Addr} {env : Env} {A : Around} (ro : Room k A) : ∀ (gs : List Comprehension) (g : Comprehension) (depth : Nat), κ.gens.drop depth = g :: gs → (∀ g' ∈ g :: gs, g'.is_async = 0) → LoopOK κ k cx D₀ env A g gs depth
  | [], g, depth, hg, ha => by
    have h0 : κ.gens[depth]? = some g := by
      have := congrArg List.head? hg
      rwa [List.head?_drop] at this
    have h1 : κ.gens.drop (depth + 1) = [] := by
      have := congrArg List.tail hg
      rwa [List.tail_drop] at this
    exact loopOK_of hf ro h0 (ha g (.head _)) (fun g' e => by have := congrArg List.head? h1; rw [List.head?_drop, e] at this; exact snm this) (innerOK_nil hf ro h1)
  | g' :: gs, g, depth, hg, ha => by
    have h0 : κ.gens[depth]? = some g := by
      have := congrArg List.head? hg
      rwa [List.head?_drop] at this
    have h1 : κ.gens.drop (depth + 1) = g' :: gs := by
      have := congrArg List.tail hg
      rwa [List.tail_drop] at this
    have h2 : κ.gens[depth + 1]? = some g' := by
      have := congrArg List.head? h1
      rwa [List.head?_drop] at this
    exact loopOK_of hf ro h0 (ha g (.head _)) (fun g'' e => by rw [h2] at e; (replace e := Option.some.inj e; subst e); exact ha g' (.tail _ (.head _))) (innerOK_cons hf ro h2 (compGens hf ro gs g' (depth + 1) h1 fun x hx => ha x (.tail _ hx)))
end Mine
namespace Mine
variable {S : Sys} {k : Nat} {cx : Cx} {σ : Sto}
noncomputable def compSc (scope outer : Scope) : Scope :=
  { scope with names := scope.names.map fun (n, k) => if (k == .free && outer.kind == .function && outer.names.lookup n == some .cell) then (n, .cell) else (n, k) }
theorem relabel_eq (scope : Scope) (env : Env) : relabel scope env = compSc scope env.scope := rfl
noncomputable def compCx (cx : Cx) (scope : Scope) : Cx := ⟨compSc scope cx.sc, cx.code, (scope.names.filter (·.2 == .cell)).map (·.1), false, cx.tk, cx.ql⟩
noncomputable def compSto (scope : Scope) (σ : Sto) : Sto := fun x => match scope.names.lookup x with | some .free => σ x | _ => none
noncomputable def nodupB : List Str → Bool
  | [] => true
  | x :: r => !r.contains x && nodupB r
theorem nodupB_iff : ∀ {l : List Str}, nodupB l = true → l.Nodup
  | [], _ => .nil
  | x :: r, h => by
    unfold nodupB at h
    rw [Bool.and_eq_true] at h
    exact List.nodup_cons.mpr ⟨by simpa using h.1, nodupB_iff h.2⟩
noncomputable def compOk (scope outer : Scope) : Bool :=
  scope.kind == .function && outer.kind == .function && nodupB (scope.names.map (·.1)) && scope.names.all fun (n, k) => k != .free || (outer.names.lookup n == some .cell || outer.names.lookup n == some .free)
theorem lookup_nodup {α : Type} {x : Str} {v : α} : ∀ {l : List (Str × α)}, (l.map (·.1)).Nodup → (x, v) ∈ l → l.lookup x = some v
  | (n, u) :: r, hn, hm => by
    rw [List.map_cons, List.nodup_cons] at hn
    rw [List.lookup_cons]
    rcases List.mem_cons.mp hm with e | hm
    · cases e; simp
    · have : x ≠ n := fun q => hn.1 (q ▸ List.mem_map.mpr ⟨_, hm, rfl⟩)
      have hb : (x == n) = false := beq_eq_false_iff_ne.mpr this
      rw [hb]; exact lookup_nodup hn.2 hm
noncomputable def closL (env : Env) : List (Str × NameKind) → List (Str × Addr) → List (Str × Addr)
  | [], acc => acc
  | (n, k) :: r, acc => if k == .free then closL env r ((n, (env.cells.lookup n).getD 0) :: acc) else closL env r acc
theorem closureFor_eq {scope : Scope} {env : Env} (h : ∀ n, (n, NameKind.free) ∈ scope.names → ∃ c, env.cells.lookup n = some c) : closureFor scope env = pure (closL env scope.names []) := by
  unfold closureFor
  have key : ∀ (names : List (Str × NameKind)) (acc : List (Str × Addr)), (∀ n, (n, NameKind.free) ∈ names → ∃ c, env.cells.lookup n = some c) →
      (forIn names acc fun x r => match x with
        | (name, kind) => if (kind == .free) = true then do let a ← cellOf env name; pure (ForInStep.yield ((name, a) :: r)) else pure (ForInStep.yield r) : Sem (List (Str × Addr))) = pure (closL env names acc) := by
    intro names
    induction names with
    | nil => intro acc _; rfl
    | cons x r ih =>
      obtain ⟨n, k⟩ := x
      intro acc hx
      rw [List.forIn_cons]
      unfold closL
      cases hk : (k == NameKind.free) with
      | true =>
        have hk' : k = .free := by simpa using hk
        subst hk'
        refine elE (hx n (.head _)) fun c hc => ?_
        simp only [if_true, cellOf, hc, pure_bind, Option.getD_some]
        exact ih _ fun m hm => hx m (.tail _ hm)
      | false =>
        simp only [hk, Bool.false_eq_true, if_false, pure_bind]
        exact ih _ fun m hm => hx m (.tail _ hm)
  have := key scope.names [] h
  simp only [bind_pure]
  exact this
theorem closL_lookup {env : Env} {x : Str} : ∀ (names : List (Str × NameKind)) (acc : List (Str × Addr)), (∀ n, (n, NameKind.free) ∈ names → ∃ c, env.cells.lookup n = some c) → ((x, NameKind.free) ∈ names ∨ acc.lookup x = env.cells.lookup x) →
    (closL env names acc).lookup x = env.cells.lookup x
  | [], acc, _, h => by rcases h with h | h; · cases h
                        · exact h
  | (n, k) :: r, acc, hx, h => by
    unfold closL
    cases hk : (k == NameKind.free) with
    | true =>
      have hk' : k = .free := by simpa using hk
      subst hk'
      simp only [if_true]
      refine elE (hx n (.head _)) fun c hc => ?_
      refine closL_lookup r _ (fun m hm => hx m (.tail _ hm)) ?_
      by_cases hn : x = n
      · subst hn
        right
        simp [List.lookup_cons, hc]
      · have hb : (x == n) = false := beq_eq_false_iff_ne.mpr hn
        rcases h with h | h
        · rcases List.mem_cons.mp h with e | h
          · cases e; exact absurd rfl hn
          · exact .inl h
        · right; rw [List.lookup_cons, hb]; exact h
    | false =>
      simp only [Bool.false_eq_true, if_false]
      refine closL_lookup r _ (fun m hm => hx m (.tail _ hm)) ?_
      rcases h with h | h
      · rcases List.mem_cons.mp h with e | h
        · cases e; simp at hk
        · exact .inl h
      · exact .inr h
theorem cellsFrom_acc : ∀ (names : List (Str × NameKind)) (n : Nat) (acc : List (Str × Addr)), cellsFrom n names acc = cellsFrom n names [] ++ acc
  | [], _, _ => rfl
  | (x, k) :: r, n, acc => by
    unfold cellsFrom
    split
    · rw [cellsFrom_acc r (n + 1) ((x, n) :: acc), cellsFrom_acc r (n + 1) [(x, n)], List.append_assoc]; rfl
    · exact cellsFrom_acc r n acc
theorem cellsFrom_names {x : Str} {c : Addr} : ∀ (names : List (Str × NameKind)) (n : Nat) (acc : List (Str × Addr)), (x, c) ∈ cellsFrom n names acc → (x, NameKind.cell) ∈ names ∨ (x, c) ∈ acc
  | [], _, _, h => .inr h
  | (y, k) :: r, n, acc, h => by
    unfold cellsFrom at h
    split at h
    · rename_i hk
      have hk' : k = .cell := by simpa using hk
      subst hk'
      rcases cellsFrom_names r (n + 1) ((y, n) :: acc) h with h | h
      · exact .inl (.tail _ h)
      · rcases List.mem_cons.mp h with e | h
        · cases e; exact .inl (.head _)
        · exact .inr h
    · rcases cellsFrom_names r n acc h with h | h
      · exact .inl (.tail _ h)
      · exact .inr h
theorem newEnvC {A : Around} {s : Shared} {scope : Scope} {g : Addr} {cl : List (Str × Addr)} {qual : Str} {env : Env} {Q : Env → Shared → Prop} {E : Value → Shared → Prop}
    (h : ∀ h', h' = pushCells (s.heap.push { cls := .type "dict", data := .dict #[] }) scope.names → h'.Ns s.heap.objs.size (fun _ => none) →
      Q (newEnv scope s.heap.objs.size g (cellsFrom (s.heap.objs.size + 1) scope.names [] ++ cl) qual none .none (some env) builtinsNs) { s with heap := h' }) :
    wpAny (M S) A (newFunctionEnv scope g cl [] qual none .none (some env)) Q E s := by
  simp only [newFunctionEnv, Option.isSome_some, if_true]
  refine wpAny_bind (wpAny_alloc ?_)
  refine wpAny_bind (wpAny_layCells _ (fun name kind cells => by cases hkc : kind == NameKind.cell <;> simp [hkc]) _ _ _ _ ?_)
  rw [List.forIn_nil]
  refine wpAny_bind (wpAny_pure (wpAny_pure ?_))
  rw [cellsFrom_acc]
  have hs : ({ s with heap := s.heap.push { cls := .type "dict", data := .dict #[] } } : Shared).heap.objs.size = s.heap.objs.size + 1 := Heap.size_push ..
  rw [hs]
  exact h _ rfl ((Heap.Ns.new s.heap (.type "dict")).keeps (pushCells_keeps _ _))
theorem lookup_mapv {α : Type} (f : Str → α → α) (x : Str) : ∀ l : List (Str × α), (l.map fun p => (p.1, f p.1 p.2)).lookup x = (l.lookup x).map (f x)
  | [] => rfl
  | (n, k) :: r => by
    rw [List.map_cons, List.lookup_cons, List.lookup_cons]
    cases hx : x == n with
    | true => have := eq_of_beq hx; subst this; rfl
    | false => exact lookup_mapv f x r
theorem compSc_lookup {scope outer : Scope} {x : Str} : (compSc scope outer).names.lookup x = (scope.names.lookup x).map fun k => if (k == .free && outer.kind == .function && outer.names.lookup x == some .cell) then .cell else k := by
  refine Eq.trans ?_ (lookup_mapv (fun (x : Str) (k : NameKind) => if (k == .free && outer.kind == .function && outer.names.lookup x == some .cell) then .cell else k) x scope.names)
  unfold compSc
  show List.lookup x (scope.names.map _) = _
  congr 1
  apply List.map_congr_left
  rintro ⟨n, k⟩ _
  show (if (k == .free && outer.kind == .function && outer.names.lookup n == some .cell) = true then (n, NameKind.cell) else (n, k)) = _
  by_cases hc : (k == .free && outer.kind == .function && outer.names.lookup n == some .cell) = true
  · simp only [hc, if_true]
  · simp only [hc, if_false]; rfl
set_option genInjectivity false in
structure CompOk (scope outer : Scope) : Prop where
  kind : scope.kind = .function
  okind : outer.kind = .function
  nd : (scope.names.map (·.1)).Nodup
  fr : ∀ n, (n, NameKind.free) ∈ scope.names → outer.names.lookup n = some .cell ∨ outer.names.lookup n = some .free
theorem compOk_iff {scope outer : Scope} (h : compOk scope outer = true) : CompOk scope outer := by
  unfold compOk at h
  simp only [Bool.and_eq_true, beq_iff_eq] at h
  obtain ⟨⟨⟨h1, h2⟩, h3⟩, h4⟩ := h
  refine ⟨h1, h2, nodupB_iff h3, fun n hm => ?_⟩
  have := List.all_eq_true.mp h4 _ hm
  simpa using this
theorem compFresh {env : Env} {s s₃ : Shared} {K : Kn} {scope : Scope} {α : Str → Addr} {h' : Heap} {tk : Nat} (ok : CompOk scope cx.sc) (o : Ok S K s) (fm : FmA S cx env σ s K α) (o₃ : Ok S K s₃)
    (hk : ∀ b ob, s.heap.get? b = some ob → s₃.heap.get? b = some ob) (hC : s.heap.get? s₃.heap.objs.size = none) (hlo : s.heap.objs.size ≤ s₃.heap.objs.size) (ht : s.toks ≤ tk)
    (e : h' = pushCells (s₃.heap.push { cls := .type "dict", data := .dict #[] }) scope.names) (hn : h'.Ns s₃.heap.objs.size (fun _ => none)) :
    FrA S (compCx cx scope) { newEnv scope s₃.heap.objs.size env.globals (cellsFrom (s₃.heap.objs.size + 1) scope.names [] ++ closL env scope.names []) env.qual none .none (some env) builtinsNs with scope := compSc scope cx.sc } (compSto scope σ)
      (fun a => s.heap.get? a) K { s₃ with heap := h', toks := tk } K α := by
  have hk' : ∀ b ob, s₃.heap.get? b = some ob → h'.get? b = some ob := fun b ob eb => by
    rw [e]; exact pushCells_keeps _ _ b ob (Heap.get?_push_of_some _ eb)
  have hkk : ∀ b ob, s.heap.get? b = some ob → h'.get? b = some ob := fun b ob eb => hk' b ob (hk b ob eb)
  have cok := cellsFrom_ok scope.names (s₃.heap.push { cls := .type "dict", data := .dict #[] }) (s₃.heap.objs.size + 1) [] ⟨fun _ _ hm => (nomatch hm), List.Pairwise.nil⟩ (by rw [Heap.size_push]; exact Nat.le_refl _)
  rw [Heap.size_push, ← e] at cok
  have hfree : ∀ n, (n, NameKind.free) ∈ scope.names → ∃ c, env.cells.lookup n = some c := fun n hm => let ⟨c, v, h1, _⟩ := fm.cla n (ok.fr n hm); ⟨c, h1⟩
  have own_new : ∀ x c, (x, c) ∈ cellsFrom (s₃.heap.objs.size + 1) scope.names [] → s.heap.get? c = none := fun x c hm => by
    have := (cok.empty x c hm).2
    cases eq : s.heap.get? c with
    | none => rfl
    | some ob => exact absurd (Nat.lt_of_lt_of_le (Heap.lt_size eq) (Nat.le_trans hlo (Nat.le_of_succ_le this))) (Nat.lt_irrefl _)
  have lk_free : ∀ x, scope.names.lookup x = some .free → (cellsFrom (s₃.heap.objs.size + 1) scope.names [] ++ closL env scope.names []).lookup x = env.cells.lookup x := fun x hx => by
    have hm := mem_of_lookup hx
    rw [List.lookup_append, closL_lookup _ _ hfree (.inl hm)]
    cases eq : (cellsFrom (s₃.heap.objs.size + 1) scope.names []).lookup x with
    | none => rfl
    | some c =>
      rcases cellsFrom_names _ _ _ (mem_of_lookup eq) with h9 | h9
      · have := lookup_nodup ok.nd h9
        rw [hx] at this; cases this
      · cases h9
  have lk_own : ∀ x, scope.names.lookup x = some .cell → ∃ c, (cellsFrom (s₃.heap.objs.size + 1) scope.names [] ++ closL env scope.names []).lookup x = some c ∧ (x, c) ∈ cellsFrom (s₃.heap.objs.size + 1) scope.names [] := fun x hx => by
    have := cellsFrom_some scope.names (s₃.heap.objs.size + 1) [] (.inl hx)
    refine elE (Option.isSome_iff_exists.mp this) fun c hc => ?_
    exact ⟨c, by rw [List.lookup_append, hc]; rfl, mem_of_lookup hc⟩
  have kinds : ∀ x, ((compSc scope cx.sc).names.lookup x = some .cell ∨ (compSc scope cx.sc).names.lookup x = some .free) → scope.names.lookup x = some .free ∨ scope.names.lookup x = some .cell := fun x hx => by
    rw [compSc_lookup] at hx
    cases eq : scope.names.lookup x with
    | none => rw [eq] at hx; simp at hx
    | some kd =>
      rw [eq] at hx
      simp only [Option.map_some] at hx
      by_cases hc : (kd == .free && cx.sc.kind == .function && cx.sc.names.lookup x == some .cell) = true
      · simp only [Bool.and_eq_true, beq_iff_eq] at hc
        rw [hc.1.1]; exact .inl rfl
      · simp only [hc, if_false, Option.some.injEq] at hx
        rcases hx with hx | hx
        · right; rw [← hx]; rfl
        · left; rw [← hx]; rfl
  have hstate : ({ s₃ with heap := h', toks := tk } : Shared).heap = h' := rfl
  have stoF : ∀ x e1, compSto scope σ x = some e1 → scope.names.lookup x = some .free ∧ σ x = some e1 := fun x e1 hs => by
    unfold compSto at hs
    split at hs
    · rename_i eq; exact ⟨eq, hs⟩
    · exact nsm hs
  have entK : ∀ {x e1 v}, EntR S K s.heap α x e1 v → EntR S K h' α x e1 v := fun {x e1 v} r => by
    cases e1 with
    | val d => exact r
    | own xs =>
      obtain ⟨rfl, h1, vs, n, h2, h3⟩ := r
      exact ⟨rfl, h1, vs, n, hkk _ _ h2, h3⟩
    | app y => exact r
  have cellK : ∀ {c v}, s.heap.IsCell c v → h'.IsCell c v := fun {c v} ⟨ob, e1, hd⟩ => ⟨ob, hkk _ _ e1, hd⟩
  refine ⟨o₃.grow hk', ⟨rfl, ?_, ok.kind, fm.globals, ?_, Nat.le_trans fm.tok ht, ⟨_, hn, fun x e1 hl hs => ?_⟩, fun x hx => ?_, fun x e1 hx hs => ?_⟩, fun b ob eb _ => hkk b ob eb, K.le_refl, fun _ _ => rfl, ⟨hC, o.noneK hC⟩, fun x hw hx => ?_, fun x y c hw hx hy hcx hcy => ?_, fun q => ?_, fun q => ?_⟩
  · exact fm.code
  · exact fm.builtins
  · have h9 := (stoF x e1 hs).1
    have hl' : (compSc scope cx.sc).names.lookup x = some .local := hl
    rw [compSc_lookup, h9] at hl'
    simp only [Option.map_some, Option.some.injEq] at hl'
    split at hl' <;> cases hl'
  · rcases kinds x hx with h9 | h9
    · refine elEEA (fm.cla x (ok.fr x (mem_of_lookup h9))) fun c v h1 h2 => ?_
      exact ⟨c, v, (lk_free x h9).trans h1, cellK h2⟩
    · refine elEA (lk_own x h9) fun c h1 h2 => ?_
      exact ⟨c, none, h1, (cok.empty x c h2).1⟩
  · refine elA (stoF x e1 hs) fun h9 hs' => ?_
    refine elEEAA (fm.cel x e1 (ok.fr x (mem_of_lookup h9)) hs') fun c v h1 h2 h3 => ?_
    exact ⟨c, v, (lk_free x h9).trans h1, cellK h2, entK h3⟩
  · have h9 : scope.names.lookup x = some .cell := by
      obtain ⟨⟨n, kd⟩, hm, rfl⟩ := List.mem_map.mp hw
      refine elA (List.mem_filter.mp hm) fun hm1 hm2 => ?_
      have : kd = .cell := by simpa using hm2
      subst this
      exact lookup_nodup ok.nd hm1
    refine elEA (lk_own x h9) fun c h1 h2 => ?_
    exact ⟨c, none, h1, (cok.empty x c h2).1, own_new x c h2, o.noneK (own_new x c h2)⟩
  · have h9 : scope.names.lookup y = some .cell := by
      obtain ⟨⟨n, kd⟩, hm, rfl⟩ := List.mem_map.mp hw
      refine elA (List.mem_filter.mp hm) fun hm1 hm2 => ?_
      have : kd = .cell := by simpa using hm2
      subst this
      exact lookup_nodup ok.nd hm1
    refine elEA (lk_own y h9) fun c' h1 h2 => ?_
    have : c' = c := Option.some.inj (h1.symm.trans hcy)
    subst this
    rcases kinds x hx with h8 | h8
    · obtain ⟨c2, v, h3, ⟨ob, h4, _⟩⟩ := fm.cla x (ok.fr x (mem_of_lookup h8))
      have : c2 = c' := Option.some.inj (((lk_free x h8).trans h3).symm.trans hcx)
      subst this
      rw [own_new y c2 h2] at h4; exact nsm h4
    · refine elEA (lk_own x h8) fun c2 h3 h4 => ?_
      have : c2 = c' := Option.some.inj (h3.symm.trans hcx)
      subst this
      exact name_of_addr cok.apart h4 h2
  · exact ft q
  · exact ft q
end Mine
namespace Mine
variable {S : Sys} {k : Nat} {cx : Cx} {σ : Sto}
theorem compCore {κ : Kind S} {scope : Scope} {env : Env} {pos : Pos} {g : Comprehension} {gs : List Comprehension} {di : D} {ds out : List D} {A : Around} {s : Shared} {K : Kn} {use : Option (Value → Sem Unit)} {Q : Value → Shared → Prop} {E : Value → Shared → Prop}
    (hg : κ.gens = g :: gs) (ha : ∀ g' ∈ g :: gs, g'.is_async = 0) (hfold : ∀ (env : Env) (x : Value), foldedSetIterable g.iter env x = pure x) (hok : compOk scope cx.sc = true)
    (hi : EvS S k cx σ g.iter di) (hit : IterS S di ds) (T : GenT S k (compCx cx scope) κ.elt g gs (compSto scope σ) ds out) (hl : κ.fits out)
    (ro : Room k A) (o : Ok S K s) (fm : Fm S cx env σ s K)
    (h : ∀ D₀ C s' K' m, Le S s s' K K' → Ok S K' s' → Rep S K' (.ref D₀) (κ.res out) → s'.heap.Ns C m → s.heap.get? C = none → K' C = none → C ∉ S.T → compPost (M S) A E use Q (.ref D₀) C (.ok .next) s') :
    wpAny (M S) A (comprehension κ.e scope env pos κ.newAcc false (eval g.iter env) use) Q E s := by
  have ok := compOk_iff hok
  refine elE fm fun α fm => ?_
  have hfree : ∀ n, (n, NameKind.free) ∈ scope.names → ∃ c, env.cells.lookup n = some c := fun n hm => let ⟨c, v, h1, _⟩ := fm.cla n (ok.fr n hm); ⟨c, h1⟩
  refine wpAny_comprehension_free (cl := closL env scope.names []) (by rw [κ.cl, hg]) (fun x => hfold env x) (closureFor_eq hfree) ok.kind (fun x hx hl => by obtain ⟨n, kd⟩ := x; exact (lookup_nodup ok.nd hx).trans (by rw [← hl])) ?_
  refine hi A env s K _ E ro o ⟨α, fm⟩ fun v s1 K1 l1 o1 r1 => ?_
  have fm1 := fm.le o l1
  refine hit A s1 K1 v _ E ro.1 o1 r1 fun oI fp P St it st => ?_
  have n1 : s1.heap.get? s1.heap.objs.size = none := get_size _
  refine κ.mkAcc A _ _ E fun ob hfr hacc => ?_
  have sz1 : ({ s1 with heap := s1.heap.push oI } : Shared).heap.objs.size = s1.heap.objs.size + 1 := Heap.size_push ..
  have sz2 : ((s1.heap.push oI).push ob).objs.size = s1.heap.objs.size + 2 := by rw [Heap.size_push, Heap.size_push]
  have nge : ∀ a, s1.heap.objs.size ≤ a → s1.heap.get? a = none := fun a ha => by
    cases e : s1.heap.get? a with
    | none => rfl
    | some o => exact absurd (Heap.lt_size e) (Nat.not_lt.mpr ha)
  have hk3 : ∀ b ob', s1.heap.get? b = some ob' → ((s1.heap.push oI).push ob).get? b = some ob' := fun b ob' e => Heap.get?_push_of_some _ (Heap.get?_push_of_some _ e)
  have o3 : Ok S K1 { s1 with heap := (s1.heap.push oI).push ob } := o1.grow (tk := s1.toks) hk3
  refine newEnvC (env := env) fun h' eh' hns => ?_
  have hC : s1.heap.get? ((s1.heap.push oI).push ob).objs.size = none := nge _ (by rw [sz2]; exact Nat.le_add_right _ _)
  have fr := compFresh (tk := s1.toks) (s₃ := { s1 with heap := (s1.heap.push oI).push ob }) ok o1 fm1 o3 hk3 hC (by show _ ≤ ((s1.heap.push oI).push ob).objs.size; rw [sz2]; exact Nat.le_add_right _ _) (Nat.le_refl _) eh' hns
  have hk' : ∀ b ob', ((s1.heap.push oI).push ob).get? b = some ob' → h'.get? b = some ob' := fun b ob' e => by
    rw [eh']; exact pushCells_keeps _ _ b ob' (Heap.get?_push_of_some _ e)
  have eD : h'.get? (s1.heap.objs.size + 1) = some ob := hk' _ _ (by
    have := Heap.get?_push_size (s1.heap.push oI) hfr
    rwa [Heap.size_push] at this)
  have nD : s1.heap.get? (s1.heap.objs.size + 1) = none := nge _ (Nat.le_succ _)
  have exO : ∀ x xs, (((compCx cx scope).sc.names.lookup x = some .local ∨ (compCx cx scope).sc.names.lookup x = some .cell ∨ (compCx cx scope).sc.names.lookup x = some .free)) → compSto scope σ x = some (.own xs) → α x ≠ s1.heap.objs.size + 1 := fun x xs _ e q => by
    unfold compSto at e
    split at e
    · rename_i hf
      obtain ⟨c, v, _, _, rfl, _, vs, n, e3, _⟩ := fm1.cel x _ (ok.fr x (mem_of_lookup hf)) e
      rw [q, nD] at e3; exact nsm e3
    · exact nsm e
  have ci : CompI κ (compCx cx scope) _ (compSto scope σ) (fun a => s1.heap.get? a) K1 (s1.heap.objs.size + 1) [] { s1 with heap := h', toks := s1.toks } K1 α :=
    ⟨fr, ⟨ob, eD, hacc K1⟩, nD, o1.noneK nD, o1.notT nD, exO⟩
  have hg0 : κ.gens[0]? = some g := by rw [hg]; rfl
  have hsc : relabel scope env = compSc scope cx.sc := by rw [relabel_eq, fm.scope]
  rw [hsc]
  rw [sz1]
  have eI : ∀ b ∈ fp, ∀ o', (s1.heap.push oI).get? b = some o' → h'.get? b = some o' := fun b _ o' e => hk' _ _ (Heap.get?_push_of_some _ e)
  have st' : St 0 h' := (it.walks A ro.1).frame 0 _ _ st eI
  refine codeAny_with_toks (n := s1.toks) (Nat.le_refl _) ?_
  refine compStart_tree hg0 (ha g (.head _)) (fun Q E hq => (it.walks A ro.1).self 0 _ Q E st' hq) ?_
  refine compGens (k := k) rfl ro gs g 0 (by rw [hg]; rfl) ha (compSto scope σ) ds out T ds 0 (by rfl) (by exact Nat.zero_le _) K1 _ fp P St it _ K1 _ K1 [] α _ ci K1.le_refl st' (o1.noneK n1) (o1.notT n1) n1 (by simpa using hl) fun s' K' c' => ?_
  intro htok
  refine elEA c'.acc fun ob' e' a' => ?_
  have f' := c'.fr
  have hadd : K'.le (K'.add (s1.heap.objs.size + 1) ob') := Kn.le_add c'.nK
  refine elEA f'.fm.ns fun m hm _ => ?_
  have hCne : ((s1.heap.push oI).push ob).objs.size ≠ s1.heap.objs.size + 1 := by rw [sz2]; lia
  have hCT : ((s1.heap.push oI).push ob).objs.size ∉ S.T := o1.notT hC
  have hCs : s.heap.get? ((s1.heap.push oI).push ob).objs.size = none := by
    cases e : s.heap.get? ((s1.heap.push oI).push ob).objs.size with
    | none => rfl
    | some o9 => rw [l1.keep _ _ hCT e] at hC; exact snm hC
  refine h _ _ s' (K'.add (s1.heap.objs.size + 1) ob') m ?_ (f'.ok.freeze e' c'.nK c'.nT) (κ.done _ _ _ _ (κ.accMono _ _ _ _ hadd (by simpa using a')) (Kn.add_self ..)) hm hCs ?_ hCT
  · refine ⟨fun b o9 hb e => f'.keep b o9 (l1.keep b o9 hb e) hb, Kn.le_trans (Kn.le_trans l1.ext f'.ext) hadd, fun a ha9 => ?_, Nat.le_trans l1.tok htok⟩
    have ha1 : s1.heap.get? a ≠ none := by
      by_cases hT : a ∈ S.T
      · obtain ⟨_, ps, e, _⟩ := o1.tabs a hT
        rw [e]; simp
      · cases e : s.heap.get? a with
        | none => exact absurd e ha9
        | some o9 => rw [l1.keep a o9 hT e]; simp
    exact (Kn.add_ne (fun q : a = s1.heap.objs.size + 1 => ha1 (by rw [q]; exact nD))).trans ((f'.old a ha1).trans (l1.old a ha9))
  · exact (Kn.add_ne hCne).trans f'.locN.2
theorem EvS.listComp {elt : Expr} {g : Comprehension} {gs : List Comprehension} {scope : Scope} {pos : Pos} {di : D} {ds out : List D} (hok : compOk scope cx.sc = true)
    (hi : EvS S k cx σ g.iter di) (hit : IterS S di ds) (T : GenT S k (compCx cx scope) elt g gs (compSto scope σ) ds out) (hl : out.length ≤ sizeLine)
    (ha : ∀ g' ∈ g :: gs, g'.is_async = 0 := by simp) (hfold : ∀ (env : Env) (x : Value), foldedSetIterable g.iter env x = pure x := by intro _ _; rfl) :
    EvS S k cx σ (.ListComp elt (g :: gs) scope pos) (.list out) := by
  intro A env s K Q E ro o fm h
  have h0 : g.is_async = 0 := ha g (.head _)
  have e0 : eval (.ListComp elt (g :: gs) scope pos) env = comprehension (.ListComp elt (g :: gs) scope pos) scope env (firstIterPos (g :: gs) pos) (newList []) (firstAsync (g :: gs)) (firstIter (g :: gs) env) := rfl
  have e1 : firstAsync (g :: gs) = false := by
    obtain ⟨t, i, c, a⟩ := g
    simp only at h0; subst h0; rfl
  have e2 : firstIter (g :: gs) env = eval g.iter env := by obtain ⟨t, i, c, a⟩ := g; rfl
  rw [e0, e1, e2]
  refine compCore (κ := kList S elt (g :: gs) scope pos) (use := none) rfl ha hfold hok hi hit T hl ro o fm fun D₀ C s' K' m l' o' r' hn hC hKC hT => ?_
  refine ⟨m, hn, fun h9 hs => h _ _ K' ?_ (o'.upd hKC hT hs) r'⟩
  exact ⟨fun b ob hb e => (hs.2 b (fun q => by rw [q, hC] at e; exact nsm e)).trans (l'.keep b ob hb e), l'.ext, l'.old, l'.tok⟩
theorem FrA.updD {env B K₀ s K h' tk C m α} (f : FrA S cx env σ B K₀ s K α) (hm : s.heap.Ns C m) (hL : C ≠ env.locals) (hn : K C = none) (hT : C ∉ S.T) (h0 : B C = none) (ht : s.toks ≤ tk) (hs : Heap.SameBut C s.heap h') :
    FrA S cx env σ B K₀ { s with heap := h', toks := tk } K α := by
  (refine elEEEAA hm fun oC es ep eC dC _ => ?_; try clear hm)
  have hc : ∀ c v, s.heap.IsCell c v → h'.IsCell c v := fun c v y => y.sameBut hs fun q => by
    (refine elEA y fun o' e' d' => ?_; try clear y)
    rw [q, eC] at e'; (replace e' := Option.some.inj e'; subst e'); rw [dC] at d'; cases d'
  have ent : ∀ {x e v}, EntR S K s.heap α x e v → EntR S K h' α x e v := fun r => r.upd hs fun ob e => by
    rw [eC] at e; (replace e := Option.some.inj e; subst e)
    intro vs n q; rw [q] at dC; cases dC
  refine ⟨f.ok.upd hn hT hs, ⟨f.fm.scope, f.fm.code, f.fm.kind, f.fm.globals, f.fm.builtins, Nat.le_trans f.fm.tok ht, ?_, fun x hx => let ⟨c, v, h1, h2⟩ := f.fm.cla x hx; ⟨c, v, h1, hc c v h2⟩, fun x e hx he => let ⟨c, v, h1, h2, h3⟩ := f.fm.cel x e hx he; ⟨c, v, h1, hc c _ h2, ent h3⟩⟩, fun b o e hb => ?_, f.ext, f.old, f.locN, fun x hw hx => let ⟨c, v, h1, h2, h3⟩ := f.cells x hw hx; ⟨c, v, h1, hc c v h2, h3⟩, f.apart, f.ownN, f.ownI⟩
  · refine elEA f.fm.ns fun m' hm' hx => ?_
    exact ⟨m', hm'.sameBut hs (Ne.symm hL), fun x e hl he => let ⟨v, h1, h2⟩ := hx x e hl he; ⟨v, h1, ent h2⟩⟩
  · exact (hs.2 b (fun q => by rw [q, h0] at e; exact nsm e)).trans (f.keep b o e hb)
theorem Ex1.assignComp {y py} {elt : Expr} {g : Comprehension} {gs : List Comprehension} {scope : Scope} {pos spos : Pos} {di : D} {ds out : List D} (hy : isVarW cx y = true) (hok : compOk scope cx.sc = true)
    (hi : EvS S k cx σ g.iter di) (hit : IterS S di ds) (T : GenT S k (compCx cx scope) elt g gs (compSto scope σ) ds out) (hl : out.length ≤ sizeLine)
    (ha : ∀ g' ∈ g :: gs, g'.is_async = 0 := by simp) (hfold : ∀ (env : Env) (x : Value), foldedSetIterable g.iter env x = pure x := by intro _ _; rfl) :
    Ex1 S k cx σ (.Assign [.Name y py] (.ListComp elt (g :: gs) scope pos) spos) .next (σ.upd y (some (.val (.list out)))) := by
  intro A env B K₀ s K Q E ro f h
  have hev := EvS.listComp (pos := pos) hok hi hit T hl ha hfold
  have hsw : ∃ b, swapsWith (.ListComp elt (g :: gs) scope pos) (some (.Name y py)) spos.line env = pure b := ⟨_, rfl⟩
  refine elE hsw fun b hsw => ?_
  cases b with
  | false =>
    refine wpAny_Assign_Name (hev A env s K _ E ro f.ok f.fm fun v s' K' l o' r => ?_) hsw
    exact storeVal (f.le l o') hy r fun s2 f2 => h _ s2 K' f2 rfl
  | true =>
    rw [exec_Assign_Name_used _ _ _ _ hsw]
    refine wpAny_bind (wpAny_standAt (wpAny_bind ?_))
    have h0 : g.is_async = 0 := ha g (.head _)
    have e1 : firstAsync (g :: gs) = false := by
      obtain ⟨t, i, c, a⟩ := g
      simp only at h0; subst h0; rfl
    have e2 : firstIter (g :: gs) env = eval g.iter env := by obtain ⟨t, i, c, a⟩ := g; rfl
    show wpAny (M S) A (do let _ ← comprehension (.ListComp elt (g :: gs) scope pos) scope env (firstIterPos (g :: gs) pos) (newList []) (firstAsync (g :: gs)) (firstIter (g :: gs) env) (some (PySem.assign (.Name y py) env))) _ _ _
    rw [e1, e2]
    refine wpAny_bind (compCore (κ := kList S elt (g :: gs) scope pos) (use := some (PySem.assign (.Name y py) env)) rfl ha hfold hok hi hit T hl ro f.ok f.fm fun D₀ C s' K' m l' o' r' hn hC hKC hT => ?_)
    show wpAny (M S) A (PySem.assign (.Name y py) env (.ref D₀)) _ E s'
    have hLC : C ≠ env.locals := fun q => by
      refine elE f fun α f => ?_
      exact f.locS (q ▸ hC)
    have hBC : B C = none := by
      cases e : B C with
      | none => rfl
      | some o9 =>
        refine elE f fun α f => ?_
        rw [f.keep C o9 e hT] at hC; exact snm hC
    refine elEEEAA (id hn) fun oC es ep eC dC _ => ?_
    refine wpAny_assign_Name ?_
    refine elE (f.le l' o') fun α f9 => ?_
    refine storeKeep (a := C) f9 hy r' eC dC hLC hT hBC fun s2 f2 hn2 => ?_
    have hn2' : s2.heap.Ns C m := hn.at' fun o9 e9 => by rw [eC] at e9; (replace e9 := Option.some.inj e9; subst e9); exact hn2
    refine ⟨m, hn2', fun h9 hs => wpAny_pure (wpAny_pure (h _ _ K' ⟨α, f2.updD hn2' hLC hKC hT hBC (Nat.le_refl _) hs⟩ rfl))⟩
end Mine
namespace Mine
variable {S : Sys} {k : Nat} {cx : Cx} {σ : Sto}
noncomputable def CalS (S : Sys) (k : Nat) (f : Value) (ds : List D) (d : D) : Prop :=
  ∀ (A : Around) (s : Shared) (K : Kn) (vs : List Value) (Q : Value → Shared → Prop) (E : Value → Shared → Prop), Room k A → Ok S K s → RepL S K vs ds →
    (∀ v s' K', Le S s s' K K' → Ok S K' s' → Rep S K' v d → Q v s') → wpAny (M S) A (call f vs) Q E s
noncomputable def FnC (S : Sys) (k : Nat) (f : Value) (ds : List D) (d : D) : Prop :=
  ∀ (A : Around) (s : Shared) (K : Kn) (vs : List Value) (R : Result → Shared → Prop), Room k A → Ok S K s → RepL S K vs ds →
    (∀ v s' K', Le S s s' K K' → Ok S K' s' → Rep S K' v d → R (.ok (.ret v)) s') → codeAny (M S) A (.call f ⟨vs, []⟩) R s
theorem FnC.call {f ds d} (h : FnC S k f ds d) : CalS S k f ds d := fun A s K vs Q E ro o r hq => wpAny_call (h A s K vs _ ro o r hq)
noncomputable def allPlain (es : List Expr) : Bool := es.all Plain
theorem noStars {pos : Pos} {env : Env} : ∀ {es : List Expr}, allPlain es = true → ((backTo pos (starEach es env)).any fun x => x.1) = false
  | [], _ => rfl
  | e :: es, h => by
    simp only [allPlain, List.all_cons, Bool.and_eq_true] at h
    rw [starEach_plain h.1]
    have := noStars (pos := pos) (env := env) (es := es) h.2
    simp only [backTo, List.map_cons, List.any_cons] at this ⊢
    rw [this]; rfl
theorem K0_get {K s a ob} (o : Ok S K s) (h : S.K0 a = some ob) : s.heap.get? a = some ob := o.kn _ _ (o.base _ _ h)
theorem EvS.callFn {x : Str} {np pos : Pos} {a : Addr} {oc : Value} {od : Option Addr} {fd : FuncData} {sl : Array (Option Value)} {args : List Expr} {ds : List D} {d : D} (hx : isGlob cx.sc x = true)
    (hg : S.mg x = some (.ref a)) (ha : S.K0 a = some ⟨oc, od, .func fd, sl⟩) (h : EvL S k cx σ args ds) (hc : CalS S k (.ref a) ds d) (hn : args.length = ds.length := by rfl) (hp : allPlain args = true := by rfl) : EvS S k cx σ (.Call (.Name x np) args [] pos) d := by
  intro A env s K Q E ro o fm hq
  refine wpAny_Call_ofName (evalGlob o fm hx (.inl hg) ?_)
  cases args with
  | nil =>
    refine callWith_F0 ⟨_, _, _, _, K0_get o ha⟩ ?_
    have hd : ds = [] := List.length_eq_zero_iff.mp hn.symm
    subst hd
    exact hc A s K [] Q E ro o .nil hq
  | cons e rest =>
    have hp' := hp
    simp only [allPlain, List.all_cons, Bool.and_eq_true] at hp'
    refine callWith_F ⟨_, _, _, _, K0_get o ha⟩ (h A env pos s K _ E ro o fm fun vs s' K' l o' r => ⟨⟨_, _, _, _, K0_get o' ha⟩, ?_⟩) (starEach_plain hp'.1 _ _) (noStars hp'.2)
    exact hc A s' K' vs Q E ro o' r fun v s2 K2 l2 o2 r2 => hq v s2 K2 (Le.trans o o' l l2) o2 r2
theorem EvS.callBi {x : Str} {np pos : Pos} {id : String} {e : Expr} {rest : List Expr} {ds : List D} {d : D} (hx : isGlob cx.sc x = true)
    (hg : S.mg x = some (.builtin id) ∨ (S.mg x = none ∧ S.mb x = some (.builtin id))) (h : EvL S k cx σ (e :: rest) ds) (hc : CalS S k (.builtin id) ds d) (hp : allPlain (e :: rest) = true := by rfl) : EvS S k cx σ (.Call (.Name x np) (e :: rest) [] pos) d := by
  intro A env s K Q E ro o fm hq
  refine wpAny_Call_ofName (evalGlob o fm hx hg ?_)
  have hp' := hp
  simp only [allPlain, List.all_cons, Bool.and_eq_true] at hp'
  refine PyProof.Rows.callWith_builtin1 (h A env pos s K _ E ro o fm fun vs s' K' l o' r => ?_) (starEach_plain hp'.1 _ _) (noStars hp'.2)
  exact hc A s' K' vs Q E ro o' r fun v s2 K2 l2 o2 r2 => hq v s2 K2 (Le.trans o o' l l2) o2 r2
theorem EvS.callTy {x : Str} {np pos : Pos} {T : String} {e : Expr} {rest : List Expr} {ds : List D} {d : D} (hx : isGlob cx.sc x = true)
    (hg : S.mg x = some (.type T) ∨ (S.mg x = none ∧ S.mb x = some (.type T))) (h : EvL S k cx σ (e :: rest) ds) (hc : CalS S k (.type T) ds d) (hp : allPlain (e :: rest) = true := by rfl) : EvS S k cx σ (.Call (.Name x np) (e :: rest) [] pos) d := by
  intro A env s K Q E ro o fm hq
  refine wpAny_Call_ofName (evalGlob o fm hx hg ?_)
  have hp' := hp
  simp only [allPlain, List.all_cons, Bool.and_eq_true] at hp'
  refine PyProof.Rows.callWith_type1 (h A env pos s K _ E ro o fm fun vs s' K' l o' r => ?_) (starEach_plain hp'.1 _ _) (noStars hp'.2)
  exact hc A s' K' vs Q E ro o' r fun v s2 K2 l2 o2 r2 => hq v s2 K2 (Le.trans o o' l l2) o2 r2
set_option genInjectivity false in
structure Meth (T : String) (name : Str) (id : String) : Prop where
  plain : PlainAttrs T
  slot : Slot T name id
  ty : typeOf (.builtin id) = pure (.type "method_descriptor")
noncomputable def dTy : D → Option String
  | .str _ => some "str"
  | .tstr _ _ => some "str"
  | .list _ => some "list"
  | .tuple _ => some "tuple"
  | _ => none
theorem typeOfD {K s v d T} (o : Ok S K s) (r : Rep S K v d) (h : dTy d = some T) : s.TypeIs v T ∧ ∀ a, v = .ref a → ∃ ob, s.heap.get? a = some ob ∧ ob.dict = none := by
  cases r with
  | str t _ => (replace h := Option.some.inj h; subst h); exact ⟨typeIs_str _ _ _, fun a e => by cases e⟩
  | tstr t _ _ => (replace h := Option.some.inj h; subst h); exact ⟨typeIs_str _ _ _, fun a e => by cases e⟩
  | list e hl hh => (replace h := Option.some.inj h; subst h); exact ⟨(listAt o e).typeIs, fun a e' => by cases e'; exact ⟨_, o.kn _ _ e, rfl⟩⟩
  | tuple e hl hh => (replace h := Option.some.inj h; subst h); exact ⟨⟨_, o.kn _ _ e, rfl⟩, fun a e' => by cases e'; exact ⟨_, o.kn _ _ e, rfl⟩⟩
  | _ => exact nsm h
theorem EvS.meth {ob : Expr} {name : Str} {apos pos : Pos} {args : List Expr} {T id : String} {d0 d : D} {ds : List D} (m : Meth T name id) (h0 : EvS S k cx σ ob d0) (ht : dTy d0 = some T) (h : EvL S k cx σ args ds) (hc : CalS S k (.builtin id) (d0 :: ds) d)
    (hbase : ∀ env : Env, attributeBase ob name env (eval ob env) = eval ob env := by intro _; rfl) (hn : args.length = ds.length := by rfl) (hlen : args.length < 30 := by decide) (hline : (apos.endLine == pos.line) = true := by rfl) (hp : allPlain args = true := by rfl) :
    EvS S k cx σ (.Call (.Attribute ob name apos) args [] pos) d := by
  intro A env s K Q E ro o fm hq
  have hform : ∀ {es : List Expr}, allPlain es = true → ((backTo pos (starEach es env)).all fun x => !x.1) = true := fun {es} h => by
    have := noStars (pos := pos) (env := env) h
    rw [List.any_eq_false] at this
    rw [List.all_eq_true]
    intro x hx
    simpa using this x hx
  refine wpAny_Call_method (T := T) (id := id) (hbase env) ?_ hline m.plain m.slot m.ty (h0 A env s K _ E ro o fm fun v s1 K1 l1 o1 r1 => ?_)
  · rw [hform hp]
    simp only [List.length_nil, Nat.add_zero, List.isEmpty_nil, if_true, Bool.true_and, decide_eq_true_eq, Bool.and_eq_true]
    exact ⟨rfl, hlen⟩
  refine elA (typeOfD o1 r1 ht) fun t1 t2 => ?_
  refine ⟨t1, t2, ?_⟩
  cases args with
  | nil =>
    have hd : ds = [] := List.length_eq_zero_iff.mp hn.symm
    subst hd
    exact callWith_method0 (hc A s1 K1 [v] Q E ro o1 (.cons r1 .nil) fun u s2 K2 l2 o2 r2 => hq u s2 K2 (Le.trans o o1 l1 l2) o2 r2)
  | cons e rest =>
    have hp' := hp
    simp only [allPlain, List.all_cons, Bool.and_eq_true] at hp'
    refine callWith_method1 (h A env pos s1 K1 _ E ro o1 (fm.le o l1) fun vs s' K' l o' r => ?_) (starEach_plain hp'.1 _ _) (noStars hp'.2)
    have l01 := Le.trans o o1 l1 l
    exact hc A s' K' (v :: vs) Q E ro o' (.cons (r1.mono l.ext) r) fun v s2 K2 l2 o2 r2 => hq v s2 K2 (Le.trans o o' l01 l2) o2 r2
noncomputable def parSto (names : List Str) (ds : List D) : Sto := fun x => ((names.zip ds).lookup x).map .val
theorem bindL_out {kf : Str → Option NameKind} {x : Str} : ∀ (binds : List (Str × Value)) (m : Str → Option Value), x ∉ binds.map (·.1) → bindL kf binds m x = m x
  | [], _, _ => rfl
  | (n, v) :: r, m, h => by
    rw [List.map_cons, List.mem_cons, not_or] at h
    unfold bindL
    rw [bindL_out r _ h.2]
    split
    · simp [h.1]
    · rfl
theorem bindC_out {kf : Str → Option NameKind} {x : Str} : ∀ (binds : List (Str × Value)) (m : Str → Option Value), x ∉ binds.map (·.1) → bindC kf binds m x = m x
  | [], _, _ => rfl
  | (n, v) :: r, m, h => by
    rw [List.map_cons, List.mem_cons, not_or] at h
    unfold bindC
    rw [bindC_out r _ h.2]
    split
    · rfl
    · simp [h.1]
theorem bindL_in {kf : Str → Option NameKind} {x : Str} {v : Value} (hk : kf x = some .local) : ∀ (binds : List (Str × Value)) (m : Str → Option Value), (binds.map (·.1)).Nodup → binds.lookup x = some v → bindL kf binds m x = some v
  | [], _, _, h => by exact nsm h
  | (n, u) :: r, m, hn, h => by
    rw [List.map_cons, List.nodup_cons] at hn
    rw [List.lookup_cons] at h
    unfold bindL
    cases hx : x == n with
    | true =>
      have := eq_of_beq hx
      subst this
      rw [hx] at h
      (replace h := Option.some.inj h; subst h)
      rw [bindL_out r _ hn.1, if_pos hk]
      simp
    | false =>
      rw [hx] at h
      exact bindL_in hk r _ hn.2 h
theorem bindC_in {kf : Str → Option NameKind} {x : Str} {v : Value} (hk : kf x = some .cell) : ∀ (binds : List (Str × Value)) (m : Str → Option Value), (binds.map (·.1)).Nodup → binds.lookup x = some v → bindC kf binds m x = some v
  | [], _, _, h => by exact nsm h
  | (n, u) :: r, m, hn, h => by
    rw [List.map_cons, List.nodup_cons] at hn
    rw [List.lookup_cons] at h
    unfold bindC
    cases hx : x == n with
    | true =>
      have := eq_of_beq hx
      subst this
      rw [hx] at h
      (replace h := Option.some.inj h; subst h)
      rw [bindC_out r _ hn.1, if_neg (by rw [hk]; decide)]
      simp
    | false =>
      rw [hx] at h
      exact bindC_in hk r _ hn.2 h
theorem zip_rep {S : Sys} {K : Kn} : ∀ {names : List Str} {vs : List Value} {ds : List D}, RepL S K vs ds → ∀ {x d}, (names.zip ds).lookup x = some d → ∃ v, (names.zip vs).lookup x = some v ∧ Rep S K v d
  | [], _, _, _, _, _, h => by exact nsm h
  | n :: names, vs, [], _, _, _, h => by exact nsm h
  | n :: names, vs, e :: ds, r, x, d, h => by
    (refine elEEAA r.cons_inv fun v vs' e92 rv rt => ?_; subst e92)
    rw [List.zip_cons_cons, List.lookup_cons] at h ⊢
    cases hx : x == n with
    | true => rw [hx] at h; (replace h := Option.some.inj h; subst h); exact ⟨v, rfl, rv⟩
    | false => rw [hx] at h; exact zip_rep rt h
noncomputable def fnCx (fd : FuncData) : Cx := ⟨fd.scope, fd.code, fd.scope.names.map (·.1), true, 0, fd.qualname ++ ".<locals>."⟩
noncomputable def fnOk (fd : FuncData) (names : List Str) : Bool :=
  fd.scope.kind == .function && !fd.scope.isCoroutine && !fd.scope.isGenerator && fd.closure.isEmpty && fd.globals == mainGlobals && fd.builtins == builtinsNs && nodupB (fd.scope.names.map (·.1)) && nodupB names &&
  names.all (fun n => fd.scope.names.lookup n == some .local || fd.scope.names.lookup n == some .cell) && fd.scope.names.all fun p => p.2 != .free
theorem enterFnW {a : Addr} {oc : Value} {od : Option Addr} {fd : FuncData} {sl : Array (Option Value)} {names : List Str} {body : List Stmt} {ds : List D} (ha : S.K0 a = some ⟨oc, od, .func fd, sl⟩) (hbody : fd.body = .stmts body) (hok : fnOk fd names = true)
    (hcode : ∀ h : Heap, (∀ b o, S.K0 b = some o → h.get? b = some o) → h.CodeRec fd.code fd.qualname) (hn : names.length = ds.length)
    {A : Around} {s : Shared} {K : Kn} {vs vs0 : List Value} {R : Result → Shared → Prop} (ro : Room (k + 1) A) (o : Ok S K s) (r : RepL S K vs ds) (hbind : ∀ (Q : List (Str × Value) → Shared → Prop) (E : Value → Shared → Prop), Q (names.zip vs) s → wpAny (M S) A.in1 (bindArgs fd ⟨vs0, []⟩) Q E s)
    (h : ∀ env s1 E, s.heap.get? env.locals = none → (∀ b ob, s.heap.get? b = some ob → s1.heap.get? b = some ob) → FrA S (fnCx fd) env (parSto names ds) (fun b => s.heap.get? b) K s1 K (fun _ => 0) →
      Room k (A.deeper env) → wpAny (M S) (A.deeper env) (execs body env) (fun f s2 => s.toks ≤ s2.toks → (∃ v, f = .ret v ∧ R (.ok (.ret v)) s2) ∨ (f = .next ∧ R (.ok (.ret .none)) s2)) E s1) : codeAny (M S) A (.call (.ref a) ⟨vs0, []⟩) R s := by
  unfold fnOk at hok
  simp only [Bool.and_eq_true, Bool.not_eq_true', beq_iff_eq, List.isEmpty_iff] at hok
  obtain ⟨⟨⟨⟨⟨⟨⟨⟨⟨q1, q2⟩, q3⟩, q4⟩, q5⟩, q6⟩, q7⟩, q8⟩, q9⟩, q10⟩ := hok
  have kn : ∀ b ob, S.K0 b = some ob → s.heap.get? b = some ob := fun b ob e => K0_get o e
  have kinds : ∀ x ∈ names, fd.scope.names.lookup x = some .local ∨ fd.scope.names.lookup x = some .cell := fun x hx => by
    have := List.all_eq_true.mp q9 x hx
    simpa using this
  have hvl : vs.length = names.length := by rw [r.len, hn]
  refine codeAny_with_toks (n := s.toks) (Nat.le_refl _) ?_
  refine codeAny_call_function (body := body) ro.depth (kn _ _ ha) rfl q2 q3 hbody (hcode _ kn) ?_
  rw [q4, q5, q6]
  refine hbind _ _ (wpAny_newFunctionEnv_cells q1 (fun x hx => ?_) fun env henv s' ic => ?_)
  · have hm : x.1 ∈ names := (List.of_mem_zip (show (x.1, x.2) ∈ names.zip vs from hx)).1
    rcases kinds _ hm with h9 | h9
    · exact .inl h9
    · exact .inr ⟨h9, cellsFrom_some _ _ _ (.inl h9)⟩
  have icc := ic
  obtain ⟨⟨⟨h', tk, rfl⟩, hns, hkeep, hfresh⟩, hcell, hap, habove⟩ := ic
  have nge : ∀ b, s.heap.objs.size ≤ b → s.heap.get? b = none := fun b hb => by
    cases e : s.heap.get? b with
    | none => rfl
    | some o9 => exact absurd (Heap.lt_size e) (Nat.not_lt.mpr hb)
  have hLn : s.heap.get? env.locals = none := nge _ hfresh
  have hcn : ∀ x c, (x, c) ∈ env.cells → s.heap.get? c = none := fun x c hm => nge _ (Nat.le_of_lt (Nat.lt_of_le_of_lt hfresh (habove x c hm)))
  have hsc : env.scope = fd.scope := by rw [henv]; rfl
  have hcells : env.cells = cellsFrom (s.heap.objs.size + 1) fd.scope.names [] := by rw [henv]; rfl
  have hko : ∀ y, env.kindOf y = fd.scope.names.lookup y := fun y => by unfold Env.kindOf; rw [hsc]
  have cellAt : ∀ x, fd.scope.names.lookup x = some .cell → ∃ c, env.cells.lookup x = some c := fun x hx => by
    have := cellsFrom_some fd.scope.names (s.heap.objs.size + 1) [] (.inl hx)
    rw [← hcells] at this
    exact Option.isSome_iff_exists.mp this
  have nofree : ∀ x, fd.scope.names.lookup x ≠ some .free := fun x hx => by
    have := List.all_eq_true.mp q10 _ (mem_of_lookup hx)
    simp at this
  have hnz : ((names.zip vs).map (·.1)).Nodup := by
    rw [List.map_fst_zip (by lia)]; exact nodupB_iff q8
  have o' : Ok S K { s with heap := h', toks := tk } := o.grow hkeep
  have sto : ∀ x e, parSto names ds x = some e → ∃ d v, e = .val d ∧ (names.zip vs).lookup x = some v ∧ Rep S K v d := fun x e he => by
    unfold parSto at he
    (refine elEA (Option.map_eq_some_iff.mp he) fun d hd e92 => ?_; subst e92)
    refine elEA (zip_rep r hd) fun v hv rv => ?_
    exact ⟨d, v, rfl, hv, rv⟩
  have fr : FrA S (fnCx fd) env (parSto names ds) (fun b => s.heap.get? b) K { s with heap := h', toks := tk } K (fun _ => 0) := by
    refine ⟨o', ⟨hsc, ⟨by rw [henv]; rfl, by rw [henv]; rfl⟩, q1, by rw [henv]; rfl, by rw [henv]; rfl, Nat.zero_le _, ⟨_, hns, fun x e hl he => ?_⟩, fun x hx => ?_, fun x e hx he => ?_⟩, fun b o9 e _ => hkeep b o9 e, K.le_refl, fun _ _ => rfl, ⟨hLn, o.noneK hLn⟩, fun x hw hx => ?_, fun x y c hw hx hy hcx hcy => ?_, fun _ x xs _ he => ?_, fun _ x y xs ys _ _ he => ?_⟩
    · (refine elEEAA (sto x e he) fun d v e92 hv rv => ?_; subst e92)
      exact ⟨v, bindL_in ((hko x).trans hl) _ _ hnz hv, rv⟩
    · rcases hx with hx | hx
      · refine elE (cellAt x hx) fun c hc => ?_
        exact ⟨c, _, hc, hcell x c hc⟩
      · exact absurd hx (nofree x)
    · (refine elEEAA (sto x e he) fun d v e92 hv rv => ?_; subst e92)
      rcases hx with hx | hx
      · refine elE (cellAt x hx) fun c hc => ?_
        refine ⟨c, v, hc, ?_, rv⟩
        have := hcell x c hc
        rwa [bindC_in ((hko x).trans hx) _ _ hnz hv] at this
      · exact absurd hx (nofree x)
    · refine elE (cellAt x hx) fun c hc => ?_
      exact ⟨c, _, hc, hcell x c hc, hcn x c (mem_of_lookup hc), o.noneK (hcn x c (mem_of_lookup hc))⟩
    · exact name_of_addr hap (mem_of_lookup hcx) (mem_of_lookup hcy)
    · refine elEEA (sto x _ he) fun d v e9 _ => ?_; cases e9
    · refine elEEA (sto x _ he) fun d v e9 _ => ?_; cases e9
  refine ⟨S.noLim _ fun b ob e => o'.kn _ _ (o'.base _ _ e), ?_⟩
  refine codeAny_func ?_
  refine wpAny_mono (h env { s with heap := h', toks := tk } _ hLn hkeep fr ro.deeper) (fun f s2 hq ht => ?_) fun _ _ x => x
  rcases hq ht with ⟨v, rfl, q⟩ | ⟨rfl, q⟩
  · exact q
  · exact q
theorem enterFn {a : Addr} {oc : Value} {od : Option Addr} {fd : FuncData} {sl : Array (Option Value)} {names : List Str} {body : List Stmt} {ds : List D} (ha : S.K0 a = some ⟨oc, od, .func fd, sl⟩) (hbody : fd.body = .stmts body) (hok : fnOk fd names = true)
    (hcode : ∀ h : Heap, (∀ b o, S.K0 b = some o → h.get? b = some o) → h.CodeRec fd.code fd.qualname) (hn : names.length = ds.length) (hbind : ∀ vs : List Value, vs.length = names.length → bindArgs fd ⟨vs, []⟩ = pure (names.zip vs))
    {A : Around} {s : Shared} {K : Kn} {vs : List Value} {R : Result → Shared → Prop} (ro : Room (k + 1) A) (o : Ok S K s) (r : RepL S K vs ds)
    (h : ∀ env s1 E, s.heap.get? env.locals = none → (∀ b ob, s.heap.get? b = some ob → s1.heap.get? b = some ob) → FrA S (fnCx fd) env (parSto names ds) (fun b => s.heap.get? b) K s1 K (fun _ => 0) →
      Room k (A.deeper env) → wpAny (M S) (A.deeper env) (execs body env) (fun f s2 => s.toks ≤ s2.toks → (∃ v, f = .ret v ∧ R (.ok (.ret v)) s2) ∨ (f = .next ∧ R (.ok (.ret .none)) s2)) E s1) : codeAny (M S) A (.call (.ref a) ⟨vs, []⟩) R s :=
  enterFnW ha hbody hok hcode hn ro o r (fun Q E q => by rw [hbind vs (by rw [r.len, hn])]; exact wpAny_pure q) h
theorem FnC.def {a : Addr} {oc : Value} {od : Option Addr} {fd : FuncData} {sl : Array (Option Value)} {names : List Str} {body : List Stmt} {ds : List D} {d : D} {fl : Fl} {σ' : Sto} (ha : S.K0 a = some ⟨oc, od, .func fd, sl⟩) (hbody : fd.body = .stmts body) (hok : fnOk fd names = true)
    (hcode : ∀ h : Heap, (∀ b o, S.K0 b = some o → h.get? b = some o) → h.CodeRec fd.code fd.qualname) (hn : names.length = ds.length) (hbind : ∀ vs : List Value, vs.length = names.length → bindArgs fd ⟨vs, []⟩ = pure (names.zip vs))
    (hx : ExS S k (fnCx fd) (parSto names ds) body fl σ') (hfl : fl = .ret d ∨ (fl = .next ∧ d = .none)) : FnC S (k + 1) (.ref a) ds d := by
  intro A s K vs R ro o r h
  refine enterFn ha hbody hok hcode hn hbind ro o r fun env s1 E hln hkeep f ro1 => ?_
  refine hx (A.deeper env) env _ K s1 K _ E ro1 ⟨_, f⟩ fun f s2 K2 f2 hr => ?_
  refine elE f2 fun α2 f2 => ?_
  intro ht
  have l2 : Le S s s2 K K2 := ⟨fun b ob hb e => f2.keep b ob e hb, f2.ext, fun b hb => f2.old b hb, ht⟩
  rcases hfl with rfl | ⟨rfl, rfl⟩
  · (refine elEA hr fun v e91 rv => ?_; try clear hr; subst e91)
    exact .inl ⟨v, rfl, h v s2 K2 l2 f2.ok rv⟩
  · have : f = .next := hr
    subst this
    exact .inr ⟨rfl, h .none s2 K2 l2 f2.ok .none⟩
end Mine
namespace Mine
variable {S : Sys} {k : Nat} {cx : Cx} {σ : Sto}
theorem one_inv {S : Sys} {K : Kn} {vs d} (r : RepL S K vs [d]) : ∃ v, vs = [v] ∧ Rep S K v d := by
  (refine elEEAA r.cons_inv fun v vs' e92 rv rt => ?_; subst e92)
  rw [rt.nil_inv]; exact ⟨v, rfl, rv⟩
theorem two_inv {S : Sys} {K : Kn} {vs d e} (r : RepL S K vs [d, e]) : ∃ v u, vs = [v, u] ∧ Rep S K v d ∧ Rep S K u e := by
  (refine elEEAA r.cons_inv fun v vs' e92 rv rt => ?_; subst e92)
  (refine elEA (one_inv rt) fun u e91 ru => ?_; subst e91)
  exact ⟨v, u, rfl, rv, ru⟩
theorem three_inv {S : Sys} {K : Kn} {vs d e f} (r : RepL S K vs [d, e, f]) : ∃ v u x, vs = [v, u, x] ∧ Rep S K v d ∧ Rep S K u e ∧ Rep S K x f := by
  (refine elEEAA r.cons_inv fun v vs' e92 rv rt => ?_; subst e92)
  (refine elEEAA (two_inv rt) fun u x e92 ru rx => ?_; subst e92)
  exact ⟨v, u, x, rfl, rv, ru, rx⟩
theorem CalS.lenList {ds : List D} (hl : ds.length ≤ sizeLine) : CalS S k (.builtin "len") [.list ds] (.int ds.length) := by
  intro A s K vs Q E ro o r h
  (refine elEA (one_inv r) fun v e91 rv => ?_; subst e91)
  (refine elEEEAA rv.list_inv fun a us n e93 e q => ?_; subst e93)
  rw [sizeLine_eq] at hl
  refine PyProof.Rows.len_list (listAt o e) (by simp only [List.size_toArray, q.len]; lia) ?_
  simp only [List.size_toArray, q.len]
  exact h _ _ K (Le.toks (by lia)) o.toks (.int _ _)
theorem CalS.lenStr {x : Str} (hl : x.length ≤ sizeLine) : CalS S k (.builtin "len") [.str x] (.int x.length) := by
  intro A s K vs Q E ro o r h
  (refine elEA (one_inv r) fun v e91 rv => ?_; subst e91)
  (refine elEA rv.str_inv fun t e91 _ => ?_; subst e91)
  rw [sizeLine_eq] at hl
  refine len_str (by lia) ?_
  exact h _ _ K (Le.toks (by lia)) o.toks (.int _ _)
theorem CalS.range1 {n : Int} : CalS S k (.type "range") [.int n] (.range 0 n 1) := by
  intro A s K vs Q E ro o r h
  (refine elEA (one_inv r) fun v e91 rv => ?_; subst e91)
  (refine elE rv.int_inv fun t e91 => ?_; subst e91)
  refine call_range_1 ?_
  have o1 : Ok S K { s with toks := s.toks + 1 + 1 } := o.toks
  have l1 : Le S s { s with toks := s.toks + 1 + 1 } K K := Le.toks (by lia)
  exact h _ _ _ (Le.trans o o1 l1 (Le.push o1)) (o1.push rfl) (.range (Kn.add_self ..))
theorem CalS.range2 {a b : Int} : CalS S k (.type "range") [.int a, .int b] (.range a b 1) := by
  intro A s K vs Q E ro o r h
  (refine elEEAA (two_inv r) fun v u e92 rv ru => ?_; subst e92)
  (refine elE rv.int_inv fun t e91 => ?_; subst e91)
  (refine elE ru.int_inv fun t' e91 => ?_; subst e91)
  refine call_range_2 ?_
  have o1 : Ok S K { s with toks := s.toks + 1 } := o.toks
  have l1 : Le S s { s with toks := s.toks + 1 } K K := Le.toks
  exact h _ _ _ (Le.trans o o1 l1 (Le.push o1)) (o1.push rfl) (.range (Kn.add_self ..))
theorem CalS.range3 {a b c : Int} (h0 : c ≠ 0) (hc : c.natAbs < 2 ^ 64) : CalS S k (.type "range") [.int a, .int b, .int c] (.range a b c) := by
  intro A s K vs Q E ro o r h
  (refine elEEEAAA (three_inv r) fun v u x e93 rv ru rx => ?_; subst e93)
  (refine elE rv.int_inv fun t e91 => ?_; subst e91)
  (refine elE ru.int_inv fun t' e91 => ?_; subst e91)
  (refine elE rx.int_inv fun t2 e91 => ?_; subst e91)
  exact call_range_3 h0 (h _ _ _ (Le.push o) (o.push rfl) (.range (Kn.add_self ..))) (.inl (small_div hc))
theorem strsOf {K : Kn} : ∀ {vs : List Value} {ts : List Str}, RepL S K vs (ts.map .str) → ∃ l : List (Str × Tok), vs = strValues l ∧ l.map (·.1) = ts ∧ ∀ t ∈ ts, PyData.strOk t = true
  | vs, [], r => ⟨[], r.nil_inv, rfl, fun _ h => by cases h⟩
  | vs, t :: ts, r => by
    (refine elEEAA r.cons_inv fun v vs' e92 rv rt => ?_; subst e92)
    (refine elEA rv.str_inv fun u e91 hok => ?_; subst e91)
    (refine elEAA (strsOf rt) fun l e91 h1 h2 => ?_; subst e91)
    refine ⟨(t, u) :: l, rfl, by rw [List.map_cons, h1], fun x hx => ?_⟩
    rcases List.mem_cons.mp hx with rfl | hx
    · exact hok
    · exact h2 x hx
theorem strOk_join {sep : Str} (hs : PyData.strOk sep = true) : ∀ {ts : List Str}, (∀ t ∈ ts, PyData.strOk t = true) → PyData.strOk (Str.join sep ts) = true
  | [], _ => strOk_nil
  | [t], h => h t (.head _)
  | t :: u :: ts, h => by
    show PyData.strOk (t ++ sep ++ Str.join sep (u :: ts)) = true
    exact strOk_append (strOk_append (h t (.head _)) hs) (strOk_join hs fun x hx => h x (.tail _ hx))
theorem joinEq (sep : Str) (ts : List Str) : Txt.join sep ts = Str.join sep ts := StrLaws.glued_eq_join sep ts
theorem CalS.join {x : Str} {ts : List Str} (hj : JoinOk x ts = true) : CalS S k (.builtin "str.join") [.str x, .list (ts.map .str)] (.str (Str.join x ts)) := by
  intro A s K vs Q E ro o r h
  (refine elEEAA (two_inv r) fun v u e92 rv ru => ?_; subst e92)
  (refine elEA rv.str_inv fun t e91 hx => ?_; subst e91)
  (refine elEEEAA ru.list_inv fun a us n e93 e q => ?_; subst e93)
  (refine elEAA (strsOf q) fun l e91 h1 h2 => ?_; subst e91)
  refine withTk (SC.join (listAt o e) h1 hj fun t' tk ht => ?_)
  rw [joinEq]
  exact h _ _ K (Le.toks ht) o.toks (.str _ (strOk_join hx h2))
theorem methJoin : Meth "str" "join" "str.join" := ⟨F.plainAttrs_str, F.slot_str_join, F.type_str_join⟩
end Mine
namespace Mine
variable {S : Sys} {k : Nat} {cx : Cx} {σ : Sto}
theorem intsOf {K : Kn} : ∀ {vs : List Value} {ns : List Int}, RepL S K vs (ns.map .int) → IntsAre vs ns
  | vs, [], r => by rw [r.nil_inv]; exact .nil
  | vs, n :: ns, r => by
    (refine elEEAA r.cons_inv fun v vs' e92 rv rt => ?_; subst e92)
    (refine elE rv.int_inv fun u e91 => ?_; subst e91)
    exact .cons _ _ (intsOf rt)
theorem CalS.sum {ns : List Int} : CalS S k (.builtin "sum") [.list (ns.map .int)] (.int ns.sum) := by
  intro A s K vs Q E ro o r h
  (refine elEA (one_inv r) fun v e91 rv => ?_; subst e91)
  (refine elEEEAA rv.list_inv fun a us n e93 e q => ?_; subst e93)
  have hL := listAt o e
  have hne := ne_size o e
  have hh : A.in1.handled = none := ro.1
  refine withTk (call_sum_walkG (wpAny_pyIter_list hL ⟨s.heap.objs.size, _, _, _, _, _, fun i => ns.getD i 0, rfl, Walks.list (prog := S.prog) (w := S.w) hh _ _ hne us.toArray, ⟨⟨_, Heap.get?_push_size _ rfl, rfl, rfl⟩, hL.push _⟩, ?_, ?_, ?_⟩))
  · intro b hb
    show b < (s.heap.push _).objs.size
    rw [Heap.size_push]
    simp only [List.mem_cons, List.not_mem_nil, or_false] at hb
    rcases hb with rfl | rfl
    · exact Nat.lt_succ_self _
    · exact Nat.lt_succ_of_lt (Heap.lt_size (o.kn _ _ e))
  · intro i v hv
    have hv' : us[i]? = some v := by simpa using hv
    have hi : i < us.length := (List.getElem?_eq_some_iff.mp hv').1
    have hl : us.length = ns.length := by rw [q.len, List.length_map]
    have hd : (ns.map D.int)[i]? = some (.int (ns.getD i 0)) := by
      rw [List.getElem?_map, List.getElem?_eq_getElem (by lia)]
      simp [List.getD_eq_getElem?_getD, List.getElem?_eq_getElem (show i < ns.length by lia)]
    refine elE ((q.all i v _ hv' hd).int_inv) fun t ht => ?_
    exact ⟨t, ht⟩
  · intro h' tk t' hk ht
    have hl : us.length = ns.length := by rw [q.len, List.length_map]
    have hsum : preSum (fun i => ns.getD i 0) us.toArray.size = ns.sum := by
      rw [List.size_toArray, hl, preSum_getD, List.take_length]
    rw [hsum]
    have hk' : ∀ b ob, s.heap.get? b = some ob → h'.get? b = some ob := fun b ob e' =>
      hk b ob (by simpa using Nat.ne_of_lt (Heap.lt_size e')) (Heap.get?_push_of_some _ e')
    exact h _ _ K (Le.grow hk' ht) (o.grow hk') (.int _ _)
theorem CalS.max2 {a b : Int} : CalS S k (.builtin "max") [.int a, .int b] (.int (if b > a then b else a)) := by
  intro A s K vs Q E ro o r h
  (refine elEEAA (two_inv r) fun v u e92 rv ru => ?_; subst e92)
  (refine elE rv.int_inv fun t e91 => ?_; subst e91)
  (refine elE ru.int_inv fun t' e91 => ?_; subst e91)
  refine withTk (max_two_ints ro.1 fun h' tk hk ht => ?_)
  refine h _ _ K (Le.grow hk ht) (o.grow hk) ?_
  split <;> exact .int _ _
theorem CalS.countInts {ns : List Int} {x : Int} : CalS S k (.builtin "list.count") [.list (ns.map .int), .int x] (.int (ns.count x : Nat)) := by
  intro A s K vs Q E ro o r h
  (refine elEEAA (two_inv r) fun v u e92 rv ru => ?_; subst e92)
  (refine elEEEAA rv.list_inv fun a us n e93 e q => ?_; subst e93)
  (refine elE ru.int_inv fun t' e91 => ?_; subst e91)
  exact count_list_ints (listAt o e) (intsOf q) (h _ _ K Le.toks o.toks (.int _ _))
theorem methCount : Meth "list" "count" "list.count" := ⟨F.plainAttrs_list, F.slot_list_count, F.type_list_count⟩
theorem CalS.find {x y : Str} : CalS S k (.builtin "str.find") [.str x, .str y] (.int (Txt.find x y)) := by
  intro A s K vs Q E ro o r h
  (refine elEEAA (two_inv r) fun v u e92 rv ru => ?_; subst e92)
  (refine elEA rv.str_inv fun t e91 _ => ?_; subst e91)
  (refine elEA ru.str_inv fun t' e91 _ => ?_; subst e91)
  exact SC.find (h _ _ K Le.toks o.toks (.int _ _))
theorem CalS.find3 {x y : Str} {i : Int} : CalS S k (.builtin "str.find") [.str x, .str y, .int i] (.int (Txt.find3 x y i)) := by
  intro A s K vs Q E ro o r h
  (refine elEEEAAA (three_inv r) fun v u z e93 rv ru rz => ?_; subst e93)
  (refine elEA rv.str_inv fun t e91 _ => ?_; subst e91)
  (refine elEA ru.str_inv fun t' e91 _ => ?_; subst e91)
  (refine elE rz.int_inv fun t2 e91 => ?_; subst e91)
  exact SC.find3 (h _ _ K Le.toks o.toks (.int _ _))
theorem methFind : Meth "str" "find" "str.find" := ⟨F.plainAttrs_str, F.slot_str_find, F.type_str_find⟩
theorem methReplace : Meth "str" "replace" "str.replace" := ⟨F.plainAttrs_str, F.slot_str_replace, F.type_str_replace⟩
theorem EvS.untag {e : Expr} {x : Str} {t : Tok} (h : EvS S k cx σ e (.tstr x t)) : EvS S k cx σ e (.str x) :=
  fun A env s K Q E ro o fm hq => h A env s K Q E ro o fm fun v s' K' l o' r => hq v s' K' l o' (by (refine elAA r.tstr_inv fun e90 h1 _ => ?_; subst e90); exact .str _ h1)
theorem SlcS.str {x : Str} {l u : Option Int} (hl : x.length ≤ sizeLine) : SlcS S k (.str x) l u none (.str (Txt.slice x l u)) := by
  intro A s K v1 sl vl vu vt value slice ops Q E ro o r1 hsl pl pu pt hs h
  (refine elEA r1.str_inv fun t e91 hx => ?_; subst e91)
  cases pt
  (refine elEAA hsl fun ob e1 e2 e3 => ?_; try clear hsl)
  have fin : ∀ (lo hi : Option (Int × Tok)), lo.map (·.1) = l → hi.map (·.1) = u → s.heap.IsSlice sl lo hi none → wpAny (M S) A (getItem (.str x t) (.ref sl)) Q E s := fun lo hi h1 h2 hS => by
    refine withTk (wpAny_getItem_str_slice hS rfl ?_)
    have key : (if ((1 : Int) == 1 && (Builtin.Str.strSliceIndices l u 1 x.length).length == x.length) = true then Made.val (Value.str x t) else Made.str ⟨((Builtin.Str.strSliceIndices l u 1 x.length).filterMap (x.cps[·]?)).toArray⟩).post (fun v s' => s.toks ≤ s'.toks → Q v s') s := by
      refine post_val_or_str ⟨Nat.le_trans (Txt.slice_le x l u) hl, fun t' tk ht => ?_⟩
      exact h _ _ K (Le.toks ht) o.toks (.str _ (strOk_slice hx))
    subst h1 h2
    exact key
  refine tail_any (typeIs_str _ _ _) F.slot_str_getitem.lookup ?_ hs
  cases pl with
  | none =>
    cases pu with
    | none => exact fin none none rfl rfl ⟨ob, e1, e2, e3⟩
    | int i t' => exact fin none (some (i, t')) rfl rfl ⟨ob, e1, e2, e3⟩
  | int i t' =>
    cases pu with
    | none => exact fin (some (i, t')) none rfl rfl ⟨ob, e1, e2, e3⟩
    | int j t2 => exact fin (some (i, t')) (some (j, t2)) rfl rfl ⟨ob, e1, e2, e3⟩
inductive EvF (S : Sys) (k : Nat) (cx : Cx) (σ : Sto) : List Expr → List Str → Prop
  | nil : EvF S k cx σ [] []
  | cons {e : Expr} {es : List Expr} {x : Str} {xs : List Str} (h : EvS S k cx σ e (.str x)) (r : EvF S k cx σ es xs) : EvF S k cx σ (e :: es) (x :: xs)
noncomputable def catF : Str → List Str → Str
  | acc, [] => acc
  | acc, x :: xs => catF (acc ++ x) xs
theorem catF_len : ∀ (xs : List Str) (acc : Str), acc.length ≤ (catF acc xs).length
  | [], _ => Nat.le_refl _
  | x :: xs, acc => Nat.le_trans (by rw [Str.length_append]; exact Nat.le_add_right _ _) (catF_len xs (acc ++ x))
theorem EvF.run {es xs} (f : EvF S k cx σ es xs) : ∀ {A : Around} {env s K acc} {Q : Str → Shared → Prop} {E : Value → Shared → Prop}, Room k A → Ok S K s → Fm S cx env σ s K → PyData.strOk acc = true → (catF acc xs).length ≤ sizeLine →
    (∀ s' K', Le S s s' K K' → Ok S K' s' → PyData.strOk (catF acc xs) = true → Q (catF acc xs) s') → Joins (M S) A E (evalEach es env) acc Q s := by
  induction f with
  | nil =>
    intro A env s K acc Q E ro o fm ha hl h
    exact h s K Le.refl o ha
  | cons he _ ih =>
    intro A env s K acc Q E ro o fm ha hl h
    refine he A env s K _ E ro o fm fun v s' K' l o' r => ?_
    (refine elEA r.str_inv fun t e91 hx => ?_; subst e91)
    refine ⟨_, t, rfl, Nat.le_trans (catF_len _ _) hl, ?_⟩
    exact ih ro o' (fm.le o l) (strOk_append ha hx) hl fun s2 K2 l2 o2 h2 => h s2 K2 (Le.trans o o' l l2) o2 h2
theorem EvS.fstr {e1 e2 : Expr} {es : List Expr} {pos : Pos} {xs : List Str} (f : EvF S k cx σ (e1 :: e2 :: es) xs) (hl : (catF Str.empty xs).length ≤ sizeLine) : EvS S k cx σ (.JoinedStr (e1 :: e2 :: es) pos) (.str (catF Str.empty xs)) := by
  intro A env s K Q E ro o fm h
  exact wpAny_JoinedStr (f.run ro o fm strOk_nil hl fun s' K' l o' hx => ⟨hl, h _ _ K' (Le.trans o o' l Le.toks) o'.toks (.str _ hx)⟩)
theorem EvS.fval {e : Expr} {pos : Pos} {x : Str} (h : EvS S k cx σ e (.str x)) (hl : x.length ≤ sizeLine) : EvS S k cx σ (.FormattedValue e (-1) none pos) (.str x) := by
  intro A env s K Q E ro o fm hq
  refine wpAny_FormattedValue_plain (h A env s K _ E ro o fm fun v s' K' l o' r => ?_)
  (refine elEA r.str_inv fun t e91 hx => ?_; subst e91)
  exact wpAny_formatField_str (hq _ s' K' l o' (.str _ hx)) (hq _ _ K' (Le.trans o o' l Le.toks) o'.toks (.str _ hx)) hl
end Mine
namespace Mine
namespace At
theorem slot_get : Slot "method_descriptor" "__get__" "method_descriptor.__get__" :=
  .of (owner := "method_descriptor") (n := "__get__") (by rw [typeLookup_type, builtinLookup_eq_fast]; kernel_rfl) (by decide +kernel) (by decide +kernel) (by decide +kernel)
    (by first | exact .inl (by decide +kernel) | exact .inr (by decide +kernel)) (by rw [isSubtype_type]; kernel_rfl)
theorem entry_get : entryFor table "method_descriptor.__get__" = some Builtin.«method_descriptor.__get__» := entryFor_of_tree (by kernel_rfl)
theorem args_get (a b c : Value) : argsOk "method_descriptor.__get__" ⟨[a, b, c], []⟩ := by unfold argsOk; kernel_rfl
theorem no_set : typeLookup (.type "method_descriptor") "__set__" = pure none := by rw [typeLookup_type, builtinLookup_eq_fast]; kernel_rfl
theorem no_del : typeLookup (.type "method_descriptor") "__delete__" = pure none := by rw [typeLookup_type, builtinLookup_eq_fast]; kernel_rfl
theorem sub_list : isSubtype (.type "list") (.type (".".intercalate ("list.append".cutAt '.').dropLast)) = pure true := by
  rw [show (".".intercalate ("list.append".cutAt '.').dropLast) = "list" by decide +kernel, isSubtype_type]; kernel_rfl
end At
section
variable {prog : Program} {w : World} {A : Around} {E : Value → Shared → Prop} {h : Heap} {g : Array GenState} {d : Drawn} {t : Nat} {os : OsState} {a : Addr} {vs : List Value} {n : Nat}
theorem append_get {R : Result → Shared → Prop} (hx : h.get? a = some (lst vs n)) (hq : R (.ok (.ret (.ref h.objs.size))) ⟨h.push (appObj a), g, d, t, os⟩) :
    codeAny (model prog w) A (.call (.builtin "method_descriptor.__get__") ⟨[.builtin "list.append", .ref a, .type "list"], []⟩) R ⟨h, g, d, t, os⟩ := by
  have hT : (⟨h, g, d, t, os⟩ : Shared).TypeIs (.ref a) "list" := ⟨_, hx, rfl⟩
  have hT5 : (⟨h, g, d, t, os⟩ : Shared).TypeIs (.builtin "list.append") "method_descriptor" := type_list_append
  refine codeAny_call_builtin At.slot_get.plain At.entry_get (At.slot_get.check _ _ _ _ _ _ _ _ hT5 (At.args_get _ _ _) ?_)
  have f8 := At.sub_list
  unfold Builtin.«method_descriptor.__get__»
  repeat (any_goals (first | assumption | wp_step))
theorem append_entry {tk : Tok} {Q : Fin → Shared → Prop} (hx : h.get? a = some (lst vs n)) (hq : Q (.done (.ret (.ref h.objs.size))) ⟨h.push (appObj a), g, d, t, os⟩) :
    wpAny (model prog w) A (Builtin.«object.__getattribute__» ⟨[.ref a, .str "append" tk], []⟩) Q E ⟨h, g, d, t, os⟩ := by
  have hT : (⟨h, g, d, t, os⟩ : Shared).TypeIs (.ref a) "list" := ⟨_, hx, rfl⟩
  have hT5 : (⟨h, g, d, t, os⟩ : Shared).TypeIs (.builtin "list.append") "method_descriptor" := type_list_append
  have f4 := slot_list_append.lookup
  have f5 := type_list_append
  have f6 := At.slot_get.lookup
  have f7 := At.no_set
  have f8 := At.no_del
  unfold lst at hx
  unfold Builtin.«object.__getattribute__»
  repeat (any_goals (first | assumption | wp_step))
  refine append_get hx ?_
  repeat (any_goals (first | assumption | wp_step))
theorem append_call {tk : Tok} {R : Result → Shared → Prop} (hx : h.get? a = some (lst vs n)) (hq : R (.ok (.ret (.ref h.objs.size))) ⟨h.push (appObj a), g, d, t, os⟩) :
    codeAny (model prog w) A (.call (.builtin "list.__getattribute__") ⟨[.ref a, .str "append" tk], []⟩) R ⟨h, g, d, t, os⟩ :=
  codeAny_call_builtin F.slot_list_getattribute.plain F.entry_list_ga (F.slot_list_getattribute.check _ _ _ _ _ _ _ _ (show (⟨h, g, d, t, os⟩ : Shared).TypeIs (.ref a) "list" from ⟨_, hx, rfl⟩) (F.args_list_getattribute_2 _ _) (append_entry hx hq))
theorem append_attr {Q : Value → Shared → Prop} (hx : h.get? a = some (lst vs n)) (hq : Q (.ref h.objs.size) ⟨h.push (appObj a), g, d, t + 1, os⟩) : wpAny (model prog w) A (getAttr (.ref a) "append" true) Q E ⟨h, g, d, t, os⟩ := by
  have hT : ∀ tk', (⟨h, g, d, tk', os⟩ : Shared).TypeIs (.ref a) "list" := fun _ => ⟨_, hx, rfl⟩
  have f2 := F.slot_list_getattribute.lookup
  have f3 := F.slot_list_getattribute.bind (.ref a)
  unfold lst at hx
  unfold getAttr getAttrBy
  repeat (any_goals (first | assumption | exact hT _ | wp_step))
  refine append_call (vs := vs) (n := n) hx ?_
  repeat (any_goals (first | assumption | wp_step))
end
theorem wpAny_Attribute_append {prog : Program} {w : World} {A : Around} {E : Value → Shared → Prop} {s : Shared} {env : Env} {x : Str} {p pos : Pos} {Q : Value → Shared → Prop}
    (h : wpAny (model prog w) A (eval (.Name x p) env) (fun v s' => ∃ a vs n, v = .ref a ∧ s'.heap.get? a = some (lst vs n) ∧ Q (.ref s'.heap.objs.size) { s' with heap := s'.heap.push (appObj a), toks := s'.toks + 1 }) E s) :
    wpAny (model prog w) A (eval (.Attribute (.Name x p) "append" pos) env) Q E s := by
  rw [arm_eval_Attribute]
  refine wpAny_bind (m := attributeBase _ _ _ _) (wpAny_mono h (fun v s' h' => ?_) fun _ _ e => e)
  (refine elEEEAA h' fun a vs n e93 hx hq => ?_; try clear h'; subst e93)
  obtain ⟨hp, g, d, t, os⟩ := s'
  refine wpAny_bind (wpAny_standAt (wpAny_bind (wpAny_holding (append_attr hx ?_))))
  exact wpAny_pure hq
noncomputable def lst1 (vs : List Value) (n : Nat) (x : Value) : Obj := lst (vs ++ [x]) (if ((vs.toArray).push x).size == (vs.toArray).size then n else n + 1)
theorem lst_push (vs : List Value) (n : Nat) (x : Value) : Obj.mapSeq (·.push x) (lst vs n) = lst1 vs n x := by
  unfold lst1 lst Obj.mapSeq
  simp
theorem append_tree {prog : Program} {w : World} {A : Around} {E : Value → Shared → Prop} {s : Shared} {a : Addr} {vs : List Value} {n : Nat} {x : Value} {P : Fin → Shared → Prop} (ha : s.heap.get? a = some (lst vs n)) (hl : vs.length ≤ sizeLine)
    (h : P (.done (.ret .none)) { s with heap := s.heap.update a (Obj.mapSeq (·.push x)) }) : wpAny (model prog w) A (Builtin.«list.append» ⟨[.ref a, x], []⟩) P E s := by
  show wpAny _ _ (updateSeq a (·.push x) >>= fun _ => ret .none) _ _ s
  refine wpAny_bind ?_
  exact wpAny_updateSeq ha rfl (wpAny_pure h) (by simpa using hl) (by simpa using hl)
theorem append_free {prog : Program} {w : World} {A : Around} {E : Value → Shared → Prop} {s : Shared} {a : Addr} {vs : List Value} {n : Nat} {x : Value} {Q : Value → Shared → Prop} (ha : s.heap.get? a = some (lst vs n)) (hl : vs.length ≤ sizeLine)
    (h : Q .none { s with heap := s.heap.update a (Obj.mapSeq (·.push x)) }) : wpAny (model prog w) A (call (.builtin "list.append") [.ref a, x]) Q E s :=
  wpAny_call_entry slot_list_append ⟨_, ha, rfl⟩ entry_list_append (append_tree ha hl ⟨_, rfl, h⟩) (args_list_append _ _)
noncomputable def sigA : Manifest.Signature := ⟨.oneArg, "list.append", "append", .self, [⟨"object", .posOnly, true⟩]⟩
theorem sigA_eq : Manifest.signature? "list.append" = some sigA := by kernel_rfl
theorem kindA : builtinKind "list.append" = some .method := by kernel_rfl
theorem varA : Manifest.varargsMethods.contains "list.append" = false := by decide +kernel
theorem subA : isSubtype (.type "list") (.type "module") = pure false := by rw [isSubtype_type]; kernel_rfl
theorem append_check {prog : Program} {w : World} {A : Around} {E : Value → Shared → Prop} {s : Shared} {a : Addr} {vs : List Value} {n : Nat} {x : Value} {Q : Unit → Shared → Prop} (hx : s.heap.get? a = some (lst vs n)) (h : Q () s) :
    wpAny (model prog w) A (checkBoundCall "list.append" ⟨[.ref a, x], []⟩) Q E s := by
  have hT : s.TypeIs (.ref a) "list" := ⟨_, hx, rfl⟩
  have f1 := subA
  unfold lst at hx
  unfold checkBoundCall
  simp only [sigA_eq, kindA, varA, Bool.false_or]
  repeat (any_goals (first | assumption | wp_step))
theorem append_bound {prog : Program} {w : World} {A : Around} {E : Value → Shared → Prop} {s : Shared} {q a : Addr} {vs : List Value} {n : Nat} {x : Value} {Q : Value → Shared → Prop} (hq : s.heap.get? q = some (appObj a)) (ha : s.heap.get? a = some (lst vs n)) (hl : vs.length ≤ sizeLine)
    (h : Q .none { s with heap := s.heap.update a (Obj.mapSeq (·.push x)) }) : wpAny (model prog w) A (call (.ref q) [x]) Q E s := by
  refine wpAny_call (codeAny_of_tree ?_)
  show wpAny _ A.in1 (callAny (.ref q) ⟨[x], []⟩) _ _ s
  simp only [callAny]
  refine wpAny_bind (wpAny_load hq ?_)
  simp only [appObj, show (Value.type "builtin_function_or_method" == Value.type "method" || Value.type "builtin_function_or_method" == Value.type "builtin_function_or_method" || Value.type "builtin_function_or_method" == Value.type "method-wrapper") = true by decide, if_true]
  refine KFB.if_so (by decide) ?_
  refine wpAny_bind (append_check ha ?_)
  refine wpAny_bind (wpAny_pure (wpAny_pure ?_))
  exact ⟨Code.quiet_builtin _ (by decide +kernel), codeAny_builtin entry_list_append (append_tree ha hl h)⟩
end Mine
namespace Mine
variable {S : Sys} {k : Nat} {cx : Cx} {σ : Sto}
theorem isVar_of {sc : Scope} {x : Str} (h : sc.names.lookup x = some .local ∨ sc.names.lookup x = some .cell ∨ sc.names.lookup x = some .free) (h1 : (x == ("__classdict__" : Str)) = false) (h2 : (x == ("__debug__" : Str)) = false) : isVar sc x = true := by
  unfold isVar
  rcases h with h | h | h <;> rw [h] <;> simp only [h1, h2] <;> rfl
noncomputable def Tidy (σ : Sto) : Prop := σ ("__debug__" : Str) = none ∧ σ ("__classdict__" : Str) = none
theorem Tidy.isVar {x e} (t : Tidy σ) (h : cx.sc.names.lookup x = some .local ∨ cx.sc.names.lookup x = some .cell ∨ cx.sc.names.lookup x = some .free) (he : σ x = some e) : isVar cx.sc x = true := by
  refine isVar_of h ?_ ?_
  · cases hb : x == ("__classdict__" : Str) with
    | false => rfl
    | true => rw [eq_of_beq hb, t.2] at he; exact nsm he
  · cases hb : x == ("__debug__" : Str) with
    | false => rfl
    | true => rw [eq_of_beq hb, t.1] at he; exact nsm he
theorem FrA.weak {env B K₀ s K α} {σ' : Sto} (f : FrA S cx env σ' B K₀ s K α) (hs : σ.sub σ') : FrA S cx env σ B K₀ s K α :=
  ⟨f.ok, f.fm.weak hs, f.keep, f.ext, f.old, f.locN, f.cells, f.apart, fun hf x xs hv e => f.ownN hf x xs hv (hs _ _ e), fun hf x y xs ys hv hv' e e' => f.ownI hf x y xs ys hv hv' (hs _ _ e) (hs _ _ e')⟩
theorem EntR.re {K : Kn} {h : Heap} {α α' : Str → Addr} {x e v} (ho : ∀ ys, e = .own ys → α' x = α x) (ha : ∀ z, e = .app z → α' z = α z) (r : EntR S K h α x e v) : EntR S K h α' x e v := by
  cases e with
  | val d => exact r
  | own ys => simp only [EntR] at r ⊢; rw [ho ys rfl]; exact r
  | app z => simp only [EntR] at r ⊢; rw [ha z rfl]; exact r
theorem FrA.re {env B K₀ s K α α'} (f : FrA S cx env σ B K₀ s K α) (ho : ∀ y ys, σ y = some (.own ys) → α' y = α y) (ha : ∀ y z, σ y = some (.app z) → α' z = α z) : FrA S cx env σ B K₀ s K α' := by
  refine ⟨f.ok, ⟨f.fm.scope, f.fm.code, f.fm.kind, f.fm.globals, f.fm.builtins, f.fm.tok, ?_, f.fm.cla, fun x e hx he => ?_⟩, f.keep, f.ext, f.old, f.locN, f.cells, f.apart, fun hf x xs hv e => ?_, fun hf x y xs ys hv hv' e e' q => ?_⟩
  · refine elEA f.fm.ns fun m hm h => ?_
    exact ⟨m, hm, fun x e hl he => let ⟨v, hv, r⟩ := h x e hl he; ⟨v, hv, r.re (fun ys q => ho x ys (q ▸ he)) fun z q => ha x z (q ▸ he)⟩⟩
  · refine elEEAA (f.fm.cel x e hx he) fun c v h1 h2 r => ?_
    exact ⟨c, v, h1, h2, r.re (fun ys q => ho x ys (q ▸ he)) fun z q => ha x z (q ▸ he)⟩
  · rw [ho x xs e]; exact f.ownN hf x xs hv e
  · rw [ho x xs e, ho y ys e'] at q
    exact f.ownI hf x y xs ys hv hv' e e' q
noncomputable def Sto.noApp (σ : Sto) (x : Str) : Sto := fun y => if y = x then none else match σ y with
  | some (.app z) => if z = x then none else some (.app z)
  | r => r
noncomputable def Sto.newOwn (σ : Sto) (x : Str) : Sto := (σ.noApp x).upd x (some (.own []))
theorem Sto.noApp_sub (x : Str) : (σ.noApp x).sub σ := fun y e h => by
  unfold Sto.noApp at h
  split at h
  · exact nsm h
  · split at h
    · rename_i z hz
      split at h
      · exact nsm h
      · rw [hz]; exact h
    · exact h
theorem Sto.noApp_own {x y ys} (h : σ.noApp x y = some (.own ys)) : y ≠ x ∧ σ y = some (.own ys) := by
  refine ⟨fun q => ?_, Sto.noApp_sub x y _ h⟩
  unfold Sto.noApp at h
  rw [if_pos q] at h; exact nsm h
theorem Sto.noApp_app {x y z} (h : σ.noApp x y = some (.app z)) : z ≠ x := fun q => by
  unfold Sto.noApp at h
  split at h
  · exact nsm h
  · split at h
    · split at h
      · exact nsm h
      · rename_i h9; cases h; exact h9 q
    · rename_i hne; exact hne z h
theorem Ex1.assignNew {x p lp pos} (hx : isVarW cx x = true) (hf : cx.fr = true := by rfl) : Ex1 S k cx σ (.Assign [.Name x p] (.List [] lp) pos) .next (σ.newOwn x) := by
  intro A env B K₀ s K Q E ro f hq
  refine elE f fun α f => ?_
  refine wpAny_Assign_Name (wpAny_List (wpAny_items_nil ⟨Nat.zero_le _, ?_⟩)) (swaps_no rfl _ _ _)
  have hg := get_size s.heap
  have o1 : Ok S K { s with heap := s.heap.push (lst [] 0) } := f.ok.grow (tk := s.toks) fun b x e => Heap.get?_push_of_some _ e
  have l1 : Le S s { s with heap := s.heap.push (lst [] 0) } K K := Le.grow fun b x e => Heap.get?_push_of_some _ e
  have f1 := f.le l1 o1
  have hK : K s.heap.objs.size = none := f.ok.noneK hg
  have f2 := (f1.weak (Sto.noApp_sub (σ := σ) x)).re (α' := fun y => if y = x then s.heap.objs.size else α y) (fun y ys e => if_neg (Sto.noApp_own e).1) fun y z e => if_neg (Sto.noApp_app e)
  have hself : (fun y => if y = x then s.heap.objs.size else α y) x = s.heap.objs.size := if_pos rfl
  have hat : (s.heap.push (lst [] 0)).get? s.heap.objs.size = some (lst [] 0) := Heap.get?_push_size _ rfl
  refine storeEntA (en := .own []) f2 hx ⟨by simp, by rw [hself]; exact hK, [], 0, by rw [hself]; exact hat, .nil⟩ (fun xs e => ?_) (fun xs e y ys hv hy e' q => ?_) fun s' f' => hq _ s' K ⟨_, f'⟩ rfl
  · rw [if_pos rfl]
    cases hB : B s.heap.objs.size with
    | none => rfl
    | some o9 => rw [f.keep _ _ hB (f.ok.notT hg)] at hg; exact snm hg
  · rw [if_pos rfl, if_neg hy] at q
    obtain ⟨_, vs, n, e9, _⟩ := f.fm.ownAt hv (Sto.noApp_own e').2
    rw [q, hg] at e9; exact nsm e9
theorem FrA.appended {env B K₀ s K α x xs v d} (f : FrA S cx env σ B K₀ s K α) (hx : isVar cx.sc x = true) (hf : cx.fr = true) (he : σ x = some (.own xs)) (t : Tidy σ) (r : Rep S K v d) :
    FrA S cx env (σ.upd x (some (.own (xs ++ [d])))) B K₀ { s with heap := s.heap.update (α x) (Obj.mapSeq (·.push v)) } K α := by
  obtain ⟨hK, vs, n, e, rl⟩ := f.fm.ownAt hx he
  have hB := f.ownN hf x xs hx he
  have hT : α x ∉ S.T := f.ok.notT' e fun vs => by simp [lst]
  have hs : Heap.SameBut (α x) s.heap (s.heap.update (α x) (Obj.mapSeq (·.push v))) := Heap.SameBut.update ..
  have hat : (s.heap.update (α x) (Obj.mapSeq (·.push v))).get? (α x) = some (lst1 vs n v) := by
    rw [Heap.get?_update_self _ e (by rw [lst_push]; rfl), lst_push]
  have hcell : ∀ c w, s.heap.IsCell c w → (s.heap.update (α x) (Obj.mapSeq (·.push v))).IsCell c w := fun c w y => y.sameBut hs fun q => by
    (refine elEA y fun ob e9 hd => ?_; try clear y)
    rw [q, e] at e9; (replace e9 := Option.some.inj e9; subst e9); cases hd
  have hent : ∀ y en u, (cx.sc.names.lookup y = some .local ∨ cx.sc.names.lookup y = some .cell ∨ cx.sc.names.lookup y = some .free) → σ y = some en → y ≠ x → EntR S K s.heap α y en u → EntR S K (s.heap.update (α x) (Obj.mapSeq (·.push v))) α y en u := fun y en u hl hy hne ru => by
    cases en with
    | val d => exact ru
    | app z => exact ru
    | own ys =>
      obtain ⟨rfl, hn, us, m, e9, q⟩ := ru
      refine ⟨rfl, hn, us, m, (hs.2 _ fun z => hne ?_).trans e9, q⟩
      exact f.ownI hf y x ys xs (t.isVar hl hy) hx hy he z
  have hxe : ∀ u, EntR S K s.heap α x (.own xs) u → EntR S K (s.heap.update (α x) (Obj.mapSeq (·.push v))) α x (.own (xs ++ [d])) u := fun u ru => by
    (refine elA ru fun e90 _ => ?_; try clear ru; subst e90)
    exact ⟨rfl, hK, _, _, hat, rl.append (.cons r .nil)⟩
  refine f.stored' (tk := s.toks) hK hB hT hs (fun c w y => ⟨w, hcell c w y⟩) ⟨f.fm.scope, f.fm.code, f.fm.kind, f.fm.globals, f.fm.builtins, f.fm.tok, ?_, fun y hy => let ⟨c, w, h1, h2⟩ := f.fm.cla y hy; ⟨c, w, h1, hcell c w h2⟩, fun y en hy hey => ?_⟩ (fun hf y ys hv ey => ?_) (fun hf y z ys zs hv hv' ey ez q => ?_)
  · refine elEA f.fm.ns fun m hm h => ?_
    refine ⟨m, hm.sameBut hs fun q => ?_, fun y en hl hey => ?_⟩
    · (refine elEEEAA hm fun o' es ep e' hd' _ => ?_; try clear hm)
      rw [q, e] at e'; (replace e' := Option.some.inj e'; subst e'); cases hd'
    · by_cases hyx : y = x
      · subst hyx
        rw [Sto.upd_self] at hey; (replace hey := Option.some.inj hey; subst hey)
        refine elEA (h y _ hl he) fun u hu ru => ?_
        exact ⟨u, hu, hxe u ru⟩
      · rw [Sto.upd_ne _ _ hyx] at hey
        refine elEA (h y _ hl hey) fun u hu ru => ?_
        exact ⟨u, hu, hent y en u (.inl hl) hey hyx ru⟩
  · by_cases hyx : y = x
    · subst hyx
      rw [Sto.upd_self] at hey; (replace hey := Option.some.inj hey; subst hey)
      refine elEEAA (f.fm.cel y _ hy he) fun c u h1 h2 ru => ?_
      exact ⟨c, u, h1, hcell c _ h2, hxe u ru⟩
    · rw [Sto.upd_ne _ _ hyx] at hey
      refine elEEAA (f.fm.cel y en hy hey) fun c u h1 h2 ru => ?_
      exact ⟨c, u, h1, hcell c _ h2, hent y en u (.inr hy) hey hyx ru⟩
  · by_cases hyx : y = x
    · subst hyx; exact hB
    · rw [Sto.upd_ne _ _ hyx] at ey; exact f.ownN hf y ys hv ey
  · by_cases hyx : y = x
    · by_cases hzx : z = x
      · exact hyx.trans hzx.symm
      · rw [Sto.upd_ne _ _ hzx] at ez
        rw [hyx] at q
        exact hyx.trans (f.ownI hf x z xs zs hx hv' he ez q)
    · rw [Sto.upd_ne _ _ hyx] at ey
      by_cases hzx : z = x
      · rw [hzx] at q
        exact (f.ownI hf y x ys xs hv hx ey he q).trans hzx.symm
      · rw [Sto.upd_ne _ _ hzx] at ez
        exact f.ownI hf y z ys zs hv hv' ey ez q
theorem Ex1.append {x : Str} {p apos cpos epos : Pos} {e : Expr} {xs : List D} {d : D} (he : σ x = some (.own xs)) (hx : isVar cx.sc x = true) (h : EvS S k cx σ e d) (hl : xs.length ≤ sizeLine) (t : Tidy σ := by exact ⟨rfl, rfl⟩) (hf : cx.fr = true := by rfl) (hp : Plain e = true := by rfl)
    (hline : (apos.endLine == cpos.line) = true := by rfl) : Ex1 S k cx σ (.Expr (.Call (.Attribute (.Name x p) "append" apos) [e] [] cpos) epos) .next (σ.upd x (some (.own (xs ++ [d])))) := by
  intro A env B K₀ s K Q E ro f hq
  refine elE f fun α f => ?_
  have hkind : env.scope.kind = .function := by rw [f.fm.scope]; exact f.fm.kind
  have htrees : backTo cpos (starEach [e] env) = [(false, eval e env)] := by rw [starEach_plain hp]; rfl
  refine wpAny_Expr_any (wpAny_Call_append rfl (by rw [htrees]; rfl) hline htrees ?_) (by unfold interactive; rw [hkind]; rfl) rfl
  refine elAA (isVar_or hx) fun h1 h3 h4 => ?_
  refine wpAny_Name (loadEnt f.fm h1 he (fun v ev => ?_) h3) h4
  obtain ⟨rfl, hn, vs, n, ea, rl⟩ := ev
  refine ⟨α x, vs.toArray, rfl, ⟨_, n, ea, rfl, rfl, rfl⟩, ?_⟩
  refine h A env s K _ E ro f.ok f.fmI fun v s' K' l o' r => ?_
  have f' := f.le l o'
  have e2 := l.keep _ _ (f.ok.notT' ea fun vs => by simp [lst]) ea
  refine append_free e2 (by rw [rl.len]; exact hl) ?_
  exact hq _ _ K' ⟨α, f'.appended hx hf he t r⟩ rfl
theorem callWith_app {M : Model} {A : Around} {E : Value → Shared → Prop} {s : Shared} {pos : Pos} {u a : Addr} {first : List Value} {args : List (Bool × Sem Value)} {Q : Value → Shared → Prop} (hplain : args.any (·.1) = false)
    (h : wpAny M A (evalArgs (.ref u) true args []) (fun x s₁ => s₁.heap.get? u = some (appObj a) ∧ wpAny M A (call (.ref u) (first ++ x.pos) x.kw) Q E s₁) E s) : wpAny M A (callWith pos (.ref u) first args []) Q E s := by
  unfold callWith
  refine wpAny_bind (wpAny_holding (wpAny_mono h (fun x s₁ h₁ => wpAny_bind (wpAny_standAt ?_)) fun _ _ x => x))
  (refine elA h₁ fun ho hcall => ?_; try clear h₁)
  simp only [hplain, List.any_nil, Bool.or_false]
  refine wpAny_bind (m := keeperOf (.ref u)) ?_
  unfold keeperOf
  refine wpAny_bind (wpAny_load ho ?_)
  simp only [appObj, show (Value.type "builtin_function_or_method" != Value.type "method") = true by decide, show (Value.type "builtin_function_or_method" == Value.type "builtin_function_or_method" || Value.type "builtin_function_or_method" == Value.type "method-wrapper") = true by decide, if_true]
  refine wpAny_pure ?_
  exact wpAny_bind (wpAny_mono hcall (fun r s₂ hr => wpAny_bind (wpAny_holding (wpAny_point (wpAny_pure hr)))) fun _ _ x => x)
theorem Ex1.appendBy {x y : Str} {np cpos epos : Pos} {e : Expr} {xs : List D} {d : D} (hy : σ y = some (.app x)) (hyv : isVar cx.sc y = true) (he : σ x = some (.own xs)) (hx : isVar cx.sc x = true) (h : EvS S k cx σ e d) (hl : xs.length ≤ sizeLine) (t : Tidy σ := by exact ⟨rfl, rfl⟩)
    (hf : cx.fr = true := by rfl) (hp : Plain e = true := by rfl) (hs : ∀ env, swapsWith (.Call (.Name y np) [e] [] cpos) none epos.line env = pure false := by intro _; rfl) :
    Ex1 S k cx σ (.Expr (.Call (.Name y np) [e] [] cpos) epos) .next (σ.upd x (some (.own (xs ++ [d])))) := by
  intro A env B K₀ s K Q E ro f hq
  refine elE f fun α f => ?_
  have hkind : env.scope.kind = .function := by rw [f.fm.scope]; exact f.fm.kind
  have htrees : backTo cpos (starEach [e] env) = [(false, eval e env)] := by rw [starEach_plain hp]; rfl
  refine elAA (isVar_or hyv) fun h1 h3 h4 => ?_
  refine wpAny_Expr_any (wpAny_Call_ofName (wpAny_Name (loadEnt f.fm h1 hy (fun v ev => ?_) h3) h4)) (by unfold interactive; rw [hkind]; rfl) (hs env)
  (refine elEA ev fun q e91 eq => ?_; try clear ev; subst e91)
  rw [htrees]
  refine callWith_app (a := α x) rfl (Calls.evalArgs_plain (Calls.spliced_cons ?_))
  refine h A env s K _ E ro f.ok f.fmI fun v s' K' l o' r => Calls.spliced_nil ?_
  have f' := f.le l o'
  have e1 : s'.heap.get? q = some (appObj (α x)) := o'.kn _ _ (l.ext _ _ eq)
  refine ⟨e1, ?_⟩
  obtain ⟨hK, vs, n, ea, rl⟩ := f'.fm.ownAt hx he
  refine append_bound e1 ea (by rw [rl.len]; exact hl) ?_
  exact hq _ _ K' ⟨α, f'.appended hx hf he t r⟩ rfl
theorem Ex1.assignApp {x y : Str} {np p ap pos : Pos} {xs : List D} (hy : isVarW cx y = true) (he : σ x = some (.own xs)) (hx : isVar cx.sc x = true) :
    Ex1 S k cx σ (.Assign [.Name y np] (.Attribute (.Name x p) "append" ap) pos) .next (σ.upd y (some (.app x))) := by
  intro A env B K₀ s K Q E ro f hq
  refine elE f fun α f => ?_
  refine elAA (isVar_or hx) fun h1 h3 h4 => ?_
  refine wpAny_Assign_Name (wpAny_Attribute_append (wpAny_Name (loadEnt f.fm h1 he (fun v ev => ?_) h3) h4)) (swaps_no rfl _ _ _)
  obtain ⟨rfl, hn, vs, n, ea, rl⟩ := ev
  refine ⟨α x, vs, n, rfl, ea, ?_⟩
  have l1 := Le.push (ob := appObj (α x)) f.ok
  have o1 := f.ok.push (ob := appObj (α x)) rfl
  have f1 := (f.le l1 o1).le (s' := { heap := s.heap.push (appObj (α x)), gens := s.gens, drawn := s.drawn, toks := s.toks + 1, os := s.os }) (Le.toks (Nat.le_succ _)) o1.toks
  exact storeEntA (en := .app x) f1 hy ⟨_, rfl, Kn.add_self ..⟩ (fun xs e => by cases e) (fun xs e => by cases e) fun s' f' => hq _ s' _ ⟨_, f'⟩ rfl
theorem FrA.freeze {env B K₀ s K α x xs} (f : FrA S cx env σ B K₀ s K α) (hx : isVar cx.sc x = true) (hf : cx.fr = true) (he : σ x = some (.own xs)) (t : Tidy σ) : ∃ K', FrA S cx env (σ.upd x (some (.val (.list xs)))) B K₀ s K' α := by
  obtain ⟨hK, vs, n, e, rl⟩ := f.fm.ownAt hx he
  have hB := f.ownN hf x xs hx he
  have hT : α x ∉ S.T := f.ok.notT' e fun vs => by simp [lst]
  have hle : K.le (K.add (α x) (lst vs n)) := Kn.le_add hK
  have hent : ∀ y en u, (cx.sc.names.lookup y = some .local ∨ cx.sc.names.lookup y = some .cell ∨ cx.sc.names.lookup y = some .free) → σ y = some en → y ≠ x → EntR S K s.heap α y en u → EntR S (K.add (α x) (lst vs n)) s.heap α y en u := fun y en u hl hy hne ru => by
    cases en with
    | val d => exact Rep.mono hle ru
    | app z => (refine elEA ru fun q e91 e9 => ?_; try clear ru; subst e91); exact ⟨q, rfl, hle _ _ e9⟩
    | own ys =>
      obtain ⟨rfl, hn, us, m, e9, q⟩ := ru
      refine ⟨rfl, ?_, us, m, e9, q.mono hle⟩
      rw [Kn.add_ne fun z => hne (f.ownI hf y x ys xs (t.isVar hl hy) hx hy he z)]
      exact hn
  have hxe : ∀ u, EntR S K s.heap α x (.own xs) u → EntR S (K.add (α x) (lst vs n)) s.heap α x (.val (.list xs)) u := fun u ru => by
    (refine elA ru fun e90 _ => ?_; try clear ru; subst e90)
    exact Rep.list' (Kn.add_self ..) (rl.mono hle)
  refine ⟨K.add (α x) (lst vs n), f.ok.freeze e hK hT, ⟨f.fm.scope, f.fm.code, f.fm.kind, f.fm.globals, f.fm.builtins, f.fm.tok, ?_, f.fm.cla, fun y en hy hey => ?_⟩, f.keep, Kn.le_trans f.ext hle, fun a ha => ?_, ⟨f.locN.1, ?_⟩, fun y hw hy => ?_, f.apart, fun hf y ys hv ey => ?_, fun hf y z ys zs hv hv' ey ez q => ?_⟩
  · refine elEA f.fm.ns fun m hm h => ?_
    refine ⟨m, hm, fun y en hl hey => ?_⟩
    by_cases hyx : y = x
    · subst hyx
      rw [Sto.upd_self] at hey; (replace hey := Option.some.inj hey; subst hey)
      refine elEA (h y _ hl he) fun u hu ru => ?_
      exact ⟨u, hu, hxe u ru⟩
    · rw [Sto.upd_ne _ _ hyx] at hey
      refine elEA (h y _ hl hey) fun u hu ru => ?_
      exact ⟨u, hu, hent y en u (.inl hl) hey hyx ru⟩
  · by_cases hyx : y = x
    · subst hyx
      rw [Sto.upd_self] at hey; (replace hey := Option.some.inj hey; subst hey)
      refine elEEAA (f.fm.cel y _ hy he) fun c u h1 h2 ru => ?_
      exact ⟨c, u, h1, h2, hxe u ru⟩
    · rw [Sto.upd_ne _ _ hyx] at hey
      refine elEEAA (f.fm.cel y en hy hey) fun c u h1 h2 ru => ?_
      exact ⟨c, u, h1, h2, hent y en u (.inr hy) hey hyx ru⟩
  · rw [Kn.add_ne fun q => ha (by rw [q]; exact hB)]
    exact f.old a ha
  · rw [Kn.add_ne fun q => ?_]
    · exact f.locN.2
    · obtain ⟨m, ⟨o', es, ep, e', hd', _⟩, _⟩ := f.fm.ns
      rw [q, e] at e'; (replace e' := Option.some.inj e'; subst e'); cases hd'
  · refine elEEAAA (f.cells y hw hy) fun c v hc hv h1 h2 => ?_
    refine ⟨c, v, hc, hv, h1, ?_⟩
    rw [Kn.add_ne fun q => ?_]
    · exact h2
    · (refine elEA hv fun o' e' hd' => ?_; try clear hv)
      rw [q, e] at e'; (replace e' := Option.some.inj e'; subst e'); cases hd'
  · by_cases hyx : y = x
    · subst hyx; exact hB
    · rw [Sto.upd_ne _ _ hyx] at ey; exact f.ownN hf y ys hv ey
  · have ey' : y ≠ x := fun q => by rw [q, Sto.upd_self] at ey; cases ey
    have ez' : z ≠ x := fun q => by rw [q, Sto.upd_self] at ez; cases ez
    rw [Sto.upd_ne _ _ ey'] at ey
    rw [Sto.upd_ne _ _ ez'] at ez
    exact f.ownI hf y z ys zs hv hv' ey ez q
theorem EvT.own {x : Str} {p : Pos} {xs : List D} (he : σ x = some (.own xs)) (hx : isVar cx.sc x = true) (hl : xs.length ≤ sizeLine) : EvT S k cx σ (.Name x p) (!xs.isEmpty) := by
  intro A env s K Q E ro o fm hq
  have fm' := fm
  (refine elE fm' fun α fa => ?_; try clear fm')
  refine elAA (isVar_or hx) fun h1 h3 h4 => ?_
  refine wpAny_isTrue_value (wpAny_Name (loadEnt fa h1 he (fun v ev => ?_) h3) h4)
  obtain ⟨rfl, hn, vs, n, e, rl⟩ := ev
  have hs : vs.toArray.isEmpty = xs.isEmpty := by
    have := rl.len
    cases vs <;> cases xs <;> simp_all
  rw [sizeLine_eq] at hl
  refine wpAny_truthy_list ⟨_, e, rfl, n, rfl⟩ (by simp only [List.size_toArray, rl.len]; lia) ?_
  rw [hs]
  exact hq _ K (Le.toks (by lia)) o.toks
end Mine
namespace Mine
variable {S : Sys} {k : Nat} {cx : Cx} {σ : Sto}
noncomputable def ExP (S : Sys) (k : Nat) (cx : Cx) (σ : Sto) (sts : List Stmt) (P : Fl → Sto → Prop) : Prop :=
  ∀ (A : Around) (env : Env) (B : Kn) (K₀ : Kn) (s : Shared) (K : Kn) (Q : Flow → Shared → Prop) (E : Value → Shared → Prop), Room k A → FrI S cx env σ B K₀ s K →
    (∀ f fl σ' s' K', P fl σ' → FrI S cx env σ' B K₀ s' K' → FlR S K' f fl → Q f s') → wpAny (M S) A (execs sts env) Q E s
noncomputable def Go (S : Sys) (k : Nat) (cx : Cx) (rest : List Stmt) (P : Fl → Sto → Prop) (fl : Fl) (σ' : Sto) : Prop :=
  match fl with
  | .next => ExP S k cx σ' rest P
  | f => P f σ'
theorem ExP.nil {P} (h : P .next σ) : ExP S k cx σ [] P := fun _ _ _ _ s K _ _ _ f q => wpAny_execs_nil (q _ _ _ s K h f rfl)
theorem ExP.cons {st : Stmt} {rest : List Stmt} {P} (h : ∀ (A : Around) (env : Env) (B : Kn) (K₀ : Kn) (s : Shared) (K : Kn) (Q : Flow → Shared → Prop) (E : Value → Shared → Prop), Room k A → FrI S cx env σ B K₀ s K →
    (∀ f fl σ' s' K', Go S k cx rest P fl σ' → FrI S cx env σ' B K₀ s' K' → FlR S K' f fl → Q f s') → wpAny (M S) A (exec st env) Q E s) : ExP S k cx σ (st :: rest) P := by
  intro A env B K₀ s K Q E ro f hq
  refine execsC (h A env B K₀ s K _ E ro f fun fl' fl σ' s' K' hg f' r => ?_)
  cases fl with
  | next => subst r; exact hg A env B K₀ s' K' Q E ro f' hq
  | brk => subst r; exact hq _ _ _ s' K' hg f' rfl
  | cont => subst r; exact hq _ _ _ s' K' hg f' rfl
  | ret d => obtain ⟨v, rfl, r⟩ := r; exact hq _ _ _ s' K' hg f' ⟨v, rfl, r⟩
theorem ExP.next {st : Stmt} {rest : List Stmt} {P} {σ₁ : Sto} (h : Ex1 S k cx σ st .next σ₁) (g : ExP S k cx σ₁ rest P) : ExP S k cx σ (st :: rest) P :=
  ExP.cons fun A env B K₀ s K Q E ro f hq => h A env B K₀ s K Q E ro f fun fl' s' K' f' r => hq fl' .next σ₁ s' K' g f' r
theorem ExP.ret {e : Expr} {pos : Pos} {rest : List Stmt} {P} {d : D} (h : EvS S k cx σ e d) (g : P (.ret d) σ) : ExP S k cx σ (.Return (some e) pos :: rest) P :=
  ExP.cons fun A env B K₀ s K Q E ro f hq => Ex1.ret h A env B K₀ s K Q E ro f fun fl' s' K' f' r => hq fl' (.ret d) σ s' K' g f' r
theorem ExP.brk {pos : Pos} {rest : List Stmt} {P} (g : P .brk σ) : ExP S k cx σ (.Break pos :: rest) P :=
  ExP.cons fun A env B K₀ s K Q E ro f hq => Ex1.brk A env B K₀ s K Q E ro f fun fl' s' K' f' r => hq fl' .brk σ s' K' g f' r
theorem ExP.ite {t : Expr} {b e : List Stmt} {pos : Pos} {rest : List Stmt} {P} {c : Bool} (h : EvT S k cx σ t c) (ht : c = true → ExP S k cx σ b (Go S k cx rest P)) (hf : c = false → ExP S k cx σ e (Go S k cx rest P)) : ExP S k cx σ (.If t b e pos :: rest) P := by
  refine ExP.cons fun A env B K₀ s K Q E ro f hq => ?_
  refine wpAny_If (h A env s K _ E ro f.ok f.fm fun s' K' l o' => ?_)
  have f' := f.le l o'
  cases c with
  | true => exact ht rfl A env B K₀ s' K' Q E ro f' hq
  | false => exact hf rfl A env B K₀ s' K' Q E ro f' hq
theorem ExP.case {sts : List Stmt} {P} (c : Bool) (ht : c = true → ExP S k cx σ sts P) (hf : c = false → ExP S k cx σ sts P) : ExP S k cx σ sts P := by
  cases c with
  | true => exact ht rfl
  | false => exact hf rfl
theorem ExP.freeze {x : Str} {xs : List D} {sts P} (he : σ x = some (.own xs)) (hx : isVar cx.sc x = true) (h : ExP S k cx (σ.upd x (some (.val (.list xs)))) sts P) (t : Tidy σ := by exact ⟨rfl, rfl⟩) (hf : cx.fr = true := by rfl) : ExP S k cx σ sts P := by
  intro A env B K₀ s K Q E ro f hq
  refine elE f fun α f => ?_
  refine elE (f.freeze hx hf he t) fun K' f' => ?_
  exact h A env B K₀ s K' Q E ro ⟨α, f'⟩ hq
theorem ExP.weak {σ₀ : Sto} {sts P} (h : ExP S k cx σ₀ sts P) (hs : σ₀.sub σ) : ExP S k cx σ sts P :=
  fun A env B K₀ s K Q E ro f hq => h A env B K₀ s K Q E ro (f.weak hs) hq
theorem ExP.mono {sts : List Stmt} {P P' : Fl → Sto → Prop} (h : ExP S k cx σ sts P) (hp : ∀ fl σ', P fl σ' → P' fl σ') : ExP S k cx σ sts P' :=
  fun A env B K₀ s K Q E ro f hq => h A env B K₀ s K Q E ro f fun f' fl σ' s' K' p => hq f' fl σ' s' K' (hp _ _ p)
theorem ExP.toS {sts : List Stmt} {fl : Fl} {σ₁ : Sto} (h : ExP S k cx σ sts fun f s => f = fl ∧ σ₁.sub s) : ExS S k cx σ sts fl σ₁ :=
  fun A env B K₀ s K Q E ro f hq => h A env B K₀ s K Q E ro f fun f' fl' σ' s' K' p fr r => by
    (refine elA p fun e90 hs => ?_; try clear p; subst e90)
    exact hq f' s' K' (fr.weak hs) r
theorem Go.next {rest : List Stmt} {P} (h : ExP S k cx σ rest P) : Go S k cx rest P .next σ := h
theorem Go.brk {rest : List Stmt} {P : Fl → Sto → Prop} (h : P .brk σ) : Go S k cx rest P .brk σ := h
theorem Go.ret {rest : List Stmt} {P : Fl → Sto → Prop} {d : D} (h : P (.ret d) σ) : Go S k cx rest P (.ret d) σ := h
theorem Sto.sub_refl : σ.sub σ := fun _ _ e => e
noncomputable abbrev WhP (S : Sys) (k : Nat) (cx : Cx) (nx : Sto → Prop) (rest : List Stmt) (P : Fl → Sto → Prop) (fl : Fl) (σ' : Sto) : Prop := match fl with
  | .next => nx σ'
  | .brk => ExP S k cx σ' rest P
  | .cont => nx σ'
  | .ret d => P (.ret d) σ'
noncomputable abbrev WhN {ι : Type} (m : ι → Nat) (st : ι → Sto) (i : ι) (σ' : Sto) : Prop := ∃ j, m j < m i ∧ (st j).sub σ'
theorem ExP.while {t : Expr} {body rest : List Stmt} {pos : Pos} {P} {ι : Type} (m : ι → Nat) (st : ι → Sto) (i : ι)
    (h : ∀ i, ∃ c, EvT S k cx (st i) t c ∧ (c = false → ExP S k cx (st i) rest P) ∧ (c = true → ExP S k cx (st i) body (WhP S k cx (WhN m st i) rest P))) (hs : (st i).sub σ) : ExP S k cx σ (.While t body [] pos :: rest) P := by
  refine ExP.cons fun A env B K₀ s K Q E ro f hq => ?_
  refine wpAny_While ?_
  refine codeAny_whileLoop (fun n s' => ∃ (i : ι) (Kᵢ : Kn), m i ≤ n ∧ FrI S cx env (st i) B K₀ s' Kᵢ) ?_ (m i) ⟨i, K, Nat.le_refl _, f.weak hs⟩
  rintro n s2 ⟨i, Kᵢ, hm, f2⟩
  refine elEAA (h i) fun c hc h0 h1 => ?_
  refine hc A env s2 Kᵢ _ _ ro f2.ok f2.fm fun s3 K3 l3 o3 => ?_
  have f3 := f2.le l3 o3
  cases c with
  | false => exact wpAny_execs_nil (hq _ .next _ _ K3 (h0 rfl) f3 rfl)
  | true =>
    refine h1 rfl A env B K₀ s3 K3 _ _ ro f3 fun fl' fl σ' s4 K4 hp f4 hfl => ?_
    cases fl with
    | next =>
      subst hfl
      (refine elEA hp fun j hj hjs => ?_; try clear hp)
      exact ⟨_, Nat.lt_of_lt_of_le hj hm, j, K4, Nat.le_refl _, f4.weak hjs⟩
    | brk => subst hfl; exact hq _ .next _ _ K4 hp f4 rfl
    | cont =>
      subst hfl
      (refine elEA hp fun j hj hjs => ?_; try clear hp)
      exact ⟨_, Nat.lt_of_lt_of_le hj hm, j, K4, Nat.le_refl _, f4.weak hjs⟩
    | ret d => (refine elEA hfl fun v e91 r => ?_; try clear hfl; subst e91); exact hq _ (.ret d) _ _ K4 hp f4 ⟨v, rfl, r⟩
theorem forCore {A : Around} {env : Env} {B K₀ K : Kn} {s : Shared} {t : Expr} {body rest : List Stmt} {ds : List D} {P : Fl → Sto → Prop} {I : Addr} {fp : List Addr} {Pv : Nat → Value → Prop} {St : Nat → Heap → Prop} {i0 : Nat} {Q : Flow → Shared → Prop} {E : Value → Shared → Prop}
    (st9 : Nat → Sto) {J : Nat → Prop} {nx : Nat → Sto → Prop} (hJ : J i0) (hn9 : ∀ i σ', nx i σ' → J (i + 1) ∧ (st9 (i + 1)).sub σ') (ro : Room k A) (f : FrI S cx env (st9 i0) B K₀ s K) (it : Itr S K I fp Pv St ds) (st : St i0 s.heap) (hK : K I = none) (hB : B I = none) (hT : I ∉ S.T) (hi0 : i0 ≤ ds.length)
    (hb9 : ∀ i e, i0 ≤ i → J i → ds[i]? = some e → ∃ b, BindS S k cx t e (st9 i) b ∧ ExP S k cx b body (WhP S k cx (nx i) rest P)) (hend : J ds.length → ExP S k cx (st9 ds.length) rest P)
    (hq : ∀ f' fl σ' s' K', Go S k cx rest P fl σ' → FrI S cx env σ' B K₀ s' K' → FlR S K' f' fl → Q f' s') : codeAny (M S) A (.forLoop t (.ref I) body [] env) (fwP (M S) A env E Q) s := by
  have isF : ∀ {j h'}, St j h' → IsF h' I := fun st => let ⟨o, vs, _, e, hd, _⟩ := it.alive _ _ st; ⟨o, vs, e, hd⟩
  refine forLoopL (E9 := E) (fun n s' => ∃ (Kᵢ : Kn) (i : Nat), J i ∧ i0 ≤ i ∧ i ≤ ds.length ∧ n = ds.length - i ∧ FrI S cx env (st9 i) B K₀ s' Kᵢ ∧ St i s'.heap ∧ K.le Kᵢ ∧ Kᵢ I = none) ?_ (ds.length - i0)
    ⟨K, i0, hJ, Nat.le_refl _, hi0, rfl, f, st, K.le_refl, hK⟩
  rintro n s2 ⟨Kᵢ, i, hji, hi9, hi', rfl, f2, st2, hle, hKi⟩
  by_cases hlt : i < ds.length
  · refine withTk ((it.walks A ro.1).item i s2 _ _ hlt st2 fun v h3 tk3 hP st3 hk3 ht3 => ?_)
    have hk3' : ∀ b ob, b ≠ I → s2.heap.get? b = some ob → h3.get? b = some ob := fun b ob hb e => hk3 b ob (by simpa using hb) e
    have f3 := f2.ext1 (h' := h3) (tk := tk3) (isF st2) hKi hT hB ht3 hk3'
    refine elEA (it.items i v hlt hP) fun d' hd' rd => ?_
    have rd' := rd.mono hle
    refine ownedGo (it.alive _ _ st3) ?_
    refine elEEA (isF st3) fun o3 vs3 e3 hd3 => ?_
    have f3w := f3.watch e3 hd3
    refine elE f3w fun α3 f3w => ?_
    have keepSt : ∀ {s' K'} {σ9 : Sto}, FrI S cx env σ9 (B.add I o3) Kᵢ s' K' → St (i + 1) s'.heap := fun f9 => by
      refine (it.walks A ro.1).frame (i + 1) _ _ st3 fun b hb o e => ?_
      refine elE f9 fun α f9 => ?_
      rcases it.fpK b hb with rfl | ⟨o', ho'⟩
      · rw [e3] at e; (replace e := Option.some.inj e; subst e)
        exact f9.keep b o3 (Kn.add_self ..) hT
      · have e' := f3.ok.kn b o' (hle b o' ho')
        have : o' = o := Option.some.inj (e'.symm.trans e)
        subst this
        exact f9.ok.kn b o' (f9.ext b o' (hle b o' ho'))
    have noneI : ∀ {s' K'} {σ9 : Sto}, FrI S cx env σ9 (B.add I o3) Kᵢ s' K' → K' I = none ∧ Kᵢ.le K' := fun f9 => by
      refine elE f9 fun α f9 => ?_
      exact ⟨(f9.old I (by rw [Kn.add_self]; simp)).trans hKi, f9.ext⟩
    refine elEA (hb9 i d' hi9 hji hd') fun b9 hb hx => ?_
    refine hb A env _ Kᵢ _ Kᵢ v α3 _ _ ro f3w rd' fun s4 f4 => ?_
    refine hx A env _ Kᵢ s4 Kᵢ _ _ ro ⟨α3, f4⟩ fun fl' fl σ5 s5 K5 hp f5 hfl => ?_
    refine elA (noneI f5) fun n1 n2 => ?_
    cases fl with
    | next =>
      subst hfl
      exact ⟨_, by lia, K5, i + 1, (hn9 _ _ hp).1, Nat.le_succ_of_le hi9, hlt, rfl, FrI.unwatch f3 (f5.weak (hn9 _ _ hp).2) hB, keepSt f5, Kn.le_trans hle n2, n1⟩
    | cont =>
      subst hfl
      exact ⟨_, by lia, K5, i + 1, (hn9 _ _ hp).1, Nat.le_succ_of_le hi9, hlt, rfl, FrI.unwatch f3 (f5.weak (hn9 _ _ hp).2) hB, keepSt f5, Kn.le_trans hle n2, n1⟩
    | brk => subst hfl; exact hq _ .next _ s5 K5 hp (FrI.unwatch f3 f5 hB) rfl
    | ret x =>
      (refine elEA hfl fun u e91 ru => ?_; try clear hfl; subst e91)
      exact hq _ (.ret x) _ s5 K5 hp (FrI.unwatch f3 f5 hB) ⟨u, rfl, ru⟩
  · have hn : i = ds.length := by lia
    subst hn
    refine withTk ((it.walks A ro.1).done s2 _ _ st2 fun h3 tk3 hk3 ht3 => ?_)
    exact wpAny_execs_nil (hq _ .next _ _ Kᵢ (hend hji) (f2.ext1 (isF st2) hKi hT hB ht3 fun b ob hb e => hk3 b ob (by simpa using hb) e) rfl)
theorem ExP.for {t iter : Expr} {body rest : List Stmt} {pos : Pos} {d : D} {ds : List D} {P} (st9 : Nat → Sto) (h : EvS S k cx σ iter d) (hi : IterS S d ds) (h0 : (st9 0).sub σ)
    (hb9 : ∀ i e, ds[i]? = some e → ∃ b, BindS S k cx t e (st9 i) b ∧ ExP S k cx b body (WhP S k cx (st9 (i + 1)).sub rest P)) (hend : ExP S k cx (st9 ds.length) rest P)
    (hs : ∀ (env : Env) (x : Value), foldedSetIterable iter env x = pure x := by intro _ _; rfl) : ExP S k cx σ (.For t iter body [] pos :: rest) P := by
  refine ExP.cons fun A env B K₀ s K Q E ro f hq => ?_
  refine forW (h A env s K _ E ro f.ok f.fm fun v s1 K1 l1 o1 r1 => ?_) (hs env)
  have f1 := f.le l1 o1
  refine hi A s1 K1 v _ E ro.1 o1 r1 fun ob fp P St it st => ?_
  generalize hI : s1.heap.objs.size = I at it
  have hnew : s1.heap.get? I = none := hI ▸ get_size _
  have hT : I ∉ S.T := o1.notT hnew
  have hB : B I = none := by
    cases e : B I with
    | none => rfl
    | some o =>
      (refine elE f1 fun α f1' => ?_; try clear f1)
      rw [f1'.keep I o e hT] at hnew; exact snm hnew
  have hKI : K1 I = none := o1.noneK hnew
  exact forCore (i0 := 0) (J := fun _ => True) st9 trivial (fun _ _ h => ⟨trivial, h⟩) ro ((f1.weak h0).grow (h' := s1.heap.push ob) (tk := s1.toks) (fun _ _ e => Heap.get?_push_of_some _ e)) it st hKI hB hT (Nat.zero_le _) (fun i e _ _ => hb9 i e) (fun _ => hend) hq
theorem ExP.forJ {t iter : Expr} {body rest : List Stmt} {pos : Pos} {d : D} {ds : List D} {P} (st9 : Nat → Sto) (J : Nat → Prop) (hJ : J 0) (h : EvS S k cx σ iter d) (hi : IterS S d ds) (h0 : (st9 0).sub σ)
    (hb9 : ∀ i e, J i → ds[i]? = some e → ∃ b, BindS S k cx t e (st9 i) b ∧ ExP S k cx b body (WhP S k cx (fun σ' => J (i + 1) ∧ (st9 (i + 1)).sub σ') rest P)) (hend : J ds.length → ExP S k cx (st9 ds.length) rest P)
    (hs : ∀ (env : Env) (x : Value), foldedSetIterable iter env x = pure x := by intro _ _; rfl) : ExP S k cx σ (.For t iter body [] pos :: rest) P := by
  refine ExP.cons fun A env B K₀ s K Q E ro f hq => ?_
  refine forW (h A env s K _ E ro f.ok f.fm fun v s1 K1 l1 o1 r1 => ?_) (hs env)
  have f1 := f.le l1 o1
  refine hi A s1 K1 v _ E ro.1 o1 r1 fun ob fp P St it st => ?_
  generalize hI : s1.heap.objs.size = I at it
  have hnew : s1.heap.get? I = none := hI ▸ get_size _
  have hT : I ∉ S.T := o1.notT hnew
  have hB : B I = none := by
    cases e : B I with
    | none => rfl
    | some o =>
      (refine elE f1 fun α f1' => ?_; try clear f1)
      rw [f1'.keep I o e hT] at hnew; exact snm hnew
  have hKI : K1 I = none := o1.noneK hnew
  exact forCore (i0 := 0) st9 hJ (fun _ _ h => h) ro ((f1.weak h0).grow (h' := s1.heap.push ob) (tk := s1.toks) (fun _ _ e => Heap.get?_push_of_some _ e)) it st hKI hB hT (Nat.zero_le _) (fun i e _ => hb9 i e) hend hq
end Mine
namespace Mine
variable {S : Sys} {k : Nat} {cx : Cx} {σ : Sto}
theorem EvT.and2 {x y : Expr} {pos : Pos} {c c' : Bool} (h : EvT S k cx σ x c) (h' : c = true → EvT S k cx σ y c') : EvT S k cx σ (.BoolOp .And [x, y] pos) (c && c') := by
  cases c with
  | true => exact EvT.boolop (EvAll.and_true h (by
      cases c' with
      | true => exact EvAll.and_true (h' rfl) EvAll.nil
      | false => exact EvAll.and_false (h' rfl)))
  | false => exact EvT.boolop (EvAll.and_false h)
theorem EvT.or2 {x y : Expr} {pos : Pos} {c c' : Bool} (h : EvT S k cx σ x c) (h' : c = false → EvT S k cx σ y c') : EvT S k cx σ (.BoolOp .Or [x, y] pos) (c || c') := by
  cases c with
  | false => exact EvT.boolop (EvAll.or_false h (by
      cases c' with
      | false => exact EvAll.or_false (h' rfl) EvAll.nil
      | true => exact EvAll.or_true (h' rfl)))
  | true => exact EvT.boolop (EvAll.or_true h)
theorem EvS.and2 {x y : Expr} {pos : Pos} {c c' : Bool} (h : EvS S k cx σ x (.bool c)) (h' : c = true → EvS S k cx σ y (.bool c')) : EvS S k cx σ (.BoolOp .And [x, y] pos) (.bool (c && c')) := by
  cases c with
  | true => exact EvS.and_go h TruS.bool (h' rfl)
  | false => exact EvS.and_stop h TruS.bool
theorem EvS.or2 {x y : Expr} {pos : Pos} {c c' : Bool} (h : EvS S k cx σ x (.bool c)) (h' : c = false → EvS S k cx σ y (.bool c')) : EvS S k cx σ (.BoolOp .Or [x, y] pos) (.bool (c || c')) := by
  cases c with
  | false => exact EvS.or_go h TruS.bool (h' rfl)
  | true => exact EvS.or_stop h TruS.bool
theorem EvS.ifT {t b e : Expr} {pos : Pos} {c : Bool} {d : D} (h : EvT S k cx σ t c) (hc : c = true) (h' : EvS S k cx σ b d) : EvS S k cx σ (.IfExp t b e pos) d := by subst hc; exact EvS.ifexp_true h h'
theorem EvS.ifF {t b e : Expr} {pos : Pos} {c : Bool} {d : D} (h : EvT S k cx σ t c) (hc : c = false) (h' : EvS S k cx σ e d) : EvS S k cx σ (.IfExp t b e pos) d := by subst hc; exact EvS.ifexp_false h h'
theorem EvS.ifStr {t b e : Expr} {pos : Pos} {c : Bool} {x y : Str} (h : EvT S k cx σ t c) (h1 : c = true → EvS S k cx σ b (.str x)) (h2 : c = false → EvS S k cx σ e (.str y)) : EvS S k cx σ (.IfExp t b e pos) (.str (if c then x else y)) := by
  cases c with
  | true => exact EvS.ifexp_true h (h1 rfl)
  | false => exact EvS.ifexp_false h (h2 rfl)
theorem EvS.ifInt {t b e : Expr} {pos : Pos} {c : Bool} {x y : Int} (h : EvT S k cx σ t c) (h1 : c = true → EvS S k cx σ b (.int x)) (h2 : c = false → EvS S k cx σ e (.int y)) : EvS S k cx σ (.IfExp t b e pos) (.int (if c then x else y)) := by
  cases c with
  | true => exact EvS.ifexp_true h (h1 rfl)
  | false => exact EvS.ifexp_false h (h2 rfl)
theorem EvS.ifList {t b e : Expr} {pos : Pos} {c : Bool} {x y : List D} (h : EvT S k cx σ t c) (h1 : c = true → EvS S k cx σ b (.list x)) (h2 : c = false → EvS S k cx σ e (.list y)) : EvS S k cx σ (.IfExp t b e pos) (.list (if c then x else y)) := by
  cases c with
  | true => exact EvS.ifexp_true h (h1 rfl)
  | false => exact EvS.ifexp_false h (h2 rfl)
theorem EvS.to {e : Expr} {d d' : D} (h : EvS S k cx σ e d) (hd : d = d') : EvS S k cx σ e d' := hd ▸ h
theorem EvT.to {e : Expr} {c c' : Bool} (h : EvT S k cx σ e c) (hd : c = c') : EvT S k cx σ e c' := hd ▸ h
theorem FnC.defP {a : Addr} {oc : Value} {od : Option Addr} {fd : FuncData} {sl : Array (Option Value)} {names : List Str} {body : List Stmt} {ds : List D} {d : D} (ha : S.K0 a = some ⟨oc, od, .func fd, sl⟩) (hbody : fd.body = .stmts body) (hok : fnOk fd names = true)
    (hcode : ∀ h : Heap, (∀ b o, S.K0 b = some o → h.get? b = some o) → h.CodeRec fd.code fd.qualname) (hn : names.length = ds.length) (hbind : ∀ vs : List Value, vs.length = names.length → bindArgs fd ⟨vs, []⟩ = pure (names.zip vs))
    (hx : ExP S k (fnCx fd) (parSto names ds) body fun fl _ => fl = .ret d) : FnC S (k + 1) (.ref a) ds d :=
  FnC.def ha hbody hok hcode hn hbind (ExP.toS (σ₁ := fun _ => none) (hx.mono fun _ _ h => ⟨h, fun _ _ e => by exact nsm e⟩)) (.inl rfl)
theorem bg0 {α : Type} {P : List α → Prop} (h : P []) : ∀ l : List α, l.length = 0 → P l := fun l e => List.eq_nil_of_length_eq_zero e ▸ h
theorem bgS {α : Type} {P : List α → Prop} {n : Nat} (h : ∀ a l, l.length = n → P (a :: l)) : ∀ l : List α, l.length = n + 1 → P l := fun l e => by
  cases l with
  | nil => simp at e
  | cons a l => exact h a l (Nat.succ.inj e)
theorem bl1 {P : List Value → Prop} (h : ∀ a, P [a]) : ∀ vs : List Value, vs.length = 1 → P vs := bgS fun a => bg0 (h a)
theorem bl2 {P : List Value → Prop} (h : ∀ a b, P [a, b]) : ∀ vs : List Value, vs.length = 2 → P vs := bgS fun a => bl1 (P := fun l => P (a :: l)) (h a)
theorem bl3 {P : List Value → Prop} (h : ∀ a b c, P [a, b, c]) : ∀ vs : List Value, vs.length = 3 → P vs := bgS fun a => bl2 (P := fun l => P (a :: l)) (h a)
theorem bl4 {P : List Value → Prop} (h : ∀ a b c d, P [a, b, c, d]) : ∀ vs : List Value, vs.length = 4 → P vs := bgS fun a => bl3 (P := fun l => P (a :: l)) (h a)
end Mine
namespace Mine
noncomputable def tx (l : List Nat) : Str := ⟨l.toArray⟩
theorem tx_len (l : List Nat) : (tx l).length = l.length := by simp [tx, Str.length]
theorem tx_cps (l : List Nat) : (tx l).cps = l.toArray := rfl
theorem tx_inj {a b : List Nat} (h : tx a = tx b) : a = b := by
  have := congrArg (fun s : Str => s.cps.toList) h
  simpa [tx] using this
theorem tx_of (x : Str) : x = tx x.cps.toList := by cases x; simp [tx]
theorem tx_append (a b : List Nat) : tx a ++ tx b = tx (a ++ b) := by
  rw [tx_of (tx a ++ tx b)]
  simp [tx, Str.cps_append]
theorem tx_beq (a b : List Nat) : (tx a == tx b) = (a == b) := by
  rw [Bool.eq_iff_iff, beq_iff_eq, beq_iff_eq]
  exact ⟨tx_inj, fun h => by rw [h]⟩
noncomputable def clipN (v : Option Int) (dflt n : Nat) : Nat := match v with
  | none => dflt
  | some i => (max 0 (min (if i < 0 then i + n else i) n)).toNat
theorem clipN_le {v : Option Int} {dflt n : Nat} (h : dflt ≤ n) : clipN v dflt n ≤ n := by
  unfold clipN
  split
  · exact h
  · exact Int.toNat_le.mpr (Int.max_le.mpr ⟨Int.natCast_nonneg _, Int.min_le_right _ _⟩)
theorem range0 {α : Type} (l : List α) (a : Nat) : ∀ m : Nat, a + m ≤ l.length → (List.range m).filterMap (fun x => l[a + x]?) = (l.drop a).take m
  | 0, _ => by simp
  | m + 1, h => by
    have hm : a + m < l.length := by assumption
    rw [List.range_succ, List.filterMap_append, range0 l a m (by exact Nat.le_of_lt ‹_›), List.take_add_one, List.getElem?_drop]
    simp [hm]
theorem range1 {α : Type} (l : List α) (a b : Nat) (hb : b ≤ l.length) : (sliceRange a b 1).filterMap (l[·]?) = (l.take b).drop a := by
  have e : sliceRange a b 1 = (List.range (b - a)).map (a + ·) := by
    unfold sliceRange
    simp only [show (1 : Int) > 0 by decide, if_true, Int.ediv_one, Int.one_mul]
    have : (if (a : Int) < b then (b : Int) - a + 1 - 1 else 0).toNat = b - a := by split <;> lia
    rw [this]
    apply List.map_congr_left
    intro k _
    rfl
  rw [e, List.filterMap_map, List.drop_take]
  by_cases hab : a ≤ b
  · exact range0 l a (b - a) (by lia)
  · have : b - a = 0 := by lia
    rw [this]; simp
theorem clip_eq (v : Option Int) (dflt n : Nat) : (match v with
    | none => (dflt : Int)
    | some i => max 0 (min (if i < 0 then i + n else i) n)) = (clipN v dflt n : Int) := by
  cases v with
  | none => rfl
  | some i => exact (Int.toNat_of_nonneg (Int.le_max_left _ _)).symm
theorem slice_gen (l : List Nat) (lo hi : Option Int) : Txt.slice (tx l) lo hi = tx ((l.take (clipN hi l.length l.length)).drop (clipN lo 0 l.length)) := by
  have hn : (tx l).length = l.length := tx_len l
  have e : Builtin.Str.strSliceIndices lo hi 1 l.length = sliceRange (clipN lo 0 l.length) (clipN hi l.length l.length) 1 := by
    rw [← clip_eq lo 0 l.length, ← clip_eq hi l.length l.length]
    unfold Builtin.Str.strSliceIndices
    simp only [show (1 : Int) > 0 by decide, if_true]
    rfl
  have e2 : (Builtin.Str.strSliceIndices lo hi 1 l.length).filterMap ((tx l).cps[·]?) = (l.take (clipN hi l.length l.length)).drop (clipN lo 0 l.length) := by
    rw [e, ← range1 l _ _ (clipN_le (Nat.le_refl _))]
    congr 1
    funext i
    simp [tx]
  unfold Txt.slice
  rw [hn, e2]
  split
  · rename_i h
    simp only [beq_self_eq_true, Bool.true_and, beq_iff_eq] at h
    have hlen : ((l.take (clipN hi l.length l.length)).drop (clipN lo 0 l.length)).length ≤ l.length := by simp; lia
    have hk : (Builtin.Str.strSliceIndices lo hi 1 l.length).length = clipN hi l.length l.length - clipN lo 0 l.length := by
      rw [e]
      unfold sliceRange
      simp only [show (1 : Int) > 0 by decide, if_true, Int.ediv_one, List.length_map, List.length_range]
      split <;> lia
    have hc := clipN_le (v := hi) (Nat.le_refl l.length)
    by_cases h0 : l.length = 0
    · have : l = [] := List.length_eq_zero_iff.mp h0
      subst this; simp
    · have h1 : clipN hi l.length l.length = l.length := by lia
      have h2 : clipN lo 0 l.length = 0 := by lia
      rw [h1, h2]; simp
  · rfl
theorem pick_gen (ds : List D) (lo hi : Option Int) : pickL ds lo hi none = (ds.take (clipN hi ds.length ds.length)).drop (clipN lo 0 ds.length) := by
  rw [← range1 ds _ _ (clipN_le (Nat.le_refl _))]
  rw [← clip_eq lo 0 ds.length, ← clip_eq hi ds.length ds.length]
  unfold pickL sliceBounds
  simp only [Option.getD_none, show (1 : Int) > 0 by decide, if_true]
  rfl
theorem item_tx (l : List Nat) (i : Nat) (h : i < l.length) : Txt.item (tx l) (i : Int) = tx [l[i]] := by
  unfold Txt.item Txt.charAt seqIndex?
  rw [tx_len]
  have h1 : ¬ ((i : Int) < 0) := by lia
  have h2 : (i : Int) < (l.length : Int) := by lia
  simp [h1, h2, tx, h]
theorem item_txd (l : List Nat) (i : Nat) (h : i < l.length) : Txt.item (tx l) (i : Int) = tx [l.getD i 0] := by
  rw [item_tx l i h]
  simp [List.getD, h]
theorem contains_tx (l : List Nat) (c : Nat) : Txt.contains (tx l) (tx [c]) = l.contains c := by
  unfold Txt.contains
  show (!(Builtin.Str.occurrences (tx l) ⟨#[c]⟩ 0 (tx l).length 1).isEmpty) = _
  rw [StrLaws.found_one, Bool.eq_iff_iff]
  have e : (tx l).cps.toList = l := rfl
  rw [decide_eq_true_iff, e]
  simp
end Mine
namespace Mine
variable {S : Sys} {k : Nat} {cx : Cx} {σ : Sto}
noncomputable abbrev dN (n : Nat) : D := .int (n : Int)
theorem small_down {a b : Int} (ha : -(2 ^ 62) ≤ a) (ha' : a < 2 ^ 62) (hb : -(2 ^ 62) ≤ b) (hb' : b < 2 ^ 62) : Builtin.Range.small a b (-1) = true := by
  unfold Builtin.Range.small Builtin.Range.rangeSize Builtin.Range.rangeFitsLong
  simp
  split <;> lia
theorem IterS.up {a b : Nat} (hb : b < 2 ^ 60) (ha : a < 2 ^ 60) : IterS S (.range a b 1) ((List.range' a (b - a)).map dN) := by
  have h := IterS.range (S := S) (a := (a : Int)) (b := (b : Int)) (c := 1) (n := b - a) (small_one (by lia) (by lia) (by lia) (by lia)) (by rw [rangeSize_one]; split <;> lia)
  have e : rangeL (a : Int) 1 (b - a) = (List.range' a (b - a)).map dN := by
    unfold rangeL
    rw [List.range'_eq_map_range, List.map_map]
    apply List.map_congr_left
    intro i _
    simp [dN]
  rwa [e] at h
theorem IterS.down {a b : Nat} (hb : b < 2 ^ 60) (hab : b ≤ a + 1) (ha : a < 2 ^ 60) : IterS S (.range a ((b : Int) - 1) (-1)) ((List.range' b (a + 1 - b)).reverse.map dN) := by
  have h := IterS.range (S := S) (a := (a : Int)) (b := (b : Int) - 1) (c := -1) (n := a + 1 - b) (small_down (by lia) (by lia) (by lia) (by lia)) (by
    unfold Builtin.Range.rangeSize
    simp
    split <;> lia)
  have e : rangeL (a : Int) (-1) (a + 1 - b) = (List.range' b (a + 1 - b)).reverse.map dN := by
    unfold rangeL
    apply List.ext_getElem
    · simp
    · intro i h1 h2
      simp at h1 h2
      simp [dN, List.getElem_reverse]
      lia
  rwa [e] at h
theorem TurnsR.mapI {α : Type} {P : D → List D → Prop} (mk : α → D) (f : α → List D) : ∀ (l : List α), (∀ a ∈ l, P (mk a) (f a)) → TurnsR P (l.map mk) (l.flatMap f)
  | [], _ => .nil
  | a :: l, h => .cons (h a (.head _)) (TurnsR.mapI mk f l fun b hb => h b (.tail _ hb))
end Mine
namespace Mine
variable {S : Sys} {k : Nat} {cx : Cx} {σ : Sto}
noncomputable def lsto (l : List (Str × Ent)) : Sto := fun x => l.lookup x
noncomputable def allE (σ : Sto) : List (Str × Ent) → Prop
  | [] => True
  | p :: l => σ p.1 = some p.2 ∧ allE σ l
theorem allE_mem {σ : Sto} : ∀ {l : List (Str × Ent)}, allE σ l → ∀ p ∈ l, σ p.1 = some p.2
  | _ :: _, h, _, .head _ => h.1
  | _ :: _, h, p, .tail _ hp => allE_mem h.2 p hp
theorem allE_rfl {σ : Sto} : ∀ {l : List (Str × Ent)}, (l.map fun p => σ p.1) = l.map (fun p => some p.2) → allE σ l
  | [], _ => trivial
  | _ :: _, h => ⟨(List.cons.inj h).1, allE_rfl (List.cons.inj h).2⟩
theorem lsto_sub {l : List (Str × Ent)} (h : allE σ l) : (lsto l).sub σ := fun x e he => allE_mem h (x, e) (mem_of_lookup he)
theorem Sto.sub_new {x : Str} {e : Option Ent} (h : σ x = none) : σ.sub (σ.upd x e) := fun y e' he => by
  have : y ≠ x := fun q => by rw [q, h] at he; exact nsm he
  rw [Sto.upd_ne _ _ this]; exact he
theorem Sto.ownSub_val {x : Str} {d : D} : (σ.upd x (some (.val d))).ownSub σ := fun y ys e => by
  by_cases q : y = x
  · rw [q, Sto.upd_self] at e; cases e
  · rwa [Sto.upd_ne _ _ q] at e
theorem turn1 {elt : Expr} {g : Comprehension} {gs : List Comprehension} {d : D} {o : List D} {x : Str} {p : Pos} (ht : g.target = .Name x p) (hw : isVarW cx x = true) (hn : σ x = none)
    (h : (TestR S k cx (σ.upd x (some (.val d))) g.ifs false ∧ o = []) ∨ (TestR S k cx (σ.upd x (some (.val d))) g.ifs true ∧ GenR S k cx elt gs (σ.upd x (some (.val d))) o)) :
    ∃ σ', BindS S k cx g.target d σ σ' ∧ σ.sub σ' ∧ σ'.ownSub σ ∧ ((TestR S k cx σ' g.ifs false ∧ o = []) ∨ (TestR S k cx σ' g.ifs true ∧ GenR S k cx elt gs σ' o)) :=
  ⟨_, by rw [ht]; exact BindS.name hw, Sto.sub_new hn, Sto.ownSub_val, h⟩
theorem genOne {elt : Expr} {d : D} (h : EvS S k cx σ elt d) : GenR S k cx elt [] σ [d] := ⟨d, h, rfl⟩
theorem TestR.one {c : Expr} {b : Bool} (h : EvT S k cx σ c b) : TestR S k cx σ [c] b := by
  cases b with
  | true => exact .yes h .nil
  | false => exact .no h
theorem cmin (a b : Nat) : (max 0 (min (a : Int) (b : Int))).toNat = min a b := by
  rcases Nat.le_total a b with h | h
  · rw [Int.min_eq_left (Int.ofNat_le.mpr h), Nat.min_eq_left h, Int.max_eq_right (Int.natCast_nonneg _), Int.toNat_natCast]
  · rw [Int.min_eq_right (Int.ofNat_le.mpr h), Nat.min_eq_right h, Int.max_eq_right (Int.natCast_nonneg _), Int.toNat_natCast]
theorem clip_nat {i : Int} {k dflt n : Nat} (h : i = (k : Int)) : clipN (some i) dflt n = min k n := by
  subst h
  show (max 0 (min (if (k : Int) < 0 then (k : Int) + n else (k : Int)) n)).toNat = min k n
  rw [if_neg (Int.not_lt.mpr (Int.natCast_nonneg k))]
  exact cmin k n
theorem clip_neg {i : Int} {m dflt n : Nat} (h : i = -(m : Int)) (hm : 0 < m) (hn : m ≤ n) : clipN (some i) dflt n = n - m := by
  subst h
  show (max 0 (min (if -(m : Int) < 0 then -(m : Int) + n else -(m : Int)) n)).toNat = n - m
  rw [if_pos (show -(m : Int) < 0 by lia), show -(m : Int) + (n : Int) = ((n - m : Nat) : Int) from by lia]
  exact (cmin (n - m) n).trans (Nat.min_eq_left (Nat.sub_le n m))
theorem slice_km (l : List Nat) (k m : Nat) {i j : Int} (hi : i = (k : Int)) (hj : j = (k : Int) + (m : Int)) : Txt.slice (tx l) (some i) (some j) = tx ((l.drop k).take m) := by
  have hj' : j = ((k + m : Nat) : Int) := by assumption
  rw [slice_gen, clip_nat hi, clip_nat hj']
  congr 1
  apply List.ext_getElem?
  intro q
  rw [List.getElem?_drop, List.getElem?_take, List.getElem?_take, List.getElem?_drop]
  by_cases h1 : q < m
  · rw [if_pos h1]
    by_cases h2 : k ≤ l.length
    · rw [show min k l.length = k by lia]
      by_cases h3 : k + q < l.length
      · rw [if_pos (by lia)]
      · have : l[k + q]? = none := by simp; exact Nat.le_of_not_lt ‹_›
        rw [this]; split <;> rfl
    · have : l[k + q]? = none := by simp; lia
      rw [this, show min k l.length = l.length by lia]
      split
      · simp
      · rfl
  · rw [if_neg h1]
    by_cases h2 : min k l.length + q < min (k + m) l.length
    · rw [if_pos h2]; lia
    · rw [if_neg h2]
theorem slice_k (l : List Nat) (k : Nat) {i : Int} (hi : i = (k : Int)) : Txt.slice (tx l) (some i) none = tx (l.drop k) := by
  rw [slice_gen, clip_nat hi]
  show tx (List.drop (min k l.length) (List.take l.length l)) = _
  rw [List.take_length]
  by_cases h : k ≤ l.length
  · rw [show min k l.length = k by lia]
  · rw [show min k l.length = l.length by lia, List.drop_length, List.drop_of_length_le (by lia)]
theorem IdxS.tx {l : List Nat} {q : Nat} (h : q < l.length) (hl : l.length ≤ 2 ^ 30) : IdxS S k (.str (tx l)) (.int (q : Int)) (.str (tx [l.getD q 0])) := by
  have e := IdxS.str (S := S) (k := k) (x := Mine.tx l) (i := (q : Int)) (by unfold fitsSsize; simp; lia) (by rw [tx_len]; lia) (by rw [tx_len]; lia)
  rwa [item_txd l q h] at e
theorem CalS.lenTx {l : List Nat} (h : l.length ≤ 2 ^ 24) : CalS S k (.builtin "len") [.str (Mine.tx l)] (.int (l.length : Nat)) := by
  have e := CalS.lenStr (S := S) (k := k) (x := Mine.tx l) (by rw [tx_len, sizeLine_eq]; assumption)
  rwa [tx_len] at e
theorem TurnsR.map1 {α : Type} {P : D → List D → Prop} (mk g : α → D) : ∀ (l : List α), (∀ a ∈ l, P (mk a) [g a]) → TurnsR P (l.map mk) (l.map g)
  | [], _ => .nil
  | a :: l, h => .cons (h a (.head _)) (TurnsR.map1 mk g l fun b hb => h b (.tail _ hb))
theorem TurnsR.filt {α : Type} {P : D → List D → Prop} (mk g : α → D) (c : α → Bool) : ∀ (l : List α), (∀ a ∈ l, (c a = true → P (mk a) [g a]) ∧ (c a = false → P (mk a) [])) → TurnsR P (l.map mk) ((l.filter c).map g)
  | [], _ => .nil
  | a :: l, h => by
    have ih := TurnsR.filt mk g c l fun b hb => h b (.tail _ hb)
    rw [List.filter_cons]
    cases hc : c a with
    | true => exact .cons ((h a (.head _)).1 hc) ih
    | false => exact .cons ((h a (.head _)).2 hc) ih
theorem pick_m (ds : List D) (m : Nat) {j : Int} (hj : j = (m : Int)) : pickL ds none (some j) none = ds.take m := by
  rw [pick_gen, clip_nat hj]
  show List.drop 0 (List.take (min m ds.length) ds) = _
  rw [List.drop_zero]
  by_cases h : m ≤ ds.length
  · rw [show min m ds.length = m by lia]
  · rw [show min m ds.length = ds.length by lia, List.take_length, List.take_of_length_le (by lia)]
theorem pick_k (ds : List D) (k : Nat) {i : Int} (hi : i = (k : Int)) : pickL ds (some i) none none = ds.drop k := by
  rw [pick_gen, clip_nat hi]
  show List.drop (min k ds.length) (List.take ds.length ds) = _
  rw [List.take_length]
  by_cases h : k ≤ ds.length
  · rw [show min k ds.length = k by lia]
  · rw [show min k ds.length = ds.length by lia, List.drop_length, List.drop_of_length_le (by lia)]
noncomputable def readsP (item sign : Str) : Bool :=
  if Txt.slice item none (some 1) == "[" then
    let bar := Txt.slice item (some 1) (some 2) == "^"
    let inner := if bar then Txt.slice item (some 2) (some (-1)) else Txt.slice item (some 1) (some (-1))
    let inner := if Txt.slice inner none (some 1) == "\\" && !Txt.contains "abc" (Txt.slice inner (some 1) (some 2)) then Txt.slice inner (some 1) none else inner
    ((inner.length : Int) == 1) && !((inner == sign) == bar)
  else if Txt.slice item none (some 1) == "\\" then (Txt.slice item (some 1) none == sign) && !Txt.contains "abc" sign
  else item == "." || (item == sign && Txt.contains "abc" sign)
noncomputable def atomLen : List Nat → Nat
  | [] => 1
  | c :: r => if c == 91 then (match (c :: r).idxOf? 93 with | some j => j + 1 | none => 1) else if c == 92 then 2 else 1
theorem atomLen_pos (l : List Nat) : 1 ≤ atomLen l := by
  unfold atomLen
  split
  · exact Nat.le_refl _
  · split
    · split <;> lia
    · split <;> lia
noncomputable def endsStep (name rest ways : List Nat) (shut : Bool) : List Nat × Bool × Nat :=
  if rest.take 6 == [40, 63, 62, 46, 42, 63] && shut then (ways.flatMap fun w => List.range' w (name.length + 1 - w), false, 6)
  else if rest.take 1 == [41] && !shut then (ways.take 1, true, 1)
  else if rest.take 2 == [46, 42] then (ways.flatMap fun w => (List.range' w (name.length + 1 - w)).reverse, shut, 2)
  else ((ways.filter fun w => decide (w < name.length) && readsP (tx (rest.take (atomLen rest))) (tx [name.getD w 0])).map (· + 1), shut, atomLen rest)
noncomputable def endsL (name : List Nat) : Nat → List Nat → List Nat → Bool → Option (List Nat)
  | 0, _, _, _ => none
  | _ + 1, [], ways, shut => some (if shut then ways else [])
  | n + 1, c :: r, ways, shut =>
    if (endsStep name (c :: r) ways shut).1.length ≤ 1000 then endsL name n ((c :: r).drop (endsStep name (c :: r) ways shut).2.2) (endsStep name (c :: r) ways shut).1 (endsStep name (c :: r) ways shut).2.1 else none
theorem endsStep_le {name rest ways : List Nat} {shut : Bool} (h : ∀ w ∈ ways, w ≤ name.length) : ∀ w ∈ (endsStep name rest ways shut).1, w ≤ name.length := by
  unfold endsStep
  intro w hw
  split at hw
  · refine elEA (List.mem_flatMap.mp hw) fun v hv hv' => ?_
    rw [List.mem_range'_1] at hv'
    lia
  · split at hw
    · exact h w (List.mem_of_mem_take hw)
    · split at hw
      · refine elEA (List.mem_flatMap.mp hw) fun v hv hv' => ?_
        rw [List.mem_reverse, List.mem_range'_1] at hv'
        lia
      · (refine elEA (List.mem_map.mp hw) fun v hv e92 => ?_; subst e92)
        have := (List.mem_filter.mp hv).2
        simp only [Bool.and_eq_true, decide_eq_true_eq] at this
        lia
theorem find3_tx (l : List Nat) (c k : Nat) (hk : k ≤ l.length) : Txt.find3 (tx l) (tx [c]) (k : Int) = match (l.drop k).idxOf? c with | some j => ((k + j : Nat) : Int) | none => -1 := by
  have hfi : fromIndex (tx l).length (k : Int) = k := by
    rw [tx_len]
    unfold fromIndex
    have : ¬ ((k : Int) < 0) := by lia
    simp only [this, if_false]
    rfl
  rcases StrLaws.find3_spec (tx l) c (k : Int) with ⟨h1, h2⟩ | ⟨j, h1, h2, h3, h4, h5⟩
  · show Txt.find3 (tx l) ⟨#[c]⟩ (k : Int) = _
    rw [h1]
    rw [hfi] at h2
    have : (l.drop k).idxOf? c = none := by
      rw [List.idxOf?_eq_none_iff]
      intro hm
      obtain ⟨i, hi, e⟩ := List.mem_iff_getElem.mp hm
      rw [List.getElem_drop] at e
      rw [List.length_drop] at hi
      refine h2 (k + i) (by exact Nat.le_add_right _ _) (by rw [tx_len]; lia) ?_
      simp only [tx]
      rw [Array.getD_eq_getD_getElem?]
      simp [show k + i < l.length by lia, e]
    rw [this]
  · show Txt.find3 (tx l) ⟨#[c]⟩ (k : Int) = _
    rw [h1]
    rw [hfi] at h5
    rw [tx_len] at h3
    have g : ∀ i, (tx l).cps.getD i 0 = l.getD i 0 := fun i => by
      simp only [tx]
      rw [Array.getD_eq_getD_getElem?, List.getD_eq_getElem?_getD]
      simp
    rw [g] at h4
    have : (l.drop k).idxOf? c = some (j - k) := by
      rw [List.idxOf?_eq_some_iff]
      refine ⟨by rw [List.length_drop]; lia, ?_, fun i hi => ?_⟩
      · rw [List.getElem_drop]
        have : k + (j - k) = j := by lia
        simp only [this]
        rw [← h4]
        simp [List.getD, show j < l.length by assumption]
      · rw [List.getElem_drop]
        have h6 := h5 (k + i) (by exact Nat.le_add_right _ _) (by lia)
        rw [g] at h6
        intro e
        apply h6
        rw [← e]
        simp [List.getD, show k + i < l.length by lia]
    rw [this]
    show (j : Int) = ((k + (j - k) : Nat) : Int)
    rw [hfi] at h2
    lia
end Mine
namespace Mine
variable {S : Sys} {k : Nat} {cx : Cx} {σ : Sto}
theorem Ex1.assignTwo {x y : Str} {px py tpos pos : Pos} {n : Nat} {e : Expr} {d1 d2 : D} (h : EvS S k cx σ e (.tuple [d1, d2])) (hx : isVarW cx x = true) (hy : isVarW cx y = true)
    (hw : ∀ env : Env, env.scope = cx.sc → swappedStores [.Tuple [.Name x px, .Name y py] n tpos] e env = pure (some [x, y]))
    (hs : ∀ env : Env, swapsWithSole [.Tuple [.Name x px, .Name y py] n tpos] e pos.line env = pure false) :
    Ex1 S k cx σ (.Assign [.Tuple [.Name x px, .Name y py] n tpos] e pos) .next ((σ.upd y (some (.val d2))).upd x (some (.val d1))) := by
  intro A env B K₀ s K Q E ro f hq
  have hsc : env.scope = cx.sc := by refine elE f fun α f => ?_; exact f.fm.scope
  refine Assign_Tuple_swapped (h := ?_) (hs := hs env) (hw := hw env hsc)
  refine h A env s K _ E ro f.ok f.fm fun v s1 K1 l1 o1 r1 => ?_
  (refine elEEEAA r1.tuple_inv fun a vs m e93 e1 q => ?_; subst e93)
  (refine elEEAA (two_inv q) fun v1 v2 e92 r2 r3 => ?_; subst e92)
  refine unpackItems_tuple (items := #[v1, v2]) ro.1 ⟨_, o1.kn _ _ e1, rfl, m, rfl⟩ fun h' hk => ?_
  have hk' : ∀ b ob, s1.heap.get? b = some ob → h'.get? b = some ob := fun b ob hb => hk b ob (Nat.ne_of_lt (Heap.lt_size hb)) hb
  have f1 := (f.le l1 o1).le (Le.grow (tk := s1.toks) hk') (o1.grow hk')
  show wpAny (M S) A (do holding [v1] (bindName env y v2); assignInOrder [fun v => bindName env x v] [v1]) _ _ _
  refine wpAny_bind (wpAny_holding (bindName_ (storeVal f1 hy r3 fun s2 f2 => ?_)))
  show wpAny (M S) A (do holding [] (bindName env x v1); assignInOrder [] []) _ _ _
  refine wpAny_bind (wpAny_holding (bindName_ (storeVal f2 hx r2 fun s3 f3 => ?_)))
  exact wpAny_pure (hq _ s3 K1 f3 rfl)
theorem Ex1.assignUnpack {ts : List Expr} {n : Nat} {tpos pos : Pos} {e : Expr} {d : D} {ds : List D} {σ' : Sto} (h : EvS S k cx σ e d) (hd : d = .list ds ∨ d = .tuple ds) (b : BindL S k cx ts ds σ σ')
    (hw : ∀ env : Env, swappedStores [.Tuple ts n tpos] e env = pure none) (hs : ∀ env : Env, swapsWithSole [.Tuple ts n tpos] e pos.line env = pure false) :
    Ex1 S k cx σ (.Assign [.Tuple ts n tpos] e pos) .next σ' := by
  intro A env B K₀ s K Q E ro f hq
  refine Assign_Tuple (h := ?_) (hs := hs env) (hw := hw env)
  refine h A env s K _ E ro f.ok f.fm fun v s1 K1 l1 o1 r1 => ?_
  have f1 := f.le l1 o1
  refine elE f1 fun α f1 => ?_
  exact BindS.tup hd b A env B K₀ s1 K1 v α _ E ro f1 r1 fun s' f' => hq _ s' K1 ⟨α, f'⟩ rfl
theorem CmpS.isTok {n : Nat} : CmpS S k .Is (.tok n) (.tok n) true := by
  intro A s K v1 v2 Q E ro o r1 r2 h
  rw [r1.tok_inv, r2.tok_inv]
  exact wpAny_is_ref_self (h s K Le.refl o)
theorem CmpS.isNotTok {n : Nat} : CmpS S k .IsNot (.tok n) (.tok n) false := by
  intro A s K v1 v2 Q E ro o r1 r2 h
  rw [r1.tok_inv, r2.tok_inv]
  exact wpAny_isNot_ref_self (h s K Le.refl o)
theorem CmpS.isNotStrTok {x : Str} {n : Nat} : CmpS S k .IsNot (.str x) (.tok n) true := by
  intro A s K v1 v2 Q E ro o r1 r2 h
  (refine elEA r1.str_inv fun t e91 _ => ?_; subst e91)
  rw [r2.tok_inv]
  exact wpAny_isNot_plain rfl (h s K Le.refl o)
theorem CmpS.isNone : CmpS S k .Is .none .none true := by
  intro A s K v1 v2 Q E ro o r1 r2 h
  rw [r1.none_inv, r2.none_inv]
  exact wpAny_is_plain rfl (h s K Le.refl o)
theorem IdxS.nat {ds : List D} {j : Nat} {d : D} (hx : ds[j]? = some d) (hl : ds.length ≤ 2 ^ 30) : IdxS S k (.list ds) (.int (j : Int)) d := by
  have hj : j < ds.length := (List.getElem?_eq_some_iff.mp hx).1
  refine IdxS.list (j := j) (by lia) (by lia) ?_ hx
  unfold seqIndex?
  have h1 : ¬ ((j : Int) < 0) := by lia
  have h2 : (j : Int) < (ds.length : Int) := by lia
  simp [h1, h2]
theorem IdxS.last {ds : List D} {d : D} (hl : ds.length ≤ 2 ^ 30) : IdxS S k (.list (ds ++ [d])) (.int (-1)) d := by
  refine IdxS.list (j := ds.length) (by decide) (by decide) ?_ (by simp)
  unfold seqIndex?
  simp
  lia
theorem strEmpty_tx : Str.empty = tx [] := rfl
theorem catF_tx : ∀ (xs : List (List Nat)) (acc : List Nat), catF (tx acc) (xs.map tx) = tx (acc ++ xs.flatten)
  | [], acc => by simp [catF]
  | x :: xs, acc => by
    show catF (tx acc ++ tx x) (xs.map tx) = _
    rw [tx_append, catF_tx xs]
    simp
theorem EvS.fstrT {e1 e2 : Expr} {es : List Expr} {pos : Pos} {xs : List (List Nat)} (f : EvF S k cx σ (e1 :: e2 :: es) (xs.map Mine.tx)) (hl : xs.flatten.length ≤ 2 ^ 24) : EvS S k cx σ (.JoinedStr (e1 :: e2 :: es) pos) (.str (Mine.tx xs.flatten)) := by
  have e : catF Str.empty (xs.map Mine.tx) = Mine.tx xs.flatten := by rw [strEmpty_tx, catF_tx]; rfl
  have := EvS.fstr (pos := pos) f (by rw [e, tx_len, sizeLine_eq]; assumption)
  rwa [e] at this
theorem join_tx : ∀ ps : List (List Nat), Str.join (tx []) (ps.map tx) = tx ps.flatten
  | [] => rfl
  | [p] => by simp [Str.join]
  | p :: q :: ps => by
    show tx p ++ tx [] ++ Str.join (tx []) ((q :: ps).map tx) = _
    rw [join_tx (q :: ps), tx_append, tx_append]
    simp
theorem joinOk_tx {ps : List (List Nat)} (h : ps.flatten.length ≤ 2 ^ 24) : JoinOk (tx []) (ps.map tx) = true := by
  have key : ∀ (l : List (List Nat)) (a : Nat), ((l.map tx).foldl (fun (a : Nat) (x : Str) => a + x.length + (tx []).length) a) = a + l.flatten.length := by
    intro l
    induction l with
    | nil => intro a; simp
    | cons x l ih =>
      intro a
      simp only [List.map_cons, List.foldl_cons, List.flatten_cons, List.length_append]
      rw [ih, tx_len, tx_len]
      simp
      lia
  have e : (ps.map tx).toArray.foldl (fun (a : Nat) (x : Str) => a + x.length + (tx []).length) 0 = ps.flatten.length := by
    rw [List.foldl_toArray, key]; lia
  have hno : ¬ (ps.flatten.length > sizeLine) := by rw [sizeLine_eq]; lia
  show (!Builtin.Str.tooLong ((ps.map tx).toArray.foldl (fun (a : Nat) (x : Str) => a + x.length + (tx []).length) 0)) = true
  rw [e]
  unfold Builtin.Str.tooLong
  rw [decide_eq_false hno]
  rfl
theorem CalS.joinT {ps : List (List Nat)} (h : ps.flatten.length ≤ 2 ^ 24) : CalS S k (.builtin "str.join") [.str (Mine.tx []), .list (ps.map fun p => .str (Mine.tx p))] (.str (Mine.tx ps.flatten)) := by
  have := CalS.join (S := S) (k := k) (joinOk_tx h)
  rw [join_tx, List.map_map] at this
  exact this
theorem CalS.joinE {ps : List (List Nat)} (h : ps.flatten.length ≤ 2 ^ 24) : CalS S k (.builtin "str.join") [.str (Str.ofString ""), .list (ps.map fun p => .str (Mine.tx p))] (.str (Mine.tx ps.flatten)) := CalS.joinT h
end Mine
namespace Mine
variable {S : Sys} {k : Nat} {cx : Cx} {σ : Sto}
theorem subKL : isSubtype (.type "KeyError") (.type "LookupError") = pure true := by rw [isSubtype_type]; kernel_rfl
theorem lookTab {A : Around} {s : Shared} {K : Kn} {E : Value → Shared → Prop} {d : Addr} {f : Int → Option Value} {c : Nat} {Q : Builtin.Str.Mapped → Shared → Prop} (hA : A.handled = none) (o : Ok S K s) (hd : (d == sysModules) = false)
    (hm : ∀ h : Heap, (∀ a o, S.K0 a = some o → h.get? a = some o) → h.MapOf (intKind S.prog S.w) d f) (hf : f c = none ∨ ∃ t u, f c = some (.str t u))
    (h : ∀ r s', Le S s s' K K → Ok S K s' → (f c = none → r = .keep) → (∀ t u, f c = some (.str t u) → r = .text t) → Q r s') : wpAny (M S) A (Builtin.Str.tableLookup (.ref d) c) Q E s := by
  unfold Builtin.Str.tableLookup
  have kn : ∀ b ob, S.K0 b = some ob → s.heap.get? b = some ob := fun b ob e => K0_get o e
  refine wpAny_bind (wpAny_attempt (wpAny_bind (wpAny_mkInt ?_)))
  rcases hf with hn | ⟨t, u, hs⟩
  · refine wpAny_getItem_missing_of (knd := intKind S.prog S.w) (k := (c : Int)) (by simp [intKind, Value.isInt]) hd hA (hm _ kn) hn fun h' e hx => ?_
    refine elEEAA hx.there fun ob t9 hob hc9 _ => ?_
    refine wpAny_bind (wpAny_isInstance ⟨ob, hob, hc9⟩ subKL ?_)
    refine wpAny_ite_true rfl ?_
    refine wpAny_bind (wpAny_rule (wpAny_pure ?_))
    exact h .keep _ (Le.grow hx.keeps (by show s.toks ≤ s.toks + 1 + 1; lia)) (o.grow hx.keeps) (fun _ => rfl) fun t u e => by rw [hn] at e; exact nsm e
  · refine wpAny_getItem_of (knd := intKind S.prog S.w) (k := (c : Int)) (by simp [intKind, Value.isInt]) (hm _ kn) hs ?_
    refine wpAny_bind (wpAny_of_eq (a := none) rfl ?_)
    refine wpAny_bind (wpAny_of_eq (a := some t) rfl ?_)
    refine wpAny_pure (h (.text t) _ (Le.toks (by show s.toks ≤ s.toks + 1 + 1; lia)) o.toks (fun e => by rw [hs] at e; exact snm e) fun t' u' e => ?_)
    rw [hs] at e; cases e; rfl
noncomputable def escL (sp : List Nat) (l : List Nat) : List Nat := l.flatMap fun c => if sp.contains c then [92, c] else [c]
theorem escL_len (sp : List Nat) : ∀ l : List Nat, (escL sp l).length ≤ 2 * l.length
  | [] => by simp [escL]
  | c :: m => by
    have e : escL sp (c :: m) = (if sp.contains c then [92, c] else [c]) ++ escL sp m := by simp [escL]
    have := escL_len sp m
    rw [e, List.length_append, List.length_cons]
    split <;> simp only [List.length_cons, List.length_nil] <;> lia
theorem memLk {a : Option Nat} {c : Nat} : ∀ {l : List (Nat × Option Nat)}, l.lookup c = some a → (c, a) ∈ l
  | [], h => by exact nsm h
  | (x, y) :: l, h => by
    rw [List.lookup_cons] at h
    cases hx : c == x with
    | true =>
      rw [hx] at h
      (replace h := Option.some.inj h; subst h)
      rw [eq_of_beq hx]; exact .head _
    | false =>
      rw [hx] at h
      exact .tail _ (memLk h)
theorem trTree {A : Around} {s : Shared} {K : Kn} {E : Value → Shared → Prop} {d : Addr} {f : Int → Option Value} {sp l : List Nat} {t : Tok} {P : Fin → Shared → Prop} (hA : A.handled = none) (o : Ok S K s) (hd : (d == sysModules) = false)
    (hm : ∀ h : Heap, (∀ a o, S.K0 a = some o → h.get? a = some o) → h.MapOf (intKind S.prog S.w) d f) (hf : ∀ c ∈ l, c < 128 ∧ ((sp.contains c = false ∧ f c = none) ∨ (sp.contains c = true ∧ ∃ u, f c = some (.str (tx [92, c]) u))))
    (hl : l.length ≤ 2 ^ 20) (h : ∀ t' s', Le S s s' K K → Ok S K s' → P (.done (.ret (.str (tx (escL sp l)) t'))) s') : wpAny (M S) A (Builtin.«str.translate» ⟨[.str (tx l) t, .ref d], []⟩) P E s := by
  unfold Builtin.«str.translate»
  refine wpAny_bind (wpAny_of_eq (a := (.str (tx l) t, tx l, .ref d)) (by first | rfl | kernel_rfl) ?_)
  dsimp only
  have esc1 : ∀ c, escL sp [c] = if sp.contains c then [92, c] else [c] := fun c => by simp [escL]
  by_cases h0 : l = []
  · subst h0
    refine wpAny_ite_true (decide_eq_true ((show ((tx []).length == 0) = true from rfl))) ?_
    refine wpAny_bind (wpAny_rule ?_)
    refine wpAny_bind (wpAny_of_eq (a := .str (tx []) t) rfl (wpAny_pure (h t s Le.refl o)))
  refine wpAny_ite_false (decide_eq_false ((by rw [tx_len]; simpa using h0))) ?_
  generalize hG : (fun (c : Nat) (__s : List Str × Nat × Bool × List (Nat × Option Nat) × Bool) => _) = G
  have hstep : ∀ (c : Nat) (ps : List Str) (tot : Nat) (fast : Bool) (known : List (Nat × Option Nat)) (s1 : Shared) (Q : ForInStep (List Str × Nat × Bool × List (Nat × Option Nat) × Bool) → Shared → Prop),
      ((sp.contains c = false ∧ f c = none) ∨ (sp.contains c = true ∧ ∃ u, f c = some (.str (tx [92, c]) u))) → (∀ p ∈ known, p.2 = some p.1 ∧ sp.contains p.1 = false) → tot ≤ 2 ^ 21 → Ok S K s1 →
      (∀ fast' known' s2, Le S s1 s2 K K → Ok S K s2 → (∀ p ∈ known', p.2 = some p.1 ∧ sp.contains p.1 = false) → Q (.yield (tx (escL sp [c]) :: ps, tot + (escL sp [c]).length, fast', known', false)) s2) →
      wpAny (M S) A (G c (ps, tot, fast, known, false)) Q E s1 := by
    intro c ps tot fast known s1 Q hc hkn ht o1 hq
    subst hG
    dsimp only
    have hnt : Builtin.Str.tooLong tot = false := by unfold Builtin.Str.tooLong; rw [sizeLine_eq]; exact decide_eq_false (by lia)
    have hfc : f c = none ∨ ∃ t u, f c = some (.str t u) := by
      rcases hc with ⟨_, h⟩ | ⟨_, u, h⟩
      · exact .inl h
      · exact .inr ⟨_, u, h⟩
    have last : ∀ (s3 : Shared) (known' : List (Nat × Option Nat)), Le S s1 s3 K K → Ok S K s3 → (∀ p ∈ known', p.2 = some p.1 ∧ sp.contains p.1 = false) → wpAny (M S) A (do
        let __do_lift ← Builtin.Str.tableLookup (Value.ref d) c
        match __do_lift with
          | Builtin.Str.Mapped.keep => pure (ForInStep.yield (({ cps := #[c] } : Str) :: ps, tot + 1, false, known', false))
          | Builtin.Str.Mapped.drop => pure (ForInStep.yield (ps, tot, false, known', true))
          | Builtin.Str.Mapped.char d => pure (ForInStep.yield (({ cps := #[d] } : Str) :: ps, tot + 1, false, known', false))
          | Builtin.Str.Mapped.text t => pure (ForInStep.yield (t :: ps, tot + t.length, false, known', false))) Q E s3 := fun s3 known' l3 o3 hk' => by
      refine wpAny_bind (lookTab hA o3 hd hm hfc fun r s4 l4 o4 hr1 hr2 => ?_)
      have l14 := Le.trans o1 o3 l3 l4
      rcases hc with ⟨hsp, hn⟩ | ⟨hsp, u, hs⟩
      · rw [hr1 hn]
        have := hq false known' s4 l14 o4 hk'
        rw [esc1, hsp] at this
        exact wpAny_pure this
      · rw [hr2 _ _ hs]
        have := hq false known' s4 l14 o4 hk'
        rw [esc1, hsp] at this
        exact wpAny_pure this
    rw [hnt]
    refine wpAny_ite_false rfl ?_
    cases fast with
    | false =>
      refine wpAny_ite_false rfl ?_
      exact last s1 known Le.refl o1 hkn
    | true =>
      refine wpAny_ite_true rfl ?_
      cases hk : known.lookup c with
      | some a =>
        refine elA (hkn (c, a) (memLk hk)) fun e1 e2 => ?_
        dsimp only at e1 e2
        subst e1
        refine wpAny_bind (wpAny_pure ?_)
        have := hq true known s1 Le.refl o1 hkn
        rw [esc1, e2] at this
        exact wpAny_pure this
      | none =>
        dsimp only
        refine wpAny_bind (lookTab hA o1 hd hm hfc fun r s4 l4 o4 hr1 hr2 => ?_)
        rcases hc with ⟨hsp, hn⟩ | ⟨hsp, u, hs⟩
        · rw [hr1 hn]
          dsimp only
          refine wpAny_bind (wpAny_pure ?_)
          have := hq true ((c, some c) :: known) s4 l4 o4 (fun p hp => by
            rcases List.mem_cons.mp hp with rfl | hp
            · exact ⟨rfl, hsp⟩
            · exact hkn p hp)
          rw [esc1, hsp] at this
          exact wpAny_pure this
        · rw [hr2 _ _ hs]
          have hl2 : ((tx [92, c]).length == 1 && (tx [92, c]).cps.all fun x => decide (x < 128)) = false := rfl
          simp only [hl2, Bool.false_eq_true, if_false]
          refine wpAny_bind (wpAny_pure ?_)
          refine wpAny_bind (wpAny_rule ?_)
          exact last s4 known l4 o4 hkn
  have hloop : ∀ (m : List Nat), (∀ c ∈ m, c ∈ l) → ∀ (ps : List Str) (tot : Nat) (fast : Bool) (known : List (Nat × Option Nat)) (s1 : Shared) (Q : List Str × Nat × Bool × List (Nat × Option Nat) × Bool → Shared → Prop),
      (∀ p ∈ known, p.2 = some p.1 ∧ sp.contains p.1 = false) → tot + 2 * m.length ≤ 2 ^ 21 → Ok S K s1 →
      (∀ fast' known' s2, Le S s1 s2 K K → Ok S K s2 → Q ((m.map fun c => tx (escL sp [c])).reverse ++ ps, tot + (escL sp m).length, fast', known', false) s2) →
      wpAny (M S) A (forIn m (ps, tot, fast, known, false) G) Q E s1 := by
    intro m
    induction m with
    | nil =>
      intro _ ps tot fast known s1 Q hk ht o1 hq
      rw [List.forIn_nil]
      exact wpAny_pure (hq fast known s1 Le.refl o1)
    | cons c m ih =>
      intro hm9 ps tot fast known s1 Q hk ht o1 hq
      rw [List.forIn_cons]
      simp only [List.length_cons] at ht
      have hlen : (escL sp [c]).length ≤ 2 := by rw [esc1]; split <;> simp
      refine wpAny_bind (hstep c ps tot fast known s1 _ (hf c (hm9 c (.head _))).2 hk (by lia) o1 fun fast' known' s2 l2 o2 hk' => ?_)
      refine ih (fun d hd => hm9 d (.tail _ hd)) _ _ fast' known' s2 Q hk' (by lia) o2 fun fast2 known2 s3 l3 o3 => ?_
      have := hq fast2 known2 s3 (Le.trans o1 o2 l2 l3) o3
      have e1 : (List.map (fun c => tx (escL sp [c])) (c :: m)).reverse ++ ps = (List.map (fun c => tx (escL sp [c])) m).reverse ++ tx (escL sp [c]) :: ps := by simp
      have e2 : tot + (escL sp (c :: m)).length = tot + (escL sp [c]).length + (escL sp m).length := by
        have : escL sp (c :: m) = escL sp [c] ++ escL sp m := by simp [escL]
        rw [this, List.length_append]; lia
      rw [e1, e2] at this
      exact this
  rw [tx_cps, List.forIn_toArray]
  refine wpAny_bind (hloop l (fun _ h => h) [] 0 _ [] s _ (fun p hp => by cases hp) (by lia) o fun fast known s2 l2 o2 => ?_)
  have hlen2 := escL_len sp l
  have hnt : Builtin.Str.tooLong (0 + (escL sp l).length) = false := by unfold Builtin.Str.tooLong; rw [sizeLine_eq]; exact decide_eq_false (by lia)
  dsimp only
  rw [hnt]
  refine wpAny_ite_false rfl ?_
  have hfold : ∀ (ps : List (List Nat)) (acc : Array Nat), (ps.map tx).foldl (fun acc p => acc ++ p.cps) acc = acc ++ ps.flatten.toArray := by
    intro ps
    induction ps with
    | nil => intro acc; simp
    | cons p ps ih => intro acc; simp only [List.map_cons, List.foldl_cons]; rw [ih]; simp [tx]
  have hout : (⟨List.foldl (fun acc p => acc ++ p.cps) #[] ((List.map (fun c => tx (escL sp [c])) l).reverse ++ []).reverse⟩ : Str) = tx (escL sp l) := by
    have : ((List.map (fun c => tx (escL sp [c])) l).reverse ++ []).reverse = (l.map fun c => escL sp [c]).map tx := by simp
    rw [this, hfold]
    have : (l.map fun c => escL sp [c]).flatten = escL sp l := by
      simp [escL, List.flatMap]
    rw [this]; simp [tx]
  show wpAny _ _ (retStr _) _ _ _
  rw [hout]
  unfold retStr
  refine wpAny_bind (wpAny_mkStr (wpAny_pure (h _ _ (Le.trans o o2 l2 Le.toks) o2.toks)) (by rw [tx_len, sizeLine_eq]; lia))
theorem strOk_small {l : List Nat} (h : ∀ c ∈ l, c < 128) : PyData.strOk (tx l) = true := by
  unfold PyData.strOk tx
  rw [Array.all_eq_true_iff_forall_mem]
  intro c hc
  have := h c (by simpa using hc)
  simp
  exact Nat.le_trans ‹_› (by decide)
theorem escL_small {sp l : List Nat} (h : ∀ c ∈ l, c < 128) : ∀ c ∈ escL sp l, c < 128 := by
  intro c hc
  unfold escL at hc
  refine elEA (List.mem_flatMap.mp hc) fun d hd hc => ?_
  split at hc
  · rcases List.mem_cons.mp hc with rfl | hc
    · decide
    · rw [List.mem_singleton] at hc; subst hc; exact h _ hd
  · rw [List.mem_singleton] at hc; subst hc; exact h _ hd
theorem CalS.translate {n : Nat} {f : Int → Option Value} {sp l : List Nat} (hι : S.ι n = n) (hd : ((n : Addr) == sysModules) = false)
    (hm : ∀ h : Heap, (∀ a o, S.K0 a = some o → h.get? a = some o) → h.MapOf (intKind S.prog S.w) n f) (hf : ∀ c ∈ l, c < 128 ∧ ((sp.contains c = false ∧ f c = none) ∨ (sp.contains c = true ∧ ∃ u, f c = some (.str (Mine.tx [92, c]) u))))
    (hl : l.length ≤ 2 ^ 20) : CalS S k (.builtin "str.translate") [.str (Mine.tx l), .tok n] (.str (Mine.tx (escL sp l))) := by
  intro A s K vs Q E ro o r h
  (refine elEEAA (two_inv r) fun v u e92 rv ru => ?_; subst e92)
  (refine elEA rv.str_inv fun t e91 hx => ?_; subst e91)
  rw [ru.tok_inv, hι]
  refine wpAny_call_entry F.slot_str_translate (typeIs_str _ _ _) F.entry_str_translate (trTree (by first | exact ro.1 | simpa using ro.1) o hd hm hf hl fun t' s' l' o' => ?_) (F.args_str_translate_2 _ _)
  exact ⟨_, rfl, h _ s' K l' o' (.str _ (strOk_small (escL_small fun c hc => (hf c hc).1)))⟩
theorem methTranslate : Meth "str" "translate" "str.translate" := ⟨F.plainAttrs_str, F.slot_str_translate, F.type_str_translate⟩
theorem EvS.globTok {x : Str} {pos : Pos} {n : Nat} (hx : isGlob cx.sc x = true) (hg : S.mg x = some (.ref n)) (hι : S.ι n = n) : EvS S k cx σ (.Name x pos) (.tok n) := by
  intro A env s K Q E ro o fm h
  refine evalGlob o fm hx (.inl hg) (h _ s K Le.refl o ?_)
  have := Rep.tok (S := S) (K := K) n
  rwa [hι] at this
theorem EvS.isinstStr {e : Expr} {np p2 pos : Pos} {x : Str} (h : EvS S k cx σ e (.str x)) (h1 : isGlob cx.sc "isinstance" = true) (g1 : S.mg "isinstance" = none ∧ S.mb "isinstance" = some (.builtin "isinstance"))
    (h2 : isGlob cx.sc "str" = true) (g2 : S.mg "str" = none ∧ S.mb "str" = some (.type "str")) (hp : Plain e = true := by rfl) : EvS S k cx σ (.Call (.Name "isinstance" np) [e, .Name "str" p2] [] pos) (.bool true) := by
  intro A env s K Q E ro o fm hq
  refine wpAny_Call_ofName (evalGlob o fm h1 (.inr g1) ?_)
  refine PyProof.Rows.callWith_builtin1 (wpAny_items_cons (h A env s K _ E ro o fm fun v s1 K1 l1 o1 r1 => ?_) (starEach_plain hp _ _)) (starEach_plain hp _ _) rfl
  (refine elEA r1.str_inv fun t e91 _ => ?_; subst e91)
  refine wpAny_items_cons (evalGlob o1 (fm.le o l1) h2 (.inr g2) ?_) (starEach_plain rfl _ _)
  refine wpAny_items_nil ?_
  exact PySem.IsiPair.str_str (hq _ s1 K1 l1 o1 (.bool true))
end Mine
namespace Mine
variable {S : Sys} {k : Nat} {cx : Cx} {σ : Sto}
noncomputable def Cx.tick (cx : Cx) (n : Nat) : Cx := ⟨cx.sc, cx.code, cx.wr, cx.fr, n, cx.ql⟩
theorem FmA.tick {env s K α n} (f : FmA S cx env σ s K α) (h : n ≤ s.toks) : FmA S (cx.tick n) env σ s K α := ⟨f.scope, f.code, f.kind, f.globals, f.builtins, h, f.ns, f.cla, f.cel⟩
theorem FrA.tick {env B K₀ s K α n} (f : FrA S cx env σ B K₀ s K α) (h : n ≤ s.toks) : FrA S (cx.tick n) env σ B K₀ s K α := ⟨f.ok, f.fm.tick h, f.keep, f.ext, f.old, f.locN, f.cells, f.apart, f.ownN, f.ownI⟩
theorem FrA.untick {env B K₀ s K α n} (f : FrA S (cx.tick n) env σ B K₀ s K α) (h : cx.tk ≤ n) : FrA S cx env σ B K₀ s K α :=
  ⟨f.ok, ⟨f.fm.scope, f.fm.code, f.fm.kind, f.fm.globals, f.fm.builtins, Nat.le_trans h f.fm.tok, f.fm.ns, f.fm.cla, f.fm.cel⟩, f.keep, f.ext, f.old, f.locN, f.cells, f.apart, f.ownN, f.ownI⟩
theorem storeLocT {A env B K₀ s K E α} {x : Str} {v : Value} {d : D} {Q : Unit → Shared → Prop} (f : FrA S cx env σ B K₀ s K α) (hk : cx.sc.names.lookup x = some .local) (r : Rep S K v d)
    (h : ∀ s', s.toks < s'.toks → FrA S cx env (σ.upd x (some (.val d))) B K₀ s' K α → Q () s') : wpAny (M S) A (storeName env x v) Q E s := by
  have hkind : env.scope.kind = .function := by rw [f.fm.scope]; exact f.fm.kind
  have hko : ∀ y, env.kindOf y = cx.sc.names.lookup y := fun y => by unfold Env.kindOf; rw [f.fm.scope]
  have hown : ∀ y xs, σ.upd x (some (.val d)) y = some (.own xs) → σ y = some (.own xs) := fun y xs e => by
    by_cases hy : y = x
    · subst hy; rw [Sto.upd_self] at e; cases e
    · rwa [Sto.upd_ne _ _ hy] at e
  refine elEA f.fm.ns fun m hm hx' => ?_
  refine wpAny_storeName_local ((hko x).trans hk) hm (fun h' hm' hs => ?_) (by rw [hkind]; rfl)
  have hd : ∀ ob, s.heap.get? env.locals = some ob → (∀ c, ob.data ≠ .cell c) ∧ (∀ vs n, ob ≠ lst vs n) ∧ ∀ vs, ob.data ≠ .fields vs := fun ob e => by
    (refine elEEEAA hm fun o' es ep e' hd _ => ?_; try clear hm)
    rw [e] at e'; (replace e' := Option.some.inj e'; subst e')
    exact ⟨fun c q => (by rw [hd] at q; cases q), fun vs n q => (by rw [q] at hd; cases hd), fun vs q => (by rw [hd] at q; cases q)⟩
  have hT : env.locals ∉ S.T := fun hm9 => by
    obtain ⟨_, ps, e, _⟩ := f.ok.tabs _ hm9
    exact (hd _ e).2.2 _ rfl
  have hc : ∀ c w, s.heap.IsCell c w → h'.IsCell c w := fun c w y => y.sameBut hs fun q => by
    (refine elEA y fun ob e hd' => ?_; try clear y)
    rw [q] at e
    exact (hd _ e).1 _ hd'
  refine h _ (Nat.lt_succ_self _) (f.stored f.locN.2 f.locN.1 hT hs hown (fun c w y => ⟨w, hc c w y⟩) ?_)
  refine ⟨f.fm.scope, f.fm.code, f.fm.kind, f.fm.globals, f.fm.builtins, Nat.le_succ_of_le f.fm.tok, ⟨_, hm', fun y e hl he => ?_⟩, fun y hy => let ⟨c, w, h1, h2⟩ := f.fm.cla y hy; ⟨c, w, h1, hc c w h2⟩, fun y e hy he => ?_⟩
  · by_cases hyx : y = x
    · subst hyx
      rw [Sto.upd_self] at he; (replace he := Option.some.inj he; subst he)
      exact ⟨v, by simp, r⟩
    · rw [Sto.upd_ne _ _ hyx] at he
      refine elEA (hx' y e hl he) fun u hu ru => ?_
      exact ⟨u, by simp [hyx, hu], ru.upd hs fun ob e => (hd ob e).2.1⟩
  · have hyx : y ≠ x := fun q => by subst q; rcases hy with hy | hy <;> rw [hk] at hy <;> cases hy
    rw [Sto.upd_ne _ _ hyx] at he
    refine elEEAA (f.fm.cel y e hy he) fun c u h1 h2 ru => ?_
    exact ⟨c, u, h1, hc c _ h2, ru.upd hs fun ob e => (hd ob e).2.1⟩
theorem ExP.tick {e : Expr} {x : Str} {p pos : Pos} {rest : List Stmt} {P} {d : D} (h : EvS S k cx σ e d) (hx : cx.sc.names.lookup x = some .local) (hn : notComp e = true) (h0 : cx.tk = 0)
    (g : ExP S k (cx.tick 1) (σ.upd x (some (.val d))) rest P) : ExP S k cx σ (.Assign [.Name x p] e pos :: rest) P := by
  intro A env B K₀ s K Q E ro f hq
  refine execsC ?_
  refine wpAny_Assign_Name (h A env s K _ E ro f.ok f.fm fun v s1 K1 l1 o1 r1 => ?_) (swaps_no hn _ _ _)
  refine elE (f.le l1 o1) fun α f1 => ?_
  refine storeLocT f1 hx r1 fun s2 ht f2 => ?_
  exact g A env B K₀ s2 K1 Q E ro ⟨α, f2.tick (by lia)⟩ fun f' fl σ' s' K' p fr => by
    refine elE fr fun α' fr => ?_
    exact hq f' fl σ' s' K' p ⟨α', fr.untick (by rw [h0]; exact Nat.zero_le _)⟩
theorem tok_ne0 {n : Nat} (h : 1 ≤ n) : (n : Tok) ≠ 0 := by
  intro e
  have : n = 0 := e
  lia
theorem EvS.replLL {ob : Expr} {apos pos p1 p2 : Pos} {n1 n2 : Nat} {x y z : Str} (h0 : EvS S k cx σ ob (.str x)) (ht : 1 ≤ cx.tk) (hyz : (y == z) = false) (hr : PyData.strOk (Txt.replace x y z) = true) (hb : x.length + (x.length + 1) * z.length ≤ 16777216)
    (hbase : ∀ env : Env, attributeBase ob "replace" env (eval ob env) = eval ob env) (hline : (apos.endLine == pos.line) = true) :
    EvS S k cx σ (.Call (.Attribute ob "replace" apos) [.Constant (.str y) n1 p1, .Constant (.str z) n2 p2] [] pos) (.str (Txt.replace x y z)) := by
  intro A env s K Q E ro o fm hq
  have fm' := fm
  (refine elE fm' fun α fa => ?_; try clear fm')
  refine wpAny_Call_method (T := "str") (id := "str.replace") (hbase env) rfl hline methReplace.plain methReplace.slot methReplace.ty (h0 A env s K _ E ro o fm fun v s1 K1 l1 o1 r1 => ?_)
  refine elA (typeOfD o1 r1 (T := "str") rfl) fun t1 t2 => ?_
  refine ⟨t1, t2, ?_⟩
  (refine elEA r1.str_inv fun t e91 hx => ?_; subst e91)
  have h1 : 1 ≤ s1.toks := Nat.le_trans ht (Nat.le_trans fa.tok l1.tok)
  refine callWith_method1 (wpAny_items_cons (wpAny_Constant_str (wpAny_items_cons (wpAny_Constant_str (wpAny_items_nil ?_)) (starEach_plain rfl _ _))) (starEach_plain rfl _ _)) (starEach_plain rfl _ _) rfl
  refine withTk (SC.replace (u := s1.toks) (v := s1.toks + 1) (tok_ne0 h1) (tok_ne0 (by exact Nat.succ_pos _)) (fun e => absurd (show s1.toks = s1.toks + 1 from e) (by lia)) hyz hb fun t' n ht' => ?_)
  have ht2 : s1.toks ≤ n := Nat.le_trans (Nat.le_succ_of_le (Nat.le_succ _)) ht'
  exact hq _ _ K1 (Le.trans o o1 l1 (Le.toks ht2)) o1.toks (.str _ hr)
end Mine
namespace Mine
variable {S : Sys} {k : Nat} {cx : Cx} {σ : Sto}
noncomputable def tabStd (ql : Addr → Pos → Str) (K : Kn) (P : Addr) (ps : Array Value) : Prop :=
  TriplesOk ps.toList ∧ ∀ pos cv, codeAmong pos ps.toList = some cv → ∃ c o vs t, cv = .ref c ∧ K c = some o ∧ o.data = .fields vs ∧ vs[1]? = some (.str (ql P pos) t)
theorem tabStd_mono {ql : Addr → Pos → Str} {K K' : Kn} {P ps} (h : K.le K') (t : tabStd ql K P ps) : tabStd ql K' P ps :=
  ⟨t.1, fun pos cv e => let ⟨c, o, vs, u, h1, h2, h3, h4⟩ := t.2 pos cv e; ⟨c, o, vs, u, h1, h _ _ h2, h3, h4⟩⟩
theorem triples_snoc {a b : Int} {t u : Tok} {c : Value} : ∀ l : List Value, TriplesOk l → TriplesOk (l ++ [.int a t, .int b u, c]) := by
  intro l h
  fun_induction TriplesOk l with
  | case1 => trivial
  | case2 x y z w c' rest ih => exact ih h
  | case3 => exact absurd h id
theorem among_snoc {p pos : Pos} {c cv : Value} (l : List Value) (h : TriplesOk l) (e : codeAmong p (l ++ [rawInt pos.line, rawInt pos.col, c]) = some cv) : codeAmong p l = some cv ∨ (pos.line = p.line ∧ pos.col = p.col ∧ cv = c) := by
  fun_induction TriplesOk l with
  | case1 =>
    right
    simp only [List.nil_append, codeAmong, rawInt] at e
    split at e
    · rename_i hc
      simp at hc
      (replace e := Option.some.inj e; subst e)
      exact ⟨by lia, by lia, rfl⟩
    · exact nsm e
  | case2 x y z w c' rest ih =>
    simp only [List.cons_append, codeAmong] at e ⊢
    split
    · rename_i hc
      rw [if_pos hc] at e
      exact .inl e
    · rename_i hc
      rw [if_neg hc] at e
      exact ih h e
  | case3 => exact absurd h id
noncomputable def lamFn (qual : Str) (params : Arguments) (body : Expr) (scope : Scope) (cl : List (Str × Addr)) (pm cdv ct : Value) : FuncData := kla_fn "<lambda>" qual params body scope cl pm cdv ct
theorem lamMake {A : Around} {env : Env} {s : Shared} {K : Kn} {E : Value → Shared → Prop} {params : Arguments} {body : Expr} {scope : Scope} {pos : Pos} {ql : Addr → Pos → Str} {c P : Addr} {Q : Value → Shared → Prop}
    (o : Ok S K s) (fm : Fm S cx env σ s K) (hcx : cx.code = .ref c) (hC : ∀ h : Heap, (∀ a ob, S.K0 a = some ob → h.get? a = some ob) → CodeHd h c P) (hPT : P ∈ S.T) (htab : S.tabOk = tabStd ql)
    (hB : ∀ h : Heap, (∀ a ob, S.K0 a = some ob → h.get? a = some ob) → h.BuiltinsAt S.mg P) (hgP : mainGlobals ≠ P) (hdef : defaultsOf params env = ([], [])) (hql : cx.ql ++ "<lambda>" = ql P pos) (hql2 : ∀ p : Pos, pos.line = p.line ∧ pos.col = p.col → ql P p = ql P pos)
    (hfree : ∀ n, (n, NameKind.free) ∈ scope.names → ∃ a, env.cells.lookup n = some a)
    (h : ∀ f s' K' cv ctv, Le S s s' K K' → Ok S K' s' → K' f = some { cls := .type "function", data := .func (lamFn (ql P pos) params body scope (closL env scope.names []) ((S.mg "__name__").getD .none) cv ctv) } →
      (∃ c' o' vs t, cv = .ref c' ∧ K' c' = some o' ∧ o'.data = .fields vs ∧ vs[1]? = some (.str (ql P pos) t)) → Q (.ref f) s') : wpAny (M S) A (eval (.Lambda params body scope pos) env) Q E s := by
  refine elE (id fm) fun α fa => ?_
  have kn : ∀ b ob, S.K0 b = some ob → s.heap.get? b = some ob := fun b ob e => K0_get o e
  have hq : env.qual ++ "<lambda>" = ql P pos := by rw [fa.code.2]; exact hql
  refine kla_eval hdef ?_
  rw [hq]
  obtain ⟨hPK, ps, eP, tP⟩ := o.tabs P hPT
  rw [htab] at tP
  (refine elA tP fun tr tkk => ?_; try clear tP)
  have hcl := closureFor_eq hfree
  cases hf : codeAmong pos ps.toList with
  | some cv =>
    refine withTk (kla_makeFunctionHit hcl fa.globals (S.nsG _ kn) (fa.code.1.trans hcx) (hC _ kn) eP tr hf (hB _ kn) fun ctv h' tk hk hsz ht => ?_)
    have l1 : Le S s { s with heap := h', toks := tk } K K := Le.grow hk ht
    have o1 : Ok S K { s with heap := h', toks := tk } := o.grow hk
    have hcv := tkk pos cv hf
    (refine elEEEEAAA hcv fun c' o' vs t e94 e1 e2 e3 => ?_; try clear hcv; subst e94)
    have l2 := Le.push (ob := { cls := .type "function", data := .func (lamFn (ql P pos) params body scope (closL env scope.names []) ((S.mg "__name__").getD .none) (.ref c') ctv) }) o1
    have o2 := o1.push (ob := { cls := .type "function", data := .func (lamFn (ql P pos) params body scope (closL env scope.names []) ((S.mg "__name__").getD .none) (.ref c') ctv) }) rfl
    exact h _ _ _ _ ctv (Le.trans o o1 l1 l2) o2 (Kn.add_self ..) ⟨c', o', vs, t, rfl, l2.ext _ _ e1, e2, e3⟩
  | none =>
    refine withTk (kla_makeFunction hcl fa.globals (S.nsG _ kn) (fa.code.1.trans hcx) (hC _ kn) eP tr hf hgP (hB _ kn) fun c' ctv h' tk9 hx hge hlt hrec htb ht => ?_)
    (refine elEEEEAAA hrec fun c2 o' vs t e0 e1 e2 e3 => ?_; try clear hrec)
    cases e0
    have hc0 : s.heap.get? c' = none := by
      cases e : s.heap.get? c' with
      | none => rfl
      | some o9 => exact absurd (Heap.lt_size e) (Nat.not_lt.mpr hge)
    have hKc : K c' = none := o.noneK hc0
    have hle : K.le (K.add c' o') := Kn.le_add hKc
    have hTc : ∀ P2 ∈ S.T, P2 ≠ c' := fun P2 hm q => by
      obtain ⟨_, ps2, e, _⟩ := o.tabs P2 hm
      rw [q, hc0] at e; exact nsm e
    have o1 : Ok S (K.add c' o') { s with heap := h', toks := tk9 } := by
      refine ⟨fun a ob e => ?_, Kn.le_trans o.base hle, fun P2 hm => ?_, o.bare, o.os⟩
      · by_cases q : a = c'
        · subst q; rw [Kn.add_self] at e; (replace e := Option.some.inj e; subst e); exact e1
        · rw [Kn.add_ne q] at e
          exact hx a ob (fun q => by rw [q, hPK] at e; exact nsm e) (o.kn a ob e)
      · obtain ⟨h1, ps2, e, t2⟩ := o.tabs P2 hm
        refine ⟨by rw [Kn.add_ne (hTc P2 hm)]; exact h1, ?_⟩
        by_cases q : P2 = P
        · subst q
          refine ⟨_, htb, ?_⟩
          rw [htab]
          have hl : (ps ++ #[rawInt pos.line, rawInt pos.col, .ref c']).toList = ps.toList ++ [rawInt pos.line, rawInt pos.col, .ref c'] := by simp
          refine ⟨by rw [hl]; exact triples_snoc _ tr, fun p cv e => ?_⟩
          rw [hl] at e
          rcases among_snoc _ tr e with e | ⟨z1, z2, rfl⟩
          · refine elEEEEAAA (tkk p cv e) fun c9 o9 vs9 t9 y1 y2 y3 y4 => ?_
            exact ⟨c9, o9, vs9, t9, y1, hle _ _ y2, y3, y4⟩
          · exact ⟨c', o', vs, t, rfl, Kn.add_self .., e2, by rw [hql2 p ⟨z1, z2⟩]; exact e3⟩
        · exact ⟨ps2, hx P2 _ q e, S.tabMono _ _ _ _ hle t2⟩
    have l1 : Le S s { s with heap := h', toks := tk9 } K (K.add c' o') := by
      refine ⟨fun b ob hb e => hx b ob (fun q => hb (q ▸ hPT)) e, hle, fun a ha => Kn.add_ne fun q => ha (by rw [q]; exact hc0), ht⟩
    have l2 := Le.push (ob := { cls := .type "function", data := .func (lamFn (ql P pos) params body scope (closL env scope.names []) ((S.mg "__name__").getD .none) (.ref c') ctv) }) o1
    have o2 := o1.push (ob := { cls := .type "function", data := .func (lamFn (ql P pos) params body scope (closL env scope.names []) ((S.mg "__name__").getD .none) (.ref c') ctv) }) rfl
    exact h _ _ _ _ ctv (Le.trans o o1 l1 l2) o2 (Kn.add_self ..) ⟨c', o', vs, t, rfl, l2.ext _ _ (Kn.add_self ..), e2, e3⟩
end Mine
namespace Mine
variable {S : Sys} {k : Nat} {cx : Cx} {σ : Sto}
noncomputable def drive : Nat → Sre.M → Option Sre.M
  | 0, _ => none
  | j + 1, m => if (m.runFor 4).outcome.isSome then some (m.runFor 4) else drive j (m.runFor 4)
theorem driveW {A : Around} {s : Shared} {E : Value → Shared → Prop} {Q : Sre.M → Shared → Prop} {r : Sre.M} (h : Q r s) : ∀ (j N : Nat) (m : Sre.M), drive j m = some r → j ≤ N → wpAny (M S) A (Builtin.Re.reDrive N m) Q E s
  | 0, _, _, e, _ => by exact nsm e
  | j + 1, 0, _, _, hN => by lia
  | j + 1, N + 1, m, e, hN => by
    unfold drive at e
    show wpAny (M S) A (if (m.runFor 4).outcome.isSome then pure (m.runFor 4) else do rule "sre.turn"; Builtin.Re.reDrive N (m.runFor 4)) Q E s
    split at e
    · rename_i ho
      refine wpAny_ite_true (decide_eq_true (ho)) ?_
      (replace e := Option.some.inj e; subst e)
      exact wpAny_pure h
    · rename_i ho
      refine wpAny_ite_false (decide_eq_false (ho)) ?_
      exact wpAny_bind (wpAny_rule (driveW h j N _ e (by exact Nat.le_of_lt_succ ‹_›)))
theorem rulesW {A : Around} {s : Shared} {E : Value → Shared → Prop} {Q : PUnit → Shared → Prop} (p : Nat → Bool) (nm : Nat → String) (h : Q ⟨⟩ s) : ∀ l : List Nat, wpAny (M S) A (forIn l PUnit.unit fun i _ => if p i = true then do rule (nm i); pure (ForInStep.yield PUnit.unit) else pure (ForInStep.yield PUnit.unit)) Q E s
  | [] => by rw [List.forIn_nil]; exact wpAny_pure h
  | i :: l => by
    rw [List.forIn_cons]
    split
    · exact wpAny_bind (wpAny_bind (wpAny_rule (wpAny_pure (rulesW p nm h l))))
    · exact wpAny_bind (wpAny_pure (rulesW p nm h l))
theorem runNone {A : Around} {s : Shared} {E : Value → Shared → Prop} {Q : Option Sre.M → Shared → Prop} {m r : Sre.M} (hd : drive 1000 m = some r) (ho : r.outcome = some .failed) (h : Q none s) : wpAny (M S) A (Builtin.Re.reRunToEnd m) Q E s := by
  unfold Builtin.Re.reRunToEnd
  refine wpAny_bind (driveW ?_ 1000 _ m hd (by decide))
  refine wpAny_bind (rulesW (S := S) (fun i => r.seen.has i) (fun i => Sre.names.getD i "") ?_ _)
  rw [ho]
  exact wpAny_pure h
theorem runSome {A : Around} {s : Shared} {E : Value → Shared → Prop} {Q : Option Sre.M → Shared → Prop} {m r : Sre.M} (hd : drive 1000 m = some r) (ho : r.outcome = some .matched) (h : Q (some r) s) : wpAny (M S) A (Builtin.Re.reRunToEnd m) Q E s := by
  unfold Builtin.Re.reRunToEnd
  refine wpAny_bind (driveW ?_ 1000 _ m hd (by decide))
  refine wpAny_bind (rulesW (S := S) (fun i => r.seen.has i) (fun i => Sre.names.getD i "") ?_ _)
  rw [ho]
  exact wpAny_pure h
noncomputable def twin : Array Nat := #[14, 14, 4, 1, 1, 9, 0, 64, 0, 1342177280, 0, 0, 0, 0, 0, 17, 0, 13, 11, 9, 0, 64, 0, 1342177280, 0, 0, 0, 0, 0, 17, 1, 1]
noncomputable def noFind (l : List Nat) : Bool := match drive 1000 (Sre.forSearch twin l.toArray 1 0 l.length false) with
  | some r => (match r.outcome with | some .failed => true | _ => false)
  | none => false
end Mine
namespace Mine
variable {S : Sys} {k : Nat} {cx : Cx} {σ : Sto}
namespace Re9
theorem plain : PlainAttrs "re.Pattern" := ⟨⟨"object.__getattribute__", by rw [typeLookup_type, builtinLookup_eq_fast]; kernel_rfl, by decide +kernel⟩, by rw [typeLookup_type, builtinLookup_eq_fast]; kernel_rfl⟩
theorem slot : Slot "re.Pattern" "sub" "re.Pattern.sub" :=
  .of (owner := "re.Pattern") (n := "sub") (by rw [typeLookup_type, builtinLookup_eq_fast]; kernel_rfl) (by decide +kernel) (by decide +kernel) (by decide +kernel)
    (by first | exact .inl (by decide +kernel) | exact .inr (by decide +kernel)) (by rw [isSubtype_type]; kernel_rfl)
theorem ty : typeOf (.builtin "re.Pattern.sub") = pure (.type "method_descriptor") := by show builtinType _ = _; rw [builtinType_eq_fast]; kernel_rfl
theorem entry : entryFor table "re.Pattern.sub" = some Builtin.«re.Pattern.sub» := entryFor_of_tree (by kernel_rfl)
theorem entryL : entryFor table "re.Pattern.sub.loop" = some Builtin.«re.Pattern.sub.loop» := entryFor_of_tree (by kernel_rfl)
theorem args (a b c : Value) : argsOk "re.Pattern.sub" ⟨[a, b, c], []⟩ := by unfold argsOk; kernel_rfl
theorem callF : typeLookup (.type "function") "__call__" = pure (some (.builtin "function.__call__")) := by rw [typeLookup_type, builtinLookup_eq_fast]; kernel_rfl
end Re9
noncomputable def reObj (p0 : Value) (ct : Addr) (t1 : Tok) : Obj := ⟨.type "re.Pattern", none, .fields #[p0, .int 32 t1, .int 1 0, .none, .none, .ref ct, .int 0 0], #[]⟩
theorem wholeTarget {A : Around} {s : Shared} {E : Value → Shared → Prop} {Q : Builtin.Re.ReTarget → Shared → Prop} {re ct : Addr} {p0 : Value} {t1 : Tok} {items : Array Value} {n : Nat} {x : Str} {t : Tok} (hre : s.heap.get? re = some (reObj p0 ct t1)) (hct : s.heap.get? ct = some ⟨.type "tuple", none, .seq items n, #[]⟩)
    (hit : (items.map Builtin.Re.reRawOf).map (·.toNat) = twin)
    (h : Q ⟨.ref re, .str x t, twin, x.cps, 0, 1, 0, x.cps.size⟩ s) : wpAny (M S) A (Builtin.Re.reWholeTarget (.ref re) (.str x t)) Q E s := by
  unfold Builtin.Re.reWholeTarget
  unfold reObj at hre
  repeat (any_goals (first | assumption | wp_step))
  simp only [Option.getD_some]
  rw [hit]
  exact h
theorem seqItemsW {A : Around} {s : Shared} {E : Value → Shared → Prop} {Q : Option (Array Value) → Shared → Prop} {lp : Addr} {items : Array Value} {n : Nat} (hat : s.heap.get? lp = some { cls := .type "list", dict := none, data := .seq items n, slots := #[] }) (h : Q (some items) s) :
    wpAny (M S) A (seqItems? (.ref lp)) Q E s := by
  repeat (any_goals (first | assumption | wp_step))
theorem loopTree {A : Around} {s : Shared} {P : Fin → Shared → Prop} {E : Value → Shared → Prop} {re ct f lp : Addr} {p0 : Value} {t1 : Tok} {items : Array Value} {n : Nat} {l : List Nat} {t : Tok} (hre : s.heap.get? re = some (reObj p0 ct t1)) (hct : s.heap.get? ct = some ⟨.type "tuple", none, .seq items n, #[]⟩)
    (hit : (items.map Builtin.Re.reRawOf).map (·.toNat) = twin) (hlp : s.heap.get? lp = some (lst [] 0)) (hno : noFind l = true) (hl0 : l ≠ []) (hl : l.length ≤ 1000)
    (h : ∀ t' h' tk, Heap.SameBut lp s.heap h' → s.toks ≤ tk → P (.done (.ret (.str (tx l) t'))) { s with heap := h', toks := tk }) :
    wpAny (M S) A (Builtin.«re.Pattern.sub.loop» ⟨[.ref re, .str (tx l) t, .ref f, rawInt 1, rawInt 0, rawInt 0, rawInt 0, rawInt 0, .bool false, .ref lp, .bool false], []⟩) P E s := by
  unfold Builtin.«re.Pattern.sub.loop»
  refine wpAny_bind (wholeTarget (x := tx l) hre hct hit ?_)
  unfold noFind at hno
  split at hno
  · rename_i r hd
    have ho : r.outcome = some .failed := by
      revert hno
      cases r.outcome with
      | none => intro h; exact ft h
      | some o => cases o <;> intro h <;> first | rfl | exact ft h
    have hsz : (tx l).cps.size = l.length := by simp [tx]
    refine wpAny_bind (m := Builtin.Re.reNextFound _ _ _) (runNone (r := r) (by rw [hsz]; exact hd) ho ?_)
    dsimp only
    have hpos : 0 < l.length := List.length_pos_iff.mpr hl0
    refine wpAny_ite_true (decide_eq_true ((show Int.toNat 0 < (tx l).cps.size by rw [hsz]; exact hpos))) ?_
    have hall : (⟨(tx l).cps.extract (Int.toNat 0) (tx l).cps.size⟩ : Str) = tx l := by
      show (⟨(tx l).cps.extract 0 (tx l).cps.size⟩ : Str) = tx l
      rw [Array.extract_size]
    refine wpAny_bind (m := Builtin.Re.reSlice _ _ _ _) ?_
    show wpAny _ _ (mkStr _) _ _ _
    rw [hall]
    refine wpAny_mkStr ?_ (by rw [tx_len, sizeLine_eq]; exact Nat.le_trans ‹_› (by decide))
    refine wpAny_bind (wpAny_updateSeq (f := fun x => x.push (.str (tx l) s.toks)) (a := lp) hlp rfl ?_)
    have hat : (s.heap.update lp (Obj.mapSeq (·.push (.str (tx l) s.toks)))).get? lp = some (lst1 [] 0 (.str (tx l) s.toks)) := by
      rw [Heap.get?_update_self _ hlp (by rw [lst_push]; rfl), lst_push]
    refine wpAny_bind (m := Builtin.Re.reSlice _ _ _ _) ?_
    show wpAny _ _ (mkStr _) _ _ _
    have hnil : (⟨(tx l).cps.extract 0 0⟩ : Str) = tx [] := by
      have : (tx l).cps.extract 0 0 = #[] := by simp
      rw [this]; rfl
    rw [hnil]
    refine wpAny_mkStr ?_ (by rw [tx_len, sizeLine_eq]; exact Nat.zero_le _)
    have hat' : (s.heap.update lp (Obj.mapSeq (·.push (.str (tx l) s.toks)))).get? lp = some { cls := .type "list", dict := none, data := .seq #[.str (tx l) s.toks] 1, slots := #[] } := hat
    have hIs : (s.heap.update lp (Obj.mapSeq (·.push (.str (tx l) s.toks)))).IsList lp (strValues [(tx l, s.toks)]).toArray := ⟨_, hat', rfl, 1, rfl⟩
    have fin : ∀ (s9 : Shared) (t9 : Tok), s9 = { s with heap := s.heap.update lp (Obj.mapSeq (·.push (.str (tx l) s.toks))), toks := s.toks + 1 + 1 } →
        wpAny (M S) A (call (.builtin "str.join") [.str (tx []) t9, .ref lp]) (fun text s' => wpAny (M S) A (ret text) P E s') E s9 := fun s9 t9 e => by
      subst e
      have hj : JoinOk (tx []) [tx l] = true := joinOk_tx (ps := [l]) (by simp; exact Nat.le_trans ‹_› (by decide))
      refine withTk (SC.join (l := [(tx l, s.toks)]) (texts := [tx l]) hIs rfl hj fun t' tk ht => ?_)
      rw [joinEq]
      refine wpAny_pure (h t' _ tk (Heap.SameBut.update ..) (Nat.le_trans (by show s.toks ≤ s.toks + 1 + 1; lia) ht))
    refine wpAny_bind (seqItemsW hat' ?_)
    refine wpAny_ite_false (decide_eq_false ((by simp))) ?_
    exact wpAny_bind (wpAny_mono (fin _ _ rfl) (fun _ _ x => x) fun _ _ x => x)
  · exact ft hno
theorem subTree {A : Around} {s : Shared} {P : Fin → Shared → Prop} {E : Value → Shared → Prop} {re ct f : Addr} {p0 : Value} {t1 : Tok} {items : Array Value} {n : Nat} {l : List Nat} {t : Tok} {fd : FuncData} (hre : s.heap.get? re = some (reObj p0 ct t1)) (hct : s.heap.get? ct = some ⟨.type "tuple", none, .seq items n, #[]⟩)
    (hit : (items.map Builtin.Re.reRawOf).map (·.toNat) = twin) (hf : s.heap.get? f = some { cls := .type "function", data := .func fd })
    (h : P (.again (.builtin "re.Pattern.sub.loop" ⟨[.ref re, .str (tx l) t, .ref f, rawInt 1, rawInt 0, rawInt 0, rawInt 0, rawInt 0, .bool false, .ref s.heap.objs.size, .bool false], []⟩)) { s with heap := s.heap.push (lst [] 0) }) :
    wpAny (M S) A (Builtin.«re.Pattern.sub» ⟨[.ref re, .ref f, .str (tx l) t], []⟩) P E s := by
  unfold Builtin.«re.Pattern.sub» Builtin.Re.reSubstitute
  have f1 := Re9.callF
  have hT : s.TypeIs (.ref f) "function" := ⟨_, hf, rfl⟩
  refine wpAny_bind (wpAny_of_eq (a := [some (.ref f), some (.str (tx l) t), none]) (by first | rfl | kernel_rfl) ?_)
  dsimp only
  refine wpAny_bind (wpAny_pure ?_)
  refine wpAny_bind (wpAny_specialOf hT f1 ?_)
  simp only [Option.isSome_some, if_true]
  refine wpAny_bind (wpAny_pure ?_)
  refine wpAny_bind (wpAny_pure ?_)
  dsimp only
  refine wpAny_bind (wpAny_holding (wholeTarget (x := tx l) hre hct hit ?_))
  refine wpAny_ite_true (decide_eq_true ((show ((1 : Int) == 1) = true from rfl))) ?_
  have hb : isSubtype (.type "str") (.type "bytearray") = pure false := by rw [isSubtype_type]; kernel_rfl
  refine wpAny_bind (m := Builtin.Re.reNotHeld _ _) ?_
  unfold Builtin.Re.reNotHeld
  refine wpAny_bind (wpAny_isInstance (typeIs_str _ _ _) hb ?_)
  refine wpAny_ite_false rfl ?_
  refine wpAny_pure ?_
  refine wpAny_bind (wpAny_newObj_type ?_ (Nat.zero_le _))
  exact wpAny_pure h
theorem subCall {A : Around} {s : Shared} {Q : Value → Shared → Prop} {E : Value → Shared → Prop} {re ct f : Addr} {p0 : Value} {t1 : Tok} {items : Array Value} {n : Nat} {l : List Nat} {t : Tok} {fd : FuncData} (hre : s.heap.get? re = some (reObj p0 ct t1)) (hct : s.heap.get? ct = some ⟨.type "tuple", none, .seq items n, #[]⟩)
    (hit : (items.map Builtin.Re.reRawOf).map (·.toNat) = twin) (hf : s.heap.get? f = some { cls := .type "function", data := .func fd }) (hno : noFind l = true) (hl0 : l ≠ []) (hl : l.length ≤ 1000)
    (h : ∀ t' h' tk, (∀ b ob, s.heap.get? b = some ob → h'.get? b = some ob) → s.toks ≤ tk → Q (.str (tx l) t') { s with heap := h', toks := tk }) : wpAny (M S) A (call (.builtin "re.Pattern.sub") [.ref re, .ref f, .str (tx l) t]) Q E s := by
  refine wpAny_call (codeAny_call_builtin Re9.slot.plain Re9.entry (Re9.slot.check _ _ _ _ _ _ _ _ ⟨_, hre, rfl⟩ (Re9.args _ _ _) ?_))
  refine subTree hre hct hit hf ?_
  have hk : ∀ b ob, s.heap.get? b = some ob → (s.heap.push (lst [] 0)).get? b = some ob := fun b ob e => Heap.get?_push_of_some _ e
  refine ⟨Code.quiet_builtin _ (by decide +kernel), codeAny_builtin Re9.entryL ?_⟩
  refine loopTree (s := { s with heap := s.heap.push (lst [] 0) }) (hk _ _ hre) (hk _ _ hct) hit (Heap.get?_push_size _ rfl) hno hl0 hl fun t' h' tk hs ht => ?_
  refine h t' h' tk (fun b ob e => ?_) ht
  exact (hs.2 b (Nat.ne_of_lt (Heap.lt_size e))).trans (hk _ _ e)
set_option genInjectivity false in
structure LamAt (S : Sys) (cx : Cx) (ql : Addr → Pos → Str) (c P : Addr) (pos : Pos) : Prop where
  code : cx.code = .ref c
  hd : ∀ h : Heap, (∀ a ob, S.K0 a = some ob → h.get? a = some ob) → CodeHd h c P
  inT : P ∈ S.T
  tab : S.tabOk = tabStd ql
  blt : ∀ h : Heap, (∀ a ob, S.K0 a = some ob → h.get? a = some ob) → h.BuiltinsAt S.mg P
  ne : mainGlobals ≠ P
  q1 : cx.ql ++ "<lambda>" = ql P pos
  q2 : ∀ p : Pos, pos.line = p.line ∧ pos.col = p.col → ql P p = ql P pos
theorem EvS.subNone {x : Str} {p1 ap lp pos : Pos} {params : Arguments} {body : Expr} {scope : Scope} {e2 : Expr} {l : List Nat} {re ct c P : Addr} {ql : Addr → Pos → Str} {p0 : Value} {t1 : Tok} {items : Array Value} {n : Nat} (hx : isGlob cx.sc x = true) (hg : S.mg x = some (.ref re))
    (hre : S.K0 re = some (reObj p0 ct t1)) (hct : S.K0 ct = some ⟨.type "tuple", none, .seq items n, #[]⟩) (hit : (items.map Builtin.Re.reRawOf).map (·.toNat) = twin) (L : LamAt S cx ql c P lp) (h2 : EvS S k cx σ e2 (.str (Mine.tx l))) (hno : noFind l = true) (hl0 : l ≠ []) (hl : l.length ≤ 1000)
    (hdef : ∀ env : Env, defaultsOf params env = ([], [])) (hfree : ∀ n, (n, NameKind.free) ∉ scope.names) (hp : Plain e2 = true := by rfl) (hline : (ap.endLine == pos.line) = true := by rfl) :
    EvS S k cx σ (.Call (.Attribute (.Name x p1) "sub" ap) [.Lambda params body scope lp, e2] [] pos) (.str (Mine.tx l)) := by
  intro A env s K Q E ro o fm hq
  have hform : ∀ {es : List Expr}, allPlain es = true → ((backTo pos (starEach es env)).all fun x => !x.1) = true := fun {es} h => by
    have := noStars (pos := pos) (env := env) h
    rw [List.any_eq_false] at this
    rw [List.all_eq_true]
    intro x hx
    simpa using this x hx
  have hpl : allPlain [.Lambda params body scope lp, e2] = true := by simp [allPlain, hp]; rfl
  refine wpAny_Call_method (T := "re.Pattern") (id := "re.Pattern.sub") rfl ?_ hline Re9.plain Re9.slot Re9.ty (evalGlob o fm hx (.inl hg) ?_)
  · rw [hform hpl]; rfl
  refine ⟨⟨_, K0_get o hre, rfl⟩, fun a e => by cases e; exact ⟨_, K0_get o hre, rfl⟩, ?_⟩
  refine callWith_method1 (wpAny_items_cons (lamMake o fm L.code L.hd L.inT L.tab L.blt L.ne (hdef env) L.q1 L.q2 (fun n h => absurd h (hfree n)) fun f s1 K1 cv ctv l1 o1 hK hcv => ?_) (starEach_plain rfl _ _)) (starEach_plain rfl _ _) (noStars (es := [e2]) (by simp [allPlain, hp]))
  refine wpAny_items_cons (h2 A env s1 K1 _ E ro o1 (fm.le o l1) fun v s2 K2 l2 o2 r2 => ?_) (starEach_plain hp _ _)
  refine wpAny_items_nil ?_
  (refine elEA r2.str_inv fun t e91 hx2 => ?_; subst e91)
  have l12 := Le.trans o o1 l1 l2
  refine subCall (K0_get o2 hre) (K0_get o2 hct) hit (o2.kn _ _ (l2.ext _ _ hK)) hno hl0 hl fun t' h' tk hk ht => ?_
  exact hq _ _ K2 (Le.trans o o2 l12 (Le.grow hk ht)) (o2.grow hk) (.str _ hx2)
end Mine
namespace Mine
inductive It where
  | lit (c : Nat)
  | star
  | any
  | bar (c : Nat)
  | br (c : Nat)
noncomputable def itP : It → List Nat
  | .lit c => [c]
  | .star => [42]
  | .any => [63]
  | .bar c => [91, 33, c, 93]
  | .br c => [91, c, 93]
noncomputable def patP (is : List It) : List Nat := is.flatMap itP
noncomputable def spc : List Nat := [40, 41, 91, 93, 123, 125, 63, 42, 43, 45, 124, 94, 36, 92, 46, 38, 126, 35, 32, 9, 10, 13, 11, 12]
noncomputable def insP (c : Nat) : List Nat := if [92, 45, 38, 126, 124].contains c then [92, c] else [c]
noncomputable def ins2 (c : Nat) : List Nat := if [92, 45, 38, 126, 124, 94].contains c then [92, c] else [c]
noncomputable def pieceP : It → Option (List Nat)
  | .lit c => some (escL spc [c])
  | .star => none
  | .any => some [46]
  | .bar c => some ([91, 94] ++ insP c ++ [93])
  | .br c => some ([91] ++ ins2 c ++ [93])
noncomputable def addP (acc : List (Option (List Nat))) : It → List (Option (List Nat))
  | .star => if acc.getLast? = some none then acc else acc ++ [none]
  | it => acc ++ [pieceP it]
noncomputable def partsP (is : List It) : List (Option (List Nat)) := is.foldl addP []
theorem partsP_snoc (is : List It) (it : It) : partsP (is ++ [it]) = addP (partsP is) it := by simp [partsP]
theorem addP_len (acc : List (Option (List Nat))) (it : It) : (addP acc it).length ≤ acc.length + 1 := by
  cases it <;> simp only [addP] <;> (try split) <;> simp
theorem partsP_len (is : List It) : (partsP is).length ≤ is.length := by
  have : ∀ (is : List It) (acc : List (Option (List Nat))), (is.foldl addP acc).length ≤ acc.length + is.length := by
    intro is
    induction is with
    | nil => intro acc; simp
    | cons i is ih =>
      intro acc
      have h1 := ih (addP acc i)
      have h2 := addP_len acc i
      simp only [List.foldl_cons, List.length_cons]
      lia
  simpa [partsP] using this is []
theorem sg_in {L : List Nat} {c : Nat} (h : L.contains c = true) : c ∈ L := by simpa using h
noncomputable def sgn (c : Nat) : Bool := [97, 98, 99, 46, 43, 94, 36, 40, 41, 123, 125, 124, 38, 126, 35, 45, 92].contains c
noncomputable def itOk : It → Bool
  | .lit c => sgn c
  | .bar c => sgn c
  | .br c => sgn c
  | _ => true
end Mine
namespace Mine
noncomputable def joinG : List (Option (List Nat)) → Option (List Nat) → List Nat
  | [], none => []
  | [], some acc => [46, 42] ++ acc
  | some s :: r, none => s ++ joinG r none
  | some s :: r, some acc => joinG r (some (acc ++ s))
  | none :: r, none => joinG r (some [])
  | none :: r, some acc => [40, 63, 62, 46, 42, 63] ++ acc ++ [41] ++ joinG r (some [])
noncomputable def wrapP (p : List Nat) : List Nat := [40, 63, 62, 46, 42, 63] ++ p ++ [41]
noncomputable def tpTail : List (List Nat) → List Nat
  | [] => []
  | [p] => [46, 42] ++ p
  | p :: q :: r => wrapP p ++ tpTail (q :: r)
noncomputable def tpG : List (List Nat) → List Nat
  | [] => []
  | [p] => [46, 42] ++ p
  | p :: q :: r => p ++ tpTail (q :: r)
end Mine
namespace Mine
variable {S : Sys} {k : Nat} {cx : Cx} {σ : Sto}
theorem CmpS.isInTup {d1 : D} {ds : List D} (h1 : okD 8 d1 = true := by rfl) (h2 : okD 8 (.tuple ds) = true := by rfl) : CmpS S k .In d1 (.tuple ds) (ds.any fun e => eqvD e d1) := by
  intro A s K v1 v2 Q E ro o r1 r2 h
  refine elE (reads_of o.kn 8 v1 d1 r1 h1) fun as q1 => ?_
  refine elE (reads_of o.kn 8 v2 _ r2 h2) fun bs q2 => ?_
  rw [toP] at q2
  have q := lay_of 8 v2 _ r2 h2
  have q3 := q.2
  simp only [toP, PyData.canLay0, PyData.depth] at q q3
  have c1 := lay_of 8 v1 d1 r1 h1
  have e : ((toPs ds).any fun y => PyData.eqv y (toP d1)) = ds.any fun e => eqvD e d1 := by
    clear h h2 r2 q2 q q3
    induction ds with
    | nil => rfl
    | cons d ds ih => simp only [toPs, List.any_cons, ih, eqvD]
  refine SeqAt.in_tuple_reads q2 q1 q.1 c1.1 ?_ (by rw [e]; exact h s K Le.refl o)
  have := ro.units
  have := Nat.min_le_left (PyData.depthAll (toPs ds)) (toP d1).depth
  lia
end Mine
namespace Mine
variable {S : Sys} {k : Nat} {cx : Cx} {σ : Sto}
theorem ob_mro : mroOf (.type "object") = pure [.type "object"] := by kernel_rfl
theorem ob_new : typeLookup (.type "object") "__new__" = pure (some (.builtin "object.__new__")) := by rw [typeLookup_type, builtinLookup_eq_fast]; kernel_rfl
theorem ob_init : Slot "object" "__init__" "object.__init__" :=
  .of (owner := "object") (n := "__init__") (by rw [typeLookup_type, builtinLookup_eq_fast]; kernel_rfl) (by decide +kernel) (by decide +kernel) (by decide +kernel)
    (by first | exact .inl (by decide +kernel) | exact .inr (by decide +kernel)) (by rw [isSubtype_type]; kernel_rfl)
theorem ob_called : TypeCalled "object" "object.__new__" "object.__init__" :=
  ⟨by decide +kernel, by decide +kernel, ⟨_, _, ob_mro⟩, madeBy_type ob_mro ob_new (by decide +kernel), by decide +kernel, by rw [isSubtype_type]; kernel_rfl, ob_init⟩
theorem ob_check : checkTypeCall "object" ⟨[], []⟩ = pure () := by kernel_rfl
theorem ob_checkN : checkBuiltinCall "object.__new__" ⟨[.type "object"], []⟩ = pure () := by kernel_rfl
theorem ob_entryN : entryFor table "object.__new__" = some Builtin.«object.__new__» := entryFor_of_tree (by kernel_rfl)
noncomputable def plainObj : Obj := { cls := .type "object", data := .plain }
theorem ob_made : Bind.madeHere "object.__new__" (.type "object") = pure () := by
  unfold Bind.madeHere
  have e : Bind.staticBase (.type "object") = pure (.type "object") := by kernel_rfl
  rw [e, pure_bind, ob_called.made, pure_bind]
  kernel_rfl
noncomputable def obRest (x : Sem Unit) : Sem Fin := do
  let cls : Value := .type "object"
  if !(← isType cls) then raiseError "TypeError" s!"object.__new__(X): X is not a type object ({← typeNameOf cls})"
  x
  let v ← newObj cls .plain none
  ret v
theorem ob_eq : Builtin.«object.__new__» ⟨[.type "object"], []⟩ = obRest (Bind.madeHere "object.__new__" (.type "object")) := by kernel_rfl
theorem ob_meets : Meets (Builtin.«object.__new__» ⟨[.type "object"], []⟩) (fun _ R s => R (.ok (.ret (.ref s.heap.objs.size))) { s with heap := s.heap.push plainObj }) := by
  refine Meets.of_wp fun prog w A R s hs => ?_
  rw [ob_eq, ob_made]
  unfold obRest
  repeat (any_goals (first | assumption | wp_step))
  exact ⟨_, rfl, hs⟩
theorem ob_call {A : Around} {s : Shared} {Q : Value → Shared → Prop} {E : Value → Shared → Prop} (h : Q (.ref s.heap.objs.size) { s with heap := s.heap.push plainObj }) : wpAny (M S) A (call (.type "object") []) Q E s := by
  refine callType_meets (S := fun _ R s => R (.ok (.ret (.ref s.heap.objs.size))) { s with heap := s.heap.push plainObj }) (Q₁ := fun v s' => v = .ref s.heap.objs.size ∧ s' = { s with heap := s.heap.push plainObj }) ob_called ob_check ob_checkN ob_entryN F.entry_object_init ob_meets ⟨rfl, rfl⟩ fun obj s₁ hq => ?_
  (refine elA hq fun e90 e91 => ?_; try clear hq; subst e90; subst e91)
  refine ⟨⟨_, Heap.get?_push_size _ rfl, rfl⟩, oi_args _, fun A' R s => R (.ok (.ret .none)) s, ?_, rfl, h⟩
  rw [oi_run]
  exact Meets.of_wp fun prog w A R s hs => wpAny_pure ⟨_, rfl, hs⟩
theorem ExP.assignObj {x y : Str} {p np pos cpos : Pos} {rest : List Stmt} {P} (hι : ∀ n, S.ι n = n) (hy : isGlob cx.sc y = true) (hg : S.mg y = some (.type "object") ∨ (S.mg y = none ∧ S.mb y = some (.type "object"))) (hx : isVarW cx x = true)
    (h : ∀ n, ExP S k cx (σ.upd x (some (.val (.tok n)))) rest P) : ExP S k cx σ (.Assign [.Name x p] (.Call (.Name y np) [] [] cpos) pos :: rest) P := by
  refine ExP.cons fun A env B K₀ s K Q E ro f hq => ?_
  refine wpAny_Assign_Name (wpAny_Call_ofName (evalGlob f.ok f.fm hy hg ?_)) (swaps_no rfl _ _ _)
  refine callWith_type0 ?_
  refine ob_call ?_
  have hk : ∀ b x, s.heap.get? b = some x → (s.heap.push plainObj).get? b = some x := fun b x e => Heap.get?_push_of_some _ e
  have f1 := f.le (Le.grow (tk := s.toks) hk) (f.ok.grow hk)
  refine storeVal f1 hx (d := .tok s.heap.objs.size) (by have := Rep.tok (S := S) (K := K) s.heap.objs.size; rwa [hι] at this) fun s2 f2 => ?_
  exact hq .next .next _ s2 K (h _) f2 rfl
end Mine
namespace Mine
variable {S : Sys} {k : Nat} {cx : Cx} {σ : Sto}
theorem mp_slot_next : Slot "map" "__next__" "map.__next__" :=
  .of (owner := "map") (n := "__next__") (by rw [typeLookup_type, builtinLookup_eq_fast]; kernel_rfl) (by decide +kernel) (by decide +kernel) (by decide +kernel)
    (by first | exact .inl (by decide +kernel) | exact .inr (by decide +kernel)) (by rw [isSubtype_type]; kernel_rfl)
theorem mp_slot_iter : Slot "map" "__iter__" "map.__iter__" :=
  .of (owner := "map") (n := "__iter__") (by rw [typeLookup_type, builtinLookup_eq_fast]; kernel_rfl) (by decide +kernel) (by decide +kernel) (by decide +kernel)
    (by first | exact .inl (by decide +kernel) | exact .inr (by decide +kernel)) (by rw [isSubtype_type]; kernel_rfl)
theorem mp_slot_init : Slot "map" "__init__" "object.__init__" :=
  .of (owner := "object") (n := "__init__") (by rw [typeLookup_type, builtinLookup_eq_fast]; kernel_rfl) (by decide +kernel) (by decide +kernel) (by decide +kernel)
    (by first | exact .inl (by decide +kernel) | exact .inr (by decide +kernel)) (by rw [isSubtype_type]; kernel_rfl)
theorem mp_entry_iter : entryFor table "map.__iter__" = some Builtin.«dict_keyiterator.__iter__» :=
  entryFor_alias (id' := "dict_keyiterator.__iter__") (by kernel_rfl) (by first | rfl | decide +kernel | (unfold String.splitOn; simp +decide [String.splitOnAux])) (by decide +kernel) (by kernel_rfl)
theorem mp_args_iter (a : Value) : argsOk "map.__iter__" ⟨[a], []⟩ := by unfold argsOk; kernel_rfl
theorem mp_args_next (a : Value) : argsOk "map.__next__" ⟨[a], []⟩ := by unfold argsOk; kernel_rfl
theorem mp_entry_next : entryFor table "map.__next__" = some Builtin.«map.__next__» := entryFor_of_tree (by kernel_rfl)
theorem mp_mro : mroOf (.type "map") = pure [.type "map", .type "object"] := by rw [mroOf_type]; kernel_rfl
theorem mp_lookup_new : typeLookup (.type "map") "__new__" = pure (some (.builtin "map.__new__")) := by rw [typeLookup_type, builtinLookup_eq_fast]; kernel_rfl
theorem mp_called : TypeCalled "map" "map.__new__" "object.__init__" :=
  ⟨by decide +kernel, by decide +kernel, ⟨_, _, mp_mro⟩, madeBy_type mp_mro mp_lookup_new (by decide +kernel), by decide +kernel, by rw [isSubtype_type]; kernel_rfl, mp_slot_init⟩
theorem mp_typeCall (a b : Value) : checkTypeCall "map" ⟨[a, b], []⟩ = pure () := by kernel_rfl
theorem mp_newCall (a b : Value) : checkBuiltinCall "map.__new__" ⟨[.type "map", a, b], []⟩ = pure () := by kernel_rfl
theorem mp_entry_new : entryFor table "map.__new__" = some Builtin.«map.__new__» := entryFor_of_tree (by kernel_rfl)
theorem mp_sub : isSubtype (.type "map") (.type "map") = pure true := by rw [isSubtype_type]; kernel_rfl
theorem mp_argsI (o a b : Value) : argsOk "object.__init__" ⟨[o, a, b], []⟩ := by unfold argsOk; kernel_rfl
noncomputable def itObj (l : Addr) (i : Nat) : Obj := { cls := .type "list_iterator", data := .fields #[.ref l, .int i 0] }
noncomputable def tup1 (v : Value) : Obj := { cls := .type "tuple", data := .seq #[v] }
noncomputable def mapObj (tup : Addr) (f : Value) : Obj := { cls := .type "map", data := .fields #[.ref tup, f] }
theorem mp_meets (f : Value) (l : Addr) (items : Array Value) (n : Nat) :
    Meets (Builtin.«map.__new__» ⟨[.type "map", f, .ref l], []⟩) (fun _ R s => s.heap.get? l = some { cls := .type "list", dict := none, data := .seq items n, slots := #[] } ∧
      R (.ok (.ret (.ref (s.heap.objs.size + 2)))) { s with heap := ((s.heap.push (itObj l 0)).push (tup1 (.ref s.heap.objs.size))).push (mapObj (s.heap.objs.size + 1) f) }) := by
  refine Meets.of_wp fun prog w A R s hs => ?_
  obtain ⟨hp, g, d, tk, os⟩ := s; (refine elA hs fun hl h => ?_; try clear hs)
  have hsub := mp_sub
  have hL : Heap.IsList (Shared.heap ⟨hp, g, d, tk, os⟩) l items := ⟨_, hl, rfl, n, rfl⟩
  wp_walk using AutoSeq1.wpAny_loadPart' hl, wpAny_pyIter_list hL
  refine ⟨_, rfl, ?_⟩
  rw [Heap.size_push, Heap.size_push]
  exact h
section
variable {prog : Program} {w : World} {A : Around} {E : Value → Shared → Prop} {s : Shared}
theorem mp_call {f : Value} {l : Addr} {items : Array Value} {n : Nat} {Q : Value → Shared → Prop} (hl : s.heap.get? l = some { cls := .type "list", dict := none, data := .seq items n, slots := #[] })
    (h : Q (.ref (s.heap.objs.size + 2)) { s with heap := ((s.heap.push (itObj l 0)).push (tup1 (.ref s.heap.objs.size))).push (mapObj (s.heap.objs.size + 1) f) }) :
    wpAny (model prog w) A (call (.type "map") [f, .ref l]) Q E s := by
  refine callType_new mp_called (by decide) (mp_typeCall _ _) (mp_newCall _ _) (fun obj => mp_argsI obj _ _) mp_entry_new (mp_meets f l items n) ⟨hl, ?_⟩
  refine ⟨⟨mapObj (s.heap.objs.size + 1) f, ?_, rfl⟩, h⟩
  have := Heap.get?_push_size ((s.heap.push (itObj l 0)).push (tup1 (.ref s.heap.objs.size))) (o := mapObj (s.heap.objs.size + 1) f) rfl
  rw [Heap.size_push, Heap.size_push] at this
  exact this
theorem mp_iter {e tup : Addr} {f : Value} {Q : Value → Shared → Prop} (he : s.heap.get? e = some (mapObj tup f)) (h : Q (.ref e) s) : wpAny (model prog w) A (pyIter (.ref e)) Q E s := by
  have hT : s.TypeIs (.ref e) "map" := ⟨_, he, rfl⟩
  refine wpAny_pyIter_slot hT mp_slot_iter (wpAny_call_entry mp_slot_iter hT mp_entry_iter ?_ (mp_args_iter _))
  show wpAny _ _ (ret (.ref e)) _ _ s
  exact wpAny_pure ⟨_, rfl, "map", _, hT, mp_slot_next.lookup, h⟩
theorem mp_next_item {e tup it l : Addr} {i : Nat} {items : Array Value} {x f : Value} {Q : Option Value → Shared → Prop} (he : s.heap.get? e = some (mapObj tup f)) (ht : s.heap.get? tup = some (tup1 (.ref it)))
    (hit : s.heap.IsListIter it l i) (hl : s.heap.IsList l items) (hx : items[i]? = some x) (hn1 : e ≠ it) (hn2 : tup ≠ it)
    (h : ∀ h' E', h'.IsListIter it l (i + 1) → Heap.SameBut it s.heap h' → wpAny (model prog w) A.in1 (call f [x]) (fun v s' => Q (some v) s') E' { s with heap := h' }) : wpAny (model prog w) A (pyNext (.ref e)) Q E s := by
  have hT : s.TypeIs (.ref e) "map" := ⟨_, he, rfl⟩
  unfold pyNext
  refine wpAny_bind (wpAny_attempt (wpAny_callSpecial?_slot (name := Str.ofString "__next__") hT mp_slot_next (wpAny_call_entry mp_slot_next hT mp_entry_next ?_ (mp_args_next _))))
  show wpAny _ _ (field (.ref e) 0 >>= _) _ _ _
  refine wpAny_bind (wpAny_field he rfl (x := .ref tup) rfl ?_)
  refine wpAny_bind (wpAny_seqItems ht rfl ?_)
  dsimp only
  rw [← Array.forIn_toList, List.forIn_cons]
  refine wpAny_bind (wpAny_bind (wpAny_bind (wpAny_holding ?_)))
  refine wpAny_nextOf_list_item hit hl hx fun h' hit' hs' => ?_
  refine wpAny_pure ?_
  dsimp only
  rw [List.forIn_nil]
  refine wpAny_pure ?_
  have he' : h'.get? e = some (mapObj tup f) := (hs'.2 e hn1).trans he
  refine wpAny_bind (wpAny_field he' rfl (x := f) rfl ?_)
  refine wpAny_bind (wpAny_holding (wpAny_mono (h h' _ hit' hs') (fun v s' hq => ?_) fun _ _ x => x))
  refine wpAny_bind (wpAny_letGo ?_)
  exact wpAny_pure ⟨_, rfl, wpAny_pure hq⟩
theorem mp_next_end {e tup it l : Addr} {i : Nat} {items : Array Value} {f : Value} {Q : Option Value → Shared → Prop} (hh : A.handled = none) (he : s.heap.get? e = some (mapObj tup f)) (ht : s.heap.get? tup = some (tup1 (.ref it)))
    (hit : s.heap.IsListIter it l i) (hl : s.heap.IsList l items) (hx : items[i]? = none)
    (h : ∀ h', Heap.ExtBut it s.heap h' → Q none { s with heap := h' }) : wpAny (model prog w) A (pyNext (.ref e)) Q E s := by
  have hT : s.TypeIs (.ref e) "map" := ⟨_, he, rfl⟩
  unfold pyNext
  refine wpAny_bind (wpAny_attempt (wpAny_callSpecial?_slot (name := Str.ofString "__next__") hT mp_slot_next (wpAny_call_entry mp_slot_next hT mp_entry_next ?_ (mp_args_next _))))
  show wpAny _ _ (field (.ref e) 0 >>= _) _ _ _
  refine wpAny_bind (wpAny_field he rfl (x := .ref tup) rfl ?_)
  refine wpAny_bind (wpAny_seqItems ht rfl ?_)
  dsimp only
  rw [← Array.forIn_toList, List.forIn_cons]
  refine wpAny_bind (wpAny_bind (wpAny_bind (wpAny_holding ?_)))
  refine wpAny_nextOf_list_end hh hit hl hx fun h' x he' hx' => ?_
  (refine elEA hx' fun o ho hc => ?_; try clear hx')
  refine wpAny_bind (wpAny_isInstance (T := "StopIteration") (b := true) ⟨o, ho, hc⟩ isSubtype_stop ?_)
  exact wpAny_pure (h _ he')
end
end Mine
namespace Mine
variable {S : Sys} {k : Nat} {cx : Cx} {σ : Sto}
theorem Le.upd {s0 s : Shared} {K0 K : Kn} {h' : Heap} {a : Addr} (l : Le S s0 s K0 K) (ha : s0.heap.get? a = none) (hs : Heap.SameBut a s.heap h') {tk : Nat} (ht : s.toks ≤ tk := by exact Nat.le_refl _) : Le S s0 { s with heap := h', toks := tk } K0 K :=
  ⟨fun b o hb e => (hs.2 b (fun q => by rw [q, ha] at e; exact nsm e)).trans (l.keep b o hb e), l.ext, l.old, Nat.le_trans l.tok ht⟩
theorem Ok.extBut {K : Kn} {s : Shared} {h' : Heap} {tk : Nat} {a : Addr} (o : Ok S K s) (hn : K a = none) (hT : a ∉ S.T) (hs : Heap.ExtBut a s.heap h') : Ok S K { s with heap := h', toks := tk } := by
  refine ⟨fun b x e => ?_, o.base, fun P hP => ?_, o.bare, o.os⟩
  · exact hs b x (fun q => by subst q; rw [hn] at e; exact nsm e) (o.kn b x e)
  · obtain ⟨h1, ps, e, h2⟩ := o.tabs P hP
    exact ⟨h1, ps, hs P _ (fun q => hT (q ▸ hP)) e, h2⟩
theorem Le.extBut {s0 s : Shared} {K0 K : Kn} {h' : Heap} {a : Addr} (l : Le S s0 s K0 K) (ha : s0.heap.get? a = none) (hs : Heap.ExtBut a s.heap h') {tk : Nat} (ht : s.toks ≤ tk := by exact Nat.le_refl _) : Le S s0 { s with heap := h', toks := tk } K0 K :=
  ⟨fun b o hb e => hs b o (fun q => by rw [q, ha] at e; exact nsm e) (l.keep b o hb e), l.ext, l.old, Nat.le_trans l.tok ht⟩
theorem isIter_le {s s' : Shared} {K K' : Kn} {it l : Addr} {i : Nat} (l1 : Le S s s' K K') (hT : it ∉ S.T) (h : s.heap.IsListIter it l i) : s'.heap.IsListIter it l i := h.at fun o e => l1.keep _ _ hT e
theorem mapLoop {A : Around} {R : Result → Shared → Prop} {s0 : Shared} {K0 : Kn} {S0 e tup it l : Addr} {vs : List Value} {ds outs : List D} {n : Nat} {f res : Value} (ro : Room (k + 2) A) (hz : outs.length ≤ sizeLine) (hlen : ds.length = outs.length)
    (hf : ∀ (i : Nat) (d o : D), ds[i]? = some d → outs[i]? = some o → CalS S k f [d] o) (o0 : Ok S K0 s0) (n1 : s0.heap.get? it = none) (n2 : s0.heap.get? S0 = none) (hT1 : it ∉ S.T) (hT2 : S0 ∉ S.T) (hne : S0 ≠ it) (hne1 : e ≠ it) (hne2 : tup ≠ it) :
    ∀ (j i : Nat) (s : Shared) (K : Kn) (accv : List Value) (c : Nat), outs.length - i = j → i ≤ outs.length → Ok S K s → Le S s0 s K0 K → K it = none → K S0 = none → K e = some (mapObj tup f) → K tup = some (tup1 (.ref it)) → K l = some (lst vs n) →
      RepL S K vs ds → s.heap.IsListIter it l i → s.heap.get? S0 = some (lst accv c) → RepL S K accv (outs.take i) →
      (∀ s' K' accv' c', Ok S K' s' → Le S s0 s' K0 K' → K' S0 = none → s'.heap.get? S0 = some (lst accv' c') → RepL S K' accv' outs → R (.ok (.ret res)) s') →
      codeAny (M S) A (.builtin "list.extend.loop" ⟨[.ref S0, .ref e, res], []⟩) R s := by
  intro j
  induction j with
  | zero =>
    intro i s K accv c hj hi o l0 k1 k2 ke kt kl rl hit hS hacc hR
    have hin : i = outs.length := by lia
    subst hin
    refine codeAny_builtin F.entry_extend_loop ?_
    rw [Around.under_plainId F.plain_extend_loop _]
    show wpAny _ A.in1 (pyNext (.ref e) >>= _) _ _ s
    refine wpAny_bind (mp_next_end ro.1 (o.kn _ _ ke) (o.kn _ _ kt) hit (listAt o kl) (by simp [rl.len, hlen]) fun h' he => ?_)
    refine wpAny_pure (hR _ K accv c (o.extBut (tk := s.toks) k1 hT1 he) (l0.extBut n1 he) k2 (he S0 _ hne hS) ?_)
    rwa [List.take_length] at hacc
  | succ j ih =>
    intro i s K accv c hj hi o l0 k1 k2 ke kt kl rl hit hS hacc hR
    have hlt : i < outs.length := by lia
    have hi1 : i < vs.length := by rw [rl.len, hlen]; exact hlt
    refine codeAny_builtin F.entry_extend_loop ?_
    rw [Around.under_plainId F.plain_extend_loop _]
    show wpAny _ A.in1 (pyNext (.ref e) >>= _) _ _ s
    refine wpAny_bind (mp_next_item (x := vs[i]) (o.kn _ _ ke) (o.kn _ _ kt) hit (listAt o kl) (by simp [hi1]) hne1 hne2 fun h1 E' hit1 hs1 => ?_)
    have o1 : Ok S K { s with heap := h1 } := o.upd (tk := s.toks) k1 hT1 hs1
    have l1 : Le S s0 { s with heap := h1 } K0 K := l0.upd n1 hs1
    have hds : ds[i]? = some ds[i] := by simp
    have hos : outs[i]? = some outs[i] := by simp
    have rv : Rep S K vs[i] ds[i] := rl.all i _ _ (by simp [hi1]) hds
    refine hf i _ _ hds hos A.in1.in1 { s with heap := h1 } K [vs[i]] _ E' (ro.in1.in1) o1 (.cons rv .nil) fun v s2 K2 l2 o2 r2 => ?_
    have hS1 : h1.get? S0 = some (lst accv c) := (hs1.2 S0 hne).trans hS
    have hS2 : s2.heap.get? S0 = some (lst accv c) := l2.keep _ _ hT2 hS1
    have hit2 : s2.heap.IsListIter it l (i + 1) := isIter_le l2 hT1 hit1
    have hal : accv.length = i := by rw [hacc.len, List.length_take]; lia
    show wpAny _ A.in1 (updateSeq S0 (·.push v) >>= _) _ _ _
    refine wpAny_bind (wpAny_updateSeq hS2 rfl (wpAny_pure ⟨plainId_quiet F.plain_extend_loop _, ?_⟩) (by rw [List.size_toArray]; lia) (by rw [Array.size_push, List.size_toArray]; lia))
    · have hs3 : Heap.SameBut S0 s2.heap (s2.heap.update S0 (Obj.mapSeq (·.push v))) := Heap.SameBut.update ..
      have kS : K2 S0 = none := (l2.old _ (by rw [hS1]; simp)).trans k2
      have kI : K2 it = none := (l2.old _ (by (refine elEA hit1 fun ob eo _ => ?_; try clear hit1); rw [eo]; simp)).trans k1
      have hat : (s2.heap.update S0 (Obj.mapSeq (·.push v))).get? S0 = some (lst1 accv c v) := by
        rw [Heap.get?_update_self _ hS2 (by rw [lst_push]; rfl), lst_push]
      refine ih (i + 1) _ K2 (accv ++ [v]) _ (by lia) hlt (o2.upd (tk := s2.toks) kS hT2 hs3) ((Le.trans o0 o1 l1 l2).upd n2 hs3) kI kS (l2.ext _ _ ke) (l2.ext _ _ kt) (l2.ext _ _ kl) (rl.mono l2.ext) (hit2.at fun o e => (hs3.2 _ hne.symm).trans e) hat ?_ hR
      rw [List.take_add_one, hos]
      exact (hacc.mono l2.ext).append (.cons r2 .nil)
theorem mp_no_len : typeLookup (.type "map") "__len__" = pure none := by rw [typeLookup_type, builtinLookup_eq_fast]; kernel_rfl
theorem mp_no_hint : typeLookup (.type "map") "__length_hint__" = pure none := by rw [typeLookup_type, builtinLookup_eq_fast]; kernel_rfl
theorem mapExtend {A : Around} {R : Result → Shared → Prop} {s : Shared} {S0 e tup : Addr} {f : Value} (he : s.heap.get? e = some (mapObj tup f)) (hne : S0 ≠ e) (hS : s.heap.get? S0 = some { cls := .type "list", data := .seq #[] })
    (h : ∀ h' c, Heap.SameBut S0 s.heap h' → h'.get? S0 = some { cls := .type "list", data := .seq #[] c } → codeAny (M S) A (.builtin "list.extend.loop" ⟨[.ref S0, .ref e, .none], []⟩) R { s with heap := h' }) :
    wpAny (M S) A.in1 (Builtin.«list.__init__» ⟨[.ref S0, .ref e], []⟩)
      (fun fin s' => match fin with | .done f => R (.ok f) s' | .again c' => c'.quiet = true ∧ codeAny (M S) A c' R s') (fun e s' => R (.error e) s') s := by
  show wpAny _ A.in1 (do let old ← Builtin.List.listItems (.ref S0); Builtin.List.listUpdate (.ref S0) (fun _ => #[]); letGo old.toList.reverse; Builtin.List.listExtendWith (.ref S0) (.ref e) .none) _ _ s
  refine wpAny_bind ?_
  unfold Builtin.List.listItems
  refine wpAny_bind (wpAny_seqItems hS rfl (wpAny_pure ?_))
  show wpAny _ A.in1 (updateSeq S0 (fun _ => #[]) >>= fun _ => letGo (#[] : Array Value).toList.reverse >>= fun _ => Builtin.List.listExtendWith (.ref S0) (.ref e) .none) _ _ s
  refine wpAny_bind (wpAny_updateSeq hS rfl ?_)
  have hS₂ := Heap.get?_update_self (Obj.mapSeq (fun _ => (#[] : Array Value))) hS rfl
  have hs2 : Heap.SameBut S0 s.heap (s.heap.update S0 (Obj.mapSeq (fun _ => (#[] : Array Value)))) := Heap.SameBut.update ..
  have he2 := (hs2.2 e hne.symm).trans he
  generalize s.heap.update S0 (Obj.mapSeq (fun _ => (#[] : Array Value))) = h2 at hS₂ hs2 he2
  refine wpAny_bind (wpAny_letGo ?_)
  have hT : (({ s with heap := h2 } : Shared)).TypeIs (.ref e) "map" := ⟨_, he2, rfl⟩
  unfold Builtin.List.listExtendWith
  refine wpAny_bind (wpAny_typeOf hT ?_)
  have h1 : Builtin.List.listSameRef (.ref S0) (.ref e) = false := by simp [Builtin.List.listSameRef, hne]
  have h2' : (Value.type "map" == Value.type "list") = false := by decide
  have h3 : (Value.type "map" == Value.type "tuple") = false := by decide
  simp only [h1, h2', h3, Bool.or_false, Bool.false_eq_true, if_false]
  refine wpAny_bind (mp_iter he2 ?_)
  refine wpAny_bind (wpAny_holding ?_)
  unfold Builtin.List.listLengthHint
  refine wpAny_bind (wpAny_specialOf hT mp_no_len ?_)
  show wpAny _ A.in1 (specialOf (Value.ref e) (Str.ofString "__length_hint__") >>= _) _ _ _
  refine wpAny_bind (wpAny_specialOf hT mp_no_hint ?_)
  refine wpAny_pure ?_
  show wpAny _ A.in1 (rule "list.extend.makes-room" >>= fun _ => (updateSeq S0 (·.push .none) >>= fun _ => updateSeq S0 (·.pop)) >>= fun _ =>
    again (.builtin "list.extend.loop" ⟨[.ref S0, .ref e, .none], []⟩)) _ _ _
  refine wpAny_bind (wpAny_rule (wpAny_bind (wpAny_bind ?_)))
  refine wpAny_updateSeq hS₂ rfl ?_
  have hS₃ := Heap.get?_update_self (Obj.mapSeq (·.push Value.none)) hS₂ rfl
  have hs3 : Heap.SameBut S0 h2 (h2.update S0 (Obj.mapSeq (·.push Value.none))) := Heap.SameBut.update ..
  generalize h2.update S0 (Obj.mapSeq (·.push Value.none)) = h3 at hS₃ hs3
  refine wpAny_updateSeq (hz := by seq_fits) hS₃ rfl ?_
  have hS₄ := Heap.get?_update_self (Obj.mapSeq (·.pop)) hS₃ rfl
  have hs4 : Heap.SameBut S0 h3 (h3.update S0 (Obj.mapSeq (·.pop))) := Heap.SameBut.update ..
  generalize h3.update S0 (Obj.mapSeq (·.pop)) = h4 at hS₄ hs4
  exact wpAny_pure ⟨plainId_quiet F.plain_extend_loop _, h h4 _ (hs2.trans (hs3.trans hs4)) hS₄⟩
theorem call_list_mapO {A : Around} {s : Shared} {K : Kn} {l : Addr} {vs : List Value} {ds outs : List D} {n : Nat} {f : Value} {Q : Value → Shared → Prop} {E : Value → Shared → Prop} (ro : Room (k + 3) A) (hz : outs.length ≤ sizeLine) (hlen : ds.length = outs.length)
    (hf : ∀ (i : Nat) (d o : D), ds[i]? = some d → outs[i]? = some o → CalS S k f [d] o) (o : Ok S K s) (kl : K l = some (lst vs n)) (rl : RepL S K vs ds)
    (h : ∀ a us c s' K', Le S s s' K K' → Ok S K' s' → s.heap.get? a = none → K' a = none → s'.heap.get? a = some (lst us c) → RepL S K' us outs → Q (.ref a) s') : wpAny (M S) A (call (.type "map") [f, .ref l]) (fun v s' => wpAny (M S) A (call (.type "list") [v]) Q E s') E s := by
  refine mp_call (o.kn _ _ kl) ?_
  have hg := get_size s.heap
  generalize hJ : s.heap.objs.size = J at hg
  have z1 : (s.heap.push (itObj l 0)).objs.size = J + 1 := by rw [Heap.size_push, hJ]
  have z2 : ((s.heap.push (itObj l 0)).push (tup1 (.ref J))).objs.size = J + 2 := by rw [Heap.size_push, z1]
  have z3 : (((s.heap.push (itObj l 0)).push (tup1 (.ref J))).push (mapObj (J + 1) f)).objs.size = J + 3 := by rw [Heap.size_push, z2]
  have o1 : Ok S K { s with heap := s.heap.push (itObj l 0) } := o.grow (tk := s.toks) fun b x e => Heap.get?_push_of_some _ e
  have l1 : Le S s { s with heap := s.heap.push (itObj l 0) } K K := Le.grow (tk := s.toks) fun b x e => Heap.get?_push_of_some _ e
  have o2 := o1.push (ob := tup1 (.ref J)) rfl
  have l2 := Le.push (ob := tup1 (.ref J)) o1
  have o3 := o2.push (ob := mapObj (J + 1) f) rfl
  have l3 := Le.push (ob := mapObj (J + 1) f) o2
  dsimp only at o2 l2 o3 l3
  rw [z1] at o2 l2 o3 l3
  rw [z2] at o3 l3
  have l13 := Le.trans o o2 (Le.trans o o1 l1 l2) l3
  have hit : (((s.heap.push (itObj l 0)).push (tup1 (.ref J))).push (mapObj (J + 1) f)).IsListIter J l 0 := ⟨itObj l 0, Heap.get?_push_of_some _ (Heap.get?_push_of_some _ (by rw [← hJ]; exact Heap.get?_push_size _ rfl)), rfl, rfl⟩
  generalize ((s.heap.push (itObj l 0)).push (tup1 (.ref J))).push (mapObj (J + 1) f) = p3 at z3 o3 l3 l13 hit
  have hg3 := get_size p3
  rw [z3] at hg3
  have hn3 : s.heap.get? (J + 3) = none := Heap.get?_none_of_le (by lia)
  have kJ : K J = none := o.noneK hg
  have d10 : ¬ J = J + 1 := by lia
  have d20 : ¬ J = J + 2 := by lia
  have d30 : ¬ J + 3 = J := by lia
  have d03 : ¬ J = J + 3 := by lia
  have d32 : ¬ J + 3 = J + 2 := by lia
  have d31 : ¬ J + 3 = J + 1 := by lia
  have d12 : ¬ J + 1 = J + 2 := by lia
  have d2J : ¬ J + 2 = J := by lia
  have d1J : ¬ J + 1 = J := by lia
  have kme : ((K.add (J + 1) (tup1 (.ref J))).add (J + 2) (mapObj (J + 1) f)) (J + 2) = some (mapObj (J + 1) f) := Kn.add_self ..
  refine callType_codes (Q₁ := fun obj s₁ => obj = .ref p3.objs.size ∧ s₁ = { s with heap := p3.push { cls := .type "list", data := .seq #[] } }) F.called_list (F.typeCall_list_1 _) F.entry_list_init (code_list_new _ ⟨rfl, rfl⟩) fun obj s₁ h₁ => ?_
  (refine elA h₁ fun e90 e91 => ?_; try clear h₁; subst e90; subst e91)
  have hS : (p3.push { cls := .type "list", data := .seq #[] }).get? p3.objs.size = some { cls := .type "list", data := .seq #[] } := Heap.get?_push_size _ rfl
  have hk4 : ∀ b x, p3.get? b = some x → (p3.push { cls := .type "list", data := .seq #[] }).get? b = some x := fun b x e => Heap.get?_push_of_some _ e
  have o4 := o3.grow (tk := s.toks) hk4
  have l4 := Le.trans o o3 l13 (Le.grow (tk := s.toks) (K := (K.add (J + 1) (tup1 (.ref J))).add (J + 2) (mapObj (J + 1) f)) hk4)
  rw [z3] at hS ⊢
  refine ⟨⟨_, hS, rfl⟩, F.args_list_init_2 _ _, mapExtend (A := A.in1) (e := J + 2) (tup := J + 1) (f := f) (o4.kn _ _ kme) d32 hS fun h' c hs hat => ?_⟩
  have kn3 : ((K.add (J + 1) (tup1 (.ref J))).add (J + 2) (mapObj (J + 1) f)) (J + 3) = none := by
    rw [Kn.add_ne d32, Kn.add_ne d31]; exact o.noneK hn3
  have hT3 : J + 3 ∉ S.T := o3.notT hg3
  refine mapLoop (s0 := s) (K0 := K) (k := k) (it := J) (tup := J + 1) (l := l) (vs := vs) (ds := ds) (outs := outs) (n := n) (f := f) ro.in1 hz hlen hf o hg hn3 (o.notT hg) hT3 d30 d2J d1J outs.length 0 _ _ [] c rfl (Nat.zero_le _)
    (o4.upd (tk := s.toks) kn3 hT3 hs) (l4.upd hn3 hs) (by rw [Kn.add_ne d20, Kn.add_ne d10]; exact kJ) kn3 kme (by rw [Kn.add_ne d12, Kn.add_self]) (l13.ext _ _ kl) (rl.mono l13.ext) ?_ hat .nil fun s' K' accv' c' o' l' kS hS' hr => ?_
  · refine Heap.IsListIter.at hit fun ob e => ?_
    exact (hs.2 J d03).trans (hk4 _ _ e)
  · exact ⟨rfl, h _ accv' c' s' K' l' o' hn3 kS hS' hr⟩
noncomputable def EvO (S : Sys) (k : Nat) (cx : Cx) (σ : Sto) (e : Expr) (xs : List D) : Prop :=
  ∀ (A : Around) (env : Env) (s : Shared) (K : Kn) (Q : Value → Shared → Prop) (E : Value → Shared → Prop), Room k A → Ok S K s → Fm S cx env σ s K →
    (∀ a vs n s' K', Le S s s' K K' → Ok S K' s' → s.heap.get? a = none → K' a = none → s'.heap.get? a = some (lst vs n) → RepL S K' vs xs → Q (.ref a) s') → wpAny (M S) A (eval e env) Q E s
theorem EvO.toS {e : Expr} {xs : List D} (h : EvO S k cx σ e xs) : EvS S k cx σ e (.list xs) := by
  intro A env s K Q E ro o fm hq
  refine h A env s K Q E ro o fm fun a vs n s' K' l o' hn kn hat hr => ?_
  have hT : a ∉ S.T := o.notT hn
  have hle : K'.le (K'.add a (lst vs n)) := Kn.le_add kn
  refine hq _ s' _ ⟨l.keep, Kn.le_trans l.ext hle, fun b hb => ?_, l.tok⟩ (o'.freeze hat kn hT) (Rep.list' (Kn.add_self ..) (hr.mono hle))
  rw [Kn.add_ne (fun q => hb (by rw [q]; exact hn))]
  exact l.old b hb
theorem Ex1.assignOwn {x p pos} {e : Expr} {xs : List D} (h : EvO S k cx σ e xs) (hx : isVarW cx x = true) (hn : notComp e = true := by rfl) : Ex1 S k cx σ (.Assign [.Name x p] e pos) .next ((σ.noApp x).upd x (some (.own xs))) := by
  intro A env B K₀ s K Q E ro f hq
  refine wpAny_Assign_Name (h A env s K _ E ro f.ok f.fm fun a vs n s' K' l o' hn kn hat hr => ?_) (swaps_no hn _ _ _)
  refine elE f fun α f => ?_
  have f1 := f.le l o'
  have f2 := (f1.weak (Sto.noApp_sub (σ := σ) x)).re (α' := fun y => if y = x then a else α y) (fun y ys e => if_neg (Sto.noApp_own e).1) fun y z e => if_neg (Sto.noApp_app e)
  have hself : (fun y => if y = x then a else α y) x = a := if_pos rfl
  refine storeEntA (en := .own xs) f2 hx ⟨by simp, by rw [hself]; exact kn, vs, n, by rw [hself]; exact hat, hr⟩ (fun xs e => ?_) (fun xs e y ys hv hy e' q => ?_) fun s' f' => hq _ s' K' ⟨_, f'⟩ rfl
  · rw [if_pos rfl]
    cases hB : B a with
    | none => rfl
    | some o9 => rw [f.keep _ _ hB (f.ok.notT hn)] at hn; exact snm hn
  · rw [if_pos rfl, if_neg hy] at q
    obtain ⟨_, vs, n, e9, _⟩ := f.fm.ownAt hv (Sto.noApp_own e').2
    rw [q, hn] at e9; exact nsm e9
theorem EvO.listMap {x y z : Str} {p1 p2 p3 c1 c2 : Pos} {e : Expr} {ds outs : List D} {fa : Nat} (hι : S.ι fa = fa) (hx : isGlob cx.sc x = true) (gx : S.mg x = some (.type "list") ∨ (S.mg x = none ∧ S.mb x = some (.type "list")))
    (hy : isGlob cx.sc y = true) (gy : S.mg y = some (.type "map") ∨ (S.mg y = none ∧ S.mb y = some (.type "map"))) (hzz : isGlob cx.sc z = true) (gz : S.mg z = some (.ref fa))
    (he : EvS S (k + 3) cx σ e (.list ds)) (hz : outs.length ≤ sizeLine) (hlen : ds.length = outs.length) (hf : ∀ (i : Nat) (d o : D), ds[i]? = some d → outs[i]? = some o → CalS S k (.ref fa) [d] o) (hp : Plain e = true := by rfl) :
    EvO S (k + 3) cx σ (.Call (.Name x p1) [.Call (.Name y p2) [.Name z p3, e] [] c2] [] c1) outs := by
  intro A env s K Q E ro o fm hq
  refine wpAny_Call_ofName (evalGlob o fm hx gx ?_)
  refine PyProof.Rows.callWith_type1 (e := .Call (.Name y p2) [.Name z p3, e] [] c2) (rest := []) ?_ (starEach_plain rfl _ _) rfl
  rw [starEach_plain rfl]
  refine Calls.spliced_cons ?_
  refine wpAny_Call_ofName (evalGlob o fm hy gy ?_)
  refine PyProof.Rows.callWith_type1 (e := .Name z p3) (rest := [e]) ?_ (starEach_plain rfl _ _) (by rw [starEach_plain hp]; rfl)
  refine EvL.cons (EvS.globTok hzz gz hι) (EvL.cons he .nil hp) rfl A env c2 s K _ E ro o fm fun us s1 K1 l1 o1 r1 => ?_
  (refine elEEAA (two_inv r1) fun u v e92 ru rv => ?_; subst e92)
  have hu := ru.tok_inv
  rw [hι] at hu
  subst hu
  (refine elEEEAA rv.list_inv fun l vs n e93 kl rl => ?_; subst e93)
  refine wpAny_mono (call_list_mapO (Q := Q) (E := E) ro hz hlen hf o1 kl rl fun a us c s2 K2 l2 o2 hn kn hat r2 => hq a us c s2 K2 (Le.trans o o1 l1 l2) o2 ?_ kn hat r2) (fun w s2 hw => ?_) fun _ _ x => x
  · cases e9 : s.heap.get? a with
    | none => rfl
    | some ob =>
      have hTa : a ∉ S.T := o1.notT hn
      rw [l1.keep _ _ hTa e9] at hn; exact snm hn
  exact Calls.spliced_nil hw
end Mine
namespace Mine
variable {S : Sys} {k : Nat} {cx : Cx} {σ : Sto}
noncomputable def splitL (c : Nat) : List Nat → List (List Nat)
  | [] => [[]]
  | x :: r => if x = c then [] :: splitL c r else match splitL c r with
    | [] => [[x]]
    | p :: ps => (x :: p) :: ps
noncomputable def joinC (c : Nat) : List (List Nat) → List Nat
  | [] => []
  | [p] => p
  | p :: q :: r => p ++ c :: joinC c (q :: r)
theorem splitL_cons (c x : Nat) (r : List Nat) : splitL c (x :: r) = if x = c then [] :: splitL c r else match splitL c r with
    | [] => [[x]]
    | p :: ps => (x :: p) :: ps := rfl
theorem splitL_ne (c : Nat) (l : List Nat) : splitL c l ≠ [] := by
  cases l with
  | nil => simp [splitL]
  | cons x r =>
    unfold splitL
    split
    · simp
    · split <;> simp
theorem splitL_free {c : Nat} : ∀ {p : List Nat}, c ∉ p → splitL c p = [p]
  | [], _ => rfl
  | x :: r, h => by
    simp only [List.mem_cons, not_or] at h
    unfold splitL
    rw [if_neg (fun e => h.1 e.symm), splitL_free h.2]
theorem splitL_cut {c : Nat} (t : List Nat) : ∀ {p : List Nat}, c ∉ p → splitL c (p ++ c :: t) = p :: splitL c t
  | [], _ => by show splitL c (c :: t) = _; rw [splitL_cons, if_pos rfl]
  | x :: r, h => by
    simp only [List.mem_cons, not_or] at h
    show splitL c (x :: (r ++ c :: t)) = _
    rw [splitL_cons, if_neg (fun e => h.1 e.symm), splitL_cut t h.2]
theorem splitL_join {c : Nat} : ∀ {ps : List (List Nat)}, ps ≠ [] → (∀ p ∈ ps, c ∉ p) → splitL c (joinC c ps) = ps
  | [p], _, h => splitL_free (h p (by exact List.Mem.head _))
  | p :: q :: r, _, h => by
    show splitL c (p ++ c :: joinC c (q :: r)) = _
    rw [splitL_cut _ (h p (by exact List.Mem.head _)), splitL_join (by simp) fun x hx => h x (List.mem_cons_of_mem _ hx)]
theorem join_txC (c : Nat) : ∀ ps : List (List Nat), Str.join (tx [c]) (ps.map tx) = tx (joinC c ps)
  | [] => rfl
  | [p] => by simp [Str.join, joinC]
  | p :: q :: ps => by
    show tx p ++ tx [c] ++ Str.join (tx [c]) ((q :: ps).map tx) = _
    rw [join_txC c (q :: ps), tx_append, tx_append]
    simp [joinC]
theorem split_tx (l : List Nat) (c : Nat) : Txt.split (tx l) (tx [c]) = (splitL c l).map tx := by
  have h1 : Txt.split (tx l) (tx [c]) = ((Txt.split (tx l) (tx [c])).map fun p => p.cps.toList).map tx := by
    rw [List.map_map]
    conv => lhs; rw [← List.map_id (Txt.split (tx l) (tx [c]))]
    exact List.map_congr_left fun p _ => tx_of p
  have h2 := StrLaws.join_split (tx l) (tx [c])
  have h3 : ∀ p ∈ (Txt.split (tx l) (tx [c])).map (fun p => p.cps.toList), c ∉ p := fun p hp => by
    (refine elEA (List.mem_map.mp hp) fun q hq e92 => ?_; subst e92)
    exact StrLaws.split_free (tx l) c q hq
  have h4 := split_pos (tx l) (tx [c])
  generalize hps : (Txt.split (tx l) (tx [c])).map (fun p => p.cps.toList) = ps at h1 h3
  rw [h1, join_txC] at h2
  have h5 : ps ≠ [] := fun e => by rw [h1, e] at h4; simp at h4
  rw [h1, ← tx_inj h2, splitL_join h5 h3]
theorem splitL_mem {c : Nat} : ∀ {l p : List Nat} {x : Nat}, p ∈ splitL c l → x ∈ p → x ∈ l
  | [], p, x, h, hx => by
    rw [splitL, List.mem_singleton] at h
    subst h; cases hx
  | y :: r, p, x, h, hx => by
    unfold splitL at h
    split at h
    · rcases List.mem_cons.mp h with rfl | h
      · cases hx
      · exact List.mem_cons_of_mem _ (splitL_mem h hx)
    · split at h
      · rename_i e; exact absurd e (splitL_ne c r)
      · rename_i q qs e
        rcases List.mem_cons.mp h with rfl | h
        · rcases List.mem_cons.mp hx with rfl | hx
          · simp
          · exact List.mem_cons_of_mem _ (splitL_mem (p := q) (by rw [e]; simp) hx)
        · exact List.mem_cons_of_mem _ (splitL_mem (p := p) (by rw [e]; exact List.mem_cons_of_mem _ h) hx)
theorem splitL_sum (c : Nat) : ∀ l : List Nat, (splitL c l).flatten.length + (splitL c l).length = l.length + 1
  | [] => rfl
  | x :: r => by
    have ih := splitL_sum c r
    unfold splitL
    split
    · simp only [List.flatten_cons, List.nil_append, List.length_cons]; lia
    · split
      · rename_i e; exact absurd e (splitL_ne c r)
      · rename_i p ps e
        rw [e] at ih
        simp only [List.flatten_cons, List.length_append, List.length_cons] at ih ⊢
        lia
theorem repStrs {K : Kn} : ∀ (l : List (Str × Tok)) (ts : List Str), l.map (·.1) = ts → (∀ t ∈ ts, PyData.strOk t = true) → RepL S K (strValues l) (ts.map .str)
  | [], _, rfl, _ => .nil
  | (x, t) :: l, _, rfl, h => .cons (.str t (h x (by exact List.Mem.head _))) (repStrs l _ rfl fun y hy => h y (by simp only [List.map_cons, List.mem_cons]; exact .inr hy))
theorem CalS.split {x y : Str} (hy : (y.length == 0) = false) (hsz : x.length ≤ sizeLine) (hsz2 : x.length + 2 ≤ sizeLine) (hok : ∀ t ∈ Txt.split x y, PyData.strOk t = true) : CalS S k (.builtin "str.split") [.str x, .str y] (.list ((Txt.split x y).map .str)) := by
  intro A s K vs Q E ro o r h
  (refine elEEAA (two_inv r) fun v u e92 rv ru => ?_; subst e92)
  (refine elEA rv.str_inv fun t e91 _ => ?_; subst e91)
  (refine elEA ru.str_inv fun t' e91 _ => ?_; subst e91)
  have fin : ∀ (l : List (Str × Tok)) (tk : Nat), s.toks ≤ tk → l.map (·.1) = Txt.split x y → Q (.ref s.heap.objs.size) { s with toks := tk, heap := s.heap.push { cls := .type "list", data := .seq (strValues l).toArray } } := fun l tk ht hl => by
    have o1 := o.push (ob := lst (strValues l) 0) rfl
    have l1 := Le.push (ob := lst (strValues l) 0) o
    refine h _ _ _ (Le.trans o o1 l1 (Le.toks (tk := tk) ht)) (o1.toks (tk := tk)) (Rep.list' (Kn.add_self ..) ((repStrs l _ hl hok)))
  cases h1 : (decide (x.length < y.length) || decide (Builtin.Str.strKind x < Builtin.Str.strKind y))
  · cases hf : (Builtin.Str.occurrences x y 0 x.length (x.length + 1)).isEmpty
    · have hsp : Txt.split x y = Builtin.Str.partsBetween x (Builtin.Str.occurrences x y 0 x.length (x.length + 1)) y.length := ((if_neg (ne_true_of_eq_false h1)).trans (if_neg (ne_true_of_eq_false hf)))
      have hlen := split_le x y
      rw [hsp] at hlen
      refine call_meets F.slot_str_split (typeIs_str _ _ _) F.entry_str_split (F.args_str_split_2 _ _) (meets_str_split_sep x y t t' h1 hy hf hsz (by exact Nat.le_trans ‹_› ‹_›)) ?_
      show wants Q E _ { s with toks := _, heap := s.heap.push { cls := .type "list", data := .seq (strsFrom s.toks (Builtin.Str.partsBetween x (Builtin.Str.occurrences x y 0 x.length (x.length + 1)) y.length)).toArray } }
      rw [strsFrom_eq]
      exact fin _ _ (by exact Nat.le_add_right _ _) ((numbered_texts _ _).trans hsp.symm)
    · exact call_meets F.slot_str_split (typeIs_str _ _ _) F.entry_str_split (F.args_str_split_2 _ _) (meets_str_split_not_found x y t t' h1 hy hf)
        (fin [(x, t)] s.toks (Nat.le_refl _) ((if_neg (ne_true_of_eq_false h1)).trans (if_pos hf)).symm)
  · exact call_meets F.slot_str_split (typeIs_str _ _ _) F.entry_str_split (F.args_str_split_2 _ _) (meets_str_split_cannot_occur x y t t' h1)
      (fin [(x, t)] s.toks (Nat.le_refl _) (if_pos h1).symm)
theorem methSplit : Meth "str" "split" "str.split" := ⟨F.plainAttrs_str, F.slot_str_split, F.type_str_split⟩
theorem CalS.splitT {l : List Nat} {c : Nat} (hl : l.length ≤ 2 ^ 20) (h : ∀ x ∈ l, x < 128) : CalS S k (.builtin "str.split") [.str (tx l), .str (tx [c])] (.list ((splitL c l).map fun p => .str (tx p))) := by
  have := CalS.split (S := S) (k := k) (x := tx l) (y := tx [c]) rfl (by rw [tx_len, sizeLine_eq]; exact Nat.le_trans ‹_› (by decide)) (by rw [tx_len, sizeLine_eq]; lia) (by
    rw [split_tx]
    intro t ht
    (refine elEA (List.mem_map.mp ht) fun p hp e92 => ?_; subst e92)
    exact strOk_small fun x hx => h x (splitL_mem hp hx))
  rw [split_tx, List.map_map] at this
  exact this
end Mine
namespace Mine
variable {S : Sys} {k : Nat} {cx : Cx} {σ : Sto}
theorem FrA.ownUpd {env B K₀ s K α x xs xs' vs' n' h'} (f : FrA S cx env σ B K₀ s K α) (hx : isVar cx.sc x = true) (hf : cx.fr = true) (he : σ x = some (.own xs)) (t : Tidy σ)
    (hs : Heap.SameBut (α x) s.heap h') (hat : h'.get? (α x) = some (lst vs' n')) (rl' : RepL S K vs' xs') : FrA S cx env (σ.upd x (some (.own xs'))) B K₀ { s with heap := h' } K α := by
  obtain ⟨hK, vs, n, e, rl⟩ := f.fm.ownAt hx he
  have hB := f.ownN hf x xs hx he
  have hT : α x ∉ S.T := f.ok.notT' e fun vs => by simp [lst]
  have hcell : ∀ c w, s.heap.IsCell c w → h'.IsCell c w := fun c w y => y.sameBut hs fun q => by
    (refine elEA y fun ob e9 hd => ?_; try clear y)
    rw [q, e] at e9; (replace e9 := Option.some.inj e9; subst e9); cases hd
  have hent : ∀ y en u, (cx.sc.names.lookup y = some .local ∨ cx.sc.names.lookup y = some .cell ∨ cx.sc.names.lookup y = some .free) → σ y = some en → y ≠ x → EntR S K s.heap α y en u → EntR S K h' α y en u := fun y en u hl hy hne ru => by
    cases en with
    | val d => exact ru
    | app z => exact ru
    | own ys =>
      obtain ⟨rfl, hn, us, m, e9, q⟩ := ru
      refine ⟨rfl, hn, us, m, (hs.2 _ fun z => hne ?_).trans e9, q⟩
      exact f.ownI hf y x ys xs (t.isVar hl hy) hx hy he z
  have hxe : ∀ u, EntR S K s.heap α x (.own xs) u → EntR S K h' α x (.own xs') u := fun u ru => by
    (refine elA ru fun e90 _ => ?_; try clear ru; subst e90)
    exact ⟨rfl, hK, _, _, hat, rl'⟩
  refine f.stored' (tk := s.toks) hK hB hT hs (fun c w y => ⟨w, hcell c w y⟩) ⟨f.fm.scope, f.fm.code, f.fm.kind, f.fm.globals, f.fm.builtins, f.fm.tok, ?_, fun y hy => let ⟨c, w, h1, h2⟩ := f.fm.cla y hy; ⟨c, w, h1, hcell c w h2⟩, fun y en hy hey => ?_⟩ (fun hf y ys hv ey => ?_) (fun hf y z ys zs hv hv' ey ez q => ?_)
  · refine elEA f.fm.ns fun m hm h => ?_
    refine ⟨m, hm.sameBut hs fun q => ?_, fun y en hl hey => ?_⟩
    · (refine elEEEAA hm fun o' es ep e' hd' _ => ?_; try clear hm)
      rw [q, e] at e'; (replace e' := Option.some.inj e'; subst e'); cases hd'
    · by_cases hyx : y = x
      · subst hyx
        rw [Sto.upd_self] at hey; (replace hey := Option.some.inj hey; subst hey)
        refine elEA (h y _ hl he) fun u hu ru => ?_
        exact ⟨u, hu, hxe u ru⟩
      · rw [Sto.upd_ne _ _ hyx] at hey
        refine elEA (h y _ hl hey) fun u hu ru => ?_
        exact ⟨u, hu, hent y en u (.inl hl) hey hyx ru⟩
  · by_cases hyx : y = x
    · subst hyx
      rw [Sto.upd_self] at hey; (replace hey := Option.some.inj hey; subst hey)
      refine elEEAA (f.fm.cel y _ hy he) fun c u h1 h2 ru => ?_
      exact ⟨c, u, h1, hcell c _ h2, hxe u ru⟩
    · rw [Sto.upd_ne _ _ hyx] at hey
      refine elEEAA (f.fm.cel y en hy hey) fun c u h1 h2 ru => ?_
      exact ⟨c, u, h1, hcell c _ h2, hent y en u (.inr hy) hey hyx ru⟩
  · by_cases hyx : y = x
    · subst hyx; exact hB
    · rw [Sto.upd_ne _ _ hyx] at ey; exact f.ownN hf y ys hv ey
  · by_cases hyx : y = x
    · by_cases hzx : z = x
      · exact hyx.trans hzx.symm
      · rw [Sto.upd_ne _ _ hzx] at ez
        rw [hyx] at q
        exact hyx.trans (f.ownI hf x z xs zs hx hv' he ez q)
    · rw [Sto.upd_ne _ _ hyx] at ey
      by_cases hzx : z = x
      · rw [hzx] at q
        exact (f.ownI hf y x ys xs hv hx ey he q).trans hzx.symm
      · rw [Sto.upd_ne _ _ hzx] at ez
        exact f.ownI hf y z ys zs hv hv' ey ez q
theorem setNeg {A : Around} {s : Shared} {E : Value → Shared → Prop} {l : Addr} {vs : List Value} {n : Nat} {k : Int} {t : Tok} {v : Value} {Q : Unit → Shared → Prop} (ho : s.heap.get? l = some (lst vs n)) (h0 : k < 0) (h1 : -(vs.length : Int) ≤ k) (hfit : -(2 ^ 63) ≤ k)
    (hQ : Q () { s with heap := s.heap.update l (Obj.mapSeq (·.setIfInBounds (k + vs.length).toNat v)) }) : wpAny (M S) A (setItem (.ref l) (.int k t) v) Q E s := by
  have hl : s.heap.IsList l vs.toArray := ⟨_, ho, rfl, n, rfl⟩
  unfold setItem
  refine wpAny_holding ?_
  refine wpAny_bind (wpAny_sequenceKey hl.typeIs (by decide) ?_)
  refine wpAny_bind (wpAny_callSpecial?_slot (name := Str.ofString "__setitem__") hl.typeIs slot_list_setitem
    (wpAny_call_entry slot_list_setitem hl.typeIs entry_list_setitem ?_ (args_list_setitem _ _ _)))
  show wpAny _ _ (Builtin.List.listSubscript? (.int k t) >>= _) _ _ s
  refine wpAny_bind (wpAny_listSubscript_int (fitsIndex_neg h0 hfit) ?_)
  clear hfit
  have hidx := seqIndex_neg (n := vs.length) h0 h1
  have hj : (k + vs.length).toNat < vs.length := by lia
  generalize (k + vs.length).toNat = j at hidx hj hQ
  obtain ⟨i, rfl⟩ : ∃ j : Nat, k = Int.negSucc j := by
    cases k with
    | ofNat n => exact absurd h0 (Int.not_lt.mpr (Int.natCast_nonneg n))
    | negSucc n => exact ⟨n, rfl⟩
  show wpAny _ _ ((Builtin.List.listItems (.ref l) >>= fun xs => pure ((seqIndex? (Int.negSucc i) xs.size).bind fun i => xs[i]?.map (i, ·))) >>= _) _ _ s
  refine wpAny_bind (wpAny_bind ?_)
  show wpAny _ _ (seqItems? (.ref l) >>= _) _ _ s
  refine wpAny_bind (wpAny_seqItems ho rfl (wpAny_pure (wpAny_pure ?_)))
  rw [List.size_toArray, hidx]
  have hx' : vs.toArray[j]? = some vs[j] := by simp [hj]
  simp only [Option.bind_some, hx', Option.map_some]
  show wpAny _ _ (setSeqItemAt l j v >>= _) _ _ s
  refine wpAny_bind (wpAny_setSeqItemAt ho rfl ?_)
  first
    | exact wpAny_bind (wpAny_pure (wpAny_pure ⟨.none, rfl, wpAny_pure hQ⟩))
    | exact wpAny_pure ⟨.none, rfl, wpAny_pure hQ⟩
theorem RepL.set {K : Kn} {vs : List Value} {ds : List D} {v : Value} {d : D} (r : RepL S K vs ds) (rv : Rep S K v d) (j : Nat) : RepL S K (vs.set j v) (ds.set j d) := by
  refine ⟨by simp [r.len], fun i u e h1 h2 => ?_⟩
  rw [List.getElem?_set] at h1 h2
  split at h1
  · rename_i hij
    subst hij
    rw [if_pos rfl] at h2
    split at h1
    · split at h2
      · (replace h1 := Option.some.inj h1; subst h1); (replace h2 := Option.some.inj h2; subst h2); exact rv
      · exact nsm h2
    · exact nsm h1
  · rename_i hij
    rw [if_neg hij] at h2
    exact r.all i u e h1 h2
theorem lst_set (vs : List Value) (n j : Nat) (x : Value) : Obj.mapSeq (·.setIfInBounds j x) (lst vs n) = lst (vs.set j x) n := by
  unfold lst Obj.mapSeq
  simp
theorem seqIx {i : Int} {n j : Nat} (hj : seqIndex? i n = some j) : (i < 0 ∧ j = (i + n).toNat ∧ -(n : Int) ≤ i) ∨ (0 ≤ i ∧ j = i.toNat ∧ i < n) := by
  simp only [seqIndex?] at hj
  by_cases h0 : i < 0
  · rw [if_pos h0, Option.ite_none_right_eq_some] at hj
    refine elA hj fun h hj => ?_
    (replace hj := Option.some.inj hj; subst hj)
    simp only [Bool.and_eq_true, decide_eq_true_eq] at h
    exact .inl ⟨h0, rfl, by lia⟩
  · rw [if_neg h0, Option.ite_none_right_eq_some] at hj
    refine elA hj fun h hj => ?_
    (replace hj := Option.some.inj hj; subst hj)
    simp only [Bool.and_eq_true, decide_eq_true_eq] at h
    exact .inr ⟨by lia, rfl, by lia⟩
theorem Ex1.setItem {x : Str} {np sp pos : Pos} {ie e : Expr} {xs : List D} {d : D} {i : Int} {j : Nat} (he : σ x = some (.own xs)) (hx : isVar cx.sc x = true) (h : EvS S k cx σ e d) (hi : EvS S k cx σ ie (.int i))
    (hj : seqIndex? i xs.length = some j) (hlo : -(2 ^ 62) ≤ i) (hhi : i < 2 ^ 62) (t : Tidy σ := by exact ⟨rfl, rfl⟩) (hf : cx.fr = true := by rfl) (hs : ∀ env, swapsWith e (some (.Subscript (.Name x np) ie sp)) pos.line env = pure false := by intro _; rfl) :
    Ex1 S k cx σ (.Assign [.Subscript (.Name x np) ie sp] e pos) .next (σ.upd x (some (.own (xs.set j d)))) := by
  intro A env B K₀ s K Q E ro f hq
  refine wpAny_Assign_Subscript (h A env s K _ E ro f.ok f.fm fun v s1 K1 l1 o1 r1 => ?_) (hs env)
  have f1 := f.le l1 o1
  refine elE f1 fun α f1 => ?_
  refine elAA (isVar_or hx) fun h1 h3 h4 => ?_
  refine wpAny_Name (loadEnt f1.fm h1 he (fun w ev => ?_) h3) h4
  obtain ⟨rfl, hn, vs, n, ea, rl⟩ := ev
  refine hi A env s1 K1 _ E ro o1 f1.fmI fun w s2 K2 l2 o2 r2 => ?_
  (refine elE r2.int_inv fun tt e91 => ?_; subst e91)
  have f2 := f1.le l2 o2
  obtain ⟨hK, vs2, n2, ea2, rl2⟩ := f2.fm.ownAt hx he
  have hs2 : Heap.SameBut (α x) s2.heap (s2.heap.update (α x) (Obj.mapSeq (·.setIfInBounds j v))) := Heap.SameBut.update ..
  have hat : (s2.heap.update (α x) (Obj.mapSeq (·.setIfInBounds j v))).get? (α x) = some (lst (vs2.set j v) n2) := by
    rw [Heap.get?_update_self _ ea2 (by rw [lst_set]; rfl), lst_set]
  have fin := hq .next _ K2 ⟨α, f2.ownUpd hx hf he t hs2 hat (rl2.set (r1.mono l2.ext) j)⟩ rfl
  rcases seqIx hj with ⟨h0, rfl, hb⟩ | ⟨h0, rfl, hb⟩
  · rw [← rl2.len] at hb fin
    exact setNeg ea2 h0 hb (by lia) fin
  · exact ki_setAt (n := n2) ea2 h0 (by lia) (by rw [List.size_toArray, rl2.len]; assumption) fin
theorem EvS.ownLenB {np pos p : Pos} {x : Str} {ds : List D} (hx : isGlob cx.sc "len" = true) (hg : S.mg "len" = some (.builtin "len") ∨ (S.mg "len" = none ∧ S.mb "len" = some (.builtin "len"))) (hv : isVar cx.sc x = true) (he : σ x = some (.own ds)) (hl : ds.length ≤ sizeLine) :
    EvS S k cx σ (.Call (.Name "len" np) [.Name x p] [] pos) (.int ds.length) := by
  intro A env s K Q E ro o fm hq
  refine wpAny_Call_ofName (evalGlob o fm hx hg ?_)
  refine PyProof.Rows.callWith_builtin1 (wpAny_items_cons ?_) (starEach_plain rfl _ _) rfl
  refine elAA (isVar_or hv) fun h1 h3 h4 => ?_
  have fm' := fm
  (refine elE fm' fun α fa => ?_; try clear fm')
  refine wpAny_Name (loadEnt fa h1 he (fun v ev => ?_) h3) h4
  obtain ⟨rfl, hn, vs, n, e, q⟩ := ev
  refine wpAny_items_nil ?_
  rw [sizeLine_eq] at hl
  refine PyProof.Rows.len_list ⟨_, e, rfl, n, rfl⟩ (by simp only [List.size_toArray, q.len]; lia) ?_
  simp only [List.size_toArray, q.len]
  exact hq _ _ K (Le.toks (by lia)) o.toks (.int _ _)
end Mine
namespace Mine
variable {S : Sys} {k : Nat} {cx : Cx} {σ : Sto}
theorem FrA.less {env B B' K₀ s K α} (f : FrA S cx env σ B K₀ s K α) (hB : ∀ a o, B' a = some o → B a = some o) : FrA S cx env σ B' K₀ s K α := by
  have hn : ∀ a, B a = none → B' a = none := fun a e => by
    cases e' : B' a with
    | none => rfl
    | some o => rw [hB a o e'] at e; exact snm e
  refine ⟨f.ok, f.fm, fun b o e hb => f.keep b o (hB b o e) hb, f.ext, fun a ha => f.old a fun q => ha (hn a q), ⟨hn _ f.locN.1, f.locN.2⟩, fun x hw hx => ?_, f.apart, fun hf x xs hv e => hn _ (f.ownN hf x xs hv e), f.ownI⟩
  refine elEEAAA (f.cells x hw hx) fun c v h1 h2 h3 h4 => ?_
  exact ⟨c, v, h1, h2, hn _ h3, h4⟩
set_option genInjectivity false in
structure ClsF (S : Sys) (F : Frag) (C fI : Addr) (names : List Str) : Prop where
  sub : ∀ a o, F.lookup a = some o → S.K0 a = some o
  makes : makesIn F C = true
  init : findIn F (.ref C) "__init__" = some (some (.ref fI))
  fnI : typeIn F (.ref fI) = some (.type "function")
  over : plainOver F C = true
  has : (clsIn F C).any (·.hasDict) = true
  sets : findIn F (.ref C) "__setattr__" = some (some (.builtin "object.__setattr__"))
  gets : findIn F (.ref C) "__getattribute__" = some (some (.builtin "object.__getattribute__"))
  taker : ∀ n ∈ names, takerIn F C n = some none
  own : ∀ n ∈ names, ∀ od v, lookIn n od = some (some v) → findObj F C (some od) n = some (.value v)
theorem ClsF.inH {F : Frag} {C fI names K s} (c : ClsF S F C fI names) (o : Ok S K s) : F.In s.heap := fun a ob e => K0_get o (c.sub a ob e)
set_option genInjectivity false in
structure Led (S : Sys) (C x dx : Addr) (m : Str → Option Value) (W : Kn) (s : Shared) (K : Kn) : Prop where
  ox : s.heap.get? x = some (instObj C dx)
  nd : s.heap.Ns1 dx m
  ex : s.heap.ExactDictFk dx
  kx : K x = none
  kd : K dx = none
  tx : x ∉ S.T
  td : dx ∉ S.T
  loose : ∀ a o, W a = some o → s.heap.get? a = some o ∧ K a = none ∧ a ∉ S.T ∧ a ≠ dx
theorem Led.le {C x dx m W s s' K K'} (L : Led S C x dx m W s K) (l : Le S s s' K K') : Led S C x dx m W s' K' := by
  have hd : ∃ ob, s.heap.get? dx = some ob := let ⟨ob, e, _⟩ := L.ex; ⟨ob, e⟩
  refine ⟨l.keep _ _ L.tx L.ox, L.nd.at fun o e => l.keep _ _ L.td e, L.ex.at fun o e => l.keep _ _ L.td e, (l.old _ (by rw [L.ox]; simp)).trans L.kx, (l.old _ (by (refine elE hd fun ob e => ?_; try clear hd); rw [e]; simp)).trans L.kd, L.tx, L.td, fun a o e => ?_⟩
  refine elAAA (L.loose a o e) fun h1 h2 h3 h4 => ?_
  exact ⟨l.keep _ _ h3 h1, (l.old _ (by rw [h1]; simp)).trans h2, h3, h4⟩
theorem Led.xd {C x dx m W s K} (L : Led S C x dx m W s K) : x ≠ dx := fun e => by
  refine elEEEAA L.nd fun o es ep h1 h2 _ => ?_
  rw [← e, L.ox] at h1
  (replace h1 := Option.some.inj h1; subst h1); cases h2
theorem Led.inst {C x dx m W s K} (L : Led S C x dx m W s K) : ∃ od, s.heap.get? dx = some od ∧ InstAt s.heap x (instObj C dx) C (some od) := by
  refine elEA L.ex fun od e _ => ?_
  exact ⟨od, e, L.ox, rfl, rfl, e⟩
noncomputable def updM (m : Str → Option Value) (n : Str) (v : Value) : Str → Option Value := fun x => if x = n then some v else m x
theorem Led.set {C x dx m W s K h' tk n v} (L : Led S C x dx m W s K) (hn : h'.Ns1 dx (updM m n v)) (hs : Heap.SameBut dx s.heap h') (hk : ∀ od, s.heap.get? dx = some od → ∃ od', h'.get? dx = some od' ∧ od'.cls = od.cls ∧ od'.dict = od.dict) :
    Led S C x dx (updM m n v) W { s with heap := h', toks := tk } K := by
  refine ⟨(hs.2 _ L.xd).trans L.ox, hn, ?_, L.kx, L.kd, L.tx, L.td, fun a o e => ?_⟩
  · refine elEAA L.ex fun od e c d => ?_
    refine elEAA (hk od e) fun od' e' c' d' => ?_
    exact ⟨od', e', c'.trans c, d'.trans d⟩
  · refine elAAA (L.loose a o e) fun h1 h2 h3 h4 => ?_
    exact ⟨(hs.2 _ h4).trans h1, h2, h3, h4⟩
theorem objStore {A : Around} {s : Shared} {K : Kn} {F : Frag} {C fI x dx : Addr} {names ns : List Str} {m : Str → Option Value} {W : Kn} {n : Str} {v : Value} {Q : Unit → Shared → Prop} {E : Value → Shared → Prop} (c : ClsF S F C fI names) (o : Ok S K s) (L : Led S C x dx m W s K)
    (hn : n ∈ names) (hw : Within m ns) (hz : ns.length + 1 ≤ 1000)
    (h : ∀ h' tk, s.toks ≤ tk → Heap.SameBut dx s.heap h' → Led S C x dx (updM m n v) W { s with heap := h', toks := tk } K → Q () { s with heap := h', toks := tk }) : wpAny (M S) A (setAttr (.ref x) n v) Q E s := by
  have X := c.inH o
  refine elEA L.inst fun od eod I => ?_
  refine set_plain X I c.sets ?_
  have X2 : F.In (({ s with toks := s.toks + 1 } : Shared)).heap := X
  have I2 : InstAt (({ s with toks := s.toks + 1 } : Shared)).heap x (instObj C dx) C (some od) := I
  refine osa_open X2 I2 c.over (c.taker n hn) fun b => ?_
  refine elEA (any_some c.has) fun cd hc hd' => ?_
  refine wpAny_bind (wpAny_pure (wpAny_bind (wpAny_bind (wpAny_loadPart L.ox (wpAny_bind ((looks_clsIn X2 hc).here ?_))))))
  rw [hd']
  refine wpAny_pure (a := some dx) (wpAny_bind (wpAny_pure (wpAny_bind ?_)))
  refine wpAny_nsSet1EFk (s := { s with toks := s.toks + 1 }) L.nd fun h' hn' hs hkeepD => ?_
  refine elEEEAA (hn'.count (Within.cons n v hw)) fun oD esD epD hoD hdD hcD => ?_
  refine wpAny_bind (wpAny_lookBehind hoD (by rw [hdD]; exact pastItsLine_dict (Nat.le_trans hcD (by rw [List.length_cons, sizeLine_eq]; exact Nat.le_trans ‹_› (by decide)))) ?_)
  refine wpAny_pure ?_
  exact h h' _ (by show s.toks ≤ s.toks + 1 + 1; lia) hs (L.set hn' hs hkeepD)
end Mine
namespace Mine
variable {S : Sys} {k : Nat} {cx : Cx} {σ : Sto}
theorem stepAttr {A : Around} {env : Env} {B K₀ K : Kn} {s : Shared} {α : Str → Addr} {F : Frag} {C fI x dx : Addr} {names ns : List Str} {m : Str → Option Value} {W : Kn} {n y : Str} {p ap pos : Pos} {e : Expr} {d : D} {Q : Flow → Shared → Prop} {E : Value → Shared → Prop}
    (c : ClsF S F C fI names) (f : FrA S cx env σ B K₀ s K α) (L : Led S C x dx m W s K) (hB : B dx = none) (hL : dx ≠ env.locals) (hy : isVar cx.sc y = true) (hσ : σ y = some (.val (.tok x))) (hι : S.ι x = x) (he : EvS S k cx σ e d) (ro : Room k A)
    (hn : n ∈ names) (hw : Within m ns) (hz : ns.length + 1 ≤ 1000) (hs : swapsWith e (some (.Attribute (.Name y p) n ap)) pos.line env = pure false)
    (h : ∀ v s' K', FrA S cx env σ B K₀ s' K' α → Led S C x dx (updM m n v) W s' K' → Rep S K' v d → K.le K' → s.toks ≤ s'.toks → Q .next s') : wpAny (M S) A (exec (.Assign [.Attribute (.Name y p) n ap] e pos) env) Q E s := by
  refine plainObj_wpAny_Assign_Attribute (he A env s K _ E ro f.ok f.fmI fun v s1 K1 l1 o1 r1 => ?_) hs
  have f1 := f.le l1 o1
  have L1 := L.le l1
  refine elAA (isVar_or hy) fun h1 h3 h4 => ?_
  refine wpAny_Name (loadEnt f1.fm h1 hσ (fun w ev => ?_) h3) h4
  have hw' := Rep.tok_inv ev
  rw [hι] at hw'
  subst hw'
  refine objStore c o1 L1 hn hw hz fun h' tk ht hs' L2 => ?_
  exact h v _ K1 (f1.updD L1.nd.ns hL L1.kd L1.td hB ht hs') L2 r1 l1.ext (Nat.le_trans l1.tok ht)
theorem stepAttrO {A : Around} {env : Env} {B K₀ K : Kn} {s : Shared} {α : Str → Addr} {F : Frag} {C fI x dx : Addr} {names ns : List Str} {m : Str → Option Value} {W : Kn} {n y : Str} {p ap pos : Pos} {e : Expr} {xs : List D} {Q : Flow → Shared → Prop} {E : Value → Shared → Prop}
    (c : ClsF S F C fI names) (f : FrA S cx env σ B K₀ s K α) (L : Led S C x dx m W s K) (hB : B dx = none) (hL : dx ≠ env.locals) (hy : isVar cx.sc y = true) (hσ : σ y = some (.val (.tok x))) (hι : S.ι x = x) (he : EvO S k cx σ e xs) (ro : Room k A)
    (hn : n ∈ names) (hw : Within m ns) (hz : ns.length + 1 ≤ 1000) (hs : swapsWith e (some (.Attribute (.Name y p) n ap)) pos.line env = pure false)
    (h : ∀ a vs nn s' K', FrA S cx env σ B K₀ s' K' α → s.heap.get? a = none → Led S C x dx (updM m n (.ref a)) (W.add a (lst vs nn)) s' K' → RepL S K' vs xs → K.le K' → s.toks ≤ s'.toks → Q .next s') : wpAny (M S) A (exec (.Assign [.Attribute (.Name y p) n ap] e pos) env) Q E s := by
  refine plainObj_wpAny_Assign_Attribute (he A env s K _ E ro f.ok f.fmI fun a vs nn s1 K1 l1 o1 hn1 kn1 hat r1 => ?_) hs
  have f1 := f.le l1 o1
  have L1 := L.le l1
  refine elAA (isVar_or hy) fun h1 h3 h4 => ?_
  refine wpAny_Name (loadEnt f1.fm h1 hσ (fun w ev => ?_) h3) h4
  have hw' := Rep.tok_inv ev
  rw [hι] at hw'
  subst hw'
  have hdx : a ≠ dx := fun q => by
    refine elEA L.ex fun ob e9 _ => ?_
    rw [← q, hn1] at e9; exact nsm e9
  have L1' : Led S C x dx m (W.add a (lst vs nn)) s1 K1 := ⟨L1.ox, L1.nd, L1.ex, L1.kx, L1.kd, L1.tx, L1.td, fun b ob e9 => by
    by_cases hb : b = a
    · subst hb; rw [Kn.add_self] at e9; (replace e9 := Option.some.inj e9; subst e9); exact ⟨hat, kn1, f.ok.notT hn1, hdx⟩
    · rw [Kn.add_ne hb] at e9; exact L1.loose b ob e9⟩
  refine objStore c o1 L1' hn hw hz fun h' tk ht hs' L2 => ?_
  exact h a vs nn _ K1 (f1.updD L1.nd.ns hL L1.kd L1.td hB ht hs') hn1 L2 r1 l1.ext (Nat.le_trans l1.tok ht)
theorem EvO.nil {p : Pos} : EvO S k cx σ (.List [] p) [] := by
  intro A env s K Q E ro o fm hq
  refine wpAny_List (wpAny_items_nil ⟨Nat.zero_le _, ?_⟩)
  have hg := get_size s.heap
  exact hq _ [] 0 _ K (Le.grow (tk := s.toks) fun b x e => Heap.get?_push_of_some _ e) (o.grow (tk := s.toks) fun b x e => Heap.get?_push_of_some _ e) hg (o.noneK hg) (Heap.get?_push_size _ rfl) .nil
end Mine
namespace Mine
variable {S : Sys} {k : Nat} {cx : Cx} {σ : Sto}
noncomputable abbrev sUA : Str := Str.ofString "useragents"
noncomputable abbrev sRL : Str := Str.ofString "rulelines"
noncomputable abbrev sDE : Str := Str.ofString "delay"
noncomputable abbrev sRR : Str := Str.ofString "req_rate"
noncomputable abbrev sAT : Str := Str.ofString "applies_to"
noncomputable abbrev sAL : Str := Str.ofString "allowance"
noncomputable def eNames : List Str := [sUA, sRL, sDE, sRR, sAT, sAL]
noncomputable def entM (ua rl : Value) : Str → Option Value := updM (updM (updM (updM (fun _ => none) sUA ua) sRL rl) sDE .none) sRR .none
noncomputable def noKn : Kn := fun _ => none
theorem within_updM {m : Str → Option Value} {ns : List Str} {n : Str} {v : Value} (h : Within m ns) : Within (updM m n v) (n :: ns) := Within.cons n v h
theorem FrA.leOf {env B K₀ s0 s K α} (f : FrA S cx env σ B K₀ s K α) (hB : ∀ b o, s0.heap.get? b = some o → B b = some o) (ht : s0.toks ≤ s.toks) : Le S s0 s K₀ K :=
  ⟨fun b o hb e => f.keep b o (hB b o e) hb, f.ext, fun a ha => f.old a (by
    cases e : s0.heap.get? a with
    | none => exact absurd e ha
    | some ob => rw [hB a ob e]; simp), ht⟩
theorem Room.type {A : Around} {C : Addr} (h : Room (k + 1) A) : Room k (A.under (.builtin "type.__call__" ⟨[.ref C], []⟩)) := by
  have e1 : (A.under (.builtin "type.__call__" ⟨[.ref C], []⟩)).depth = A.depth + 1 := rfl
  have e2 : (A.under (.builtin "type.__call__" ⟨[.ref C], []⟩)).units = A.units + 1 := rfl
  refine ⟨h.1, ?_, ?_⟩
  · rw [e1]; have := h.2.1; lia
  · rw [e2]; have := h.2.2; lia
theorem callEntry {A : Around} {s : Shared} {K : Kn} {F : Frag} {C fI : Addr} {oc : Value} {od : Option Addr} {fd : FuncData} {sl : Array (Option Value)} {Q : Value → Shared → Prop} {E : Value → Shared → Prop}
    {p1 q1 l1 a1 p2 q2 l2 a2 p3 q3 l3 a3 p4 q4 l4 a4 : Pos} {n3 n4 : Nat}
    (c : ClsF S F C fI eNames) (hfn : S.K0 fI = some ⟨oc, od, .func fd, sl⟩)
    (hbody : fd.body = .stmts [.Assign [.Attribute (.Name "self" p1) sUA q1] (.List [] l1) a1, .Assign [.Attribute (.Name "self" p2) sRL q2] (.List [] l2) a2, .Assign [.Attribute (.Name "self" p3) sDE q3] (.Constant .none n3 l3) a3, .Assign [.Attribute (.Name "self" p4) sRR q4] (.Constant .none n4 l4) a4])
    (hok : fnOk fd ["self"] = true) (hself : isVar fd.scope "self" = true) (hcode : ∀ h : Heap, (∀ b o, S.K0 b = some o → h.get? b = some o) → h.CodeRec fd.code fd.qualname)
    (hbind : ∀ vs : List Value, vs.length = 1 → bindArgs fd ⟨vs, []⟩ = pure ((["self"] : List Str).zip vs)) (hι : ∀ n, S.ι n = n) (ro : Room (k + 3) A) (o : Ok S K s)
    (h : ∀ x dx l ua nl nu s' K', Le S s s' K K' → Ok S K' s' → s.heap.get? x = none → s.heap.get? dx = none → s.heap.get? l = none → Led S C x dx (entM (.ref ua) (.ref l)) (noKn.add l (lst [] nl)) s' K' → K' ua = some (lst [] nu) → Q (.ref x) s') :
    wpAny (M S) A (call (.ref C) []) Q E s := by
  have X := c.inH o
  obtain ⟨hp, g, d, t, os⟩ := s
  refine wpAny_call (make_core (makes_of X c.makes) (looks_findIn X c.init) (fun self => bind_fn X self c.fnI) (.inl rfl) ?_)
  have hk2 : ∀ b ob, hp.get? b = some ob → ((hp.push emptyDict).push (instObj C hp.objs.size)).get? b = some ob := fun b ob e => Heap.get?_push_of_some _ (Heap.get?_push_of_some _ e)
  have hgd : ((hp.push emptyDict).push (instObj C hp.objs.size)).get? hp.objs.size = some emptyDict := Heap.get?_push_of_some _ (Heap.get?_push_at rfl rfl)
  have hgx : ((hp.push emptyDict).push (instObj C hp.objs.size)).get? (hp.objs.size + 1) = some (instObj C hp.objs.size) := by
    have := Heap.get?_push_size (hp.push emptyDict) (o := instObj C hp.objs.size) rfl
    rwa [Heap.size_push] at this
  have hn0 : hp.get? hp.objs.size = none := get_size hp
  have hn1 : hp.get? (hp.objs.size + 1) = none := Heap.get?_none_of_le (Nat.le_succ _)
  have o1 : Ok S K ⟨(hp.push emptyDict).push (instObj C hp.objs.size), g, d, t, os⟩ := o.grow (tk := t) hk2
  generalize (hp.push emptyDict).push (instObj C hp.objs.size) = p2 at hk2 hgd hgx o1
  generalize hdx : hp.objs.size = dx at *
  generalize hxx : dx + 1 = x at *
  have hrx : Rep S K (.ref x) (.tok x) := by
    have := Rep.tok (S := S) (K := K) x
    rwa [hι] at this
  refine enterFn (k := k + 1) (ds := [.tok x]) hfn hbody hok hcode rfl hbind (Room.type (k := k + 2) ro) o1 (.cons hrx .nil) fun env s2 E2 hln hkeep f ro2 => ?_
  have f := f.less (B' := fun b => if b = dx then none else p2.get? b) fun a ob e => by
    split at e
    · exact nsm e
    · exact e
  have hBd : (fun b => if b = dx then none else p2.get? b) dx = none := if_pos rfl
  have hL : dx ≠ env.locals := fun q => by
    rw [← q] at hln
    rw [show p2.get? dx = none from hln] at hgd; exact nsm hgd
  have hTx : x ∉ S.T := o.notT hn1
  have hTd : dx ∉ S.T := o.notT hn0
  have L0 : Led S C x dx (fun _ => none) noKn s2 K := ⟨hkeep _ _ hgx, Heap.Ns1.of_empty ⟨_, #[], _, hkeep _ _ hgd, rfl, fun e he => absurd he (by simp), fun _ => rfl⟩, ⟨_, hkeep _ _ hgd, rfl, rfl⟩, o.noneK hn1, o.noneK hn0, hTx, hTd, fun a ob e => by exact nsm e⟩
  have hσ : parSto ["self"] [.tok x] (Str.ofString "self") = some (.val (.tok x)) := rfl
  refine execsC (stepAttr (d := .list []) c f L0 hBd hL hself hσ (hι x) (EvS.list .nil) ro2 (by decide +kernel) (ns := []) Within.nil (by decide) rfl fun v1 s3 K3 f3 L3 r3 k3 t3 => ?_)
  (refine elEEEAA r3.list_inv fun ua vs nu e93 eua rvs => ?_; subst e93)
  rw [rvs.nil_inv] at eua
  refine execsC (stepAttrO c f3 L3 hBd hL hself hσ (hι x) EvO.nil ro2 (by decide +kernel) (ns := [sUA]) (within_updM Within.nil) (by decide) rfl fun l lv nl s4 K4 f4 hl L4 r4 k4 t4 => ?_)
  rw [r4.nil_inv] at L4
  refine execsC (stepAttr (d := .none) c f4 L4 hBd hL hself hσ (hι x) EvS.cnone ro2 (by decide +kernel) (ns := [sRL, sUA]) (within_updM (within_updM Within.nil)) (by decide) rfl fun v5 s5 K5 f5 L5 r5 k5 t5 => ?_)
  rw [r5.none_inv] at L5
  refine execsC (stepAttr (d := .none) c f5 L5 hBd hL hself hσ (hι x) EvS.cnone ro2 (by decide +kernel) (ns := [sDE, sRL, sUA]) (within_updM (within_updM (within_updM Within.nil))) (by decide) rfl fun v6 s6 K6 f6 L6 r6 k6 t6 => ?_)
  rw [r6.none_inv] at L6
  refine wpAny_execs_nil fun ht => .inr ⟨rfl, rfl, ?_⟩
  have hB6 : ∀ b ob, hp.get? b = some ob → (fun b => if b = dx then none else p2.get? b) b = some ob := fun b ob e => by
    have : b ≠ dx := fun q => by rw [q, hn0] at e; exact nsm e
    dsimp only
    rw [if_neg this]; exact hk2 _ _ e
  have hfl : hp.get? l = none := by
    cases e9 : hp.get? l with
    | none => rfl
    | some ob =>
      have : s3.heap.get? l = some ob := f3.keep l ob (hB6 l ob e9) fun hm => by
        obtain ⟨_, ps, e8, _⟩ := o.tabs l hm
        have := f3.ok.tabs l hm
        obtain ⟨_, ps', e7, _⟩ := this
        rw [hl] at e7; exact nsm e7
      rw [hl] at this; exact nsm this
  exact h x dx l ua nl nu s6 K6 (f6.leOf (s0 := ⟨hp, g, d, t, os⟩) hB6 ht) f6.ok hn1 hn0 hfl L6 (k6 _ _ (k5 _ _ (k4 _ _ eua)))
end Mine
namespace Mine
variable {S : Sys} {k : Nat} {cx : Cx} {σ : Sto}
noncomputable def ObjAt (K : Kn) (x C : Addr) (m : Str → Option Value) : Prop :=
  ∃ dx od es ep, K x = some (instObj C dx) ∧ K dx = some od ∧ od.data = .dict es ep ∧ StrKeys es ∧ ∀ n, nsFind es n = m n
theorem ObjAt.mono {K K' : Kn} {x C m} (h : K.le K') (o : ObjAt K x C m) : ObjAt K' x C m :=
  let ⟨dx, od, es, ep, h1, h2, h3⟩ := o; ⟨dx, od, es, ep, h _ _ h1, h _ _ h2, h3⟩
noncomputable def entStd (C : Addr) (K : Kn) (v : Value) (vs : List Value) : Prop :=
  ∃ x m ua l nu nl, v = .ref x ∧ ObjAt K x C m ∧ m sUA = some (.ref ua) ∧ K ua = some (lst [] nu) ∧ m sRL = some (.ref l) ∧ K l = some (lst vs nl) ∧ m sDE = some .none ∧ m sRR = some .none ∧ m sAL = none
theorem entStd_mono {C : Addr} {K K' : Kn} {v vs} (h : K.le K') (e : entStd C K v vs) : entStd C K' v vs :=
  let ⟨x, m, ua, l, nu, nl, h1, h2, h3, h4, h5, h6, h7⟩ := e; ⟨x, m, ua, l, nu, nl, h1, h2.mono h, h3, h _ _ h4, h5, h _ _ h6, h7⟩
noncomputable def ruleStd (C : Addr) (Lam : Kn → Addr → (Str → Int) → Prop) (K : Kn) (v : Value) (b : Bool) (f : Str → Int) : Prop :=
  ∃ x m cl, v = .ref x ∧ ObjAt K x C m ∧ m sAL = some (.bool b) ∧ m sAT = some (.ref cl) ∧ Lam K cl f
theorem ruleStd_mono {C : Addr} {Lam : Kn → Addr → (Str → Int) → Prop} (hl : ∀ K K' cl f, Kn.le K K' → Lam K cl f → Lam K' cl f) {K K' : Kn} {v b f} (h : K.le K') (e : ruleStd C Lam K v b f) : ruleStd C Lam K' v b f :=
  let ⟨x, m, cl, h1, h2, h3, h4, h5⟩ := e; ⟨x, m, cl, h1, h2.mono h, h3, h4, hl _ _ _ _ h h5⟩
theorem look_some {od : Obj} {es : Array DictEntry} {ep : Nat} {n : Str} {v : Value} (hd : od.data = .dict es ep) (h : nsFind es n = some v) : lookIn n od = some (some v) := by
  unfold lookIn
  rw [hd]
  simp only [nsFind, findBy, Option.map_eq_some_iff] at h
  (refine elEA h fun e he e92 => ?_; try clear h; subst e92)
  rw [← Array.find?_toList] at he
  simp only [he]
theorem look_none {od : Obj} {es : Array DictEntry} {ep : Nat} {n : Str} (hd : od.data = .dict es ep) (hk : StrKeys es) (h : nsFind es n = none) : lookIn n od = some none := by
  unfold lookIn
  rw [hd]
  simp only [nsFind, findBy, Option.map_eq_none_iff] at h
  rw [← Array.find?_toList] at h
  have hr : es.toList.any (·.refKey) = false := by
    rw [List.any_eq_false]
    intro e he
    refine elEE (hk e (Array.mem_toList_iff.mp he)) fun n t hn => ?_
    simp [DictEntry.refKey, hn]
  simp only [h, hr, Bool.false_eq_true, if_false]
theorem ObjAt.inst {K : Kn} {s : Shared} {x C m} (o : Ok S K s) (h : ObjAt K x C m) : ∃ dx od, InstAt s.heap x (instObj C dx) C (some od) ∧ (∀ n v, m n = some v → lookIn n od = some (some v)) ∧ (∀ n, m n = none → lookIn n od = some none) := by
  (refine elEEEEAAAA h fun dx od es ep h1 h2 h3 h4 h5 => ?_; try clear h)
  refine ⟨dx, od, ⟨o.kn _ _ h1, rfl, rfl, o.kn _ _ h2⟩, fun n v e => look_some h3 (by rw [h5]; exact e), fun n e => look_none h3 h4 (by rw [h5]; exact e)⟩
theorem readField {A : Around} {s : Shared} {K : Kn} {F : Frag} {C fI x : Addr} {m : Str → Option Value} {n : Str} {v : Value} {expr : Bool} {Q : Value → Shared → Prop} {E : Value → Shared → Prop} (c : ClsF S F C fI eNames) (o : Ok S K s) (h : ObjAt K x C m) (hn : n ∈ eNames) (hm : m n = some v) (hv : handedIn v = true)
    (hq : Q v { s with toks := s.toks + 1 }) : wpAny (M S) A (getAttr (.ref x) n expr) Q E s := by
  refine elEEAA (h.inst o) fun dx od I h1 _ => ?_
  exact get_value (c.inH o) I c.gets (c.own n hn od v (h1 n v hm)) hv hq
theorem Rep.entry_inv {K : Kn} {v : Value} {rs : List D} (h : Rep S K v (.entry rs)) : ∃ vs, S.entP K v vs ∧ RepL S K vs rs := by
  cases h with | entry e hl h => exact ⟨_, e, hl, h⟩
theorem Rep.rule_inv {K : Kn} {v : Value} {b : Bool} {f : Str → Int} (h : Rep S K v (.rule b f)) : S.ruleP K v b f := by
  cases h with | rule h => exact h
theorem evalField {A : Around} {env : Env} {s : Shared} {K : Kn} {F : Frag} {C fI : Addr} {n y : Str} {p pos : Pos} {d : D} {Q : Value → Shared → Prop} {E : Value → Shared → Prop} (c : ClsF S F C fI eNames) (o : Ok S K s) (fm : Fm S cx env σ s K)
    (hy : isVar cx.sc y = true) (hσ : σ y = some (.val d)) (hn : n ∈ eNames) (hx : ∀ w, Rep S K w d → ∃ x m v, w = .ref x ∧ ObjAt K x C m ∧ m n = some v ∧ handedIn v = true ∧ Q v { s with toks := s.toks + 1 })
    (hbase : attributeBase (.Name y p) n env (eval (.Name y p) env) = eval (.Name y p) env := by rfl) : wpAny (M S) A (eval (.Attribute (.Name y p) n pos) env) Q E s := by
  rw [arm_eval_Attribute, hbase]
  refine wpAny_bind ?_
  refine elAA (isVar_or hy) fun h1 h3 h4 => ?_
  (refine elE fm fun α fa => ?_; try clear fm)
  refine wpAny_Name (loadEnt fa h1 hσ (fun w ev => ?_) h3) h4
  (refine elEEEAAAA (hx w ev) fun x m v e93 ho hm hv hq => ?_; subst e93)
  refine wpAny_bind (wpAny_standAt (wpAny_bind (wpAny_holding (readField c o ho hn hm hv ?_))))
  exact wpAny_pure hq
variable {F : Frag} {C fI : Addr} {Lam : Kn → Addr → (Str → Int) → Prop}
theorem EvS.entRules {y : Str} {p pos : Pos} {rs : List D} (c : ClsF S F C fI eNames) (hE : S.entP = entStd C) (hy : isVar cx.sc y = true) (hσ : σ y = some (.val (.entry rs))) : EvS S k cx σ (.Attribute (.Name y p) sRL pos) (.list rs) := by
  intro A env s K Q E ro o fm hq
  refine evalField c o fm hy hσ (by decide +kernel) fun w r => ?_
  refine elEA r.entry_inv fun vs e rl => ?_
  rw [hE] at e
  (refine elEEEEEEAAAAAA e fun x m ua l nu nl e96 ho h1 h2 h3 h4 _ => ?_; try clear e; subst e96)
  exact ⟨x, m, _, rfl, ho, h3, rfl, hq _ _ K Le.toks o.toks (Rep.list' h4 rl)⟩
theorem EvS.entAgents {y : Str} {p pos : Pos} {rs : List D} (c : ClsF S F C fI eNames) (hE : S.entP = entStd C) (hy : isVar cx.sc y = true) (hσ : σ y = some (.val (.entry rs))) : EvS S k cx σ (.Attribute (.Name y p) sUA pos) (.list []) := by
  intro A env s K Q E ro o fm hq
  refine evalField c o fm hy hσ (by decide +kernel) fun w r => ?_
  refine elEA r.entry_inv fun vs e rl => ?_
  rw [hE] at e
  (refine elEEEEEEAAAAAA e fun x m ua l nu nl e96 ho h1 h2 h3 h4 _ => ?_; try clear e; subst e96)
  exact ⟨x, m, _, rfl, ho, h1, rfl, hq _ _ K Le.toks o.toks (Rep.list' h2 .nil)⟩
theorem EvS.entDelay {y : Str} {p pos : Pos} {rs : List D} (c : ClsF S F C fI eNames) (hE : S.entP = entStd C) (hy : isVar cx.sc y = true) (hσ : σ y = some (.val (.entry rs))) : EvS S k cx σ (.Attribute (.Name y p) sDE pos) .none := by
  intro A env s K Q E ro o fm hq
  refine evalField c o fm hy hσ (by decide +kernel) fun w r => ?_
  refine elEA r.entry_inv fun vs e rl => ?_
  rw [hE] at e
  obtain ⟨x, m, ua, l, nu, nl, rfl, ho, h1, h2, h3, h4, h5, h6, _⟩ := e
  exact ⟨x, m, _, rfl, ho, h5, rfl, hq _ _ K Le.toks o.toks .none⟩
theorem EvS.entRate {y : Str} {p pos : Pos} {rs : List D} (c : ClsF S F C fI eNames) (hE : S.entP = entStd C) (hy : isVar cx.sc y = true) (hσ : σ y = some (.val (.entry rs))) : EvS S k cx σ (.Attribute (.Name y p) sRR pos) .none := by
  intro A env s K Q E ro o fm hq
  refine evalField c o fm hy hσ (by decide +kernel) fun w r => ?_
  refine elEA r.entry_inv fun vs e rl => ?_
  rw [hE] at e
  obtain ⟨x, m, ua, l, nu, nl, rfl, ho, h1, h2, h3, h4, h5, h6, _⟩ := e
  exact ⟨x, m, _, rfl, ho, h6, rfl, hq _ _ K Le.toks o.toks .none⟩
theorem EvS.ruleAllow {y : Str} {p pos : Pos} {b : Bool} {f : Str → Int} (c : ClsF S F C fI eNames) (hR : S.ruleP = ruleStd C Lam) (hy : isVar cx.sc y = true) (hσ : σ y = some (.val (.rule b f))) : EvS S k cx σ (.Attribute (.Name y p) sAL pos) (.bool b) := by
  intro A env s K Q E ro o fm hq
  refine evalField c o fm hy hσ (by decide +kernel) fun w r => ?_
  have e := r.rule_inv
  rw [hR] at e
  (refine elEEEAAAA e fun x m cl e93 ho h1 h2 _ => ?_; try clear e; subst e93)
  exact ⟨x, m, _, rfl, ho, h1, rfl, hq _ _ K Le.toks o.toks (.bool b)⟩
theorem wpAny_Call_by {A : Around} {env : Env} {s : Shared} {ob : Expr} {name : Str} {apos pos : Pos} {args : List Expr} {Q : Value → Shared → Prop} {E : Value → Shared → Prop} (hbase : attributeBase ob name env (eval ob env) = eval ob env) (hp : allPlain args = true) (hlen : args.length < 30) (hline : (apos.endLine == pos.line) = true)
    (h : wpAny (M S) A (eval ob env) (fun ov s₁ => ∀ pl, wpAny (M S) A (getMethod ov name pl) (fun r s₂ => wpAny (M S) A (callWith pos r.1 r.2 (backTo pos (starEach args env)) []) Q E s₂) E s₁) E s) :
    wpAny (M S) A (eval (.Call (.Attribute ob name apos) args [] pos) env) Q E s := by
  have hform : methodCallForm (args.length + ([] : List Keyword).length) (backTo pos (starEach args env)) (backToKw pos (keywordEach [] env)) = true := by
    have hall : ((backTo pos (starEach args env)).all fun x => !x.1) = true := by
      have := noStars (pos := pos) (env := env) hp
      rw [List.any_eq_false] at this
      rw [List.all_eq_true]
      intro x hx
      simpa using this x hx
    unfold methodCallForm
    rw [hall]
    simp [backToKw, show keywordEach [] env = [] from rfl]
    exact hlen
  rw [arm_eval_Call, hbase]
  refine wpAny_bind (wpAny_mono h (fun ov s₁ h₁ => ?_) fun _ _ e => e)
  refine wpAny_bind (wpAny_standAt ?_)
  have hpos : methodCallPos true ob env apos pos = pure pos := by unfold methodCallPos; simp [hline]
  unfold methodCall
  rw [hform]
  refine wpAny_bind (wpAny_holding (wpAny_mono (h₁ _) (fun r s₂ h₂ => ?_) fun _ _ e => e))
  exact wpAny_bind (wpAny_of_eq hpos h₂)
end Mine
namespace Mine
variable {S : Sys} {k : Nat} {cx : Cx} {σ : Sto}
set_option genInjectivity false in
structure ClsG (S : Sys) (F : Frag) (C fI fT fA : Addr) : Prop where
  cf : ClsF S F C fI eNames
  gat : findIn F (.ref C) "__getattr__" = some none
  at1 : findIn F (.ref C) sAT = some (some (.ref fT))
  at2 : typeIn F (.ref fT) = some (.type "function")
  al1 : findIn F (.ref C) sAL = some (some (.ref fA))
  al2 : typeIn F (.ref fA) = some (.type "function")
  al3 : ∃ oc od fd sl, S.K0 fA = some ⟨oc, od, .func fd, sl⟩
variable {F : Frag} {C fI fT fA : Addr} {Lam : Kn → Addr → (Str → Int) → Prop}
theorem getShadow {A : Around} {s : Shared} {K : Kn} {x f : Addr} {m : Str → Option Value} {n : Str} {v : Value} {pl : Sem Bool} {Q : Value × List Value → Shared → Prop} {E : Value → Shared → Prop} (c : ClsG S F C fI fT fA) (o : Ok S K s) (h : ObjAt K x C m) (hn : n ∈ eNames) (hm : m n = some v) (hv : handedIn v = true)
    (hf : findIn F (.ref C) n = some (some (.ref f))) (ht : typeIn F (.ref f) = some (.type "function")) (hq : Q (v, []) { s with toks := s.toks + 1 }) : wpAny (M S) A (getMethod (.ref x) n pl) Q E s := by
  refine elEEAA (h.inst o) fun dx od I h1 _ => ?_
  have X := c.cf.inH o
  have hcan := PySem.F.canon_object_ga
  have u : wpAny (M S) A (do return (← getAttr (.ref x) n, ([] : List Value))) Q E s := wpAny_bind (get_value X I c.cf.gets (c.cf.own n hn od v (h1 n v hm)) hv (wpAny_pure hq))
  unfold getMethod specialOf
  refine wpAny_bind (wpAny_bind (I.type.here ((looks_findIn X c.cf.gets).here ?_)))
  dsimp only
  rw [hcan, if_neg (by decide)]
  refine wpAny_bind (wpAny_bind (I.type.here ((looks_findIn X c.gat).here ?_)))
  refine wpAny_bind (wpAny_bind (I.type.here ((looks_findIn X hf).here (wpAny_bind ((looks_typeIn X ht).here ?_)))))
  refine wpAny_ite_false (decide_eq_false ((by decide +kernel))) ?_
  refine wpAny_bind (wpAny_loadPart I.at_ ?_)
  have hd := I.dict
  refine wpAny_bind (wpAny_bind (wpAny_loadPart hd ?_))
  rw [nsLook_of (h1 n v hm)]
  exact wpAny_pure u
noncomputable def CalK (S : Sys) (k : Nat) (K : Kn) (f : Value) (ds : List D) (d : D) : Prop :=
  ∀ (A : Around) (s : Shared) (vs : List Value) (Q : Value → Shared → Prop) (E : Value → Shared → Prop), Room k A → Ok S K s → RepL S K vs ds →
    (∀ v s' K', Le S s s' K K' → Ok S K' s' → Rep S K' v d → Q v s') → wpAny (M S) A (call f vs) Q E s
theorem EvS.ruleCall {y : Str} {p ap pos : Pos} {b : Bool} {f : Str → Int} {e : Expr} {x : Str} (c : ClsG S F C fI fT fA) (hR : S.ruleP = ruleStd C Lam) (hlm : ∀ K K' cl f, Kn.le K K' → Lam K cl f → Lam K' cl f)
    (hl : ∀ K cl f, Lam K cl f → (∃ oc od fd sl, K cl = some ⟨oc, od, .func fd, sl⟩) ∧ ∀ x, CalK S k K (.ref cl) [.str x] (.int (f x)))
    (hy : isVar cx.sc y = true) (hσ : σ y = some (.val (.rule b f))) (he : EvS S k cx σ e (.str x)) (hp : Plain e = true := by rfl) (hline : (ap.endLine == pos.line) = true := by rfl) (hbase : ∀ env, attributeBase (.Name y p) sAT env (eval (.Name y p) env) = eval (.Name y p) env := by intro _; rfl) :
    EvS S k cx σ (.Call (.Attribute (.Name y p) sAT ap) [e] [] pos) (.int (f x)) := by
  intro A env s K Q E ro o fm hq
  refine wpAny_Call_by (hbase env) (by simp [allPlain, hp]) (by show 1 < 30; decide) hline ?_
  refine elAA (isVar_or hy) fun h1 h3 h4 => ?_
  refine elE (id fm) fun α fa => ?_
  refine wpAny_Name (loadEnt fa h1 hσ (fun w ev => ?_) h3) h4
  intro pl
  have e9 := Rep.rule_inv ev
  rw [hR] at e9
  (refine elEEEAAAA e9 fun ox m cl e93 ho hm1 hm2 hL => ?_; try clear e9; subst e93)
  refine getShadow c o ho (by decide +kernel) hm2 rfl c.at1 c.at2 ?_
  obtain ⟨⟨oc, od, fd, sl, hfn⟩, _⟩ := hl K cl f hL
  have o1 : Ok S K { s with toks := s.toks + 1 } := o.toks
  have l1 : Le S s { s with toks := s.toks + 1 } K K := Le.toks
  refine callWith_F ⟨_, _, _, _, o.kn _ _ hfn⟩ ?_ (starEach_plain hp _ _) rfl
  rw [starEach_plain hp]
  refine Calls.spliced_cons (he A env _ K _ E ro o1 (fm.le o l1) fun v s2 K2 l2 o2 r2 => Calls.spliced_nil ?_)
  refine ⟨⟨_, _, _, _, o2.kn _ _ (l2.ext _ _ hfn)⟩, ?_⟩
  exact (hl K2 cl f (hlm _ _ _ _ l2.ext hL)).2 x A s2 [v] Q E ro o2 (.cons r2 .nil) fun u s3 K3 l3 o3 r3 => hq u s3 K3 (Le.trans o o2 (Le.trans o o1 l1 l2) l3) o3 r3
theorem EvS.entAllow {y : Str} {p ap pos : Pos} {rs : List D} {e : Expr} {d r : D} (c : ClsG S F C fI fT fA) (hE : S.entP = entStd C) (hA : CalS S k (.ref fA) [.entry rs, d] r)
    (hy : isVar cx.sc y = true) (hσ : σ y = some (.val (.entry rs))) (he : EvS S k cx σ e d) (hp : Plain e = true := by rfl) (hline : (ap.endLine == pos.line) = true := by rfl) (hbase : ∀ env, attributeBase (.Name y p) sAL env (eval (.Name y p) env) = eval (.Name y p) env := by intro _; rfl) :
    EvS S k cx σ (.Call (.Attribute (.Name y p) sAL ap) [e] [] pos) r := by
  intro A env s K Q E ro o fm hq
  refine wpAny_Call_by (hbase env) (by simp [allPlain, hp]) (by show 1 < 30; decide) hline ?_
  refine elAA (isVar_or hy) fun h1 h3 h4 => ?_
  refine elE (id fm) fun α fa => ?_
  refine wpAny_Name (loadEnt fa h1 hσ (fun w ev => ?_) h3) h4
  intro pl
  have ev' := ev
  refine elEA (Rep.entry_inv ev') fun vs e9 rl => ?_
  rw [hE] at e9
  obtain ⟨ox, m, ua, l, nu, nl, rfl, ho, m1, m2, m3, m4, m5, m6, m7⟩ := e9
  refine elEEAA (ho.inst o) fun dx od I hi1 hi2 => ?_
  refine method_fn (c.cf.inH o) I c.cf.gets c.gat c.al1 c.al2 ?_ ?_
  · show (lookIn sAL od).map (·.isSome) = some false
    rw [hi2 sAL m7]; rfl
  refine elEEEE c.al3 fun oc odf fd sl hfn => ?_
  refine callWith_F ⟨_, _, _, _, K0_get o hfn⟩ ?_ (starEach_plain hp _ _) rfl
  rw [starEach_plain hp]
  refine Calls.spliced_cons (he A env s K _ E ro o fm fun v s2 K2 l2 o2 r2 => Calls.spliced_nil ?_)
  refine ⟨⟨_, _, _, _, K0_get o2 hfn⟩, ?_⟩
  exact hA A s2 K2 [.ref ox, v] Q E ro o2 (.cons (ev.mono l2.ext) (.cons r2 .nil)) fun u s3 K3 l3 o3 r3 => hq u s3 K3 (Le.trans o o2 l2 l3) o3 r3
end Mine
namespace Mine
variable {S : Sys} {k : Nat} {cx : Cx} {σ : Sto}
noncomputable def cxOf (fd : FuncData) : Cx := ⟨fd.scope, fd.code, [], true, 0, fd.qualname ++ ".<locals>."⟩
noncomputable def lamSto (names : List Str) (ds : List D) (frees : List (Str × D)) : Sto := fun x => if names.contains x then parSto names ds x else (frees.lookup x).map .val
noncomputable def KCell (S : Sys) (K : Kn) (c : Addr) (d : D) : Prop := ∃ o v, K c = some o ∧ o.data = .cell (some v) ∧ Rep S K v d
noncomputable def lamOk (fd : FuncData) (names : List Str) (fn : List Str) : Bool :=
  fd.scope.kind == .function && !fd.scope.isCoroutine && !fd.scope.isGenerator && fd.globals == mainGlobals && fd.builtins == builtinsNs && nodupB names && names.all (fun n => fd.scope.names.lookup n == some .local) &&
  fd.scope.names.all (fun p => p.2 != .cell && (p.2 != .free || fn.contains p.1)) && fn.all (fun n => fd.scope.names.lookup n == some .free)
theorem callLam {cl : Addr} {oc : Value} {od : Option Addr} {fd : FuncData} {sl : Array (Option Value)} {body : Expr} {names fn : List Str} {ds : List D} {frees : List (Str × D)} {d : D} {A : Around} {s : Shared} {K : Kn} {vs : List Value} {Q : Value → Shared → Prop} {E : Value → Shared → Prop}
    (hbody : fd.body = .expr body) (hok : lamOk fd names fn = true) (hfn : frees.map (·.1) = fn) (hn : names.length = ds.length) (hbind : ∀ vs : List Value, vs.length = names.length → bindArgs fd ⟨vs, []⟩ = pure (names.zip vs))
    (ro : Room (k + 1) A) (o : Ok S K s) (hK : K cl = some ⟨oc, od, .func fd, sl⟩) (hcode : s.heap.CodeRec fd.code fd.qualname)
    (hfr : ∀ x d, frees.lookup x = some d → ∃ c, fd.closure.lookup x = some c ∧ KCell S K c d) (r : RepL S K vs ds)
    (he : EvS S k (cxOf fd) (lamSto names ds frees) body d) (h : ∀ v s' K', Le S s s' K K' → Ok S K' s' → Rep S K' v d → Q v s') : wpAny (M S) A (call (.ref cl) vs) Q E s := by
  unfold lamOk at hok
  simp only [Bool.and_eq_true, Bool.not_eq_true', beq_iff_eq] at hok
  obtain ⟨⟨⟨⟨⟨⟨⟨⟨q1, q2⟩, q3⟩, q4⟩, q5⟩, q6⟩, q7⟩, q8⟩, q9⟩ := hok
  have q7' : ∀ n ∈ names, fd.scope.names.lookup n = some .local := fun n hm => by simpa using List.all_eq_true.mp q7 n hm
  have q8' : ∀ p ∈ fd.scope.names, p.2 ≠ .cell ∧ (p.2 = .free → p.1 ∈ fn) := fun p hm => by
    have := List.all_eq_true.mp q8 p hm
    rw [Bool.and_eq_true, Bool.or_eq_true] at this
    refine ⟨by simpa using this.1, fun hf => ?_⟩
    rcases this.2 with h9 | h9
    · rw [hf] at h9; simp at h9
    · simpa using h9
  have q9' : ∀ n ∈ fn, fd.scope.names.lookup n = some .free := fun n hm => by simpa using List.all_eq_true.mp q9 n hm
  have hvl : vs.length = names.length := by rw [r.len, hn]
  have hnd : ((names.zip vs).map (·.1)).Nodup := by
    rw [List.map_fst_zip (by lia)]; exact nodupB_iff q6
  have nocell : ∀ x, fd.scope.names.lookup x ≠ some .cell := fun x hx => (q8' _ (mem_of_lookup hx)).1 rfl
  refine wpAny_call (kla_callFunE ro.depth (o.kn _ _ hK) rfl q2 q3 hbody hcode ?_)
  rw [hbind vs hvl, q4, q5]
  refine wpAny_pure (wpAny_newFunctionEnv (fun x hx => (q8' x hx).1) (fun x hx => q7' _ (List.of_mem_zip (show (x.1, x.2) ∈ names.zip vs from hx)).1) (fun h' hns hsb => ?_) q1)
  have hkeep : ∀ b ob, s.heap.get? b = some ob → h'.get? b = some ob := fun b ob e => (hsb.2 b (Nat.ne_of_lt (Heap.lt_size e))).trans (Heap.get?_push_of_some _ e)
  have o1 : Ok S K { s with heap := h', toks := s.toks + (names.zip vs).length } := o.grow hkeep
  have l1 : Le S s { s with heap := h', toks := s.toks + (names.zip vs).length } K K := Le.grow hkeep
  refine ⟨S.noLim _ fun b ob e => o1.kn _ _ (o1.base _ _ e), ?_⟩
  refine kla_codeExpr ?_
  have fa : FmA S (cxOf fd) (newEnv fd.scope s.heap.objs.size mainGlobals fd.closure (fd.qualname ++ ".<locals>.") (some cl) fd.code none builtinsNs) (lamSto names ds frees) { s with heap := h', toks := s.toks + (names.zip vs).length } K (fun _ => 0) := by
    refine ⟨rfl, ⟨rfl, rfl⟩, q1, rfl, rfl, Nat.zero_le _, ⟨_, hns, fun x e hl he => ?_⟩, fun x hx => ?_, fun x e hx he => ?_⟩
    · unfold lamSto at he
      split at he
      · unfold parSto at he
        (refine elEA (Option.map_eq_some_iff.mp he) fun d9 hd9 e92 => ?_; subst e92)
        refine elEA (zip_rep r hd9) fun v hv rv => ?_
        refine ⟨v, ?_, rv⟩
        refine lookup_nodup ?_ (List.mem_reverse.mpr (mem_of_lookup hv))
        rw [List.map_reverse]; exact List.pairwise_reverse.mpr (List.Pairwise.imp (fun h e => h e.symm) hnd)
      · (refine elEA (Option.map_eq_some_iff.mp he) fun d9 hd9 e92 => ?_; subst e92)
        have hm : x ∈ fn := by rw [← hfn]; exact List.mem_map.mpr ⟨_, mem_of_lookup hd9, rfl⟩
        rw [show (cxOf fd).sc.names.lookup x = fd.scope.names.lookup x from rfl, q9' x hm] at hl; cases hl
    · rcases hx with hx | hx
      · exact absurd hx (nocell x)
      · have hm := (q8' _ (mem_of_lookup hx)).2 rfl
        rw [← hfn] at hm
        refine elEA (List.mem_map.mp hm) fun p hp hpx => ?_
        obtain ⟨d9, hd9⟩ : ∃ d9, frees.lookup x = some d9 := by
          cases e9 : frees.lookup x with
          | some d9 => exact ⟨d9, rfl⟩
          | none =>
            rw [List.lookup_eq_none_iff] at e9
            have := e9 p hp
            rw [hpx] at this
            simp at this
        obtain ⟨c, hc, ob, v, e1, e2, _⟩ := hfr x d9 hd9
        exact ⟨c, some v, hc, ob, o1.kn _ _ e1, e2⟩
    · rcases hx with hx | hx
      · exact absurd hx (nocell x)
      · unfold lamSto at he
        split at he
        · rename_i hc
          rw [show (cxOf fd).sc.names.lookup x = fd.scope.names.lookup x from rfl, q7' x (by simpa using hc)] at hx; cases hx
        · (refine elEA (Option.map_eq_some_iff.mp he) fun d9 hd9 e92 => ?_; subst e92)
          obtain ⟨c, hc, ob, v, e1, e2, e3⟩ := hfr x d9 hd9
          exact ⟨c, v, hc, ⟨ob, o1.kn _ _ e1, e2⟩, e3⟩
  exact he _ _ _ K _ _ ro.deeper o1 ⟨_, fa⟩ fun v s2 K2 l2 o2 r2 => h v s2 K2 (Le.trans o o1 l1 l2) o2 r2
end Mine
namespace Mine
variable {S : Sys} {k : Nat} {cx : Cx} {σ : Sto}
noncomputable def getIn (F : Frag) : Option Value → Option (Option Value)
  | some a => specialIn F a "__get__"
  | none => some none
noncomputable def dataIn (F : Frag) : Option Value → Option Value → Option Bool
  | some a, some _ => takesIn F a
  | _, _ => some false
theorem findObj_own {F : Frag} {C : Addr} {n : Str} {cd : ClassData} {attr get : Option Value} {od : Obj} {v : Value} (h1 : clsIn F C = some cd) (h2 : cd.hasDict = true) (h3 : findIn F (.ref C) n = some attr)
    (h4 : getIn F attr = some get) (h5 : dataIn F attr get = some false) (h6 : lookIn n od = some (some v)) :
    findObj F C (some od) n = some (.value v) := by
  have e : PySem.W.ownOf cd (some od) n = some (some v) := by unfold PySem.W.ownOf; rw [if_pos h2]; exact h6
  unfold findObj
  rw [h1, Option.bind_some, h3, Option.bind_some]
  cases attr with
  | none =>
    (replace h4 := Option.some.inj h4; subst h4)
    show (PySem.W.ownOf cd (some od) n).bind _ = _
    rw [e]; rfl
  | some a =>
    have h4' : specialIn F a "__get__" = some get := h4
    dsimp only
    rw [h4', Option.bind_some]
    cases get with
    | none =>
      show (PySem.W.ownOf cd (some od) n).bind _ = _
      rw [e]; rfl
    | some g =>
      have h5' : takesIn F a = some false := h5
      dsimp only
      rw [h5', Option.bind_some]
      show (PySem.W.ownOf cd (some od) n).bind _ = _
      rw [e]; rfl
noncomputable def lessT (T : List Addr) (l : Frag) : Frag := l.filter fun p => !T.contains p.1
theorem lessT_get {T : List Addr} {a : Addr} {o : Obj} : ∀ {l : Frag}, (lessT T l).lookup a = some o → l.lookup a = some o ∧ a ∉ T
  | [], h => by exact nsm h
  | p :: l, h => by
    unfold lessT at h
    rw [List.filter_cons] at h
    split at h
    · rename_i hc
      rw [List.lookup_cons] at h ⊢
      split at h
      · rename_i hb
        have : a = p.1 := eq_of_beq hb
        subst this
        exact ⟨h, by simpa using hc⟩
      · rename_i hb
        exact lessT_get (l := l) h
    · rename_i hc
      have h' := lessT_get (l := l) h
      rw [List.lookup_cons]
      have hb : (a == p.1) = false := by
        cases hq : a == p.1 with
        | false => rfl
        | true =>
          have : a = p.1 := eq_of_beq hq
          rw [this] at h'
          exact absurd h'.2 (by simpa using hc)
      rw [hb]
      exact h'
theorem stepApp {A : Around} {env : Env} {B K₀ K : Kn} {s : Shared} {α : Str → Addr} {F : Frag} {C fI x dx l : Addr} {m : Str → Option Value} {W : Kn} {vs : List Value} {nl : Nat} {ds : List D} {y : Str} {p ap bp cpos epos : Pos} {e : Expr} {d : D} {Q : Flow → Shared → Prop} {E : Value → Shared → Prop}
    (c : ClsF S F C fI eNames) (f : FrA S cx env σ B K₀ s K α) (L : Led S C x dx m W s K) (hW : W l = some (lst vs nl)) (hm : m sRL = some (.ref l)) (hBl : B l = none) (hy : isVar cx.sc y = true) (hσ : σ y = some (.val (.tok x))) (hι : S.ι x = x) (hr : RepL S K vs ds) (hz : vs.length ≤ 1000)
    (hown : ∀ z zs, σ z ≠ some (.own zs)) (he : EvS S k cx σ e d) (ro : Room k A) (hp : Plain e = true := by rfl) (hline : (bp.endLine == cpos.line) = true := by rfl)
    (h : ∀ v n' s' K', FrA S cx env σ B K₀ s' K' α → Led S C x dx m (fun a => if a = l then some (lst (vs ++ [v]) n') else W a) s' K' → RepL S K' (vs ++ [v]) (ds ++ [d]) → K.le K' → s.toks ≤ s'.toks → Q .next s') :
    wpAny (M S) A (exec (.Expr (.Call (.Attribute (.Attribute (.Name y p) sRL ap) "append" bp) [e] [] cpos) epos) env) Q E s := by
  have hkind : env.scope.kind = .function := by rw [f.fm.scope]; exact f.fm.kind
  have htrees : backTo cpos (starEach [e] env) = [(false, eval e env)] := by rw [starEach_plain hp]; rfl
  refine wpAny_Expr_any (wpAny_Call_append rfl (by rw [htrees]; rfl) hline htrees ?_) (by unfold interactive; rw [hkind]; rfl) rfl
  rw [arm_eval_Attribute]
  refine wpAny_bind (m := attributeBase _ _ _ _) ?_
  refine elAA (isVar_or hy) fun h1 h3 h4 => ?_
  refine wpAny_Name (loadEnt f.fm h1 hσ (fun w ev => ?_) h3) h4
  have hw' := Rep.tok_inv ev
  rw [hι] at hw'
  subst hw'
  refine elEA L.inst fun od eod I => ?_
  refine elEEEAAAA L.nd fun od2 es ep e1 e2 e3 _ e5 => ?_
  have : od2 = od := Option.some.inj (e1.symm.trans eod)
  subst this
  refine wpAny_bind (wpAny_standAt (wpAny_bind (wpAny_holding (get_value (c.inH f.ok) I c.gets (c.own sRL (by decide +kernel) _ _ (look_some e2 (by rw [e5]; exact hm))) rfl ?_))))
  refine wpAny_pure ?_
  refine elAAA (L.loose l _ hW) fun w1 w2 w3 w4 => ?_
  have o1 : Ok S K { s with toks := s.toks + 1 } := f.ok.toks
  have l1 : Le S s { s with toks := s.toks + 1 } K K := Le.toks
  refine ⟨l, vs.toArray, rfl, ⟨_, nl, w1, rfl, rfl, rfl⟩, ?_⟩
  have f1 := f.le l1 o1
  refine he A env _ K _ E ro o1 f1.fmI fun v s' K' l2 o2 r2 => ?_
  have f2 := f1.le l2 o2
  have L2 := (L.le l1).le l2
  refine elAAA (L2.loose l _ hW) fun w1' w2' w3' w4' => ?_
  refine append_free w1' (by rw [sizeLine_eq]; exact Nat.le_trans ‹_› (by decide)) ?_
  have hs : Heap.SameBut l s'.heap (s'.heap.update l (Obj.mapSeq (·.push v))) := Heap.SameBut.update ..
  have hat : (s'.heap.update l (Obj.mapSeq (·.push v))).get? l = some (lst1 vs nl v) := by
    rw [Heap.get?_update_self _ w1' (by rw [lst_push]; rfl), lst_push]
  have hne : l ≠ env.locals := fun q => by
    obtain ⟨mm, ⟨oo, es9, ep9, e9, d9, _⟩, _⟩ := f2.fm.ns
    rw [← q, w1'] at e9; (replace e9 := Option.some.inj e9; subst e9); cases d9
  have hxl : x ≠ l := fun q => by
    have := L2.ox
    rw [q, w1'] at this; cases this
  have hcell : ∀ c w, s'.heap.IsCell c w → (s'.heap.update l (Obj.mapSeq (·.push v))).IsCell c w := fun c w y => y.sameBut hs fun q => by
    (refine elEA y fun ob e9 hd => ?_; try clear y)
    rw [q, w1'] at e9; (replace e9 := Option.some.inj e9; subst e9); cases hd
  have hent : ∀ z en u, σ z = some en → EntR S K' s'.heap α z en u → EntR S K' (s'.heap.update l (Obj.mapSeq (·.push v))) α z en u := fun z en u hz ru => by
    cases en with
    | val d => exact ru
    | app w => exact ru
    | own ys => exact absurd hz (hown z ys)
  refine h v (if ((vs.toArray).push v).size == (vs.toArray).size then nl else nl + 1) _ K' (f2.stored' (tk := s'.toks) w2' hBl w3' hs (fun c w y => ⟨w, hcell c w y⟩) ⟨f2.fm.scope, f2.fm.code, f2.fm.kind, f2.fm.globals, f2.fm.builtins, f2.fm.tok, ?_, fun y hy => let ⟨c, w, h1, h2⟩ := f2.fm.cla y hy; ⟨c, w, h1, hcell c w h2⟩, fun y en hy hey => let ⟨c, w, h1, h2, h3⟩ := f2.fm.cel y en hy hey; ⟨c, w, h1, hcell c _ h2, hent y en w hey h3⟩⟩ f2.ownN f2.ownI) ?_ ((hr.mono l2.ext).append (.cons r2 .nil)) l2.ext (Nat.le_trans l1.tok l2.tok)
  · refine elEA f2.fm.ns fun mm hmm hh => ?_
    exact ⟨mm, hmm.sameBut hs hne.symm, fun z en hl hz => let ⟨w, g1, g2⟩ := hh z en hl hz; ⟨w, g1, hent z en w hz g2⟩⟩
  · refine ⟨(hs.2 _ hxl).trans L2.ox, L2.nd.sameBut hs w4'.symm, ?_, L2.kx, L2.kd, L2.tx, L2.td, fun a ob e9 => ?_⟩
    · exact L2.ex.at fun oo e9 => (hs.2 _ w4'.symm).trans e9
    · split at e9
      · rename_i ha
        subst ha
        (replace e9 := Option.some.inj e9; subst e9)
        exact ⟨hat, w2', w3', w4'⟩
      · rename_i ha
        refine elAAA (L2.loose a ob e9) fun g1 g2 g3 g4 => ?_
        exact ⟨(hs.2 a ha).trans g1, g2, g3, g4⟩
end Mine
namespace Mine
variable {S : Sys} {k : Nat} {cx : Cx} {σ : Sto}
noncomputable def setO (es : Array (Int × Value)) (ep : Nat) (tb : SetTable) : Obj := { cls := .type "set", dict := none, data := .set es ep tb }
noncomputable def conObj (a : Addr) : Obj := ⟨.type "builtin_function_or_method", none, .fields #[.builtin "set.__contains__", .ref a], #[]⟩
theorem fl_sub : isSubtype (.type "set") (.type (".".intercalate ("set.__contains__".cutAt '.').dropLast)) = pure true := by
  rw [show (".".intercalate ("set.__contains__".cutAt '.').dropLast) = "set" by decide +kernel, isSubtype_type]; kernel_rfl
theorem fl_args_ga (a b : Value) : argsOk "set.__getattribute__" ⟨[a, b], []⟩ := by unfold argsOk; kernel_rfl
theorem fl_entry_ga : entryFor table "set.__getattribute__" = some Builtin.«object.__getattribute__» :=
  entryFor_alias (id' := "object.__getattribute__") (by kernel_rfl) (by first | rfl | decide +kernel | (unfold String.splitOn; simp +decide [String.splitOnAux])) (by decide +kernel) (by kernel_rfl)
section
variable {prog : Program} {w : World} {A : Around} {E : Value → Shared → Prop} {h : Heap} {g : Array GenState} {d : Drawn} {t : Nat} {os : OsState} {a : Addr} {es : Array (Int × Value)} {ep : Nat} {tb : SetTable}
theorem contains_get {R : Result → Shared → Prop} (hx : h.get? a = some (setO es ep tb)) (hq : R (.ok (.ret (.ref h.objs.size))) ⟨h.push (conObj a), g, d, t, os⟩) :
    codeAny (model prog w) A (.call (.builtin "method_descriptor.__get__") ⟨[.builtin "set.__contains__", .ref a, .type "set"], []⟩) R ⟨h, g, d, t, os⟩ := by
  have hT : (⟨h, g, d, t, os⟩ : Shared).TypeIs (.ref a) "set" := ⟨_, hx, rfl⟩
  have hT5 : (⟨h, g, d, t, os⟩ : Shared).TypeIs (.builtin "set.__contains__") "method_descriptor" := F.type_set_contains
  refine codeAny_call_builtin At.slot_get.plain At.entry_get (At.slot_get.check _ _ _ _ _ _ _ _ hT5 (At.args_get _ _ _) ?_)
  have f8 := fl_sub
  unfold Builtin.«method_descriptor.__get__»
  repeat (any_goals (first | assumption | wp_step))
theorem contains_entry {tk : Tok} {Q : Fin → Shared → Prop} (hx : h.get? a = some (setO es ep tb)) (hq : Q (.done (.ret (.ref h.objs.size))) ⟨h.push (conObj a), g, d, t, os⟩) :
    wpAny (model prog w) A (Builtin.«object.__getattribute__» ⟨[.ref a, .str "__contains__" tk], []⟩) Q E ⟨h, g, d, t, os⟩ := by
  have hT : (⟨h, g, d, t, os⟩ : Shared).TypeIs (.ref a) "set" := ⟨_, hx, rfl⟩
  have hT5 : (⟨h, g, d, t, os⟩ : Shared).TypeIs (.builtin "set.__contains__") "method_descriptor" := F.type_set_contains
  have f4 := F.slot_set_contains.lookup
  have f5 := F.type_set_contains
  have f6 := At.slot_get.lookup
  have f7 := At.no_set
  have f8 := At.no_del
  unfold setO at hx
  unfold Builtin.«object.__getattribute__»
  repeat (any_goals (first | assumption | wp_step))
  refine contains_get hx ?_
  repeat (any_goals (first | assumption | wp_step))
theorem contains_call {tk : Tok} {R : Result → Shared → Prop} (hx : h.get? a = some (setO es ep tb)) (hq : R (.ok (.ret (.ref h.objs.size))) ⟨h.push (conObj a), g, d, t, os⟩) :
    codeAny (model prog w) A (.call (.builtin "set.__getattribute__") ⟨[.ref a, .str "__contains__" tk], []⟩) R ⟨h, g, d, t, os⟩ :=
  codeAny_call_builtin F.slot_set_getattribute.plain fl_entry_ga (F.slot_set_getattribute.check _ _ _ _ _ _ _ _ (show (⟨h, g, d, t, os⟩ : Shared).TypeIs (.ref a) "set" from ⟨_, hx, rfl⟩) (fl_args_ga _ _) (contains_entry hx hq))
theorem contains_attr {Q : Value → Shared → Prop} (hx : h.get? a = some (setO es ep tb)) (hq : Q (.ref h.objs.size) ⟨h.push (conObj a), g, d, t + 1, os⟩) : wpAny (model prog w) A (getAttr (.ref a) "__contains__" true) Q E ⟨h, g, d, t, os⟩ := by
  have hT : ∀ tk', (⟨h, g, d, tk', os⟩ : Shared).TypeIs (.ref a) "set" := fun _ => ⟨_, hx, rfl⟩
  have f2 := F.slot_set_getattribute.lookup
  have f3 := F.slot_set_getattribute.bind (.ref a)
  unfold setO at hx
  unfold getAttr getAttrBy
  repeat (any_goals (first | assumption | exact hT _ | wp_step))
  refine contains_call hx ?_
  repeat (any_goals (first | assumption | wp_step))
end
end Mine
namespace Mine
variable {S : Sys} {k : Nat} {cx : Cx} {σ : Sto}
theorem fi_slot_next : Slot "filter" "__next__" "filter.__next__" :=
  .of (owner := "filter") (n := "__next__") (by rw [typeLookup_type, builtinLookup_eq_fast]; kernel_rfl) (by decide +kernel) (by decide +kernel) (by decide +kernel)
    (by first | exact .inl (by decide +kernel) | exact .inr (by decide +kernel)) (by rw [isSubtype_type]; kernel_rfl)
theorem fi_slot_iter : Slot "filter" "__iter__" "filter.__iter__" :=
  .of (owner := "filter") (n := "__iter__") (by rw [typeLookup_type, builtinLookup_eq_fast]; kernel_rfl) (by decide +kernel) (by decide +kernel) (by decide +kernel)
    (by first | exact .inl (by decide +kernel) | exact .inr (by decide +kernel)) (by rw [isSubtype_type]; kernel_rfl)
theorem fi_slot_init : Slot "filter" "__init__" "object.__init__" :=
  .of (owner := "object") (n := "__init__") (by rw [typeLookup_type, builtinLookup_eq_fast]; kernel_rfl) (by decide +kernel) (by decide +kernel) (by decide +kernel)
    (by first | exact .inl (by decide +kernel) | exact .inr (by decide +kernel)) (by rw [isSubtype_type]; kernel_rfl)
theorem fi_entry_iter : entryFor table "filter.__iter__" = some Builtin.«dict_keyiterator.__iter__» :=
  entryFor_alias (id' := "dict_keyiterator.__iter__") (by kernel_rfl) (by first | rfl | decide +kernel | (unfold String.splitOn; simp +decide [String.splitOnAux])) (by decide +kernel) (by kernel_rfl)
theorem fi_args_iter (a : Value) : argsOk "filter.__iter__" ⟨[a], []⟩ := by unfold argsOk; kernel_rfl
theorem fi_args_next (a : Value) : argsOk "filter.__next__" ⟨[a], []⟩ := by unfold argsOk; kernel_rfl
theorem fi_entry_next : entryFor table "filter.__next__" = some Builtin.«filter.__next__» := entryFor_of_tree (by kernel_rfl)
theorem fi_mro : mroOf (.type "filter") = pure [.type "filter", .type "object"] := by rw [mroOf_type]; kernel_rfl
theorem fi_lookup_new : typeLookup (.type "filter") "__new__" = pure (some (.builtin "filter.__new__")) := by rw [typeLookup_type, builtinLookup_eq_fast]; kernel_rfl
theorem fi_called : TypeCalled "filter" "filter.__new__" "object.__init__" :=
  ⟨by decide +kernel, by decide +kernel, ⟨_, _, fi_mro⟩, madeBy_type fi_mro fi_lookup_new (by decide +kernel), by decide +kernel, by rw [isSubtype_type]; kernel_rfl, fi_slot_init⟩
theorem fi_typeCall (a b : Value) : checkTypeCall "filter" ⟨[a, b], []⟩ = pure () := by kernel_rfl
theorem fi_newCall (a b : Value) : checkBuiltinCall "filter.__new__" ⟨[.type "filter", a, b], []⟩ = pure () := by kernel_rfl
theorem fi_entry_new : entryFor table "filter.__new__" = some Builtin.«filter.__new__» := entryFor_of_tree (by kernel_rfl)
theorem fi_sub : isSubtype (.type "filter") (.type "filter") = pure true := by rw [isSubtype_type]; kernel_rfl
theorem fi_argsI (o a b : Value) : argsOk "object.__init__" ⟨[o, a, b], []⟩ := by unfold argsOk; kernel_rfl
noncomputable def filObj (f : Value) (it : Addr) : Obj := { cls := .type "filter", data := .fields #[f, .ref it] }
theorem fi_meets (f : Value) (l : Addr) (items : Array Value) (n : Nat) :
    Meets (Builtin.«filter.__new__» ⟨[.type "filter", f, .ref l], []⟩) (fun _ R s => s.heap.get? l = some { cls := .type "list", dict := none, data := .seq items n, slots := #[] } ∧
      R (.ok (.ret (.ref (s.heap.objs.size + 1)))) { s with heap := (s.heap.push (itObj l 0)).push (filObj f s.heap.objs.size) }) := by
  refine Meets.of_wp fun prog w A R s hs => ?_
  obtain ⟨hp, g, d, tk, os⟩ := s; (refine elA hs fun hl h => ?_; try clear hs)
  have hsub := fi_sub
  have hL : Heap.IsList (Shared.heap ⟨hp, g, d, tk, os⟩) l items := ⟨_, hl, rfl, n, rfl⟩
  wp_walk using AutoSeq1.wpAny_loadPart' hl, wpAny_pyIter_list hL
  refine ⟨_, rfl, ?_⟩
  rw [Heap.size_push]
  exact h
section
variable {prog : Program} {w : World} {A : Around} {E : Value → Shared → Prop} {s : Shared}
theorem fi_call {f : Value} {l : Addr} {items : Array Value} {n : Nat} {Q : Value → Shared → Prop} (hl : s.heap.get? l = some { cls := .type "list", dict := none, data := .seq items n, slots := #[] })
    (h : Q (.ref (s.heap.objs.size + 1)) { s with heap := (s.heap.push (itObj l 0)).push (filObj f s.heap.objs.size) }) :
    wpAny (model prog w) A (call (.type "filter") [f, .ref l]) Q E s := by
  refine callType_new fi_called (by decide) (fi_typeCall _ _) (fi_newCall _ _) (fun obj => fi_argsI obj _ _) fi_entry_new (fi_meets f l items n) ⟨hl, ?_⟩
  refine ⟨⟨filObj f s.heap.objs.size, ?_, rfl⟩, h⟩
  have := Heap.get?_push_size (s.heap.push (itObj l 0)) (o := filObj f s.heap.objs.size) rfl
  rw [Heap.size_push] at this
  exact this
theorem fi_iter {e it : Addr} {f : Value} {Q : Value → Shared → Prop} (he : s.heap.get? e = some (filObj f it)) (h : Q (.ref e) s) : wpAny (model prog w) A (pyIter (.ref e)) Q E s := by
  have hT : s.TypeIs (.ref e) "filter" := ⟨_, he, rfl⟩
  refine wpAny_pyIter_slot hT fi_slot_iter (wpAny_call_entry fi_slot_iter hT fi_entry_iter ?_ (fi_args_iter _))
  show wpAny _ _ (ret (.ref e)) _ _ s
  exact wpAny_pure ⟨_, rfl, "filter", _, hT, fi_slot_next.lookup, h⟩
theorem fi_next_end {e it l : Addr} {i : Nat} {items : Array Value} {f : Value} {Q : Option Value → Shared → Prop} (hh : A.handled = none) (he : s.heap.get? e = some (filObj f it))
    (hit : s.heap.IsListIter it l i) (hl : s.heap.IsList l items) (hx : items[i]? = none)
    (h : ∀ h', Heap.ExtBut it s.heap h' → Q none { s with heap := h' }) : wpAny (model prog w) A (pyNext (.ref e)) Q E s := by
  have hT : s.TypeIs (.ref e) "filter" := ⟨_, he, rfl⟩
  unfold pyNext
  refine wpAny_bind (wpAny_attempt (wpAny_callSpecial?_slot (name := Str.ofString "__next__") hT fi_slot_next (wpAny_call_entry fi_slot_next hT fi_entry_next ?_ (fi_args_next _))))
  show wpAny _ _ (field (.ref e) 0 >>= _) _ _ _
  refine wpAny_bind (wpAny_field he rfl (x := f) rfl ?_)
  refine wpAny_bind (wpAny_field he rfl (x := .ref it) rfl ?_)
  refine wpAny_bind ?_
  refine elEAA (id hit) fun o ho hc hd => ?_
  obtain ⟨ol, hol, _, nl, hdl⟩ := hl
  refine wpAny_callSpecial?_slot (name := Str.ofString "__next__") hit.typeIs slot_listiter_next (wpAny_call_entry slot_listiter_next hit.typeIs entry_listiter_next ?_ (args_listiter_next _))
  show wpAny _ _ (field (.ref it) 0 >>= _) _ _ s
  refine wpAny_bind (wpAny_field ho hd (x := .ref l) rfl ?_)
  show wpAny _ _ (if (Value.ref l == Value.none) = true then _ else _) _ _ s
  refine wpAny_ite_false (decide_eq_false ((show ¬ ((Value.ref l == Value.none) = true) from Bool.false_ne_true))) ?_
  show wpAny _ _ (field (.ref it) 1 >>= _) _ _ s
  refine wpAny_bind (wpAny_field ho hd (x := .int i 0) rfl ?_)
  show wpAny _ _ (seqItems? (.ref l) >>= _) _ _ s
  refine wpAny_bind (wpAny_seqItems hol hdl ?_)
  simp only [Int.toNat_natCast, hx]
  refine wpAny_bind (wpAny_rule (wpAny_bind (wpAny_setField ho hd (by exact Nat.succ_pos _) ?_)))
  show wpAny _ _ (newExc (.type "StopIteration") [] >>= _) _ _ _
  refine wpAny_bind ?_
  simp only [newExc, newTuple]
  refine wpAny_bind (wpAny_newObj_type ?_ (by size_fits))
  refine wpAny_bind (m := firstArgMember _ _) (wpAny_of_eq (a := Value.none) (by first | rfl | (simp only [firstArgMember]; rfl)) ?_)
  refine wpAny_newObj_type ?_ (by size_fits)
  simp only [raiseNew]
  refine wpAny_bind (wpAny_handled ?_)
  rw [show A.in1.in1.handled = none from hh]
  refine wpAny_bind (wpAny_pure (wpAny_throw ?_))
  refine wpAny_bind (wpAny_isInstance (T := "StopIteration") (b := true) ⟨_, Heap.get?_push_size _ rfl, rfl⟩ isSubtype_stop ?_)
  exact wpAny_pure (h _ (((Heap.SameBut.update ..).extBut.push _).push _))
end
theorem fi_no_len : typeLookup (.type "filter") "__len__" = pure none := by rw [typeLookup_type, builtinLookup_eq_fast]; kernel_rfl
theorem fi_no_hint : typeLookup (.type "filter") "__length_hint__" = pure none := by rw [typeLookup_type, builtinLookup_eq_fast]; kernel_rfl
theorem filExtend {A : Around} {R : Result → Shared → Prop} {s : Shared} {S0 e it : Addr} {f : Value} (he : s.heap.get? e = some (filObj f it)) (hne : S0 ≠ e) (hS : s.heap.get? S0 = some { cls := .type "list", data := .seq #[] })
    (h : ∀ h' c, Heap.SameBut S0 s.heap h' → h'.get? S0 = some { cls := .type "list", data := .seq #[] c } → codeAny (M S) A (.builtin "list.extend.loop" ⟨[.ref S0, .ref e, .none], []⟩) R { s with heap := h' }) :
    wpAny (M S) A.in1 (Builtin.«list.__init__» ⟨[.ref S0, .ref e], []⟩)
      (fun fin s' => match fin with | .done f => R (.ok f) s' | .again c' => c'.quiet = true ∧ codeAny (M S) A c' R s') (fun e s' => R (.error e) s') s := by
  show wpAny _ A.in1 (do let old ← Builtin.List.listItems (.ref S0); Builtin.List.listUpdate (.ref S0) (fun _ => #[]); letGo old.toList.reverse; Builtin.List.listExtendWith (.ref S0) (.ref e) .none) _ _ s
  refine wpAny_bind ?_
  unfold Builtin.List.listItems
  refine wpAny_bind (wpAny_seqItems hS rfl (wpAny_pure ?_))
  show wpAny _ A.in1 (updateSeq S0 (fun _ => #[]) >>= fun _ => letGo (#[] : Array Value).toList.reverse >>= fun _ => Builtin.List.listExtendWith (.ref S0) (.ref e) .none) _ _ s
  refine wpAny_bind (wpAny_updateSeq hS rfl ?_)
  have hS₂ := Heap.get?_update_self (Obj.mapSeq (fun _ => (#[] : Array Value))) hS rfl
  have hs2 : Heap.SameBut S0 s.heap (s.heap.update S0 (Obj.mapSeq (fun _ => (#[] : Array Value)))) := Heap.SameBut.update ..
  have he2 := (hs2.2 e hne.symm).trans he
  generalize s.heap.update S0 (Obj.mapSeq (fun _ => (#[] : Array Value))) = h2 at hS₂ hs2 he2
  refine wpAny_bind (wpAny_letGo ?_)
  have hT : (({ s with heap := h2 } : Shared)).TypeIs (.ref e) "filter" := ⟨_, he2, rfl⟩
  unfold Builtin.List.listExtendWith
  refine wpAny_bind (wpAny_typeOf hT ?_)
  have h1 : Builtin.List.listSameRef (.ref S0) (.ref e) = false := by simp [Builtin.List.listSameRef, hne]
  have h2' : (Value.type "filter" == Value.type "list") = false := by decide
  have h3 : (Value.type "filter" == Value.type "tuple") = false := by decide
  simp only [h1, h2', h3, Bool.or_false, Bool.false_eq_true, if_false]
  refine wpAny_bind (fi_iter he2 ?_)
  refine wpAny_bind (wpAny_holding ?_)
  unfold Builtin.List.listLengthHint
  refine wpAny_bind (wpAny_specialOf hT fi_no_len ?_)
  show wpAny _ A.in1 (specialOf (Value.ref e) (Str.ofString "__length_hint__") >>= _) _ _ _
  refine wpAny_bind (wpAny_specialOf hT fi_no_hint ?_)
  refine wpAny_pure ?_
  show wpAny _ A.in1 (rule "list.extend.makes-room" >>= fun _ => (updateSeq S0 (·.push .none) >>= fun _ => updateSeq S0 (·.pop)) >>= fun _ =>
    again (.builtin "list.extend.loop" ⟨[.ref S0, .ref e, .none], []⟩)) _ _ _
  refine wpAny_bind (wpAny_rule (wpAny_bind (wpAny_bind ?_)))
  refine wpAny_updateSeq hS₂ rfl ?_
  have hS₃ := Heap.get?_update_self (Obj.mapSeq (·.push Value.none)) hS₂ rfl
  have hs3 : Heap.SameBut S0 h2 (h2.update S0 (Obj.mapSeq (·.push Value.none))) := Heap.SameBut.update ..
  generalize h2.update S0 (Obj.mapSeq (·.push Value.none)) = h3 at hS₃ hs3
  refine wpAny_updateSeq (hz := by seq_fits) hS₃ rfl ?_
  have hS₄ := Heap.get?_update_self (Obj.mapSeq (·.pop)) hS₃ rfl
  have hs4 : Heap.SameBut S0 h3 (h3.update S0 (Obj.mapSeq (·.pop))) := Heap.SameBut.update ..
  generalize h3.update S0 (Obj.mapSeq (·.pop)) = h4 at hS₄ hs4
  exact wpAny_pure ⟨plainId_quiet F.plain_extend_loop _, h h4 _ (hs2.trans (hs3.trans hs4)) hS₄⟩
theorem call_list_filter {A : Around} {s : Shared} {K : Kn} {l : Addr} {n : Nat} {f : Value} {Q : Value → Shared → Prop} {E : Value → Shared → Prop} (ro : Room (k + 3) A) (o : Ok S K s) (kl : K l = some (lst [] n))
    (h : ∀ a c s' K', Le S s s' K K' → Ok S K' s' → s.heap.get? a = none → K' a = none → s'.heap.get? a = some (lst [] c) → Q (.ref a) s') : wpAny (M S) A (call (.type "filter") [f, .ref l]) (fun v s' => wpAny (M S) A (call (.type "list") [v]) Q E s') E s := by
  refine fi_call (o.kn _ _ kl) ?_
  have hg := get_size s.heap
  generalize hJ : s.heap.objs.size = J at hg
  have z1 : (s.heap.push (itObj l 0)).objs.size = J + 1 := by rw [Heap.size_push, hJ]
  have z2 : ((s.heap.push (itObj l 0)).push (filObj f J)).objs.size = J + 2 := by rw [Heap.size_push, z1]
  have o1 : Ok S K { s with heap := s.heap.push (itObj l 0) } := o.grow (tk := s.toks) fun b x e => Heap.get?_push_of_some _ e
  have l1 : Le S s { s with heap := s.heap.push (itObj l 0) } K K := Le.grow (tk := s.toks) fun b x e => Heap.get?_push_of_some _ e
  have o2 := o1.push (ob := filObj f J) rfl
  have l2 := Le.push (ob := filObj f J) o1
  dsimp only at o2 l2
  rw [z1] at o2 l2
  have l12 := Le.trans o o1 l1 l2
  have hit : ((s.heap.push (itObj l 0)).push (filObj f J)).IsListIter J l 0 := ⟨itObj l 0, Heap.get?_push_of_some _ (by rw [← hJ]; exact Heap.get?_push_size _ rfl), rfl, rfl⟩
  generalize (s.heap.push (itObj l 0)).push (filObj f J) = p2 at z2 o2 l2 l12 hit
  have hg2 := get_size p2
  rw [z2] at hg2
  have hn2 : s.heap.get? (J + 2) = none := Heap.get?_none_of_le (by lia)
  have kJ : K J = none := o.noneK hg
  have d10 : ¬ J = J + 1 := by lia
  have d20 : ¬ J + 2 = J := by lia
  have d02 : ¬ J = J + 2 := by lia
  have d21 : ¬ J + 2 = J + 1 := by lia
  have kme : (K.add (J + 1) (filObj f J)) (J + 1) = some (filObj f J) := Kn.add_self ..
  refine callType_codes (Q₁ := fun obj s₁ => obj = .ref p2.objs.size ∧ s₁ = { s with heap := p2.push { cls := .type "list", data := .seq #[] } }) F.called_list (F.typeCall_list_1 _) F.entry_list_init (code_list_new _ ⟨rfl, rfl⟩) fun obj s₁ h₁ => ?_
  (refine elA h₁ fun e90 e91 => ?_; try clear h₁; subst e90; subst e91)
  have hS : (p2.push { cls := .type "list", data := .seq #[] }).get? p2.objs.size = some { cls := .type "list", data := .seq #[] } := Heap.get?_push_size _ rfl
  have hk4 : ∀ b x, p2.get? b = some x → (p2.push { cls := .type "list", data := .seq #[] }).get? b = some x := fun b x e => Heap.get?_push_of_some _ e
  have o4 := o2.grow (tk := s.toks) hk4
  have l4 := Le.trans o o2 l12 (Le.grow (tk := s.toks) (K := K.add (J + 1) (filObj f J)) hk4)
  rw [z2] at hS ⊢
  have kn2 : (K.add (J + 1) (filObj f J)) (J + 2) = none := by
    rw [Kn.add_ne d21]; exact o.noneK hn2
  have hT2 : J + 2 ∉ S.T := o2.notT hg2
  have hTJ : J ∉ S.T := o.notT hg
  refine ⟨⟨_, hS, rfl⟩, F.args_list_init_2 _ _, filExtend (A := A.in1) (e := J + 1) (it := J) (f := f) (o4.kn _ _ kme) d21 hS fun h' c hs hat => ?_⟩
  have o5 := o4.upd (tk := s.toks) kn2 hT2 hs
  have l5 := l4.upd hn2 hs
  have hit5 : h'.IsListIter J l 0 := Heap.IsListIter.at hit fun ob e => (hs.2 J d02).trans (hk4 _ _ e)
  refine codeAny_builtin F.entry_extend_loop ?_
  rw [Around.under_plainId F.plain_extend_loop _]
  show wpAny _ A.in1.in1 (pyNext (.ref (J + 1)) >>= _) _ _ _
  refine wpAny_bind (fi_next_end (i := 0) (items := #[]) ro.1 (o5.kn _ _ kme) hit5 (listAt o5 (l12.ext _ _ kl)) rfl fun h6 he => ?_)
  refine wpAny_pure ⟨rfl, ?_⟩
  refine h _ c _ _ (l5.extBut hg he) (o5.extBut (tk := s.toks) (by rw [Kn.add_ne d10]; exact kJ) hTJ he) hn2 kn2 (he (J + 2) _ d20 hat)
theorem EvO.filterNil {x y z : Str} {p1 p2 p3 p4 c1 c2 c3 : Pos} {e1 e2 : Expr} (hx : isGlob cx.sc x = true) (gx : S.mg x = some (.type "list") ∨ (S.mg x = none ∧ S.mb x = some (.type "list")))
    (hy : isGlob cx.sc y = true) (gy : S.mg y = some (.type "filter") ∨ (S.mg y = none ∧ S.mb y = some (.type "filter"))) (hz : isGlob cx.sc z = true) (gz : S.mg z = some (.type "set") ∨ (S.mg z = none ∧ S.mb z = some (.type "set")))
    (he2 : EvS S (k + 3) cx σ e2 (.list [])) (he1 : EvS S (k + 3) cx σ e1 (.list [])) (hp1 : Plain e1 = true := by rfl) (hp2 : Plain e2 = true := by rfl)
    (hbase : ∀ env, attributeBase (.Call (.Name z p3) [e2] [] c3) "__contains__" env (eval (.Call (.Name z p3) [e2] [] c3) env) = eval (.Call (.Name z p3) [e2] [] c3) env := by intro _; rfl) :
    EvO S (k + 3) cx σ (.Call (.Name x p1) [.Call (.Name y p2) [.Attribute (.Call (.Name z p3) [e2] [] c3) "__contains__" p4, e1] [] c2] [] c1) [] := by
  intro A env s K Q E ro o fm hq
  refine wpAny_Call_ofName (evalGlob o fm hx gx ?_)
  refine PyProof.Rows.callWith_type1 (rest := []) ?_ (starEach_plain rfl _ _) rfl
  rw [starEach_plain rfl]
  refine Calls.spliced_cons ?_
  refine wpAny_Call_ofName (evalGlob o fm hy gy ?_)
  refine PyProof.Rows.callWith_type1 (rest := [e1]) ?_ (starEach_plain rfl _ _) (by rw [starEach_plain hp1]; rfl)
  rw [starEach_plain rfl]
  refine Calls.spliced_cons ?_
  rw [arm_eval_Attribute, hbase]
  refine wpAny_bind (wpAny_Call_ofName (evalGlob o fm hz gz ?_))
  refine PyProof.Rows.callWith_type1 (rest := []) ?_ (starEach_plain hp2 _ _) rfl
  refine EvL.cons he2 .nil hp2 A env _ s K _ E ro o fm fun us s1 K1 l1 o1 r1 => ?_
  (refine elEA (one_inv r1) fun u e91 ru => ?_; subst e91)
  (refine elEEEAA ru.list_inv fun l2 vs2 n2 e93 kl2 rl2 => ?_; subst e93)
  rw [rl2.nil_inv] at kl2
  refine withTk (call_set_list (ns := []) ro.1 (listAt o1 kl2) .nil (by decide) fun h2 tk2 hset hk2 ht2 => ?_)
  have hk2' : ∀ b ob, s1.heap.get? b = some ob → h2.get? b = some ob := fun b ob e => hk2 b ob (Heap.lt_size e) e
  have o2 : Ok S K1 { s1 with heap := h2, toks := tk2 } := o1.grow hk2'
  have l2' : Le S s1 { s1 with heap := h2, toks := tk2 } K1 K1 := Le.grow hk2' ht2
  obtain ⟨ob, es, ep, tb, e9, ⟨q1, q2, q3⟩, q4, _⟩ := hset
  obtain ⟨oc, od, odt, osl⟩ := ob
  dsimp only at q1 q2 q3 q4
  subst q1 q2 q3 q4
  refine wpAny_bind (wpAny_standAt (wpAny_bind (wpAny_holding (contains_attr (es := es) (ep := ep) (tb := tb) e9 ?_))))
  refine wpAny_bind (wpAny_letTemporaryGo ?_)
  refine wpAny_pure ?_
  have hk3 : ∀ b x, h2.get? b = some x → (h2.push (conObj s1.heap.objs.size)).get? b = some x := fun b x e => Heap.get?_push_of_some _ e
  have o3 : Ok S K1 { s1 with heap := h2.push (conObj s1.heap.objs.size), toks := tk2 + 1 } := o2.grow hk3
  have l3 : Le S s1 { s1 with heap := h2.push (conObj s1.heap.objs.size), toks := tk2 + 1 } K1 K1 := Le.trans o1 o2 l2' (Le.grow (tk := tk2 + 1) hk3 (Nat.le_succ _))
  have l03 := Le.trans o o1 l1 l3
  rw [starEach_plain hp1]
  refine Calls.spliced_cons (he1 A env _ K1 _ E ro o3 (fm.le o l03) fun v s4 K4 l4 o4 r4 => Calls.spliced_nil ?_)
  (refine elEEEAA r4.list_inv fun l5 vs5 n5 e93 kl5 rl5 => ?_; subst e93)
  rw [rl5.nil_inv] at kl5
  have l04 := Le.trans o o3 l03 l4
  refine wpAny_mono (call_list_filter (Q := Q) (E := E) ro o4 kl5 fun a c s5 K5 l5 o5 hn kn hat => hq a [] c s5 K5 (Le.trans o o4 l04 l5) o5 ?_ kn hat .nil) (fun w s2 hw => ?_) fun _ _ x => x
  · cases e8 : s.heap.get? a with
    | none => rfl
    | some ob =>
      have hTa : a ∉ S.T := o4.notT hn
      rw [l04.keep _ _ hTa e8] at hn; exact snm hn
  · exact Calls.spliced_nil hw
end Mine
namespace Mine
variable {S : Sys} {k : Nat} {cx : Cx} {σ : Sto}
theorem EntR.addK {K : Kn} {h : Heap} {α : Str → Addr} {y : Str} {en : Ent} {u : Value} {a : Addr} {ob : Obj} (hKa : K a = none) (ha : h.get? a = some ob) (hl : ∀ vs n, ob ≠ lst vs n) (r : EntR S K h α y en u) : EntR S (K.add a ob) h α y en u := by
  have hle : K.le (K.add a ob) := Kn.le_add hKa
  cases en with
  | val d => exact Rep.mono hle r
  | app z => (refine elEA r fun q e91 e9 => ?_; try clear r; subst e91); exact ⟨q, rfl, hle _ _ e9⟩
  | own ys =>
    obtain ⟨rfl, hn, us, m, e9, q⟩ := r
    refine ⟨rfl, ?_, us, m, e9, q.mono hle⟩
    rw [Kn.add_ne fun z => ?_]
    · exact hn
    · rw [z, ha] at e9
      exact hl _ _ (Option.some.inj e9)
theorem FrA.addK {env B K₀ s K α} {a : Addr} {ob : Obj} (f : FrA S cx env σ B K₀ s K α) (ha : s.heap.get? a = some ob) (hKa : K a = none) (hBa : B a = none) (hT : a ∉ S.T) (hL : a ≠ env.locals) (hc : ∀ c, ob.data ≠ .cell c) (hl : ∀ vs n, ob ≠ lst vs n) : FrA S cx env σ B K₀ s (K.add a ob) α := by
  have hle : K.le (K.add a ob) := Kn.le_add hKa
  refine ⟨f.ok.freeze ha hKa hT, ⟨f.fm.scope, f.fm.code, f.fm.kind, f.fm.globals, f.fm.builtins, f.fm.tok, ?_, f.fm.cla, fun y en hy hey => ?_⟩, f.keep, Kn.le_trans f.ext hle, fun b hb => ?_, ⟨f.locN.1, ?_⟩, fun y hw hy => ?_, f.apart, f.ownN, f.ownI⟩
  · refine elEA f.fm.ns fun m hm h => ?_
    exact ⟨m, hm, fun y en hy hey => let ⟨u, hu, ru⟩ := h y en hy hey; ⟨u, hu, ru.addK hKa ha hl⟩⟩
  · refine elEEAA (f.fm.cel y en hy hey) fun c u h1 h2 ru => ?_
    exact ⟨c, u, h1, h2, ru.addK hKa ha hl⟩
  · rw [Kn.add_ne fun q => hb (by rw [q]; exact hBa)]
    exact f.old b hb
  · rw [Kn.add_ne fun q => hL q.symm]
    exact f.locN.2
  · refine elEEAAA (f.cells y hw hy) fun c v g1 g2 g3 g4 => ?_
    refine ⟨c, v, g1, g2, g3, ?_⟩
    rw [Kn.add_ne fun q => ?_]
    · exact g4
    · (refine elEA g2 fun o' e' hd' => ?_; try clear g2)
      rw [q, ha] at e'; (replace e' := Option.some.inj e'; subst e'); exact hc _ hd'
theorem FrA.doneObj {env B K₀ s K α C x dx m W} (f : FrA S cx env σ B K₀ s K α) (L : Led S C x dx m W s K) (hBx : B x = none) (hBd : B dx = none) (hL : dx ≠ env.locals) : ∃ K', FrA S cx env σ B K₀ s K' α ∧ K.le K' ∧ ObjAt K' x C m ∧ ∀ a, a ≠ x → a ≠ dx → K' a = K a := by
  refine elEEEAAAA L.nd fun od es ep e1 e2 e3 e4 e5 => ?_
  have hxl : x ≠ env.locals := fun q => by
    obtain ⟨mm, ⟨oo, es9, ep9, e9, d9, _⟩, _⟩ := f.fm.ns
    rw [← q, L.ox] at e9; (replace e9 := Option.some.inj e9; subst e9); cases d9
  have f1 := f.addK L.ox L.kx hBx L.tx hxl (fun c q => by cases q) (fun vs n q => by cases q)
  have hk : (K.add x (instObj C dx)) dx = none := by rw [Kn.add_ne L.xd.symm]; exact L.kd
  have f2 := f1.addK e1 hk hBd L.td hL (fun c q => by rw [e2] at q; cases q) (fun vs n q => by rw [q] at e2; cases e2)
  have le1 : K.le (K.add x (instObj C dx)) := Kn.le_add L.kx
  have le2 : (K.add x (instObj C dx)).le ((K.add x (instObj C dx)).add dx od) := Kn.le_add hk
  refine ⟨_, f2, Kn.le_trans le1 le2, ⟨dx, od, es, ep, le2 _ _ (Kn.add_self ..), Kn.add_self .., e2, e3, e5⟩, fun a h1 h2 => ?_⟩
  rw [Kn.add_ne h2, Kn.add_ne h1]
theorem ledDone {s0 s : Shared} {K0 K : Kn} {C x dx l : Addr} {m : Str → Option Value} {W : Kn} {ob : Obj} (o : Ok S K s) (L : Led S C x dx m W s K) (hW : W l = some ob) (hlx : l ≠ x) (le : Le S s0 s K0 K) (n1 : s0.heap.get? x = none) (n2 : s0.heap.get? dx = none) (n3 : s0.heap.get? l = none) :
    ∃ K', Ok S K' s ∧ Le S s0 s K0 K' ∧ K.le K' ∧ ObjAt K' x C m ∧ K' l = some ob ∧ ∀ a, a ≠ x → a ≠ dx → a ≠ l → K' a = K a := by
  refine elEEEAAAA L.nd fun od es ep e1 e2 e3 e4 e5 => ?_
  refine elAAA (L.loose l ob hW) fun w1 w2 w3 w4 => ?_
  have o1 := o.freeze L.ox L.kx L.tx
  have hk : (K.add x (instObj C dx)) dx = none := by rw [Kn.add_ne L.xd.symm]; exact L.kd
  have o2 := o1.freeze e1 hk L.td
  have hk2 : ((K.add x (instObj C dx)).add dx od) l = none := by rw [Kn.add_ne w4, Kn.add_ne hlx]; exact w2
  have o3 := o2.freeze w1 hk2 w3
  have le1 : K.le (K.add x (instObj C dx)) := Kn.le_add L.kx
  have le2 : (K.add x (instObj C dx)).le ((K.add x (instObj C dx)).add dx od) := Kn.le_add hk
  have le3 : ((K.add x (instObj C dx)).add dx od).le (((K.add x (instObj C dx)).add dx od).add l ob) := Kn.le_add hk2
  refine ⟨_, o3, ⟨le.keep, Kn.le_trans le.ext (Kn.le_trans le1 (Kn.le_trans le2 le3)), fun a ha => ?_, le.tok⟩, Kn.le_trans le1 (Kn.le_trans le2 le3), ⟨dx, od, es, ep, le3 _ _ (le2 _ _ (Kn.add_self ..)), le3 _ _ (Kn.add_self ..), e2, e3, e5⟩, Kn.add_self .., fun a h1 h2 h3 => by rw [Kn.add_ne h3, Kn.add_ne h2, Kn.add_ne h1]⟩
  rw [Kn.add_ne fun q => ha (by rw [q]; exact n3), Kn.add_ne fun q => ha (by rw [q]; exact n2), Kn.add_ne fun q => ha (by rw [q]; exact n1)]
  exact le.old a ha
end Mine
namespace Mine
variable {S : Sys} {k : Nat} {cx : Cx} {σ : Sto}
theorem storeLocS {A env B K₀ s K E α} {x : Str} {v : Value} {d : D} {Q : Unit → Shared → Prop} (f : FrA S cx env σ B K₀ s K α) (hk : cx.sc.names.lookup x = some .local) (r : Rep S K v d)
    (h : ∀ h', Heap.SameBut env.locals s.heap h' → FrA S cx env (σ.upd x (some (.val d))) B K₀ { s with heap := h', toks := s.toks + 1 } K α → Q () { s with heap := h', toks := s.toks + 1 }) : wpAny (M S) A (storeName env x v) Q E s := by
  have hkind : env.scope.kind = .function := by rw [f.fm.scope]; exact f.fm.kind
  have hko : ∀ y, env.kindOf y = cx.sc.names.lookup y := fun y => by unfold Env.kindOf; rw [f.fm.scope]
  have hown : ∀ y xs, σ.upd x (some (.val d)) y = some (.own xs) → σ y = some (.own xs) := fun y xs e => by
    by_cases hy : y = x
    · subst hy; rw [Sto.upd_self] at e; cases e
    · rwa [Sto.upd_ne _ _ hy] at e
  refine elEA f.fm.ns fun m hm hx' => ?_
  refine wpAny_storeName_local ((hko x).trans hk) hm (fun h' hm' hs => ?_) (by rw [hkind]; rfl)
  have hd : ∀ ob, s.heap.get? env.locals = some ob → (∀ c, ob.data ≠ .cell c) ∧ (∀ vs n, ob ≠ lst vs n) ∧ ∀ vs, ob.data ≠ .fields vs := fun ob e => by
    (refine elEEEAA hm fun o' es ep e' hd _ => ?_; try clear hm)
    rw [e] at e'; (replace e' := Option.some.inj e'; subst e')
    exact ⟨fun c q => (by rw [hd] at q; cases q), fun vs n q => (by rw [q] at hd; cases hd), fun vs q => (by rw [hd] at q; cases q)⟩
  have hT : env.locals ∉ S.T := fun hm9 => by
    obtain ⟨_, ps, e, _⟩ := f.ok.tabs _ hm9
    exact (hd _ e).2.2 _ rfl
  have hc : ∀ c w, s.heap.IsCell c w → h'.IsCell c w := fun c w y => y.sameBut hs fun q => by
    (refine elEA y fun ob e hd' => ?_; try clear y)
    rw [q] at e
    exact (hd _ e).1 _ hd'
  refine h _ hs (f.stored f.locN.2 f.locN.1 hT hs hown (fun c w y => ⟨w, hc c w y⟩) ?_)
  refine ⟨f.fm.scope, f.fm.code, f.fm.kind, f.fm.globals, f.fm.builtins, Nat.le_succ_of_le f.fm.tok, ⟨_, hm', fun y e hl he => ?_⟩, fun y hy => let ⟨c, w, h1, h2⟩ := f.fm.cla y hy; ⟨c, w, h1, hc c w h2⟩, fun y e hy he => ?_⟩
  · by_cases hyx : y = x
    · subst hyx
      rw [Sto.upd_self] at he; (replace he := Option.some.inj he; subst he)
      exact ⟨v, by simp, r⟩
    · rw [Sto.upd_ne _ _ hyx] at he
      refine elEA (hx' y e hl he) fun u hu ru => ?_
      exact ⟨u, by simp [hyx, hu], ru.upd hs fun ob e => (hd ob e).2.1⟩
  · have hyx : y ≠ x := fun q => by subst q; rcases hy with hy | hy <;> rw [hk] at hy <;> cases hy
    rw [Sto.upd_ne _ _ hyx] at he
    refine elEEAA (f.fm.cel y e hy he) fun c u h1 h2 ru => ?_
    exact ⟨c, u, h1, hc c _ h2, ru.upd hs fun ob e => (hd ob e).2.1⟩
theorem Led.store {C x dx m W s K h' tk L} (l : Led S C x dx m W s K) (hs : Heap.SameBut L s.heap h') (h1 : x ≠ L) (h2 : dx ≠ L) (h3 : ∀ a o, W a = some o → a ≠ L) : Led S C x dx m W { s with heap := h', toks := tk } K :=
  ⟨(hs.2 _ h1).trans l.ox, l.nd.sameBut hs h2, l.ex.at fun o e => (hs.2 _ h2).trans e, l.kx, l.kd, l.tx, l.td, fun a o e => let ⟨g1, g2, g3, g4⟩ := l.loose a o e; ⟨(hs.2 _ (h3 a o e)).trans g1, g2, g3, g4⟩⟩
set_option genInjectivity false in
structure EntF (S : Sys) (F : Frag) (C fI fT fA : Addr) : Prop where
  g : ClsG S F C fI fT fA
  keep : keepIn F (.ref C) = true
  name : S.mg "Entry" = some (.ref C)
  init : ∃ oc od fd sl p1 q1 l1 a1 p2 q2 l2 a2 p3 q3 l3 a3 p4 q4 l4 a4 n3 n4, S.K0 fI = some ⟨oc, od, .func fd, sl⟩ ∧
    fd.body = .stmts [.Assign [.Attribute (.Name "self" p1) sUA q1] (.List [] l1) a1, .Assign [.Attribute (.Name "self" p2) sRL q2] (.List [] l2) a2, .Assign [.Attribute (.Name "self" p3) sDE q3] (.Constant .none n3 l3) a3, .Assign [.Attribute (.Name "self" p4) sRR q4] (.Constant .none n4 l4) a4] ∧
    fnOk fd ["self"] = true ∧ isVar fd.scope "self" = true ∧ (∀ h : Heap, (∀ b o, S.K0 b = some o → h.get? b = some o) → h.CodeRec fd.code fd.qualname) ∧
    (∀ vs : List Value, vs.length = 1 → bindArgs fd ⟨vs, []⟩ = pure ((["self"] : List Str).zip vs))
  ι : ∀ n, S.ι n = n
theorem stepNew {A : Around} {env : Env} {B K₀ K : Kn} {s : Shared} {α : Str → Addr} {F : Frag} {C fI fT fA : Addr} {y : Str} {p np cp pos : Pos} {Q : Flow → Shared → Prop} {E : Value → Shared → Prop} (e : EntF S F C fI fT fA) (f : FrA S cx env σ B K₀ s K α) (hy : cx.sc.names.lookup y = some .local) (hg : isGlob cx.sc "Entry" = true) (ro : Room (k + 3) A)
    (h : ∀ x dx l ua nl nu s' K', s.heap.get? x = none → s.heap.get? dx = none → s.heap.get? l = none → FrA S cx env (σ.upd y (some (.val (.tok x)))) B K₀ s' K' α → Led S C x dx (entM (.ref ua) (.ref l)) (noKn.add l (lst [] nl)) s' K' → K.le K' → K' ua = some (lst [] nu) → s.toks ≤ s'.toks → dx ≠ env.locals → Q .next s') :
    wpAny (M S) A (exec (.Assign [.Name y p] (.Call (.Name "Entry" np) [] [] cp) pos) env) Q E s := by
  refine wpAny_Assign_Name (wpAny_Call_ofName (evalGlob f.ok f.fmI hg (.inl e.name) ?_)) (swaps_no rfl _ _ _)
  refine callWith_K0 (e.g.cf.inH f.ok) e.keep ?_
  obtain ⟨oc, od, fd, sl, p1, q1, l1, a1, p2, q2, l2, a2, p3, q3, l3, a3, p4, q4, l4, a4, n3, n4, h1, h2, h3, h4, h5, h6⟩ := e.init
  refine callEntry (k := k) e.g.cf h1 h2 h3 h4 h5 h6 e.ι ro f.ok fun x dx l ua nl nu s1 K1 le1 o1 x1 x2 x3 L hua => ?_
  have f1 := f.le le1 o1
  have hrx : Rep S K1 (.ref x) (.tok x) := by
    have := Rep.tok (S := S) (K := K1) x
    rwa [e.ι] at this
  have locS : s.heap.get? env.locals ≠ none := f.locS
  have nl1 : ∀ a, s.heap.get? a = none → a ≠ env.locals := fun a ha q => locS (q ▸ ha)
  refine storeLocS f1 hy hrx fun h' hs f2 => ?_
  refine h x dx l ua nl nu _ K1 x1 x2 x3 f2 (L.store hs (nl1 _ x1) (nl1 _ x2) fun a o e9 => ?_) le1.ext hua (Nat.le_trans le1.tok (Nat.le_succ _)) (nl1 _ x2)
  by_cases ha : a = l
  · subst ha; exact nl1 _ x3
  · rw [Kn.add_ne ha] at e9; exact nsm e9
end Mine
namespace Mine
variable {S : Sys} {k : Nat} {cx : Cx} {σ : Sto}
theorem callIter {A : Around} {s : Shared} {K : Kn} {v : Value} {d : D} {ds : List D} {Q : Value → Shared → Prop} {E : Value → Shared → Prop} (hi : IterS S d ds) (hh : A.handled = none) (o : Ok S K s) (r : Rep S K v d)
    (h : ∀ ob fp P St, Itr S K s.heap.objs.size fp P St ds → St 0 (s.heap.push ob) → Q (.ref s.heap.objs.size) { s with heap := s.heap.push ob }) : wpAny (M S) A (call (.builtin "iter") [v]) Q E s := by
  refine PySem.Calls.call_function_entry (by decide +kernel) (by decide +kernel) kdk_entry_iter (kdk_args_iter _) ?_
  unfold Builtin.«iter»
  refine wpAny_bind (m := someArgs "iter" 1 2 _) (wpAny_of_eq (a := [v]) (by first | rfl | kernel_rfl!) ?_)
  show wpAny _ _ (pyIter v >>= _) _ _ _
  refine wpAny_bind (hi A.in1 s K v _ E hh o r fun ob fp P St it st => ?_)
  exact wpAny_pure ⟨_, rfl, h ob fp P St it st⟩
theorem forOn {A : Around} {env : Env} {B K₀ K : Kn} {s : Shared} {t : Expr} {y : Str} {yp pos : Pos} {body rest : List Stmt} {ds : List D} {P : Fl → Sto → Prop} {I : Addr} {fp : List Addr} {Pv : Nat → Value → Prop} {St : Nat → Heap → Prop} {i0 : Nat} {Q : Flow → Shared → Prop} {E : Value → Shared → Prop}
    (st9 : Nat → Sto) (ro : Room k A) (f : FrI S cx env σ B K₀ s K) (hι : S.ι I = I) (hy : isVar cx.sc y = true) (hσ : σ y = some (.val (.tok I))) (it : Itr S K I fp Pv St ds) (st : St i0 s.heap) (hK : K I = none) (hB : B I = none) (hT : I ∉ S.T) (hi0 : i0 ≤ ds.length) (h0 : (st9 i0).sub σ)
    (hb9 : ∀ i e, i0 ≤ i → ds[i]? = some e → ∃ b, BindS S k cx t e (st9 i) b ∧ ExP S k cx b body (WhP S k cx (st9 (i + 1)).sub rest P)) (hend : ExP S k cx (st9 ds.length) rest P) (hq : ∀ f' fl σ' s' K', P fl σ' → FrI S cx env σ' B K₀ s' K' → FlR S K' f' fl → Q f' s')
    (hs : ∀ (env : Env) (x : Value), foldedSetIterable (.Name y yp) env x = pure x := by intro _ _; rfl) : wpAny (M S) A (execs (.For t (.Name y yp) body [] pos :: rest) env) Q E s := by
  have key : wpAny (M S) A (exec (.For t (.Name y yp) body [] pos) env) (fun f' s' => ∃ fl σ' K', Go S k cx rest P fl σ' ∧ FrI S cx env σ' B K₀ s' K' ∧ FlR S K' f' fl) E s := by
    refine elAA (isVar_or hy) fun h1 h3 h4 => ?_
    refine elE (id f) fun α0 fa => ?_
    refine forW (wpAny_Name (loadEnt fa.fm h1 hσ (fun w ev => ?_) h3) h4) (hs env)
    have hw := Rep.tok_inv ev
    rw [hι] at hw
    subst hw
    refine (it.walks A ro.1).self i0 s _ _ st ?_
    exact forCore (J := fun _ => True) st9 trivial (fun _ _ h => ⟨trivial, h⟩) ro (f.weak h0) it st hK hB hT hi0 (fun i e h1 _ => hb9 i e h1) (fun _ => hend) fun f' fl σ' s' K' g fi r => ⟨fl, σ', K', g, fi, r⟩
  refine execsC (wpAny_mono key (fun f' s' hp => ?_) fun _ _ x => x)
  (refine elEEEAA hp fun fl σ' K' hg f' r => ?_; try clear hp)
  cases fl with
  | next => subst r; exact hg A env B K₀ s' K' Q E ro f' hq
  | brk => subst r; exact hq _ _ _ s' K' hg f' rfl
  | cont => subst r; exact hq _ _ _ s' K' hg f' rfl
  | ret d => obtain ⟨v, rfl, r⟩ := r; exact hq _ _ _ s' K' hg f' ⟨v, rfl, r⟩
end Mine
namespace Mine
variable {S : Sys} {k : Nat} {cx : Cx} {σ : Sto}
noncomputable def Sys.up (S : Sys) (K : Kn) (hK : S.K0.le K) : Sys where
  prog := S.prog
  w := S.w
  os := S.os
  K0 := K
  T := S.T
  tabOk := S.tabOk
  tabMono := S.tabMono
  mg := S.mg
  mb := S.mb
  nsG := fun h hh => S.nsG h fun a o e => hh a o (hK a o e)
  nsB := fun h hh => S.nsB h fun a o e => hh a o (hK a o e)
  noLim := fun h hh => S.noLim h fun a o e => hh a o (hK a o e)
  ι := S.ι
  ruleP := S.ruleP
  ruleMono := S.ruleMono
  entP := S.entP
  entMono := S.entMono
theorem Rep.up {K0 K : Kn} {hK : S.K0.le K0} {v : Value} {d : D} (h : Rep S K v d) : Rep (S.up K0 hK) K v d := by
  induction h with
  | none => exact .none
  | bool b => exact .bool b
  | int i t => exact .int i t
  | str t h => exact .str t h
  | tstr t h h0 => exact .tstr t h h0
  | list e hl _ ih => exact .list e hl ih
  | tuple e hl _ ih => exact .tuple e hl ih
  | tok n => exact .tok (S := S.up K0 hK) n
  | range e => exact .range e
  | rule h => exact .rule (S := S.up K0 hK) h
  | entry e hl _ ih => exact .entry (S := S.up K0 hK) e hl ih
  | dic e hl _ ih => exact .dic (S := S.up K0 hK) e hl ih
  | set e h => exact .set (S := S.up K0 hK) e h
theorem Rep.down {K0 K : Kn} {hK : S.K0.le K0} {v : Value} {d : D} (h : Rep (S.up K0 hK) K v d) : Rep S K v d := by
  induction h with
  | none => exact .none
  | bool b => exact .bool b
  | int i t => exact .int i t
  | str t h => exact .str t h
  | tstr t h h0 => exact .tstr t h h0
  | list e hl _ ih => exact .list e hl ih
  | tuple e hl _ ih => exact .tuple e hl ih
  | tok n => exact .tok (S := S) n
  | range e => exact .range e
  | rule h => exact .rule (S := S) h
  | entry e hl _ ih => exact .entry (S := S) e hl ih
  | dic e hl _ ih => exact .dic (S := S) e hl ih
  | set e h => exact .set (S := S) e h
theorem RepL.down {K0 K : Kn} {hK : S.K0.le K0} {vs ds} (h : RepL (S.up K0 hK) K vs ds) : RepL S K vs ds := ⟨h.len, fun i v d e e' => (h.all i v d e e').down⟩
theorem Ok.up {K0 K : Kn} {hK : S.K0.le K0} {s : Shared} (o : Ok S K s) (h : K0.le K) : Ok (S.up K0 hK) K s := ⟨o.kn, h, o.tabs, o.bare, o.os⟩
theorem Ok.down {K0 K : Kn} {hK : S.K0.le K0} {s : Shared} (o : Ok (S.up K0 hK) K s) : Ok S K s := ⟨o.kn, Kn.le_trans hK o.base, o.tabs, o.bare, o.os⟩
theorem Le.up {K0 K K' : Kn} {hK : S.K0.le K0} {s s' : Shared} (l : Le S s s' K K') : Le (S.up K0 hK) s s' K K' := ⟨l.keep, l.ext, l.old, l.tok⟩
theorem Le.down {K0 K K' : Kn} {hK : S.K0.le K0} {s s' : Shared} (l : Le (S.up K0 hK) s s' K K') : Le S s s' K K' := ⟨l.keep, l.ext, l.old, l.tok⟩
theorem CalS.ofK {K : Kn} {hK : S.K0.le K} {f : Value} {ds : List D} {d : D} (h : ∀ K', K.le K' → CalK S k K' f ds d) : CalS (S.up K hK) k f ds d :=
  fun A s K' vs Q E ro o r hq => h K' o.base A s vs Q E ro o.down r.down fun v s' K2 l o' rv => hq v s' K2 l.up (o'.up (Kn.le_trans o.base l.ext)) rv.up
theorem EvS.callTok {x : Str} {np pos : Pos} {a : Nat} {oc : Value} {od : Option Addr} {fd : FuncData} {sl : Array (Option Value)} {e : Expr} {rest : List Expr} {ds : List D} {d : D} (hx : isVar cx.sc x = true) (hσ : σ x = some (.val (.tok a))) (hι : S.ι a = a)
    (ha : S.K0 a = some ⟨oc, od, .func fd, sl⟩) (h : EvL S k cx σ (e :: rest) ds) (hc : CalS S k (.ref a) ds d) (hp : allPlain (e :: rest) = true := by rfl) : EvS S k cx σ (.Call (.Name x np) (e :: rest) [] pos) d := by
  intro A env s K Q E ro o fm hq
  refine elAA (isVar_or hx) fun h1 h3 h4 => ?_
  refine elE (id fm) fun α fa => ?_
  refine wpAny_Call_ofName (wpAny_Name (loadEnt fa h1 hσ (fun w ev => ?_) h3) h4)
  have hw := Rep.tok_inv ev
  rw [hι] at hw
  subst hw
  have hp' := hp
  simp only [allPlain, List.all_cons, Bool.and_eq_true] at hp'
  refine callWith_F ⟨_, _, _, _, K0_get o ha⟩ (h A env pos s K _ E ro o fm fun vs s' K' l o' r => ⟨⟨_, _, _, _, K0_get o' ha⟩, ?_⟩) (starEach_plain hp'.1 _ _) (noStars hp'.2)
  exact hc A s' K' vs Q E ro o' r fun v s2 K2 l2 o2 r2 => hq v s2 K2 (Le.trans o o' l l2) o2 r2
theorem CmpS.isListTok {ds : List D} {n : Nat} {ob : Obj} (hι : S.ι n = n) (hn : S.K0 n = some ob) (hc : ∀ vs m, ob ≠ lst vs m) : CmpS S k .Is (.list ds) (.tok n) false := by
  intro A s K v1 v2 Q E ro o r1 r2 h
  (refine elEEEAA r1.list_inv fun a vs m e93 e _ => ?_; subst e93)
  have hw := r2.tok_inv
  rw [hι] at hw
  subst hw
  have hne : a ≠ n := fun q => by
    rw [q, o.base _ _ hn] at e
    exact hc _ _ (Option.some.inj e)
  exact wpAny_is_ref_other hne (o.kn _ _ e) (K0_get o hn) (by unfold lst; simp) (h s K Le.refl o)
end Mine
namespace Mine
variable {S : Sys} {k : Nat} {cx : Cx} {σ : Sto}
noncomputable def oneFind (l : List Nat) (p : Nat) : Bool := match drive 1000 (Sre.forSearch twin l.toArray 1 0 l.length false) with
  | some r => (match r.outcome with | some .matched => true | _ => false) && r.start == p && r.handed == p + 1 && r.marks.getD 0 none == some p && r.marks.getD 1 none == some (p + 1) && decide ((1 : Int) ≤ r.lastmark) &&
    (match drive 1000 (Sre.forSearch twin l.toArray 1 (p + 1) l.length false) with | some r2 => (match r2.outcome with | some .failed => true | _ => false) | none => false)
  | none => false
noncomputable def matObj (x : Str) (t : Tok) (re tp : Addr) (lim : Nat) (li : Int) : Obj := ⟨.type "re.Match", none, .fields #[.str x t, .ref re, rawInt 0, rawInt lim, rawInt li, .ref tp], #[]⟩
noncomputable def tupObj (p : Nat) : Obj := { cls := .type "tuple", data := .seq #[rawInt (p : Nat), rawInt ((p + 1 : Nat) : Nat), rawInt (p : Nat), rawInt ((p + 1 : Nat) : Nat)] }
set_option genInjectivity false in
structure Pc (S : Sys) (K0 K : Kn) (s0 s : Shared) (lp : Addr) (ps : List (List Nat)) : Prop where
  ok : Ok S K s
  le : K0.le K
  keep : ∀ b ob, b ∉ S.T → b ≠ lp → s0.heap.get? b = some ob → s.heap.get? b = some ob
  old : ∀ a, s0.heap.get? a ≠ none → K a = K0 a
  tok : s0.toks ≤ s.toks
  ls : ∃ (l : List (Str × Tok)) (n : Nat), s.heap.get? lp = some (lst (strValues l) n) ∧ l.map (·.1) = ps.map tx
  nK : K lp = none
  nT : lp ∉ S.T
theorem Pc.more {K0 K K' : Kn} {s0 s s' : Shared} {lp : Addr} {ps : List (List Nat)} (c : Pc S K0 K s0 s lp ps) (l : Le S s s' K K') (o : Ok S K' s') : Pc S K0 K' s0 s' lp ps := by
  refine ⟨o, Kn.le_trans c.le l.ext, fun b ob hT hb e => l.keep b ob hT (c.keep b ob hT hb e), fun a ha => ?_, Nat.le_trans c.tok l.tok, ?_, ?_, c.nT⟩
  · refine (l.old a fun e => ha ?_).trans (c.old a ha)
    cases e8 : s0.heap.get? a with
    | none => rfl
    | some ob =>
      by_cases hT : a ∈ S.T
      · obtain ⟨_, ps, e7, _⟩ := c.ok.tabs a hT
        rw [e] at e7; exact nsm e7
      · by_cases hb : a = lp
        · obtain ⟨l9, n9, e9, _⟩ := c.ls
          rw [← hb, e] at e9; exact nsm e9
        · rw [c.keep a ob hT hb e8] at e; exact snm e
  · obtain ⟨l9, n9, e9, q9⟩ := c.ls
    exact ⟨l9, n9, l.keep _ _ c.nT e9, q9⟩
  · obtain ⟨l9, n9, e9, q9⟩ := c.ls
    exact (l.old lp (by rw [e9]; simp)).trans c.nK
theorem Pc.push {K0 K : Kn} {s0 s : Shared} {lp : Addr} {ps : List (List Nat)} {q : List Nat} {u : Tok} (c : Pc S K0 K s0 s lp ps) : Pc S K0 K s0 { s with heap := s.heap.update lp (Obj.mapSeq (·.push (.str (tx q) u))) } lp (ps ++ [q]) := by
  obtain ⟨l9, n9, e9, q9⟩ := c.ls
  have hs : Heap.SameBut lp s.heap (s.heap.update lp (Obj.mapSeq (·.push (.str (tx q) u)))) := Heap.SameBut.update ..
  refine ⟨c.ok.upd (tk := s.toks) c.nK c.nT hs, c.le, fun b ob hT hb e => (hs.2 b hb).trans (c.keep b ob hT hb e), c.old, c.tok, ?_, c.nK, c.nT⟩
  refine ⟨l9 ++ [(tx q, u)], (if ((strValues l9).toArray.push (.str (tx q) u)).size == (strValues l9).toArray.size then n9 else n9 + 1), ?_, by rw [List.map_append, List.map_append, q9]; rfl⟩
  rw [Heap.get?_update_self _ e9 (by rw [lst_push]; rfl), lst_push]
  unfold lst1
  rw [show strValues (l9 ++ [(tx q, u)]) = strValues l9 ++ [.str (tx q) u] by simp [strValues]]
theorem Pc.upd {K0 K : Kn} {s0 s : Shared} {lp : Addr} {ps : List (List Nat)} {q : List Nat} {u : Tok} {A : Around} {Q : Unit → Shared → Prop} {E : Value → Shared → Prop} (c : Pc S K0 K s0 s lp ps) (hf : ps.length ≤ 10)
    (h : Pc S K0 K s0 { s with heap := s.heap.update lp (Obj.mapSeq (·.push (.str (tx q) u))) } lp (ps ++ [q]) → Q () { s with heap := s.heap.update lp (Obj.mapSeq (·.push (.str (tx q) u))) }) : wpAny (M S) A (updateSeq lp fun x => x.push (.str (tx q) u)) Q E s := by
  have hls := c.ls
  refine elEEA hls fun l9 n9 e9 q9 => ?_
  have hz : (strValues l9).toArray.size ≤ 10 := by
    have := congrArg List.length q9
    rw [List.length_map, List.length_map] at this
    simpa [strValues, this] using hf
  exact wpAny_updateSeq e9 rfl (h c.push) (Nat.le_trans hz (by rw [sizeLine_eq]; decide)) (by rw [Array.size_push]; exact Nat.succ_le_succ (Nat.le_trans hz (by rw [sizeLine_eq]; decide)))
theorem iteTail {α β : Type} {M : Model} {A : Around} {P : α → Shared → Prop} {E : Value → Shared → Prop} {s : Shared} {c : Prop} [Decidable c] {X : Sem β} {Y : β → Sem Unit} {J : Sem α} (I : Shared → Prop) (hJ : ∀ s1, I s1 → wpAny M A J P E s1)
    (h1 : c → wpAny M A X (fun v s' => wpAny M A (Y v) (fun _ s'' => I s'') E s') E s) (h0 : ¬ c → I s) : wpAny M A (if c then X >>= fun v => Y v >>= fun _ => J else J) P E s := by
  by_cases hc : c
  · rw [if_pos hc]
    exact wpAny_bind (wpAny_mono (h1 hc) (fun v s' h => wpAny_bind (wpAny_mono h (fun _ s'' i => hJ s'' i) fun _ _ e => e)) fun _ _ e => e)
  · rw [if_neg hc]; exact hJ s (h0 hc)
theorem sliceTx {A : Around} {s : Shared} {E : Value → Shared → Prop} {Q : Value → Shared → Prop} {l : List Nat} {b e : Nat} (hn : l.length ≤ 1000) (h : Q (.str (tx ((l.take e).drop b)) s.toks) { s with toks := s.toks + 1 }) : wpAny (M S) A (Builtin.Re.reSlice (tx l).cps 0 b e) Q E s := by
  show wpAny _ _ (mkStr _) _ _ _
  have he : (⟨(tx l).cps.extract b e⟩ : Str) = tx ((l.take e).drop b) := by
    simp [tx, List.drop_take]
  rw [he]
  exact wpAny_mkStr h (by rw [tx_len, sizeLine_eq, List.length_drop, List.length_take]; lia)
theorem loopFirst {A : Around} {s : Shared} {P : Fin → Shared → Prop} {E : Value → Shared → Prop} {re ct f lp : Addr} {p0 : Value} {t1 : Tok} {items : Array Value} {n : Nat} {pre q : List Nat} {c : Nat} {t : Tok} {K : Kn} (hre : s.heap.get? re = some (reObj p0 ct t1)) (hct : s.heap.get? ct = some ⟨.type "tuple", none, .seq items n, #[]⟩)
    (hit : (items.map Builtin.Re.reRawOf).map (·.toNat) = twin) (pc : Pc S K K s s lp []) (hl : (pre ++ [c]).length ≤ 1000) (hno : oneFind (pre ++ [c]) pre.length = true)
    (hcall : ∀ (a tp : Addr) (li : Int) (s' : Shared) (K' : Kn) (Q : Value → Shared → Prop) (E' : Value → Shared → Prop), K.le K' → Ok S K' s' → K' a = some (matObj (tx (pre ++ [c])) t re tp (pre ++ [c]).length li) → K' tp = some (tupObj pre.length) → (∀ v s'' K'', Le S s' s'' K' K'' → Ok S K'' s'' → (∃ u, v = .str (tx q) u) → Q v s'') → wpAny (M S) A (call (.ref f) [.ref a]) Q E' s')
    (h : ∀ s' K' ps, Pc S K K' s s' lp ps → ps.length ≤ 10 → ps.flatten = pre ++ q → P (.again (.builtin "re.Pattern.sub.loop" ⟨[.ref re, .str (tx (pre ++ [c])) t, .ref f, rawInt 1, rawInt 0, rawInt (0 + 1), rawInt ((pre.length + 1 : Nat) : Nat), rawInt ((pre.length + 1 : Nat) : Nat), .bool false, .ref lp, .bool false], []⟩)) s') :
    wpAny (M S) A (Builtin.«re.Pattern.sub.loop» ⟨[.ref re, .str (tx (pre ++ [c])) t, .ref f, rawInt 1, rawInt 0, rawInt 0, rawInt 0, rawInt 0, .bool false, .ref lp, .bool false], []⟩) P E s := by
  unfold Builtin.«re.Pattern.sub.loop»
  refine wpAny_bind (wholeTarget (x := tx (pre ++ [c])) hre hct hit ?_)
  unfold oneFind at hno
  split at hno
  · rename_i r hd
    simp only [Bool.and_eq_true, beq_iff_eq, decide_eq_true_eq] at hno
    obtain ⟨⟨⟨⟨⟨⟨h1, h2⟩, h3⟩, h4⟩, h5⟩, h6⟩, _⟩ := hno
    have ho : r.outcome = some .matched := by
      revert h1
      cases r.outcome with
      | none => intro h; exact ft h
      | some o => cases o <;> intro h <;> first | rfl | exact ft h
    have hsz : (tx (pre ++ [c])).cps.size = (pre ++ [c]).length := by simp [tx]
    refine wpAny_bind (m := Builtin.Re.reNextFound _ _ _) (runSome (r := r) (by rw [hsz]; exact hd) ho ?_)
    dsimp only
    rw [hsz]
    refine iteTail (fun s1 => ∃ ps, Pc S K K s s1 lp ps ∧ ps.length ≤ 1 ∧ ps.flatten = pre) (fun s1 hI => ?_) (fun hc => ?_) fun hc => ?_
    · refine elEAA hI fun ps pc1 hps1 hps => ?_
      refine wpAny_ite_false rfl ?_
      refine wpAny_bind ?_
      unfold Builtin.Re.reNewMatch
      have g1 : ((2 * 0 + 1 : Nat) : Int) ≤ r.lastmark := h6
      have e0 : r.marks.getD (2 * 0) none = some pre.length := h4
      have e1 : r.marks.getD (2 * 0 + 1) none = some (pre.length + 1) := h5
      dsimp only
      simp only [show List.range 1 = [0] from rfl, List.flatMap_cons, List.flatMap_nil, List.any_cons, List.any_nil, e0, e1, if_pos g1, h2, h3]
      refine wpAny_ite_false (by simp) ?_
      refine wpAny_bind (wpAny_newTuple (wpAny_newObj_type ?_))
      have o1 := pc1.ok.push (ob := tupObj pre.length) rfl
      have l1 := Le.push (ob := tupObj pre.length) pc1.ok
      have o2 := o1.push (ob := matObj (tx (pre ++ [c])) t re s1.heap.objs.size (pre ++ [c]).length r.lastindex) rfl
      have l2 := Le.push (ob := matObj (tx (pre ++ [c])) t re s1.heap.objs.size (pre ++ [c]).length r.lastindex) o1
      refine wpAny_bind (wpAny_holding (wpAny_ite_true rfl ?_))
      refine hcall _ s1.heap.objs.size r.lastindex _ _ _ _ (Kn.le_trans l1.ext l2.ext) o2 (Kn.add_self ..) (l2.ext _ _ (Kn.add_self ..)) fun v s3 K3 l3 o3 hv => ?_
      refine elE hv fun u e9 => ?_
      subst e9
      refine wpAny_ite_true rfl ?_
      have pc3 := ((pc1.more l1 o1).more l2 o2).more l3 o3
      refine wpAny_bind (pc3.upd (Nat.le_trans hps1 (by decide)) fun pc4 => ?_)
      rw [show (pre.length + 1 == pre.length) = false by simp]
      exact wpAny_pure (h _ K3 _ pc4 (by rw [List.length_append]; exact Nat.le_trans (Nat.succ_le_succ hps1) (by decide)) (by rw [List.flatten_append, hps]; simp))
    · rw [h2]
      refine sliceTx hl ?_
      exact (pc.more (Le.toks (Nat.le_succ _)) pc.ok.toks).upd (Nat.zero_le _) fun pc4 => ⟨_, pc4, Nat.le_refl _, by simp⟩
    · rw [h2] at hc
      have : pre = [] := List.length_eq_zero_iff.mp (Nat.le_zero.mp (Nat.not_lt.mp hc))
      exact ⟨[], pc, Nat.zero_le _, by rw [this]; rfl⟩
  · exact ft hno
end Mine
namespace Mine
variable {S : Sys} {k : Nat} {cx : Cx} {σ : Sto}
theorem loopLast {A : Around} {s s0 : Shared} {K0 K : Kn} {P : Fin → Shared → Prop} {E : Value → Shared → Prop} {re ct f lp : Addr} {p0 : Value} {t1 : Tok} {items : Array Value} {n p : Nat} {l : List Nat} {ps : List (List Nat)} {t : Tok} (hre : s.heap.get? re = some (reObj p0 ct t1)) (hct : s.heap.get? ct = some ⟨.type "tuple", none, .seq items n, #[]⟩)
    (hit : (items.map Builtin.Re.reRawOf).map (·.toNat) = twin) (pc : Pc S K0 K s0 s lp ps) (hno : oneFind l p = true) (hlp : l.length = p + 1) (hps : 0 < ps.length) (hpl : ps.flatten.length ≤ 2000)
    (h : ∀ t' tk, s.toks ≤ tk → P (.done (.ret (.str (tx ps.flatten) t'))) { s with toks := tk }) :
    wpAny (M S) A (Builtin.«re.Pattern.sub.loop» ⟨[.ref re, .str (tx l) t, .ref f, rawInt 1, rawInt 0, rawInt (0 + 1), rawInt ((p + 1 : Nat) : Nat), rawInt ((p + 1 : Nat) : Nat), .bool false, .ref lp, .bool false], []⟩) P E s := by
  unfold Builtin.«re.Pattern.sub.loop»
  refine wpAny_bind (wholeTarget (x := tx l) hre hct hit ?_)
  unfold oneFind at hno
  split at hno
  · rw [Bool.and_eq_true] at hno
    have hno := hno.2
    split at hno
    · rename_i r hd
      have ho : r.outcome = some .failed := by
        revert hno
        cases r.outcome with
        | none => intro h; exact ft h
        | some o => cases o <;> intro h <;> first | rfl | exact ft h
      have hsz : (tx l).cps.size = l.length := by simp [tx]
      refine wpAny_bind (m := Builtin.Re.reNextFound _ _ _) (runNone (r := r) (by rw [hsz]; exact hd) ho ?_)
      dsimp only
      refine wpAny_ite_false (by rw [hsz, hlp, Int.toNat_natCast]; exact decide_eq_false (Nat.lt_irrefl _)) ?_
      refine wpAny_bind (m := Builtin.Re.reSlice _ _ _ _) ?_
      show wpAny _ _ (mkStr _) _ _ _
      have hnil : (⟨(tx l).cps.extract 0 0⟩ : Str) = tx [] := by
        have : (tx l).cps.extract 0 0 = #[] := by simp
        rw [this]; rfl
      rw [hnil]
      refine wpAny_mkStr ?_ (by rw [tx_len, sizeLine_eq]; exact Nat.zero_le _)
      have hls := pc.ls
      refine elEEA hls fun l9 n9 e9 q9 => ?_
      have hne : l9 ≠ [] := fun e => by
        have := congrArg List.length q9
        rw [e, List.length_map, List.length_map] at this
        rw [← this] at hps
        exact Nat.lt_irrefl _ hps
      have hIs : s.heap.IsList lp (strValues l9).toArray := ⟨_, e9, rfl, n9, rfl⟩
      have fin : ∀ (s9 : Shared) (t9 : Tok), s9 = { s with toks := s.toks + 1 } → wpAny (M S) A (call (.builtin "str.join") [.str (tx []) t9, .ref lp]) (fun text s' => wpAny (M S) A (ret text) P E s') E s9 := fun s9 t9 e => by
        subst e
        have hj : JoinOk (tx []) (ps.map tx) = true := joinOk_tx (Nat.le_trans hpl (by decide))
        refine withTk (SC.join (l := l9) (texts := ps.map tx) hIs q9 hj fun t' tk ht => ?_)
        rw [joinEq, join_tx]
        exact wpAny_pure (h t' tk (Nat.le_trans (Nat.le_succ _) ht))
      refine wpAny_bind (seqItemsW e9 ?_)
      refine wpAny_ite_false ?_ ?_
      · cases l9 with
        | nil => exact absurd rfl hne
        | cons a b => simp [strValues]
      · exact wpAny_bind (wpAny_mono (fin _ _ rfl) (fun _ _ x => x) fun _ _ x => x)
    · exact ft hno
  · exact ft hno
end Mine
namespace Mine
variable {S : Sys} {k : Nat} {cx : Cx} {σ : Sto}
namespace Mt9
theorem plain : PlainAttrs "re.Match" := ⟨⟨"object.__getattribute__", by rw [typeLookup_type, builtinLookup_eq_fast]; kernel_rfl, by decide +kernel⟩, by rw [typeLookup_type, builtinLookup_eq_fast]; kernel_rfl⟩
theorem slot : Slot "re.Match" "group" "re.Match.group" :=
  .of (owner := "re.Match") (n := "group") (by rw [typeLookup_type, builtinLookup_eq_fast]; kernel_rfl) (by decide +kernel) (by decide +kernel) (by decide +kernel)
    (by first | exact .inl (by decide +kernel) | exact .inr (by decide +kernel)) (by rw [isSubtype_type]; kernel_rfl)
theorem ty : typeOf (.builtin "re.Match.group") = pure (.type "method_descriptor") := by show builtinType _ = _; rw [builtinType_eq_fast]; kernel_rfl
theorem entry : entryFor table "re.Match.group" = some Builtin.«re.Match.group» := entryFor_of_tree (by kernel_rfl)
theorem args (a b : Value) : argsOk "re.Match.group" ⟨[a, b], []⟩ := by unfold argsOk; kernel_rfl
end Mt9
theorem groupTree {A : Around} {s : Shared} {P : Fin → Shared → Prop} {E : Value → Shared → Prop} {a re tp : Addr} {l : List Nat} {t u : Tok} {li : Int} {p : Nat} (ha : s.heap.get? a = some (matObj (tx l) t re tp l.length li)) (ht : s.heap.get? tp = some (tupObj p)) (hl : l.length ≤ 1000)
    (h : ∀ t', P (.done (.ret (.str (tx ((l.take (p + 1)).drop p)) t'))) { s with toks := s.toks + 1 }) : wpAny (M S) A (Builtin.«re.Match.group» ⟨[.ref a, .int 1 u], []⟩) P E s := by
  unfold Builtin.«re.Match.group»
  unfold matObj at ha
  unfold tupObj at ht
  repeat (any_goals (first | assumption | wp_step))
  have hm : Array.map Builtin.Re.reRawOf ((some #[rawInt (p : Nat), rawInt ((p + 1 : Nat) : Nat), rawInt (p : Nat), rawInt ((p + 1 : Nat) : Nat)]).getD #[]) = #[(p : Int), ((p + 1 : Nat) : Int), (p : Int), ((p + 1 : Nat) : Int)] := by simp [rawInt, Builtin.Re.reRawOf]
  rw [hm]
  refine wpAny_ite_false (decide_eq_false (show ¬ (decide ((p : Int) < 0) || decide (((p + 1 : Nat) : Int) < 0)) = true from by simp; lia)) ?_
  show wpAny _ _ (Builtin.Re.reTextOf (.str (tx l) t) >>= _) _ _ _
  refine wpAny_bind (wpAny_pure ?_)
  show wpAny (M S) A (Builtin.Re.reSlice (tx l).cps 0 p (p + 1)) (fun a s' => wpAny (M S) A (ret a) P E s') E s
  exact sliceTx hl (wpAny_pure (h _))
theorem EvS.group1 {x : Str} {np ap pos p1 : Pos} {n1 : Nat} {a re tp : Addr} {l : List Nat} {t : Tok} {li : Int} {p : Nat} (hv : isVar cx.sc x = true) (he : σ x = some (.val (.tok a))) (hι : S.ι a = a) (ha : S.K0 a = some (matObj (tx l) t re tp l.length li)) (ht : S.K0 tp = some (tupObj p))
    (hl : l.length ≤ 1000) (h7 : ∀ c ∈ l, c < 128) (hline : (ap.endLine == pos.line) = true := by rfl) : EvS S k cx σ (.Call (.Attribute (.Name x np) "group" ap) [.Constant (.int 1) n1 p1] [] pos) (.str (tx ((l.take (p + 1)).drop p))) := by
  intro A env s K Q E ro o fm hq
  refine wpAny_Call_method (T := "re.Match") (id := "re.Match.group") rfl rfl hline Mt9.plain Mt9.slot Mt9.ty (EvS.name hv he _ env s K _ E ro o fm fun v s1 K1 l1 o1 r1 => ?_)
  have hw := r1.tok_inv
  rw [hι] at hw
  subst hw
  have e1 := K0_get o1 ha
  refine ⟨⟨_, e1, rfl⟩, (fun b e => by cases e; exact ⟨_, e1, rfl⟩), ?_⟩
  refine callWith_method1 (wpAny_items_cons (EvS.cint _ env s1 K1 _ _ ro o1 (fm.le o l1) fun v2 s2 K2 l2 o2 r2 => ?_) (starEach_plain rfl _ _)) (starEach_plain rfl _ _) rfl
  refine elE r2.int_inv fun u e9 => ?_
  subst e9
  refine wpAny_items_nil ?_
  refine wpAny_call (codeAny_call_builtin Mt9.slot.plain Mt9.entry (Mt9.slot.check _ _ _ _ _ _ _ _ ⟨_, K0_get o2 ha, rfl⟩ (Mt9.args _ _) ?_))
  refine groupTree (K0_get o2 ha) (K0_get o2 ht) hl fun t' => ?_
  refine hq _ _ K2 (Le.trans o o2 (Le.trans o o1 l1 l2) (Le.toks (Nat.le_succ _))) o2.toks (.str _ (strOk_small fun c hc => h7 c ?_))
  exact List.mem_of_mem_take (List.mem_of_mem_drop hc)
theorem plainLoop : plainId "re.Pattern.sub.loop" = true := by decide +kernel
theorem subCallOne {A : Around} {s : Shared} {K : Kn} {Q : Value → Shared → Prop} {E : Value → Shared → Prop} {re ct f : Addr} {p0 : Value} {t1 : Tok} {items : Array Value} {n : Nat} {pre q : List Nat} {c : Nat} {t : Tok} {fd : FuncData} (ro : Room (k + 1) A) (o : Ok S K s) (hre : K re = some (reObj p0 ct t1)) (hct : K ct = some ⟨.type "tuple", none, .seq items n, #[]⟩)
    (hit : (items.map Builtin.Re.reRawOf).map (·.toNat) = twin) (hf : K f = some { cls := .type "function", data := .func fd }) (hl : (pre ++ [c]).length ≤ 1000) (hql : q.length ≤ 100) (hq0 : q ≠ []) (hno : oneFind (pre ++ [c]) pre.length = true)
    (hcall : ∀ (A' : Around) (a tp : Addr) (li : Int) (s' : Shared) (K' : Kn) (Q : Value → Shared → Prop) (E' : Value → Shared → Prop), Room k A' → K.le K' → Ok S K' s' → K' a = some (matObj (tx (pre ++ [c])) t re tp (pre ++ [c]).length li) → K' tp = some (tupObj pre.length) → (∀ v s'' K'', Le S s' s'' K' K'' → Ok S K'' s'' → (∃ u, v = .str (tx q) u) → Q v s'') → wpAny (M S) A' (call (.ref f) [.ref a]) Q E' s')
    (h : ∀ t' s' K', Le S s s' K K' → Ok S K' s' → Q (.str (tx (pre ++ q)) t') s') : wpAny (M S) A (call (.builtin "re.Pattern.sub") [.ref re, .ref f, .str (tx (pre ++ [c])) t]) Q E s := by
  refine wpAny_call (codeAny_call_builtin Re9.slot.plain Re9.entry (Re9.slot.check _ _ _ _ _ _ _ _ ⟨_, o.kn _ _ hre, rfl⟩ (Re9.args _ _ _) ?_))
  refine subTree (o.kn _ _ hre) (o.kn _ _ hct) hit (o.kn _ _ hf) ?_
  have hn := get_size s.heap
  have hk : ∀ b ob, s.heap.get? b = some ob → (s.heap.push (lst [] 0)).get? b = some ob := fun b ob e => Heap.get?_push_of_some _ e
  have o1 : Ok S K { s with heap := s.heap.push (lst [] 0) } := o.grow (tk := s.toks) hk
  have hlp : (s.heap.push (lst [] 0)).get? s.heap.objs.size = some (lst [] 0) := Heap.get?_push_size _ rfl
  have pc0 : Pc S K K { s with heap := s.heap.push (lst [] 0) } { s with heap := s.heap.push (lst [] 0) } s.heap.objs.size [] := ⟨o1, Kn.le_refl K, fun _ _ _ _ e => e, fun _ _ => rfl, Nat.le_refl _, ⟨[], 0, hlp, rfl⟩, o.noneK hn, o.notT hn⟩
  have hsz : ∀ b ob, s.heap.get? b = some ob → b ≠ s.heap.objs.size := fun b ob e => Nat.ne_of_lt (Heap.lt_size e)
  generalize s.heap.objs.size = lp at pc0 hsz ⊢
  refine ⟨Code.quiet_builtin _ (by decide +kernel), codeAny_builtin Re9.entryL ?_⟩
  refine loopFirst (q := q) (o1.kn _ _ hre) (o1.kn _ _ hct) hit pc0 hl hno (fun a tp li s' K' Q' E' h1 h2 h3 h4 h5 => hcall _ a tp li s' K' Q' E' ?_ h1 h2 h3 h4 h5) fun s' K' ps pc' hpl hps => ?_
  · rw [Around.under_plainId plainLoop _]
    exact ro.in1
  refine ⟨Code.quiet_builtin _ (by decide +kernel), codeAny_builtin Re9.entryL ?_⟩
  refine loopLast (pc'.ok.kn _ _ (pc'.le _ _ hre)) (pc'.ok.kn _ _ (pc'.le _ _ hct)) hit pc' hno (by simp) ?_ ?_ fun t' tk ht => ?_
  · cases ps with
    | nil => exact absurd hps.symm (by simp [hq0])
    | cons a b => exact Nat.succ_pos _
  · rw [hps, List.length_append]
    rw [List.length_append] at hl
    lia
  · rw [hps]
    refine h t' _ K' ⟨fun b ob hb e => pc'.keep b ob hb (hsz b ob e) (hk b ob e), pc'.le, fun a ha => pc'.old a ?_, Nat.le_trans pc'.tok ht⟩ pc'.ok.toks
    cases e : s.heap.get? a with
    | none => exact absurd e ha
    | some ob =>
      show (s.heap.push (lst [] 0)).get? a ≠ none
      rw [hk a ob e]; simp
end Mine
namespace Mine
variable {S : Sys} {k : Nat} {cx : Cx} {σ : Sto}
theorem EvS.subOne {x y : Str} {p1 ap lp pos : Pos} {params : Arguments} {body : Expr} {scope : Scope} {e2 : Expr} {pre q : List Nat} {c : Nat} {re ct co P : Addr} {ql : Addr → Pos → Str} {p0 : Value} {t1 : Tok} {items : Array Value} {n : Nat} (hx : isGlob cx.sc x = true) (hg : S.mg x = some (.ref re)) (hι : ∀ n, S.ι n = n)
    (hre : S.K0 re = some (reObj p0 ct t1)) (hct : S.K0 ct = some ⟨.type "tuple", none, .seq items n, #[]⟩) (hit : (items.map Builtin.Re.reRawOf).map (·.toNat) = twin) (L : LamAt S cx ql co P lp) (h2 : EvS S (k + 2) cx σ e2 (.str (Mine.tx (pre ++ [c])))) (hno : oneFind (pre ++ [c]) pre.length = true) (h7q : ∀ z ∈ pre ++ q, z < 128) (hl : (pre ++ [c]).length ≤ 1000) (hql : q.length ≤ 100) (hq0 : q ≠ [])
    (hdef : ∀ env : Env, defaultsOf params env = ([], [])) (hfree : ∀ n, (n, NameKind.free) ∉ scope.names)
    (hok : ∀ cl pm cdv cv, lamOk (lamFn (ql P lp) params body scope cl pm cdv cv) [y] [] = true) (hbind : ∀ cl pm cdv cv (vs : List Value), vs.length = 1 → bindArgs (lamFn (ql P lp) params body scope cl pm cdv cv) ⟨vs, []⟩ = pure (([y] : List Str).zip vs))
    (hev : ∀ (S' : Sys) (cl : List (Str × Addr)) (pm cdv cv : Value) (a tp : Addr) (li : Int) (t : Tok), S'.ι a = a → S'.K0 a = some (matObj (Mine.tx (pre ++ [c])) t re tp (pre ++ [c]).length li) → S'.K0 tp = some (tupObj pre.length) → EvS S' k (cxOf (lamFn (ql P lp) params body scope cl pm cdv cv)) (lamSto [y] [.tok a] []) body (.str (Mine.tx q)))
    (hp : Plain e2 = true := by rfl) (hline : (ap.endLine == pos.line) = true := by rfl) :
    EvS S (k + 2) cx σ (.Call (.Attribute (.Name x p1) "sub" ap) [.Lambda params body scope lp, e2] [] pos) (.str (Mine.tx (pre ++ q))) := by
  intro A env s K Q E ro o fm hq
  have hform : ∀ {es : List Expr}, allPlain es = true → ((backTo pos (starEach es env)).all fun x => !x.1) = true := fun {es} h => by
    have := noStars (pos := pos) (env := env) h
    rw [List.any_eq_false] at this
    rw [List.all_eq_true]
    intro x hx
    simpa using this x hx
  have hpl : allPlain [.Lambda params body scope lp, e2] = true := by simp [allPlain, hp]; rfl
  refine wpAny_Call_method (T := "re.Pattern") (id := "re.Pattern.sub") rfl ?_ hline Re9.plain Re9.slot Re9.ty (evalGlob o fm hx (.inl hg) ?_)
  · rw [hform hpl]; rfl
  refine ⟨⟨_, K0_get o hre, rfl⟩, fun a e => by cases e; exact ⟨_, K0_get o hre, rfl⟩, ?_⟩
  refine callWith_method1 (wpAny_items_cons (lamMake o fm L.code L.hd L.inT L.tab L.blt L.ne (hdef env) L.q1 L.q2 (fun n h => absurd h (hfree n)) fun f s1 K1 cv ctv l1 o1 hK hcv => ?_) (starEach_plain rfl _ _)) (starEach_plain rfl _ _) (noStars (es := [e2]) (by simp [allPlain, hp]))
  refine wpAny_items_cons (h2 A env s1 K1 _ E ro o1 (fm.le o l1) fun v s2 K2 l2 o2 r2 => ?_) (starEach_plain hp _ _)
  refine wpAny_items_nil ?_
  (refine elEA r2.str_inv fun t e91 hx2 => ?_; subst e91)
  have l12 := Le.trans o o1 l1 l2
  refine subCallOne (k := k + 1) (q := q) ro o2 (o2.base _ _ hre) (o2.base _ _ hct) hit (l2.ext _ _ hK) hl hql hq0 hno (fun A' a tp li s' K' Q' E' ro' hle o' ha htp hQ' => ?_) fun t' s' K' l' o' => hq _ _ K' (Le.trans o o2 l12 l') o' (.str _ (strOk_small h7q))
  refine elEEEEAAA hcv fun c' o9 vs9 t9 y1 y2 y3 y4 => ?_
  have hfK := hle _ _ (l2.ext _ _ hK)
  have o'' : Ok (S.up K' o'.base) K' s' := o'.up (Kn.le_refl _)
  have rt : Rep (S.up K' o'.base) K' (.ref a) (.tok a) := by
    have := Rep.tok (S := S.up K' o'.base) (K := K') a
    rwa [show (S.up K' o'.base).ι a = a from hι a] at this
  refine callLam (S := S.up K' o'.base) (k := k) (fn := []) (names := [y]) (ds := [.tok a]) (frees := []) rfl (hok _ _ _ _) rfl rfl (hbind _ _ _ _) ro' o'' hfK ⟨c', o9, vs9, t9, y1, o'.kn _ _ (hle _ _ (l2.ext _ _ y2)), y3, y4⟩ (fun z d hd => by cases hd) (.cons rt .nil) (hev _ _ _ _ _ a tp li t (hι a) ha htp) fun v s3 K3 l3 o3 r3 => ?_
  refine hQ' v s3 K3 l3.down o3.down ?_
  refine elEA r3.str_inv fun u e9 _ => ?_
  exact ⟨u, e9⟩
end Mine
namespace Mine
variable {S : Sys} {k : Nat} {cx : Cx} {σ : Sto}
set_option genInjectivity false in
structure GenL (S : Sys) (cx : Cx) (ql : Addr → Pos → Str) (c P : Addr) (pos : Pos) : Prop where
  code : cx.code = .ref c
  hd : ∀ h : Heap, (∀ a ob, S.K0 a = some ob → h.get? a = some ob) → CodeHd h c P
  inT : P ∈ S.T
  tab : S.tabOk = tabStd ql
  blt : ∀ h : Heap, (∀ a ob, S.K0 a = some ob → h.get? a = some ob) → h.BuiltinsAt S.mg P
  q1 : cx.ql ++ "<genexpr>" = ql P pos
  q2 : ∀ p : Pos, pos.line = p.line ∧ pos.col = p.col → ql P p = ql P pos
theorem genCode {A : Around} {env : Env} {s : Shared} {K : Kn} {E : Value → Shared → Prop} {scope : Scope} {pos : Pos} {ql : Addr → Pos → Str} {c P : Addr} {Q : Value → Shared → Prop} (o : Ok S K s) (hcode : env.code = .ref c) (hq : env.qual = cx.ql) (L : GenL S cx ql c P pos)
    (h : ∀ v s' K', Le S s s' K K' → Ok S K' s' → Q v s') : wpAny (M S) A (genexprCode env pos (env.qual ++ "<genexpr>") scope) Q E s := by
  have kn : ∀ b ob, S.K0 b = some ob → s.heap.get? b = some ob := fun b ob e => K0_get o e
  obtain ⟨hPK, ps, eP, tP⟩ := o.tabs P L.inT
  rw [L.tab] at tP
  refine elA tP fun tr tkk => ?_
  have hC := L.hd _ kn
  cases hf : codeAmong pos ps.toList with
  | some cv =>
    obtain ⟨oo, vs, file, tf, flags, tg, inF, text, tt, op, ho, hd, h11, h2, h7, h9, h10, hop, hpd, htr, hne⟩ := hC.code eP tr
    unfold genexprCode codeAt
    rw [hcode, if_neg (show ¬ ((Value.ref c == Value.none) = true) from Bool.false_ne_true)]
    refine wpAny_bind (wpAny_fieldsOf ho hd ?_)
    rw [h11]
    refine wpAny_bind (wpAny_fieldsOf hop hpd ?_)
    rw [hf]
    exact wpAny_pure (h cv s K Le.refl o)
  | none =>
    refine withTk (wpAny_genexprCodeX hcode (hC.code eP tr) (hC.tab eP) hf fun c' h' tk9 hx hge hlt _ hrec htb _ ht => ?_)
    rw [hq, L.q1] at hrec
    refine elEEEEAAA hrec fun c2 o' vs t e0 e1 e2 e3 => ?_
    cases e0
    have hc0 : s.heap.get? c' = none := by
      cases e : s.heap.get? c' with
      | none => rfl
      | some o9 => exact absurd (Heap.lt_size e) (Nat.not_lt.mpr hge)
    have hKc : K c' = none := o.noneK hc0
    have hle : K.le (K.add c' o') := Kn.le_add hKc
    have hTc : ∀ P2 ∈ S.T, P2 ≠ c' := fun P2 hm q => by
      obtain ⟨_, ps2, e, _⟩ := o.tabs P2 hm
      rw [q, hc0] at e; exact nsm e
    refine h _ _ (K.add c' o') ⟨fun b ob hb e => hx b ob (fun q => hb (q ▸ L.inT)) e, hle, fun a ha => Kn.add_ne fun q => ha (by rw [q]; exact hc0), ht⟩ ⟨fun a ob e => ?_, Kn.le_trans o.base hle, fun P2 hm => ?_, o.bare, o.os⟩
    · by_cases q : a = c'
      · subst q; rw [Kn.add_self] at e; (replace e := Option.some.inj e; subst e); exact e1
      · rw [Kn.add_ne q] at e
        exact hx a ob (fun q => by rw [q, hPK] at e; exact nsm e) (o.kn a ob e)
    · obtain ⟨h1, ps2, e, t2⟩ := o.tabs P2 hm
      refine ⟨by rw [Kn.add_ne (hTc P2 hm)]; exact h1, ?_⟩
      by_cases q : P2 = P
      · subst q
        refine ⟨_, htb.2, ?_⟩
        rw [L.tab]
        have hl : (ps ++ #[rawInt pos.line, rawInt pos.col, .ref c']).toList = ps.toList ++ [rawInt pos.line, rawInt pos.col, .ref c'] := by simp
        refine ⟨by rw [hl]; exact triples_snoc _ tr, fun p cv e => ?_⟩
        rw [hl] at e
        rcases among_snoc _ tr e with e | ⟨z1, z2, rfl⟩
        · refine elEEEEAAA (tkk p cv e) fun c9 o9 vs9 t9 y1 y2 y3 y4 => ?_
          exact ⟨c9, o9, vs9, t9, y1, hle _ _ y2, y3, y4⟩
        · exact ⟨c', o', vs, t, rfl, Kn.add_self .., e2, by rw [L.q2 p ⟨z1, z2⟩]; exact e3⟩
      · exact ⟨ps2, hx P2 _ q e, S.tabMono _ _ _ _ hle t2⟩
theorem passAll (n : Nat) : passing (fun _ => true) n 0 = List.range n := by simp [passing]
theorem EvS.joinGen {x y : Str} {px gp ap p1 p2 pos : Pos} {n1 : Nat} {elt : Expr} {scope : Scope} {sep : Str} {ts : List Str} {f : Str → Str} {c P : Addr} {ql : Addr → Pos → Str} (L : GenL S cx ql c P gp)
    (hy : isVar cx.sc y = true) (he : σ y = some (.val (.list (ts.map .str)))) (hok : PyData.strOk (Str.join sep (ts.map f)) = true)
    (hco : scope.isCoroutine = false) (hcl : ∀ env, closureFor scope env = pure []) (hcell : ∀ z ∈ scope.names, z.2 ≠ .cell) (h0 : scope.names.lookup (".0" : Str) = some .local) (hx : scope.names.lookup x = some .local) (hkind : scope.kind = .function)
    (hj : JoinOk sep (ts.map f) = true) (hn : ts.length ≤ sizeLine) (hline : (ap.endLine == pos.line) = true)
    (helt : ∀ (A : Around) (cenv : Env) (E : Value → Shared → Prop) (t : Str) (u : Tok) (s : Shared) (m : Str → Option Value), A.handled = none → cenv.scope = scope → t ∈ ts → s.heap.Ns cenv.locals m → m x = some (.str t u) → wpAny (M S) A (eval elt cenv) (fun v s' => (∃ u', v = .str (f t) u') ∧ Keeps s s') E s) :
    EvS S k cx σ (.Call (.Attribute (.Constant (.str sep) n1 p1) "join" ap) [.GeneratorExp elt [⟨.Name x px, .Name y p2, [], 0⟩] scope gp] [] pos) (.str (Str.join sep (ts.map f))) := by
  intro A env s K Q E ro o fm hq
  refine wpAny_Call_method (T := "str") (id := "str.join") rfl rfl hline methJoin.plain methJoin.slot methJoin.ty (wpAny_Constant_str ?_)
  refine ⟨typeIs_str _ _ _, (fun a e => by cases e), ?_⟩
  have o0 : Ok S K { s with toks := s.toks + 1 } := o.toks
  have l0 : Le S s { s with toks := s.toks + 1 } K K := Le.toks (Nat.le_succ _)
  have fm0 := fm.le o l0
  generalize s.toks = tk0 at o0 l0 fm0 ⊢
  generalize ({ s with toks := tk0 + 1 } : Shared) = s0 at o0 l0 fm0 ⊢
  have fm0' := fm0
  refine elE fm0' fun α fa => ?_
  refine callWith_method1 (wpAny_items_cons (withTk (wpAny_GeneratorExp_walksQD ro.1 hco (hcl env) hcell h0 hx hkind ro.depth (EvS.name hy he _ env s0 K _ E ro o0 fm0 fun v s1 K1 l1 o1 r1 => ?_) (fun _ => rfl))) (starEach_plain rfl _ _)) (starEach_plain rfl _ _) rfl
  (refine elEEEAA r1.list_inv fun a vs n e93 e q => ?_; subst e93)
  have hL := listAt o1 e
  have hne := ne_size o1 e
  refine wpAny_pyIter_list hL ?_
  have hg1 := get_size s1.heap
  have hKI : K1 s1.heap.objs.size = none := o1.noneK hg1
  have hTI : s1.heap.objs.size ∉ S.T := o1.notT hg1
  have hk2 : ∀ b ob, s1.heap.get? b = some ob → (s1.heap.push { cls := .type "list_iterator", data := .fields #[.ref a, .int 0 0] }).get? b = some ob := fun b ob e => Heap.get?_push_of_some _ e
  have o2 : Ok S K1 { s1 with heap := s1.heap.push { cls := .type "list_iterator", data := .fields #[.ref a, .int 0 0] } } := o1.grow (tk := s1.toks) hk2
  have l2 : Le S s1 { s1 with heap := s1.heap.push { cls := .type "list_iterator", data := .fields #[.ref a, .int 0 0] } } K1 K1 := Le.grow (tk := s1.toks) hk2
  have hit : (s1.heap.push { cls := .type "list_iterator", data := .fields #[.ref a, .int 0 0] }).IsListIter s1.heap.objs.size a 0 := ⟨_, Heap.get?_push_size _ rfl, rfl, rfl⟩
  have kn0 : ∀ {K9 : Kn} {s9 : Shared}, Ok S K9 s9 → ∀ b ob, S.K0 b = some ob → s9.heap.get? b = some ob := fun o9 b ob e => K0_get o9 e
  have hst : cStatics < s1.heap.objs.size := by
    obtain ⟨mc, hns, _⟩ := S.noLim _ (kn0 o1)
    exact hns.lt
  generalize hI : s1.heap.objs.size = I at hKI hTI hit hne hst
  refine ⟨S.noLim _ (kn0 o2), genCode o2 (fa.code.1.trans L.code) fa.code.2 L fun cv s3 K3 l3 o3 => ?_⟩
  obtain ⟨bm, ob, hbm, hne0, _, hneP, hbo, hcls, hdict, hdata⟩ := L.blt _ (kn0 o3)
  refine wpAny_builtinsFor (by rw [fa.globals]; exact S.nsG _ (kn0 o3)) hbm hne0 hbo hcls hdict hdata ?_
  have eI3 : s3.heap.IsListIter I a 0 := hit.at fun o e => l3.keep _ _ hTI e
  have eL3 : s3.heap.IsList a vs.toArray := listAt o3 (l3.ext _ _ e)
  have hK3 : K3 I = none := (l3.old I (by obtain ⟨_, e, _⟩ := hit; rw [e]; simp)).trans hKI
  have hIlt : I < s3.heap.objs.size := by obtain ⟨_, e, _⟩ := eI3; exact Heap.lt_size e
  have halt : a < s3.heap.objs.size := by obtain ⟨_, e, _⟩ := eL3; exact Heap.lt_size e
  have hstr : ∀ (i : Nat) (w : Value), vs.toArray[i]? = some w → ∃ t u, ts[i]? = some t ∧ w = .str t u := fun i w hw => by
    have hw' : vs[i]? = some w := by simpa using hw
    have hi : i < ts.length := by have := (List.getElem?_eq_some_iff.mp hw').1; rw [q.len, List.length_map] at this; exact this
    have hd : (ts.map D.str)[i]? = some (.str ts[i]) := by rw [List.getElem?_map, List.getElem?_eq_getElem hi]; rfl
    refine elEA (q.all i w _ hw' hd).str_inv fun u e _ => ?_
    exact ⟨ts[i], u, List.getElem?_eq_getElem hi, e⟩
  have l03 := Le.trans o0 o2 (Le.trans o0 o1 l1 l2) l3
  refine ⟨I, [I, a], [I], vs.toArray.size, _, _, fun _ => true, fun i w => ∃ t u, ts[i]? = some t ∧ w = .str (f t) u, rfl, fun A' hA => Walks.list hA _ _ hne vs.toArray, ⟨eI3, eL3⟩, fun b hb => ?_, S.noLim _ (kn0 o3), fun hm => ?_, fun href hhref => ⟨fun A' E' i v s9 m9 hA _ _ hP hN hm hk9 => ?_, fun A' E' i v s9 m9 hA _ _ hP _ hN hm hk9 => ?_⟩, fun g h5 tk gs hgb hlt hsz hk5 W hat htk => ?_⟩
  · simp only [List.mem_cons, List.not_mem_nil, or_false] at hb
    rcases hb with rfl | rfl
    · exact hIlt
    · exact halt
  · rw [List.mem_singleton.mp hm] at hst
    exact absurd hst (Nat.lt_irrefl _)
  · rw [List.forIn_nil]
    exact wpAny_pure ⟨rfl, _, _, rfl, fun _ _ e => e⟩
  · refine elEEA (hstr i v hP) fun t u ht e9 => ?_
    subst e9
    exact wpAny_mono (helt A' _ E' t u s9 m9 hA rfl (List.mem_of_getElem? ht) hN hm) (fun w s' hw => ⟨let ⟨u', e⟩ := hw.1; ⟨t, u', ht, e⟩, hw.2⟩) fun _ _ e => e
  · have hsz5 : ts.length = vs.toArray.size := by rw [List.size_toArray, q.len, List.length_map]
    rw [passAll] at W
    refine wpAny_items_nil ?_
    rw [List.length_range] at W
    refine withTk (SC.joinGen W.in4_2 (fun i s9 st => st.1.typeIs) hat (fun b hb => ?_) (.head _) (fun i v hv => ?_) (fun s' l hm hacc => ?_) (by rw [← hsz5]; exact hn))
    · show b < h5.objs.size
      rw [hsz]
      rcases List.mem_cons.mp hb with rfl | hb
      · exact Nat.lt_succ_self _
      · rcases List.mem_cons.mp hb with rfl | hb
        · exact Nat.lt_succ_of_lt hlt
        · exact Nat.lt_succ_of_lt (Nat.lt_trans (List.mem_range.mp hb) hlt)
    · obtain ⟨j, _, t, u, _, e9⟩ := hv
      exact ⟨_, u, e9⟩
    have hl : l.map (·.1) = ts.map f := by
      apply List.ext_getElem?
      intro j
      have hs9 : l.length = vs.toArray.size := by simpa [strValues] using hacc.1
      by_cases hj9 : j < l.length
      · obtain ⟨i, hi, t, u, ht, e9⟩ := hacc.2 j (.str l[j].1 l[j].2) (by simp [strValues, List.getElem?_eq_getElem hj9])
        have hij : j = i := by
          rw [List.getElem?_range (by rw [← hs9]; exact hj9)] at hi
          exact Option.some.inj hi
        subst hij
        injection e9 with h1 _
        rw [List.getElem?_map, List.getElem?_map, List.getElem?_eq_getElem hj9, ht]
        exact congrArg some h1
      · rw [List.getElem?_eq_none (by rw [List.length_map]; exact Nat.le_of_not_lt hj9), List.getElem?_eq_none (by rw [List.length_map, hsz5, ← hs9]; exact Nat.le_of_not_lt hj9)]
    refine ⟨by rw [hl]; exact hj, fun t' k' htk9 => ?_⟩
    · rw [hl, joinEq]
      have hmv : ∀ b ob, b ≠ s3.heap.objs.size → b ≠ I → s3.heap.get? b = some ob → s'.heap.get? b = some ob := fun b ob h1 h2 e => hm.heap b ob (by simp [h1, h2]) (hk5 b ob e)
      have hmK : ∀ b ob, K3 b = some ob → s'.heap.get? b = some ob := fun b ob e => hmv b ob (Nat.ne_of_lt (Heap.lt_size (o3.kn b ob e))) (fun q => by rw [q, hK3] at e; exact nsm e) (o3.kn b ob e)
      refine hq _ _ K3 ⟨fun b ob hb e9 => ?_, Kn.le_trans l0.ext l03.ext, fun b hb => ?_, ?_⟩ ⟨hmK, o3.base, fun P2 hP2 => ?_, ?_, ?_⟩ (.str _ hok)
      · have e1 := l1.keep b ob hb (l0.keep b ob hb e9)
        have e3 := l03.keep b ob hb (l0.keep b ob hb e9)
        exact hmv b ob (Nat.ne_of_lt (Heap.lt_size e3)) (fun q => by rw [q, ← hI, hg1] at e1; exact nsm e1) e3
      · refine (l03.old b fun e9 => hb ?_).trans (l0.old b hb)
        cases e8 : s.heap.get? b with
        | none => rfl
        | some ob =>
          by_cases hT : b ∈ S.T
          · obtain ⟨_, ps, e7, _⟩ := o0.tabs b hT
            rw [e9] at e7; exact nsm e7
          · rw [l0.keep b ob hT e8] at e9; exact snm e9
      · exact Nat.le_trans l0.tok (Nat.le_trans htk htk9)
      · obtain ⟨h1, ps, e9, t9⟩ := o3.tabs P2 hP2
        exact ⟨h1, ps, hmv P2 _ (Nat.ne_of_lt (Heap.lt_size e9)) (fun q => hTI (q ▸ hP2)) e9, t9⟩
      · exact (show AllBare s'.gens from AllBare.movedS (AllBare.push o3.bare hgb) hm)
      · exact hm.os.trans o3.os
end Mine
namespace Mine
variable {S : Sys} {k : Nat} {cx : Cx} {σ : Sto}
noncomputable def noOcc (x y : Str) : Bool := (Builtin.Str.occurrences x y 0 x.length (x.length + 1)).isEmpty
theorem replNone {A : Around} {s : Shared} {E : Value → Shared → Prop} {x y z : Str} {t u v : Tok} {Q : Value → Shared → Prop} (h : noOcc x y = true) (hq : Q (.str x t) s) : wpAny (M S) A (call (.builtin "str.replace") [.str x t, .str y u, .str z v]) Q E s := by
  have h' : ((Builtin.Str.occurrences x y 0 x.length (x.length + 1)).isEmpty || (y.length == 0 && z.length == 0)) = true := by
    rw [show (Builtin.Str.occurrences x y 0 x.length (x.length + 1)).isEmpty = true from h]; rfl
  refine PySem.call_gives F.slot_str_replace (typeIs_str _ _ _) F.entry_str_replace (F.args_str_replace_3 _ _ _) (gives_str_replace x y z t u v fun e => by rw [h'] at e; exact tf e) ?_
  rw [if_pos h']
  exact hq
theorem eltRepl {A : Around} {cenv : Env} {E : Value → Shared → Prop} {scope : Scope} {t x y1 z1 y2 z2 : Str} {u : Tok} {s : Shared} {m : Str → Option Value} {px a1 a2 q1 q2 p1 p2 p3 p4 : Pos} {n1 n2 n3 n4 : Nat}
    (hs : cenv.scope = scope) (hkind : scope.kind = .function) (hx : scope.names.lookup x = some .local) (hd : (x == ("__debug__" : Str)) = false) (hN : s.heap.Ns cenv.locals m) (hm : m x = some (.str t u))
    (h1 : noOcc t y1 = true) (h2 : (y2 == z2) = false) (hb : t.length + (t.length + 1) * z2.length ≤ 16777216) (hl1 : (a1.endLine == q1.line) = true) (hl2 : (a2.endLine == q2.line) = true) :
    wpAny (M S) A (eval (.Call (.Attribute (.Call (.Attribute (.Name x px) "replace" a1) [.Constant (.str y1) n1 p1, .Constant (.str z1) n2 p2] [] q1) "replace" a2) [.Constant (.str y2) n3 p3, .Constant (.str z2) n4 p4] [] q2) cenv) (fun v s' => (∃ u', v = .str (Txt.replace t y2 z2) u') ∧ Keeps s s') E s := by
  refine wpAny_Call_method (T := "str") (id := "str.replace") rfl rfl hl2 methReplace.plain methReplace.slot methReplace.ty ?_
  refine wpAny_Call_method (T := "str") (id := "str.replace") rfl rfl hl1 methReplace.plain methReplace.slot methReplace.ty ?_
  refine wpAny_Name (wpAny_loadName_local (by rw [hs]; exact hkind) (by unfold Env.kindOf; rw [hs]; exact hx) hN hm ?_) hd
  refine ⟨typeIs_str _ _ _, (fun a e => by cases e), ?_⟩
  refine callWith_method1 (wpAny_items_cons (wpAny_Constant_str (wpAny_items_cons (wpAny_Constant_str (wpAny_items_nil ?_)) (starEach_plain rfl _ _))) (starEach_plain rfl _ _)) (starEach_plain rfl _ _) rfl
  refine replNone h1 ?_
  refine ⟨typeIs_str _ _ _, (fun a e => by cases e), ?_⟩
  refine callWith_method1 (wpAny_items_cons (wpAny_Constant_str (wpAny_items_cons (wpAny_Constant_str (wpAny_items_nil ?_)) (starEach_plain rfl _ _))) (starEach_plain rfl _ _)) (starEach_plain rfl _ _) rfl
  refine SC.replace (tok_ne0 (Nat.le_add_left _ _)) (tok_ne0 (Nat.le_add_left _ _)) (fun e => absurd (show s.toks + 1 + 1 = s.toks + 1 + 1 + 1 from e) (by lia)) h2 hb fun t' k' => ⟨⟨t', rfl⟩, _, _, rfl, fun _ _ e => e⟩
end Mine
namespace Mine
variable {S : Sys} {k : Nat} {cx : Cx} {σ : Sto}
theorem occ_none (x y : Str) (j : Nat) (hy : 0 < y.length) : Builtin.Str.occurrences x y j j 1 = [] := by
  unfold Builtin.Str.occurrences
  simp
  rw [if_neg fun h => by lia]
  rfl
theorem gives_find4 (x y : Str) (i : Int) (j : Nat) (t u v w : Tok) (hi : fromIndex x.length i = j) (hj : j ≤ x.length) (hy : 0 < y.length) : Gives (Builtin.«str.find» ⟨[.str x t, .str y u, .int i v, .int i w], []⟩) (.int (-1)) := by
  show Gives (match Builtin.Str.occurrences x y (fromIndex x.length i) (min (fromIndex x.length i) x.length) 1 with | k :: _ => retInt k | [] => (do rule "str.find.not-found"; retInt (-1))) _
  rw [hi, Nat.min_eq_left hj, occ_none x y j hy]
  exact .rule (.of_eq rfl)
theorem CalS.find4 {x y : Str} {j : Nat} (hj : j ≤ x.length) (hy : 0 < y.length) : CalS S k (.builtin "str.find") [.str x, .str y, .int (j : Nat), .int (j : Nat)] (.int (-1)) := by
  intro A s K vs Q E ro o r h
  (refine elEEAA r.cons_inv fun v vs1 e93 rv r2 => ?_; subst e93)
  (refine elEEEAAA (three_inv r2) fun u z w e93 ru rz rw => ?_; subst e93)
  (refine elEA rv.str_inv fun t e91 _ => ?_; subst e91)
  (refine elEA ru.str_inv fun t' e91 _ => ?_; subst e91)
  (refine elE rz.int_inv fun t2 e91 => ?_; subst e91)
  (refine elE rw.int_inv fun t3 e91 => ?_; subst e91)
  refine call_gives F.slot_str_find (typeIs_str _ _ _) F.entry_str_find (F.args_str_find_4 _ _ _ _) (gives_find4 x y j j t t' t2 t3 ?_ hj hy) (h _ _ K Le.toks o.toks (.int _ _))
  unfold fromIndex
  rw [if_neg (by lia)]
  lia
end Mine
namespace Mine
variable {S : Sys} {k : Nat} {cx : Cx} {σ : Sto}
theorem eqv_ints (a b : Nat) : eqvD (dN a) (dN b) = (a == b) := by
  show decide ((a : Int) = (b : Int)) = (a == b)
  by_cases h : a = b
  · subst h; simp
  · have : ¬ (a : Int) = (b : Int) := fun e => h (Int.ofNat_inj.mp e)
    simp [h, this]
theorem eqvAll_map {α : Type} [BEq α] [LawfulBEq α] (f : α → D) (hf : ∀ a b, eqvD (f a) (f b) = (a == b)) : ∀ xs ys : List α, PyData.eqvAll (toPs (xs.map f)) (toPs (ys.map f)) = (xs == ys)
  | [], [] => rfl
  | [], y :: ys => rfl
  | x :: xs, [] => rfl
  | x :: xs, y :: ys => by
    simp only [List.map_cons, toPs, PyData.eqvAll, eqvAll_map f hf xs ys]
    rw [show PyData.eqv (toP (f x)) (toP (f y)) = (x == y) from hf x y]
    rfl
theorem eqv_list {α : Type} [BEq α] [LawfulBEq α] {f : α → D} (hf : ∀ a b, eqvD (f a) (f b) = (a == b)) (xs ys : List α) : eqvD (.list (xs.map f)) (.list (ys.map f)) = (xs == ys) := by
  show PyData.eqv (.list _) (.list _) = _
  rw [PyData.eqv]
  exact eqvAll_map f hf xs ys
theorem eqv_tx (a b : List Nat) : eqvD (.str (tx a)) (.str (tx b)) = (a == b) := by
  show PyData.eqv (.str _) (.str _) = _
  rw [PyData.eqv]
  exact tx_beq a b
theorem eqv_bool (a b : Bool) : eqvD (.bool a) (.bool b) = (a == b) := by
  cases a <;> cases b <;> rfl
theorem okD_list {α : Type} {n : Nat} {f : α → D} (hf : ∀ a, okD n (f a) = true) (xs : List α) : okD (n + 1) (.list (xs.map f)) = true := by
  show (xs.map f).all (okD n) = true
  rw [List.all_map]
  exact List.all_eq_true.mpr fun a _ => hf a
theorem okD_dN (n : Nat) (a : Nat) : okD n (dN a) = true := by cases n <;> rfl
theorem okD_str (n : Nat) (a : Str) : okD n (.str a) = true := by cases n <;> rfl
theorem any_map {α : Type} [BEq α] [LawfulBEq α] {f : α → D} (hf : ∀ a b, eqvD (f a) (f b) = (a == b)) (xs : List α) (x : α) : ((xs.map f).any fun e => eqvD e (f x)) = xs.contains x := by
  rw [List.any_map, List.contains_eq_any_beq]
  congr 1
  funext y
  show eqvD (f y) (f x) = (x == y)
  rw [hf, BEq.comm]
noncomputable abbrev sD (t : List Nat) : D := .str (tx t)
noncomputable abbrev nsD (ns : List Nat) : D := .list (ns.map dN)
noncomputable abbrev rowD (r : List (List Nat)) : D := .list (r.map sD)
theorem CmpS.inTx {a : List Nat} {c : Nat} : CmpS S k .In (.str (tx [c])) (.str (tx a)) (a.contains c) := by
  have := CmpS.inStr (S := S) (k := k) (a := tx [c]) (b := tx a)
  rwa [contains_tx] at this
theorem CmpS.inRow {a : List Nat} {r : List (List Nat)} : CmpS S k .In (sD a) (rowD r) (r.contains a) := by
  have := CmpS.isIn (S := S) (k := k) (d1 := sD a) (ds := r.map sD) rfl (okD_list (fun b => okD_str 7 _) r)
  rwa [any_map eqv_tx] at this
theorem CmpS.inNs {a : Nat} {r : List Nat} : CmpS S k .In (dN a) (nsD r) (r.contains a) := by
  have := CmpS.isIn (S := S) (k := k) (d1 := dN a) (ds := r.map dN) rfl (okD_list (fun b => okD_dN 7 _) r)
  rwa [any_map eqv_ints] at this
end Mine
namespace Mine
variable {S : Sys} {k : Nat} {cx : Cx} {σ : Sto}
theorem Ex1.ifB {t : Expr} {b e : List Stmt} {pos : Pos} {fl : Fl} {c : Bool} {σ' : Sto} (h : EvT S k cx σ t c) (ht : c = true → ExS S k cx σ b fl σ') (hf : c = false → ExS S k cx σ e fl σ') : Ex1 S k cx σ (.If t b e pos) fl σ' := by
  cases c with
  | true => exact Ex1.if_true h (ht rfl)
  | false => exact Ex1.if_false h (hf rfl)
noncomputable def brk (b : Bool) (c : Nat) : It := match b with
  | true => .bar c
  | false => .br c
noncomputable def preB (b : Bool) : List Nat := match b with
  | true => [33]
  | false => []
noncomputable def e1B (c : Nat) : List Nat := if [92, 45].contains c then [92, c] else [c]
noncomputable def outB (b : Bool) (c : Nat) : List Nat := match b with
  | true => 94 :: insP c
  | false => ins2 c
theorem It.split {motive : It → Prop} (star : motive .star) (any : motive .any) (lit : ∀ c, motive (.lit c)) (br : ∀ b c, motive (brk b c)) : ∀ x, motive x
  | .star => star
  | .any => any
  | .lit c => lit c
  | .bar c => br true c
  | .br c => br false c
theorem brk_itP (b : Bool) (c : Nat) : itP (brk b c) = 91 :: ((preB b ++ [c]) ++ [93]) := by cases b <;> rfl
theorem brk_add (acc : List (Option (List Nat))) (b : Bool) (c : Nat) : addP acc (brk b c) = acc ++ [some ([91] ++ outB b c ++ [93])] := by cases b <;> rfl
theorem brk_ok {b : Bool} {c : Nat} (h : itOk (brk b c) = true) : sgn c = true := by cases b <;> exact h
theorem brk_nb (b : Bool) : (b = true → (preB b).length = 1) ∧ (b = false → (preB b).length = 0) := by cases b <;> decide
theorem brk_con (b : Bool) (c : Nat) : (preB b ++ [c]).contains 45 = (c == 45) := by
  have h : decide (45 = c) = (c == 45) := by rw [Bool.eq_iff_iff, decide_eq_true_eq, beq_iff_eq]; exact eq_comm
  cases b <;> simp [preB, h]
theorem brk_tail (b : Bool) (h : b = true) (l : List Nat) : (preB b ++ l).drop 1 = l := by subst h; rfl
theorem IterS.none0 : IterS S (.range 0 0 (-1)) [] := IterS.range (a := 0) (b := 0) (c := -1) (n := 0) (by decide) (by decide)
theorem brk_f94 (b : Bool) (c : Nat) (hb : b = false) (h : (b = false → (([94, 91].contains ((preB b ++ insP c).getD 0 0)) = true ↔ c = 94))) : ([D.str (Str.ofString "^"), D.str (Str.ofString "[")].any fun e => eqvD e (.str (tx [(preB b ++ insP c).getD 0 0]))) = (c == 94) := by
  have h := h hb
  generalize (preB b ++ insP c).getD 0 0 = z at h
  rw [show [D.str (Str.ofString "^"), D.str (Str.ofString "[")] = [[94], [91]].map (fun l => D.str (tx l)) from rfl, any_map eqv_tx, Bool.eq_iff_iff, beq_iff_eq, ← h]
  simp
noncomputable def sgL : List Nat := [97, 98, 99, 46, 43, 94, 36, 40, 41, 123, 125, 124, 38, 126, 35, 45, 92]
theorem sgn_in {c : Nat} (h : sgn c = true) : c ∈ sgL := sg_in h
theorem brk_c : ∀ c ∈ sgL, c < 128 ∧ c ≠ 93 ∧ c ≠ 33 ∧ c ≠ 91 := by decide
theorem brk_rep : ∀ c ∈ sgL, c ≠ 45 → ∀ b, Txt.replace (tx (preB b ++ [c])) (Str.ofString "\\") (Str.ofString "\\\\") = tx (preB b ++ e1B c) := by decide +kernel
theorem brk_dash : ∀ b, noOcc (tx (preB b ++ [45])) (Str.ofString "\\") = true ∧ Txt.replace (tx (preB b ++ [45])) (Str.ofString "-") (Str.ofString "\\-") = tx (preB b ++ e1B 45) := by decide +kernel
theorem brk_one : ∀ c ∈ [38, 126, 124], ∀ b, oneFind (preB b ++ [c]) (preB b).length = true ∧ e1B c = [c] ∧ insP c = [92, c] := by decide +kernel
theorem brk_none : ∀ c ∈ sgL, c ∉ [38, 126, 124] → ∀ b, noFind (preB b ++ e1B c) = true ∧ insP c = e1B c := by decide +kernel
theorem brk_out : ∀ c ∈ sgL, ∀ b, 0 < (preB b ++ insP c).length ∧ (preB b ++ insP c).length ≤ 3 ∧ ((preB b ++ insP c) == [33]) = false ∧ (([(preB b ++ insP c).getD 0 0] : List Nat) == [33]) = b ∧ (b = false → (([94, 91].contains ((preB b ++ insP c).getD 0 0)) = true ↔ c = 94)) := by decide +kernel
theorem brk_small : ∀ c ∈ sgL, ∀ b, (∀ z ∈ preB b ++ e1B c, z < 128) ∧ (preB b ++ e1B c).length ≤ 3 ∧ (∀ z ∈ preB b ++ insP c, z < 128) ∧ (outB b c).length ≤ 3 ∧ preB b ++ e1B c ≠ [] ∧ (preB b).length ≤ 1 := by decide +kernel
theorem brk_94 : insP 94 = [94] ∧ ins2 94 = [92, 94] ∧ ∀ c ∈ sgL, c ≠ 94 → ins2 c = insP c := by decide +kernel
end Mine
namespace Mine
variable {S : Sys} {k : Nat} {cx : Cx} {σ : Sto}
theorem ExP.forStr {t iter : Expr} {body rest : List Stmt} {pos : Pos} {x : Str} {P} (st9 : Nat → Sto) (h : EvS S k cx σ iter (.str x)) (ha : x.cps.all (· < 128) = true) (h1 : 1 ≤ cx.tk) (h0 : (st9 0).sub σ)
    (hb9 : ∀ (i c n : Nat), x.cps.toList[i]? = some c → cx.tk ≤ n → ∃ b, BindS S k cx t (.tstr (sign c) n) (st9 i) b ∧ ExP S k (cx.tick (n + 1)) b body (WhP S k cx (st9 (i + 1)).sub rest P)) (hend : ExP S k cx (st9 x.length) rest P)
    (hs : ∀ (env : Env) (x : Value), foldedSetIterable iter env x = pure x := by intro _ _; rfl) : ExP S k cx σ (.For t iter body [] pos :: rest) P := by
  refine ExP.cons fun A env B K₀ s K Q E ro f hq => ?_
  refine forW (h A env s K _ E ro f.ok f.fm fun v s1 K1 l1 o1 r1 => ?_) (hs env)
  have f1 := f.le l1 o1
  (refine elEA r1.str_inv fun u e91 hx => ?_; subst e91)
  refine wpAny_pyIter_ascii ha ?_
  generalize hob : ({ cls := .type "str_ascii_iterator", data := .fields #[.str x u, .int 0 0] } : Obj) = ob
  have st0 : (s1.heap.push ob).IsStrIter s1.heap.objs.size "str_ascii_iterator" x u 0 := hob ▸ ⟨_, Heap.get?_push_size _ rfl, rfl, rfl⟩
  generalize hI : s1.heap.objs.size = I at st0 ⊢
  have hnew : s1.heap.get? I = none := hI ▸ get_size _
  have hT : I ∉ S.T := o1.notT hnew
  have hB : B I = none := by
    cases e : B I with
    | none => rfl
    | some o =>
      (refine elE f1 fun α f1' => ?_; try clear f1)
      rw [f1'.keep I o e hT] at hnew; exact snm hnew
  have hKI : K1 I = none := o1.noneK hnew
  have hlen : x.cps.toList.length = x.length := by simp [Str.length]
  refine forLoopL (E9 := E) (fun n s' => ∃ (Kᵢ : Kn) (i : Nat), i ≤ x.length ∧ n = x.length - i ∧ FrI S cx env (st9 i) B K₀ s' Kᵢ ∧ s'.heap.IsStrIter I "str_ascii_iterator" x u i ∧ K1.le Kᵢ ∧ Kᵢ I = none) ?_ x.length
    ⟨K1, 0, by exact Nat.zero_le _, by assumption, (f1.weak h0).grow (h' := s1.heap.push ob) (tk := s1.toks) (fun _ _ e => Heap.get?_push_of_some _ e), st0, K1.le_refl, hKI⟩
  rintro n s2 ⟨Kᵢ, i, hi', rfl, f2, st2, hle, hKi⟩
  have isF : ∀ {j h'}, h'.IsStrIter I "str_ascii_iterator" x u j → IsF h' I := fun st => let ⟨o, e, _, hd⟩ := st; ⟨o, _, e, hd⟩
  by_cases hlt : i < x.length
  · have hlt' : i < x.cps.size := hlt
    have hc : x.cps[i]? = some x.cps[i] := Array.getElem?_eq_getElem hlt'
    refine wpAny_pyNext_ascii_item st2 hc fun h3 st3 hs3 => ?_
    have hk3' : ∀ b ob, b ≠ I → s2.heap.get? b = some ob → h3.get? b = some ob := fun b ob hb e => (hs3.2 b hb).trans e
    have ht2 : cx.tk ≤ s2.toks := let ⟨_, fm⟩ := f2.fm; fm.tok
    have f3 := f2.ext1 (h' := h3) (tk := s2.toks + 1) (isF st2) hKi hT hB (Nat.le_succ _) hk3'
    have rd' : Rep S Kᵢ (.str ⟨#[x.cps[i]]⟩ s2.toks) (.tstr (sign x.cps[i]) s2.toks) := .tstr _ (strOk_sign hx hc) (tok_ne0 (by exact Nat.le_trans ‹_› ‹_›))
    refine ownedGo ?_ ?_
    · (refine elEAA st3 fun o e hcc hd => ?_; try clear st3)
      exact ⟨o, _, _, e, hd, hcc, by decide⟩
    refine elEEA (isF st3) fun o3 vs3 e3 hd3 => ?_
    have f3w := f3.watch e3 hd3
    refine elE f3w fun α3 f3w => ?_
    have keepSt : ∀ {s' K'} {σ9 : Sto}, FrI S cx env σ9 (B.add I o3) Kᵢ s' K' → s'.heap.IsStrIter I "str_ascii_iterator" x u (i + 1) := fun f9 => by
      refine elE f9 fun α f9 => ?_
      (refine elEA st3 fun o e r => ?_; try clear st3)
      have := f9.keep I o3 (Kn.add_self ..) hT
      have e33 : o = o3 := Option.some.inj (e.symm.trans e3)
      subst e33
      exact ⟨o, this, r⟩
    have noneI : ∀ {s' K'} {σ9 : Sto}, FrI S cx env σ9 (B.add I o3) Kᵢ s' K' → K' I = none ∧ Kᵢ.le K' := fun f9 => by
      refine elE f9 fun α f9 => ?_
      exact ⟨(f9.old I (by rw [Kn.add_self]; simp)).trans hKi, f9.ext⟩
    have hc' : x.cps.toList[i]? = some x.cps[i] := by simp
    refine elEA (hb9 i x.cps[i] s2.toks hc' ht2) fun b9 hb hx9 => ?_
    refine withTk (hb A env _ Kᵢ _ Kᵢ _ α3 _ _ ro f3w rd' fun s4 f4 htk4 => ?_)
    have f4t : FrA S (cx.tick (s2.toks + 1)) env b9 (B.add I o3) Kᵢ s4 Kᵢ α3 := f4.tick htk4
    refine hx9 A env _ Kᵢ s4 Kᵢ _ _ ro ⟨α3, f4t⟩ fun fl' fl σ5 s5 K5 hp f5t hfl => ?_
    have f5 : FrI S cx env σ5 (B.add I o3) Kᵢ s5 K5 := let ⟨α5, q⟩ := f5t; ⟨α5, q.untick (by exact Nat.le_succ_of_le ‹_›)⟩
    refine elA (noneI f5) fun n1 n2 => ?_
    cases fl with
    | next =>
      subst hfl
      exact ⟨_, by lia, K5, i + 1, by assumption, rfl, FrI.unwatch f3 (f5.weak hp) hB, keepSt f5, Kn.le_trans hle n2, n1⟩
    | cont =>
      subst hfl
      exact ⟨_, by lia, K5, i + 1, by assumption, rfl, FrI.unwatch f3 (f5.weak hp) hB, keepSt f5, Kn.le_trans hle n2, n1⟩
    | brk => subst hfl; exact hq _ .next _ s5 K5 hp (FrI.unwatch f3 f5 hB) rfl
    | ret x =>
      (refine elEA hfl fun u e91 ru => ?_; try clear hfl; subst e91)
      exact hq _ (.ret x) _ s5 K5 hp (FrI.unwatch f3 f5 hB) ⟨u, rfl, ru⟩
  · have hn : i = x.length := by lia
    subst hn
    refine wpAny_pyNext_ascii_end ro.1 st2 (Array.getElem?_eq_none (Nat.le_refl _)) fun h3 he3 => ?_
    have hk3 : ∀ b ob, b ≠ I → s2.heap.get? b = some ob → h3.get? b = some ob := fun b ob hb e => he3 b ob hb e
    exact wpAny_execs_nil (hq _ .next _ _ Kᵢ hend (f2.ext1 (h' := h3) (tk := s2.toks) (isF st2) hKi hT hB (Nat.le_refl _) hk3) rfl)
end Mine
namespace Mine
theorem getD_get {α : Type} {l : List α} {q : Nat} {d : α} (h : q < l.length) : l[q]? = some (l.getD q d) := by
  rw [List.getD_eq_getElem?_getD, List.getElem?_eq_getElem h]; rfl
variable {rows ons : List (List (List Nat))}
end Mine
namespace Mine
theorem fmod_lt {x : Int} {n : Nat} (h : 0 < n) : x.fmod n = ((x.fmod n).toNat : Int) ∧ (x.fmod n).toNat < n := by
  have h1 : 0 ≤ x.fmod (n : Int) := Int.fmod_nonneg_of_pos x (by lia)
  have h2 : x.fmod (n : Int) < n := Int.fmod_lt_of_pos x (by lia)
  exact ⟨(Int.toNat_of_nonneg h1).symm, (Int.toNat_lt h1).mpr h2⟩
theorem BinS.addTx {S : Sys} {k : Nat} {a b : List Nat} (h : a.length + b.length ≤ 2 ^ 24) : BinS S k .Add (sD a) (sD b) (sD (a ++ b)) := by
  have := BinS.addStr (S := S) (k := k) (a := tx a) (b := tx b) (by rw [tx_len, tx_len, sizeLine_eq]; assumption)
  rwa [tx_append] at this
end Mine
namespace Mine
noncomputable abbrev Rul := Bool × (Str → Int)
noncomputable def alw (x : Str) (a : Int × Bool) (r : Rul) : Int × Bool :=
  if r.2 x = 0 then a else if a.1 < r.2 x then (r.2 x, r.1) else if r.2 x = a.1 ∧ a.2 = false then (a.1, r.1) else a
noncomputable def alwF (x : Str) (rs : List Rul) : Bool := (rs.foldl (alw x) (-1, true)).2
end Mine
namespace Mine
noncomputable def Mt : List (List Nat) → List Nat → Prop
  | [], w => w = []
  | g :: gs, w => if g = [42] then ∃ u v, w = u ++ v ∧ Mt gs v else ∃ c v, w = c :: v ∧ c ∈ g ∧ Mt gs v
theorem Mt_star {gs : List (List Nat)} {w : List Nat} : Mt ([42] :: gs) w ↔ ∃ u v, w = u ++ v ∧ Mt gs v := by
  rw [Mt, if_pos rfl]
theorem Mt_one {g : List Nat} {gs : List (List Nat)} {w : List Nat} (h : g ≠ [42]) : Mt (g :: gs) w ↔ ∃ c v, w = c :: v ∧ c ∈ g ∧ Mt gs v := by
  rw [Mt, if_neg h]
theorem Mt_app : ∀ (l1 l2 : List (List Nat)) (w : List Nat), Mt (l1 ++ l2) w ↔ ∃ u v, w = u ++ v ∧ Mt l1 u ∧ Mt l2 v
  | [], l2, w => ⟨fun h => ⟨[], w, rfl, rfl, h⟩, fun ⟨u, v, h, h1, h2⟩ => by subst h1; subst h; exact h2⟩
  | g :: l1, l2, w => by
    rw [List.cons_append]
    by_cases hg : g = [42]
    · subst hg
      rw [Mt_star]
      constructor
      · intro q9; (refine elEEA q9 fun u v e92 h => ?_; try clear q9; subst e92)
        (refine elEEAA ((Mt_app l1 l2 v).mp h) fun u' v' e92 h1 h2 => ?_; subst e92)
        exact ⟨u ++ u', v', by simp, Mt_star.mpr ⟨u, u', rfl, h1⟩, h2⟩
      · intro q9; (refine elEEAA q9 fun u v e92 h1 h2 => ?_; try clear q9; subst e92)
        (refine elEEA (Mt_star.mp h1) fun a b e92 h3 => ?_; subst e92)
        exact ⟨a, b ++ v, by simp, (Mt_app l1 l2 _).mpr ⟨b, v, rfl, h3, h2⟩⟩
    · rw [Mt_one hg]
      constructor
      · intro q9; (refine elEEAA q9 fun c v e92 hc h => ?_; try clear q9; subst e92)
        (refine elEEAA ((Mt_app l1 l2 v).mp h) fun u' v' e92 h1 h2 => ?_; subst e92)
        exact ⟨c :: u', v', rfl, (Mt_one hg).mpr ⟨c, u', rfl, hc, h1⟩, h2⟩
      · intro q9; (refine elEEAA q9 fun u v e92 h1 h2 => ?_; try clear q9; subst e92)
        (refine elEEAA ((Mt_one hg).mp h1) fun c b e92 hc h3 => ?_; subst e92)
        exact ⟨c, b ++ v, rfl, hc, (Mt_app l1 l2 _).mpr ⟨b, v, rfl, h3, h2⟩⟩
theorem Mt_snoc_star {l : List (List Nat)} {w : List Nat} : Mt (l ++ [[42]]) w ↔ ∃ u v, w = u ++ v ∧ Mt l u := by
  rw [Mt_app]
  constructor
  · intro q9; (refine elEEAA q9 fun u v e92 h _ => ?_; try clear q9; subst e92); exact ⟨u, v, rfl, h⟩
  · intro q9; (refine elEEA q9 fun u v e92 h => ?_; try clear q9; subst e92); exact ⟨u, v, rfl, h, Mt_star.mpr ⟨v, [], by simp, rfl⟩⟩
theorem Mt_snoc_one {l : List (List Nat)} {g w : List Nat} (hg : g ≠ [42]) : Mt (l ++ [g]) w ↔ ∃ u c, w = u ++ [c] ∧ c ∈ g ∧ Mt l u := by
  rw [Mt_app]
  constructor
  · intro q9; (refine elEEAA q9 fun u v e92 h h2 => ?_; try clear q9; subst e92)
    (refine elEEAA ((Mt_one hg).mp h2) fun c v e92 hc h3 => ?_; subst e92)
    subst h3
    exact ⟨u, c, rfl, hc, h⟩
  · intro q9; (refine elEEAA q9 fun u c e92 hc h => ?_; try clear q9; subst e92); exact ⟨u, [c], rfl, h, (Mt_one hg).mpr ⟨c, [], rfl, hc, rfl⟩⟩
end Mine
namespace Mine
set_option genInjectivity false in
structure Atm (name t g : List Nat) : Prop where
  hd : ∀ rest : List Nat, ((t ++ rest).head? ≠ some 42) ∧ t ≠ []
  c1 : ∀ rest : List Nat, rest.head? ≠ some 42 → ((t ++ rest).take 6 == [40, 63, 62, 46, 42, 63]) = false ∧ ((t ++ rest).take 1 == [41]) = false ∧ ((t ++ rest).take 2 == [46, 42]) = false ∧ atomLen (t ++ rest) = t.length
  rd : ∀ c ∈ name, readsP (tx t) (tx [c]) = g.contains c
  st : g ≠ [42]
noncomputable abbrev At2 := List Nat × List Nat
noncomputable def atB (name : List Nat) : List (List Nat) → Nat → Bool
  | [], _ => true
  | g :: F, i => (decide (i < name.length) && g.contains (name.getD i 0)) && atB name F (i + 1)
theorem Mt_len : ∀ (F : List (List Nat)) (a : List Nat), (∀ g ∈ F, g ≠ [42]) → Mt F a → a.length = F.length
  | [], a, _, h => by subst h; rfl
  | g :: F, a, hF, h => by
    obtain ⟨c, a', rfl, _, h⟩ := (Mt_one (hF g (by exact List.Mem.head _))).mp h
    simp [Mt_len F a' (fun g h => hF g (List.mem_cons_of_mem _ h)) h]
noncomputable def advA (name : List Nat) : List (List Nat) → List Nat → List Nat
  | [], ways => ways
  | g :: F, ways => advA name F ((ways.filter fun w => decide (w < name.length) && g.contains (name.getD w 0)).map (· + 1))
theorem advA_eq (name : List Nat) : ∀ (F : List (List Nat)) (ways : List Nat), advA name F ways = (ways.filter (atB name F)).map (· + F.length)
  | [], ways => by
    simp only [advA, List.length_nil, Nat.add_zero]
    have e : ways.filter (atB name []) = ways := List.filter_eq_self.mpr fun _ _ => rfl
    rw [e]
    simp
  | g :: F, ways => by
    rw [advA, advA_eq name F, List.filter_map, List.filter_filter, List.map_map]
    have e1 : (fun a => (atB name F ∘ fun x => x + 1) a && (decide (a < name.length) && g.contains (name.getD a 0))) = atB name (g :: F) := by
      funext a
      simp only [Function.comp, atB]
      rw [Bool.and_comm]
    rw [e1]
    apply List.map_congr_left
    intro a _
    simp only [Function.comp, List.length_cons]
    lia
theorem atB_iff {name : List Nat} : ∀ {F : List (List Nat)} {i : Nat}, (∀ g ∈ F, g ≠ [42]) → (atB name F i = true ↔ ∃ v x, name.drop i = v ++ x ∧ Mt F v ∧ v.length = F.length)
  | [], i, _ => ⟨fun _ => ⟨[], name.drop i, rfl, rfl, rfl⟩, fun _ => rfl⟩
  | g :: F, i, hF => by
    have hg := hF g (by exact List.Mem.head _)
    have ih := fun i => atB_iff (name := name) (F := F) (i := i) fun g h => hF g (List.mem_cons_of_mem _ h)
    unfold atB
    rw [Bool.and_eq_true, Bool.and_eq_true, decide_eq_true_eq, ih]
    constructor
    · rintro ⟨⟨h1, h2⟩, v, x, h3, h4, h5⟩
      refine ⟨name.getD i 0 :: v, x, ?_, (Mt_one hg).mpr ⟨_, v, rfl, by simpa using h2, h4⟩, by simp [h5]⟩
      rw [List.drop_eq_getElem_cons h1, h3]
      simp [List.getD_eq_getElem?_getD, h1]
    · intro q9; (refine elEEAA q9 fun v x h3 h4 h5 => ?_; try clear q9)
      (refine elEEAA ((Mt_one hg).mp h4) fun c v' e92 hc h6 => ?_; subst e92)
      have h1 : i < name.length := by
        have := congrArg List.length h3
        simp only [List.length_drop, List.length_append, List.length_cons] at this
        lia
      rw [List.drop_eq_getElem_cons h1] at h3
      simp only [List.cons_append, List.cons.injEq] at h3
      refine ⟨⟨h1, ?_⟩, v', x, h3.2, h6, by simpa using h5⟩
      have : name.getD i 0 = c := by rw [← h3.1]; simp [List.getD_eq_getElem?_getD, h1]
      rw [this]; simpa using hc
theorem endsStep_at {name t g rest ways : List Nat} {shut : Bool} (a : Atm name t g) (hr : rest.head? ≠ some 42) (hw : ∀ w ∈ ways, w ≤ name.length) :
    endsStep name (t ++ rest) ways shut = ((ways.filter fun w => decide (w < name.length) && g.contains (name.getD w 0)).map (· + 1), shut, t.length) := by
  refine elAAA (a.c1 rest hr) fun h1 h2 h3 h4 => ?_
  unfold endsStep
  rw [h1, h2, h3, h4]
  simp only [Bool.false_and, Bool.false_eq_true, if_false]
  congr 2
  apply List.filter_congr
  intro w hm
  by_cases hl : w < name.length
  · rw [List.take_left, a.rd _ (by simp [List.getD_eq_getElem?_getD, hl])]
  · simp [hl]
noncomputable def txA (as : List At2) : List Nat := (as.map (·.1)).flatten
theorem txA_head {name : List Nat} {as : List At2} (h : ∀ a ∈ as, Atm name a.1 a.2) {rest : List Nat} (hr : rest.head? ≠ some 42) : (txA as ++ rest).head? ≠ some 42 := by
  cases as with
  | nil => exact hr
  | cons a as =>
    have := ((h a (by exact List.Mem.head _)).hd ((as.map (·.1)).flatten ++ rest)).1
    simpa [txA] using this
theorem seg {name : List Nat} : ∀ (as : List At2), (∀ a ∈ as, Atm name a.1 a.2) → ∀ (rest ways : List Nat) (shut : Bool) (fuel : Nat), rest.head? ≠ some 42 → ways.length ≤ 1000 → (∀ w ∈ ways, w ≤ name.length) → (txA as ++ rest).length < fuel →
    ∃ fuel', rest.length < fuel' ∧ endsL name fuel (txA as ++ rest) ways shut = endsL name fuel' rest (advA name (as.map (·.2)) ways) shut
  | [], _, rest, ways, shut, fuel, hr, hl, hw, hf => ⟨fuel, by simpa [txA] using hf, rfl⟩
  | a :: as, h, rest, ways, shut, fuel, hr, hl, hw, hf => by
    have ha := h a (by exact List.Mem.head _)
    have has := fun b hb => h b (List.mem_cons_of_mem _ hb)
    have e : txA (a :: as) ++ rest = a.1 ++ (txA as ++ rest) := by simp [txA]
    rw [e] at hf ⊢
    have hne := (ha.hd []).2
    have hstep := endsStep_at (shut := shut) ha (txA_head has hr) hw
    obtain ⟨c, r, hcr⟩ : ∃ c r, a.1 ++ (txA as ++ rest) = c :: r := by
      cases h9 : a.1 with
      | nil => exact absurd h9 hne
      | cons c r => exact ⟨c, _, rfl⟩
    cases fuel with
    | zero => lia
    | succ fuel =>
      have hpos : 0 < a.1.length := List.length_pos_iff.mpr hne
      have hl2 : ((ways.filter fun w => decide (w < name.length) && a.2.contains (name.getD w 0)).map (· + 1)).length ≤ 1000 := by
        rw [List.length_map]
        exact Nat.le_trans (List.length_filter_le _ _) hl
      have hw2 : ∀ w ∈ (ways.filter fun w => decide (w < name.length) && a.2.contains (name.getD w 0)).map (· + 1), w ≤ name.length := by
        intro w hm
        (refine elEA (List.mem_map.mp hm) fun v hv e92 => ?_; subst e92)
        have := (List.mem_filter.mp hv).2
        simp only [Bool.and_eq_true, decide_eq_true_eq] at this
        lia
      (refine elEA (seg as has rest _ shut fuel hr hl2 hw2 (by rw [List.length_append] at hf; omega)) fun fuel' h1 h2 => ?_)
      refine ⟨fuel', h1, ?_⟩
      rw [hcr, endsL, ← hcr, hstep]
      dsimp only
      rw [if_pos hl2, List.drop_left, h2]
      rfl
theorem op_step {name rest ways : List Nat} {fuel : Nat} (hl : (ways.flatMap fun w => List.range' w (name.length + 1 - w)).length ≤ 1000) (hf : ([40, 63, 62, 46, 42, 63] ++ rest : List Nat).length < fuel) :
    ∃ fuel', rest.length < fuel' ∧ endsL name fuel ([40, 63, 62, 46, 42, 63] ++ rest) ways true = endsL name fuel' rest (ways.flatMap fun w => List.range' w (name.length + 1 - w)) false := by
  cases fuel with
  | zero => lia
  | succ fuel =>
    refine ⟨fuel, by simp at hf; lia, ?_⟩
    have hs : endsStep name ([40, 63, 62, 46, 42, 63] ++ rest) ways true = (ways.flatMap fun w => List.range' w (name.length + 1 - w), false, 6) := by
      unfold endsStep
      rw [show List.take 6 ([40, 63, 62, 46, 42, 63] ++ rest) = [40, 63, 62, 46, 42, 63] from rfl]
      rfl
    show (if (endsStep name ([40, 63, 62, 46, 42, 63] ++ rest) ways true).1.length ≤ 1000 then endsL name fuel (([40, 63, 62, 46, 42, 63] ++ rest).drop (endsStep name ([40, 63, 62, 46, 42, 63] ++ rest) ways true).2.2) (endsStep name ([40, 63, 62, 46, 42, 63] ++ rest) ways true).1 (endsStep name ([40, 63, 62, 46, 42, 63] ++ rest) ways true).2.1 else none) = _
    rw [hs, if_pos hl]
    rfl
theorem cl_step {name rest ways : List Nat} {fuel : Nat} (hf : ([41] ++ rest : List Nat).length < fuel) :
    ∃ fuel', rest.length < fuel' ∧ endsL name fuel ([41] ++ rest) ways false = endsL name fuel' rest (ways.take 1) true := by
  cases fuel with
  | zero => lia
  | succ fuel =>
    refine ⟨fuel, by simp at hf; assumption, ?_⟩
    have hs : endsStep name ([41] ++ rest) ways false = (ways.take 1, true, 1) := by
      unfold endsStep
      rw [show List.take 1 ([41] ++ rest) = [41] from rfl]
      simp
    show (if (endsStep name ([41] ++ rest) ways false).1.length ≤ 1000 then endsL name fuel (([41] ++ rest).drop (endsStep name ([41] ++ rest) ways false).2.2) (endsStep name ([41] ++ rest) ways false).1 (endsStep name ([41] ++ rest) ways false).2.1 else none) = _
    rw [hs, if_pos (by rw [List.length_take]; lia)]
    rfl
theorem st_step {name rest ways : List Nat} {fuel : Nat} (hl : (ways.flatMap fun w => (List.range' w (name.length + 1 - w)).reverse).length ≤ 1000) (hf : ([46, 42] ++ rest : List Nat).length < fuel) :
    ∃ fuel', rest.length < fuel' ∧ endsL name fuel ([46, 42] ++ rest) ways true = endsL name fuel' rest (ways.flatMap fun w => (List.range' w (name.length + 1 - w)).reverse) true := by
  cases fuel with
  | zero => lia
  | succ fuel =>
    refine ⟨fuel, by simp at hf; exact Nat.le_of_lt ‹_›, ?_⟩
    have hs : endsStep name ([46, 42] ++ rest) ways true = (ways.flatMap fun w => (List.range' w (name.length + 1 - w)).reverse, true, 2) := by
      unfold endsStep
      rw [show List.take 2 ([46, 42] ++ rest) = [46, 42] from rfl, show List.take 1 ([46, 42] ++ rest) = [46] from rfl]
      have : (List.take 6 ([46, 42] ++ rest) == [40, 63, 62, 46, 42, 63]) = false := by
        show ((46 :: 42 :: rest.take 4 : List Nat) == _) = false
        simp
      rw [this]
      simp
    show (if (endsStep name ([46, 42] ++ rest) ways true).1.length ≤ 1000 then endsL name fuel (([46, 42] ++ rest).drop (endsStep name ([46, 42] ++ rest) ways true).2.2) (endsStep name ([46, 42] ++ rest) ways true).1 (endsStep name ([46, 42] ++ rest) ways true).2.1 else none) = _
    rw [hs, if_pos hl]
    rfl
noncomputable def ptT (p : Option At2) : Option (List Nat) := p.map (·.1)
noncomputable def ptG : Option At2 → List Nat
  | none => [42]
  | some a => a.2
theorem joinG_head {name : List Nat} : ∀ (ps : List (Option At2)) (o : Option (List Nat)), (∀ a, some a ∈ ps → Atm name a.1 a.2) → (joinG (ps.map ptT) o).head? ≠ some 42
  | [], none, _ => by simp [joinG]
  | [], some acc, _ => by simp [joinG]
  | some a :: ps, none, h => by
    have := ((h a (by exact List.Mem.head _)).hd (joinG (ps.map ptT) none)).1
    simpa [joinG, ptT] using this
  | some a :: ps, some acc, h => by
    have := joinG_head ps (some (acc ++ a.1)) fun b hb => h b (List.mem_cons_of_mem _ hb)
    simpa [joinG, ptT] using this
  | none :: ps, none, h => by
    have := joinG_head ps (some []) fun b hb => h b (List.mem_cons_of_mem _ hb)
    simpa [joinG, ptT] using this
  | none :: ps, some acc, h => by simp [joinG, ptT]
theorem one_way {W : List Nat} (h : W.length ≤ 1) : W = [] ∨ ∃ i, W = [i] := by
  match W, h with
  | [], _ => exact .inl rfl
  | [i], _ => exact .inr ⟨i, rfl⟩
theorem flat_len {n : Nat} {W : List Nat} (h : W.length ≤ 1) (hn : n < 1000) : (W.flatMap fun w => List.range' w (n + 1 - w)).length ≤ 1000 ∧ (W.flatMap fun w => (List.range' w (n + 1 - w)).reverse).length ≤ 1000 := by
  rcases one_way h with rfl | ⟨i, rfl⟩
  · simp
  · simp; lia
theorem mid_ok {name : List Nat} {F l : List (List Nat)} (hF : ∀ g ∈ F, g ≠ [42]) {W : List Nat} (hW : W.length ≤ 1) (hw : ∀ w ∈ W, w ≤ name.length) :
    (∃ i ∈ (advA name F (W.flatMap fun w => List.range' w (name.length + 1 - w))).take 1, Mt ([42] :: l) (name.drop i)) ↔ ∃ i ∈ W, Mt ([42] :: (F ++ [42] :: l)) (name.drop i) := by
  rcases one_way hW with rfl | ⟨i, rfl⟩
  · simp [advA_eq]
  have hi := hw i (by exact List.Mem.head _)
  rw [advA_eq]
  simp only [List.flatMap_cons, List.flatMap_nil, List.append_nil, List.mem_singleton, exists_eq_left]
  have hsort : ((List.range' i (name.length + 1 - i)).filter (atB name F)).Pairwise (· < ·) := (List.pairwise_lt_range' ..).filter _
  have hmem : ∀ e, e ∈ (List.range' i (name.length + 1 - i)).filter (atB name F) ↔ (i ≤ e ∧ e ≤ name.length) ∧ atB name F e = true := fun e => by
    rw [List.mem_filter, List.mem_range'_1]
    constructor
    · intro q9; (refine elA q9 fun h1 h2 => ?_; try clear q9); exact ⟨by lia, h2⟩
    · intro q9; (refine elA q9 fun h1 h2 => ?_; try clear q9); exact ⟨by lia, h2⟩
  have hdec : Mt ([42] :: (F ++ [42] :: l)) (name.drop i) ↔ ∃ e, (i ≤ e ∧ e ≤ name.length) ∧ atB name F e = true ∧ Mt ([42] :: l) (name.drop (e + F.length)) := by
    rw [Mt_star]
    constructor
    · intro q9; (refine elEEA q9 fun u v h1 h2 => ?_; try clear q9)
      (refine elEEAA ((Mt_app _ _ _).mp h2) fun a b e92 h3 h4 => ?_; subst e92)
      have hl : u.length + (a.length + b.length) = name.length - i := by
        have := congrArg List.length h1
        simpa using this.symm
      have hd : name.drop (i + u.length) = a ++ b := by
        rw [← List.drop_drop, h1, List.drop_left]
      have haF : a.length = F.length := Mt_len F a hF h3
      refine ⟨i + u.length, by lia, (atB_iff hF).mpr ⟨a, b, hd, h3, haF⟩, ?_⟩
      rw [← haF, ← List.drop_drop, hd, List.drop_left]
      exact h4
    · intro q9; (refine elEAA q9 fun e he ha hm => ?_; try clear q9)
      refine elEEAA ((atB_iff hF).mp ha) fun v x h1 h2 h3 => ?_
      refine ⟨(name.drop i).take (e - i), name.drop e, ?_, (Mt_app _ _ _).mpr ⟨v, x, h1, h2, ?_⟩⟩
      · have : name.drop e = (name.drop i).drop (e - i) := by rw [List.drop_drop]; congr 1; lia
        rw [this, List.take_append_drop]
      · rw [← h3, ← List.drop_drop, h1, List.drop_left] at hm
        exact hm
  rw [hdec]
  generalize (List.range' i (name.length + 1 - i)).filter (atB name F) = L at hsort hmem
  cases L with
  | nil =>
    constructor
    · intro q9; (refine elEA q9 fun j hj _ => ?_; try clear q9); simp at hj
    · intro q9; (refine elEAA q9 fun e he ha _ => ?_; try clear q9); exact absurd ((hmem e).mpr ⟨he, ha⟩) (by simp)
  | cons e1 L =>
    have hmin : ∀ e, (i ≤ e ∧ e ≤ name.length) ∧ atB name F e = true → e1 ≤ e := fun e he => by
      rcases List.mem_cons.mp ((hmem e).mpr he) with rfl | h
      · exact Nat.le_refl _
      · exact Nat.le_of_lt ((List.pairwise_cons.mp hsort).1 e h)
    simp only [List.map_cons, List.take_succ_cons, List.take_zero, List.mem_singleton, exists_eq_left]
    have he1 := (hmem e1).mp (by exact List.Mem.head _)
    constructor
    · intro h; exact ⟨e1, he1.1, he1.2, h⟩
    · intro q9; (refine elEAA q9 fun e he ha hm => ?_; try clear q9)
      have h1 := hmin e ⟨he, ha⟩
      refine elEEA (Mt_star.mp hm) fun u v h2 h3 => ?_
      have : name.drop (e + F.length) = (name.drop (e1 + F.length)).drop (e - e1) := by rw [List.drop_drop]; congr 1; lia
      refine Mt_star.mpr ⟨(name.drop (e1 + F.length)).take (e - e1) ++ u, v, ?_, h3⟩
      rw [List.append_assoc, ← h2, this, List.take_append_drop]
end Mine
namespace Mine
theorem adv_le {name : List Nat} : ∀ (F : List (List Nat)) (W : List Nat), (∀ w ∈ W, w ≤ name.length) → ∀ w ∈ advA name F W, w ≤ name.length
  | [], W, h => h
  | g :: F, W, h => adv_le F _ fun w hw => by
    (refine elEA (List.mem_map.mp hw) fun v hv e92 => ?_; subst e92)
    have := (List.mem_filter.mp hv).2
    simp only [Bool.and_eq_true, decide_eq_true_eq] at this
    lia
theorem flat_le {n : Nat} {W : List Nat} (h : ∀ w ∈ W, w ≤ n) : (∀ w ∈ W.flatMap fun w => List.range' w (n + 1 - w), w ≤ n) ∧ ∀ w ∈ W.flatMap fun w => (List.range' w (n + 1 - w)).reverse, w ≤ n := by
  constructor
  · intro w hw
    refine elEA (List.mem_flatMap.mp hw) fun v hv hw => ?_
    rw [List.mem_range'_1] at hw
    have := h v hv
    lia
  · intro w hw
    refine elEA (List.mem_flatMap.mp hw) fun v hv hw => ?_
    rw [List.mem_reverse, List.mem_range'_1] at hw
    have := h v hv
    lia
theorem txA_snoc (acc : List At2) (a : At2) : txA (acc ++ [a]) = txA acc ++ a.1 := by simp [txA]
theorem end_ok {name : List Nat} {F : List (List Nat)} (hF : ∀ g ∈ F, g ≠ [42]) {W : List Nat} (hW : W.length ≤ 1) (hw : ∀ w ∈ W, w ≤ name.length) :
    name.length ∈ advA name F (W.flatMap fun w => (List.range' w (name.length + 1 - w)).reverse) ↔ ∃ i ∈ W, Mt ([42] :: F) (name.drop i) := by
  rcases one_way hW with rfl | ⟨i, rfl⟩
  · simp [advA_eq]
  have hi := hw i (by exact List.Mem.head _)
  rw [advA_eq]
  simp only [List.flatMap_cons, List.flatMap_nil, List.append_nil, List.mem_singleton, exists_eq_left]
  rw [List.mem_map, Mt_star]
  constructor
  · intro q9; (refine elEA q9 fun e he hn => ?_; try clear q9)
    rw [List.mem_filter, List.mem_reverse, List.mem_range'_1] at he
    refine elEEAA ((atB_iff hF).mp he.2) fun v x h1 h2 h3 => ?_
    have hx : x = [] := by
      have := congrArg List.length h1
      simp only [List.length_drop, List.length_append] at this
      exact List.length_eq_zero_iff.mp (by lia)
    subst hx
    rw [List.append_nil] at h1
    refine ⟨(name.drop i).take (e - i), name.drop e, ?_, by rw [h1]; exact h2⟩
    have : name.drop e = (name.drop i).drop (e - i) := by rw [List.drop_drop]; congr 1; lia
    rw [this, List.take_append_drop]
  · intro q9; (refine elEEA q9 fun u v h1 h2 => ?_; try clear q9)
    have hl : u.length + v.length = name.length - i := by
      have := congrArg List.length h1
      simpa using this.symm
    have hv := Mt_len F v hF h2
    have hd : name.drop (i + u.length) = v := by rw [← List.drop_drop, h1, List.drop_left]
    refine ⟨i + u.length, ?_, by lia⟩
    rw [List.mem_filter, List.mem_reverse, List.mem_range'_1]
    exact ⟨by lia, (atB_iff hF).mpr ⟨v, [], by rw [hd]; simp, h2, hv⟩⟩
theorem gs_ok {name : List Nat} {acc : List At2} (h : ∀ a ∈ acc, Atm name a.1 a.2) : ∀ g ∈ acc.map (·.2), g ≠ [42] := fun g hg => by
  (refine elEA (List.mem_map.mp hg) fun a ha e92 => ?_; subst e92)
  exact (h a ha).st
theorem run_some {name : List Nat} (hn : name.length < 1000) : ∀ (ps : List (Option At2)) (acc : List At2) (W : List Nat) (fuel : Nat), (∀ a ∈ acc, Atm name a.1 a.2) → (∀ a, some a ∈ ps → Atm name a.1 a.2) → W.length ≤ 1 → (∀ w ∈ W, w ≤ name.length) →
    (joinG (ps.map ptT) (some (txA acc))).length < fuel → ∃ r, endsL name fuel (joinG (ps.map ptT) (some (txA acc))) W true = some r ∧ (name.length ∈ r ↔ ∃ i ∈ W, Mt ([42] :: (acc.map (·.2) ++ ps.map ptG)) (name.drop i))
  | [], acc, W, fuel, ha, hp, hW, hw, hf => by
    refine elEA (st_step (name := name) (rest := txA acc) (ways := W) (fuel := fuel) (flat_len hW hn).2 hf) fun f1 h1 h2 => ?_
    refine elEA (seg acc ha [] _ true f1 (by trivial) (flat_len hW hn).2 (flat_le hw).2 (by simpa using h1)) fun f2 h3 h4 => ?_
    rw [List.append_nil] at h4
    refine ⟨advA name (acc.map (·.2)) (W.flatMap fun w => (List.range' w (name.length + 1 - w)).reverse), (h2.trans h4).trans ?_, ?_⟩
    · cases f2 with
      | zero => simp at h3
      | succ f2 => rfl
    · rw [List.map_nil, List.append_nil]
      exact end_ok (gs_ok ha) hW hw
  | some a :: ps, acc, W, fuel, ha, hp, hW, hw, hf => by
    have e : joinG ((some a :: ps).map ptT) (some (txA acc)) = joinG (ps.map ptT) (some (txA (acc ++ [a]))) := by rw [txA_snoc]; rfl
    rw [e] at hf ⊢
    obtain ⟨r, h1, h2⟩ := run_some hn ps (acc ++ [a]) W fuel (fun b hb => by
      rcases List.mem_append.mp hb with hb | hb
      · exact ha b hb
      · have : b = a := by simpa using hb
        subst this; exact hp _ (by exact List.Mem.head _)) (fun b hb => hp b (List.mem_cons_of_mem _ hb)) hW hw hf
    refine ⟨r, h1, ?_⟩
    rw [h2, List.map_append, List.append_assoc]
    rfl
  | none :: ps, acc, W, fuel, ha, hp, hW, hw, hf => by
    have hp' : ∀ a, some a ∈ ps → Atm name a.1 a.2 := fun b hb => hp b (List.mem_cons_of_mem _ hb)
    have e : joinG ((none :: ps).map ptT) (some (txA acc)) = [40, 63, 62, 46, 42, 63] ++ (txA acc ++ ([41] ++ joinG (ps.map ptT) (some (txA [])))) := by
      show [40, 63, 62, 46, 42, 63] ++ txA acc ++ [41] ++ joinG (ps.map ptT) (some []) = _
      simp [txA]
    rw [e] at hf ⊢
    refine elEA (op_step (name := name) (ways := W) (flat_len hW hn).1 hf) fun f1 h1 h2 => ?_
    refine elEA (seg acc ha ([41] ++ joinG (ps.map ptT) (some (txA []))) _ false f1 (by simp) (flat_len hW hn).1 (flat_le hw).1 h1) fun f2 h3 h4 => ?_
    refine elEA (cl_step (name := name) (rest := joinG (ps.map ptT) (some (txA []))) (ways := advA name (acc.map (·.2)) (W.flatMap fun w => List.range' w (name.length + 1 - w))) h3) fun f3 h5 h6 => ?_
    (refine elEA (run_some hn ps [] ((advA name (acc.map (·.2)) (W.flatMap fun w => List.range' w (name.length + 1 - w))).take 1) f3 (by simp) hp' (by rw [List.length_take]; omega) (fun w h => adv_le _ _ (flat_le hw).1 w (List.mem_of_mem_take h)) h5) fun r h7 h8 => ?_)
    refine ⟨r, by rw [h2, h4, h6, h7], ?_⟩
    rw [h8, List.map_nil, List.nil_append, mid_ok (gs_ok ha) hW hw]
    rfl
theorem run_none {name : List Nat} (hn : name.length < 1000) : ∀ (ps : List (Option At2)) (W : List Nat) (fuel : Nat), (∀ a, some a ∈ ps → Atm name a.1 a.2) → W.length ≤ 1 → (∀ w ∈ W, w ≤ name.length) →
    (joinG (ps.map ptT) none).length < fuel → ∃ r, endsL name fuel (joinG (ps.map ptT) none) W true = some r ∧ (name.length ∈ r ↔ ∃ i ∈ W, Mt (ps.map ptG) (name.drop i))
  | [], W, fuel, hp, hW, hw, hf => by
    cases fuel with
    | zero => simp at hf
    | succ f =>
      refine ⟨W, rfl, ?_⟩
      constructor
      · intro h; exact ⟨_, h, by rw [List.drop_length]; rfl⟩
      · intro q9; (refine elEA q9 fun i hi h => ?_; try clear q9)
        have h : name.drop i = [] := h
        have h1 := List.drop_eq_nil_iff.mp h
        have h2 := hw i hi
        have : i = name.length := by exact Nat.le_antisymm ‹_› ‹_›
        rw [← this]; exact hi
  | some a :: ps, W, fuel, hp, hW, hw, hf => by
    have hp' : ∀ a, some a ∈ ps → Atm name a.1 a.2 := fun b hb => hp b (List.mem_cons_of_mem _ hb)
    have ha := hp a (by exact List.Mem.head _)
    have e : joinG ((some a :: ps).map ptT) none = txA [a] ++ joinG (ps.map ptT) none := by
      show a.1 ++ joinG (ps.map ptT) none = _
      simp [txA]
    rw [e] at hf ⊢
    refine elEA (seg [a] (by simpa using ha) (joinG (ps.map ptT) none) W true fuel (joinG_head (name := name) ps none hp') (by omega) hw hf) fun f1 h1 h2 => ?_
    obtain ⟨r, h3, h4⟩ := run_none hn ps (advA name [a.2] W) f1 hp' (by
      rw [advA_eq, List.length_map]; exact Nat.le_trans (List.length_filter_le _ _) hW) (adv_le _ _ hw) h1
    refine ⟨r, h2.trans h3, ?_⟩
    rw [h4, advA_eq]
    constructor
    · intro q9; (refine elEA q9 fun i hi hM => ?_; try clear q9)
      (refine elEA (List.mem_map.mp hi) fun j hj e92 => ?_; subst e92)
      rw [List.mem_filter] at hj
      refine elEEAA ((atB_iff (by simpa using ha.st)).mp hj.2) fun v x g1 g2 g3 => ?_
      refine ⟨j, hj.1, (Mt_app [a.2] (ps.map ptG) _).mpr ⟨v, x, g1, g2, ?_⟩⟩
      have : name.drop (j + [a.2].length) = x := by rw [← g3, ← List.drop_drop, g1, List.drop_left]
      rw [← this]; exact hM
    · intro q9; (refine elEA q9 fun i hi hM => ?_; try clear q9)
      refine elEEAA ((Mt_app [a.2] (ps.map ptG) _).mp hM) fun v x g1 g2 g3 => ?_
      have hv := Mt_len [a.2] v (by simpa using ha.st) g2
      refine ⟨i + [a.2].length, List.mem_map.mpr ⟨i, List.mem_filter.mpr ⟨hi, (atB_iff (by simpa using ha.st)).mpr ⟨v, x, g1, g2, hv⟩⟩, rfl⟩, ?_⟩
      rw [← hv, ← List.drop_drop, g1, List.drop_left]
      exact g3
  | none :: ps, W, fuel, hp, hW, hw, hf => by
    have e : joinG ((none :: ps).map ptT) none = joinG (ps.map ptT) (some (txA [])) := rfl
    rw [e] at hf ⊢
    refine elEA (run_some hn ps [] W fuel (by simp) (fun b hb => hp b (List.mem_cons_of_mem _ hb)) hW hw hf) fun r h1 h2 => ?_
    exact ⟨r, h1, h2⟩
theorem text_ok {name : List Nat} (hn : name.length < 1000) (ps : List (Option At2)) (hp : ∀ a, some a ∈ ps → Atm name a.1 a.2) :
    ∃ n r, endsL name n (joinG (ps.map ptT) none) [0] true = some r ∧ (name.length ∈ r ↔ Mt (ps.map ptG) name) := by
  refine elEA (run_none hn ps [0] ((joinG (ps.map ptT) none).length + 1) hp (by trivial) (by simp) (Nat.lt_succ_self _)) fun r h1 h2 => ?_
  refine ⟨_, r, h1, ?_⟩
  rw [h2]
  simp
end Mine
namespace Mine
theorem splitL_ne9 (c : Nat) : ∀ l : List Nat, splitL c l ≠ []
  | [] => by simp [splitL]
  | x :: r => by
    unfold splitL
    split
    · simp
    · split <;> simp
theorem splitL_one (c : Nat) : ∀ l : List Nat, c ∉ l → splitL c l = [l]
  | [], _ => rfl
  | x :: r, h => by
    have h1 : x ≠ c := fun e => h (by simp [e])
    have h2 := splitL_one c r fun hm => h (by simp [hm])
    unfold splitL
    rw [if_neg h1, h2]
noncomputable def tpS : List (List Nat) → List Nat
  | [] => []
  | [p] => p
  | p :: q :: r => p ++ tpTail (q :: r)
theorem splitL_two (c : Nat) : ∀ l : List Nat, c ∈ l → ∃ p q r, splitL c l = p :: q :: r
  | [], h => by simp at h
  | x :: l, h => by
    unfold splitL
    by_cases hx : x = c
    · rw [if_pos hx]
      have := splitL_ne9 c l
      cases h9 : splitL c l with
      | nil => exact absurd h9 this
      | cons p r => exact ⟨[], p, r, rfl⟩
    · rw [if_neg hx]
      have hm : c ∈ l := by
        rcases List.mem_cons.mp h with e | h
        · exact absurd e.symm hx
        · exact h
      refine elEEE (splitL_two c l hm) fun p q r e => ?_
      rw [e]
      exact ⟨_, q, r, rfl⟩
noncomputable def gIt (al : List Nat) : It → List Nat
  | .lit c => [c]
  | .star => [42]
  | .any => al
  | .bar c => al.filter fun x => !(x == c)
  | .br c => [c]
noncomputable def pcA (al : List Nat) (it : It) : Option At2 := (pieceP it).map fun t => (t, gIt al it)
noncomputable def addA (al : List Nat) (acc : List (Option At2)) : It → List (Option At2)
  | .star => if acc.getLast? = some none then acc else acc ++ [none]
  | it => acc ++ [pcA al it]
noncomputable def partsA (al : List Nat) (is : List It) : List (Option At2) := is.foldl (addA al) []
theorem ptT_pc (al : List Nat) (it : It) : ptT (pcA al it) = pieceP it := by
  unfold pcA ptT
  cases pieceP it <;> rfl
theorem parts_map (al : List Nat) (is : List It) : (partsA al is).map ptT = partsP is := by
  have key : ∀ (is : List It) (acc : List (Option At2)), (is.foldl (addA al) acc).map ptT = is.foldl addP (acc.map ptT) := by
    intro is
    induction is with
    | nil => intro acc; rfl
    | cons it is ih =>
      intro acc
      rw [List.foldl_cons, List.foldl_cons, ih]
      congr 1
      have hlast : (acc.map ptT).getLast? = some none ↔ acc.getLast? = some none := by
        rw [List.getLast?_map]
        cases acc.getLast? with
        | none => simp
        | some o => cases o <;> simp [ptT]
      cases it with
      | star =>
        show (if acc.getLast? = some none then acc else acc ++ [none]).map ptT = if (acc.map ptT).getLast? = some none then acc.map ptT else acc.map ptT ++ [none]
        by_cases h : acc.getLast? = some none
        · rw [if_pos h, if_pos (hlast.mpr h)]
        · rw [if_neg h, if_neg (fun e => h (hlast.mp e)), List.map_append]; rfl
      | lit c => show (acc ++ [pcA al (.lit c)]).map ptT = acc.map ptT ++ [pieceP (.lit c)]; rw [List.map_append, ← ptT_pc al]; rfl
      | any => show (acc ++ [pcA al .any]).map ptT = acc.map ptT ++ [pieceP .any]; rw [List.map_append, ← ptT_pc al]; rfl
      | bar c => show (acc ++ [pcA al (.bar c)]).map ptT = acc.map ptT ++ [pieceP (.bar c)]; rw [List.map_append, ← ptT_pc al]; rfl
      | br c => show (acc ++ [pcA al (.br c)]).map ptT = acc.map ptT ++ [pieceP (.br c)]; rw [List.map_append, ← ptT_pc al]; rfl
  exact key is []
theorem parts_Mt (al : List Nat) (is : List It) (w : List Nat) : Mt ((partsA al is).map ptG) w ↔ Mt (is.map (gIt al)) w := by
  have key : ∀ (is : List It) (acc : List (Option At2)) (w : List Nat), Mt ((is.foldl (addA al) acc).map ptG) w ↔ Mt (acc.map ptG ++ is.map (gIt al)) w := by
    intro is
    induction is with
    | nil => intro acc w; simp
    | cons it is ih =>
      intro acc w
      rw [List.foldl_cons, ih]
      have one : ∀ it : It, ptG (pcA al it) = gIt al it → (Mt ((acc ++ [pcA al it]).map ptG ++ is.map (gIt al)) w ↔ Mt (acc.map ptG ++ (it :: is).map (gIt al)) w) := fun it e => by
        rw [List.map_append, List.map_cons, List.map_nil, e, List.append_assoc]; rfl
      cases it with
      | star =>
        show Mt ((if acc.getLast? = some none then acc else acc ++ [none]).map ptG ++ is.map (gIt al)) w ↔ _
        by_cases h : acc.getLast? = some none
        · rw [if_pos h]
          rcases List.eq_nil_or_concat acc with rfl | ⟨l, o, rfl⟩
          · simp at h
          · rw [List.concat_eq_append] at h ⊢
            have : o = none := by simpa using h
            subst this
            rw [List.map_append, List.append_assoc, List.append_assoc, Mt_app, Mt_app]
            constructor
            · intro q9; (refine elEEAA q9 fun u v e h1 h2 => ?_; try clear q9)
              (refine elEEA (Mt_star.mp h2) fun a b e92 h3 => ?_; subst e92)
              exact ⟨u, _, e, h1, Mt_star.mpr ⟨a, b, rfl, Mt_star.mpr ⟨[], b, rfl, h3⟩⟩⟩
            · intro q9; (refine elEEAA q9 fun u v e h1 h2 => ?_; try clear q9)
              (refine elEEA (Mt_star.mp h2) fun a b e92 h3 => ?_; subst e92)
              (refine elEEA (Mt_star.mp h3) fun a2 b2 e92 h4 => ?_; subst e92)
              exact ⟨u, _, e, h1, Mt_star.mpr ⟨a ++ a2, b2, by simp, h4⟩⟩
        · rw [if_neg h, List.map_append, List.append_assoc]; rfl
      | lit c => exact one (.lit c) rfl
      | any => exact one .any rfl
      | bar c => exact one (.bar c) rfl
      | br c => exact one (.br c) rfl
  rw [show partsA al is = is.foldl (addA al) [] from rfl, key]
  rfl
theorem parts_get (al : List Nat) (is : List It) : ∀ a, some a ∈ partsA al is → ∃ it ∈ is, pieceP it = some a.1 ∧ a.2 = gIt al it := by
  have key : ∀ (is : List It) (acc : List (Option At2)) (a : At2), some a ∈ is.foldl (addA al) acc → some a ∈ acc ∨ ∃ it ∈ is, pieceP it = some a.1 ∧ a.2 = gIt al it := by
    intro is
    induction is with
    | nil => intro acc a h; exact .inl h
    | cons it is ih =>
      intro acc a h
      rw [List.foldl_cons] at h
      rcases ih _ a h with h | ⟨j, hj, e⟩
      · have one : ∀ it9 : It, it9 = it → some a ∈ acc ++ [pcA al it9] → some a ∈ acc ∨ ∃ j ∈ it :: is, pieceP j = some a.1 ∧ a.2 = gIt al j := fun it9 e9 h => by
          rcases List.mem_append.mp h with h9 | h9
          · exact .inl h9
          · refine .inr ⟨it, by exact List.Mem.head _, ?_⟩
            subst e9
            have h : some a = pcA al it9 := by simpa using h9
            unfold pcA at h
            cases hp : pieceP it9 with
            | none => rw [hp] at h; exact snm h
            | some t => rw [hp] at h; (replace h := Option.some.inj h; subst h); exact ⟨rfl, rfl⟩
        cases it with
        | star =>
          have h : some a ∈ (if acc.getLast? = some none then acc else acc ++ [none]) := h
          split at h
          · exact .inl h
          · rcases List.mem_append.mp h with h | h
            · exact .inl h
            · simp at h
        | lit c => exact one _ rfl h
        | any => exact one _ rfl h
        | bar c => exact one _ rfl h
        | br c => exact one _ rfl h
      · exact .inr ⟨j, List.mem_cons_of_mem _ hj, e⟩
  intro a h
  rcases key is [] a h with h | h
  · cases h
  · exact h
end Mine
namespace Mine
variable {S : Sys} {k : Nat} {cx : Cx} {σ : Sto}
theorem ExP.assignItemT {e1 e2 : Expr} {x : Str} {p q pos : Pos} {rest : List Stmt} {P} {y : Str} {i : Int} (h1 : EvS S k cx σ e1 (.str y)) (h2 : EvS S k cx σ e2 (.int i)) (hf : fitsSsize i = true) (hlo : -(y.length : Int) ≤ i) (hhi : i < y.length) (hx : isVarW cx x = true) (ht : 1 ≤ cx.tk)
    (g : ∀ n, cx.tk ≤ n → ExP S k (cx.tick (n + 1)) (σ.upd x (some (.val (.tstr (Txt.item y i) n)))) rest P)
    (hs : ∀ v1 v2 : Value, subscripted e2 false v1 v2 = operate [v1, v2] (getItem v1 v2) := by intro _ _; rfl) (hg : ∀ t r, letTemporaryGo e1 (.str y t) r = pure () := by intro _ _; rfl) : ExP S k cx σ (.Assign [.Name x p] (.Subscript e1 e2 q) pos :: rest) P := by
  intro A env B K₀ s K Q E ro f hq
  refine execsC (wpAny_Assign_Name (Subscript_ (h1 A env s K _ E ro f.ok f.fm fun v1 s1 K1 l1 o1 r1 => ?_)) (swaps_no rfl _ _ _))
  have f1 := f.le l1 o1
  refine h2 A env s1 K1 _ E ro o1 f1.fm fun v2 s2 K2 l2 o2 r2 => ?_
  have f2 := f1.le l2 o2
  (refine elEA r1.str_inv fun t e91 hy => ?_; subst e91)
  (refine elE r2.int_inv fun u e91 => ?_; subst e91)
  refine item_str hf hlo hhi (fun _ => ?_) (hs _ _) (hg _)
  have ht2 : cx.tk ≤ s2.toks := let ⟨_, fm⟩ := f2.fm; fm.tok
  have f3 : FrI S cx env σ B K₀ { s2 with toks := s2.toks + 1 } K2 := f2.grow (h' := s2.heap) (tk := s2.toks + 1) (fun _ _ e => e) (Nat.le_succ _)
  refine elE f3 fun α f3 => ?_
  refine withTk (storeValA f3 hx (.tstr s2.toks (strOk_item hy) (tok_ne0 (Nat.le_trans ht ht2))) fun s4 f4 htk => ?_)
  exact g s2.toks ht2 A env B K₀ s4 K2 Q E ro ⟨α, f4.tick htk⟩ fun f' fl σ' s' K' p fr => by
    refine elE fr fun α' fr => ?_
    exact hq f' fl σ' s' K' p ⟨α', fr.untick (Nat.le_succ_of_le ht2)⟩
theorem EvS.replLT {ob : Expr} {apos pos p1 p2 : Pos} {n1 : Nat} {xn : Str} {x y z : Str} {t : Nat} (h0 : EvS S k cx σ ob (.str x)) (hv : isVar cx.sc xn = true) (he : σ xn = some (.val (.tstr z t))) (ht : t < cx.tk) (hyz : (y == z) = false) (hr : PyData.strOk (Txt.replace x y z) = true) (hb : x.length + (x.length + 1) * z.length ≤ 16777216)
    (hbase : ∀ env : Env, attributeBase ob "replace" env (eval ob env) = eval ob env) (hline : (apos.endLine == pos.line) = true) :
    EvS S k cx σ (.Call (.Attribute ob "replace" apos) [.Constant (.str y) n1 p1, .Name xn p2] [] pos) (.str (Txt.replace x y z)) := by
  intro A env s K Q E ro o fm hq
  refine wpAny_Call_method (T := "str") (id := "str.replace") (hbase env) rfl hline methReplace.plain methReplace.slot methReplace.ty (h0 A env s K _ E ro o fm fun v s1 K1 l1 o1 r1 => ?_)
  refine elA (typeOfD o1 r1 (T := "str") rfl) fun t1 t2 => ?_
  refine ⟨t1, t2, ?_⟩
  (refine elEA r1.str_inv fun t9 e91 hx => ?_; subst e91)
  have fm1 := fm.le o l1
  have fm1' := fm1
  (refine elE fm1 fun α fa => ?_; try clear fm1)
  have h1 : t < s1.toks := Nat.lt_of_lt_of_le ht fa.tok
  refine callWith_method1 (wpAny_items_cons (wpAny_Constant_str ?_) (starEach_plain rfl _ _)) (starEach_plain rfl _ _) rfl
  have o1' : Ok S K1 { s1 with toks := s1.toks + 1 } := o1.toks
  have l1' : Le S s1 { s1 with toks := s1.toks + 1 } K1 K1 := Le.toks (Nat.le_succ _)
  refine wpAny_items_cons (EvS.name hv he _ env _ K1 _ E ro o1' (fm1'.le o1 l1') fun v2 s2 K2 l2 o2 r2 => ?_) (starEach_plain rfl _ _)
  (refine elAA r2.tstr_inv fun e90 hy hy0 => ?_; subst e90)
  refine wpAny_items_nil ?_
  refine withTk (SC.replace (u := s1.toks) (v := t) (tok_ne0 (Nat.lt_of_le_of_lt (Nat.zero_le _) h1)) hy0 (fun e => absurd (show s1.toks = t from e) (Nat.ne_of_gt h1)) hyz hb fun t' n ht' => ?_)
  exact hq _ _ K2 (Le.trans o o2 (Le.trans o o1' (Le.trans o o1 l1 l1') l2) (Le.toks ht')) o2.toks (.str _ hr)
end Mine
namespace Mine
noncomputable def repL (s o : Nat) (it : List Nat) : List Nat := it.map fun c => if c = 120 then s else if c = 121 then o else c
noncomputable def othF (signs : List Nat) (s : Nat) : Nat := (signs ++ [97]).getD (signs.idxOf s + 1) 0
noncomputable abbrev Forms := List (List (List Nat))
noncomputable def itemsG (signs : List Nat) (forms : Forms) : Int → List Nat → List (List Nat)
  | _, [] => []
  | x, s :: w => (forms.getD (x.fmod forms.length).toNat []).map (repL s (othF signs s)) ++ itemsG signs forms (x.fdiv forms.length) w
noncomputable def shiftG (n : Nat) (x : Int) : Nat → Int
  | 0 => x
  | i + 1 => (shiftG n x i).fdiv n
theorem itemsG_snoc (signs : List Nat) (forms : Forms) : ∀ (w : List Nat) (x : Int) (s : Nat), itemsG signs forms x (w ++ [s]) = itemsG signs forms x w ++ (forms.getD ((shiftG forms.length x w.length).fmod forms.length).toNat []).map (repL s (othF signs s))
  | [], x, s => by simp [itemsG, shiftG]
  | c :: w, x, s => by
    have e : ∀ (n : Nat) (x : Int), shiftG forms.length (x.fdiv forms.length) n = shiftG forms.length x (n + 1) := fun n => by
      induction n with
      | zero => intro x; rfl
      | succ n ih => intro x; show (shiftG forms.length (x.fdiv forms.length) n).fdiv _ = _; rw [ih]; rfl
    rw [List.cons_append, itemsG, itemsG_snoc signs forms w, itemsG, e, List.append_assoc]
    rfl
noncomputable def marksL : List Nat := [46, 43, 94, 36, 40, 41, 123, 125, 124, 38, 126, 35, 45, 92]
noncomputable def itL6 : List (List Nat) := [[120], [42], [63], [91, 33, 121, 93], [91, 120, 93], [121]]
theorem sig_facts : ∀ m ∈ marksL, ∀ s ∈ [97, 98, m], Txt.find (tx [97, 98, m]) (tx [s]) = (([97, 98, m].idxOf s : Nat) : Int) ∧ [97, 98, m].idxOf s < 3 ∧ s < 128 ∧ (tx [120] == tx [s]) = false ∧ (tx [121] == tx [othF [97, 98, m] s]) = false := by decide +kernel
theorem rep_facts : ∀ m ∈ marksL, ∀ s ∈ [97, 98, m], ∀ it ∈ itL6, PyData.strOk (Txt.replace (tx it) (tx [120]) (tx [s])) = true ∧ (Txt.replace (tx it) (tx [120]) (tx [s])).length ≤ 4 ∧ PyData.strOk (tx (repL s (othF [97, 98, m] s) it)) = true ∧ Txt.replace (Txt.replace (tx it) (tx [120]) (tx [s])) (tx [121]) (tx [othF [97, 98, m] s]) = tx (repL s (othF [97, 98, m] s) it) := by decide +kernel
theorem itemsG_len (signs : List Nat) (forms : Forms) (h0 : 0 < forms.length) (hf : ∀ f ∈ forms, f.length ≤ 2) : ∀ (w : List Nat) (x : Int), (itemsG signs forms x w).length ≤ 2 * w.length
  | [], x => Nat.le_refl _
  | a :: w, x => by
    have h1 := itemsG_len signs forms h0 hf w (x.fdiv forms.length)
    have h2 := hf _ (List.mem_of_getElem? (getD_get (d := []) (fmod_lt (x := x) h0).2))
    rw [itemsG, List.length_append, List.length_map, List.length_cons]
    lia
end Mine
namespace Mine
theorem pick_map {α β : Type} (f : α → β) (xs : List α) (l u t : Option Int) : pickL (xs.map f) l u t = (pickL xs l u t).map f := by
  unfold pickL
  rw [List.length_map, List.map_filterMap]
  congr 1
  funext i
  rw [List.getElem?_map]
end Mine
namespace Mine
theorem shell_cut (J : List Nat) : Txt.slice (tx ([40, 63, 115, 58] ++ J ++ [41, 92, 90])) none (some 4) = tx [40, 63, 115, 58] ∧ Txt.slice (tx ([40, 63, 115, 58] ++ J ++ [41, 92, 90])) (some (-3)) none = tx [41, 92, 90] ∧
    Txt.slice (tx ([40, 63, 115, 58] ++ J ++ [41, 92, 90])) (some 4) (some (-3)) = tx J := by
  have hl : ([40, 63, 115, 58] ++ J ++ [41, 92, 90] : List Nat).length = J.length + 7 := by simp
  have e3 : ([40, 63, 115, 58] ++ J : List Nat).length = J.length + 4 := by simp
  refine ⟨?_, ?_, ?_⟩
  · rw [slice_gen, hl, clip_nat (i := 4) (k := 4) rfl, Nat.min_eq_left (by exact Nat.le_add_left _ _)]
    rfl
  · rw [slice_gen, hl, clip_neg (i := -3) (m := 3) rfl (by decide) (by exact Nat.le_add_left _ _)]
    congr 1
    rw [show clipN none (J.length + 7) (J.length + 7) = J.length + 7 from rfl, List.take_of_length_le (by rw [hl]; exact Nat.le_refl _), show J.length + 7 - 3 = ([40, 63, 115, 58] ++ J : List Nat).length by rw [e3]; assumption, List.drop_left]
  · rw [slice_gen, hl, clip_nat (i := 4) (k := 4) rfl, clip_neg (i := -3) (m := 3) rfl (by decide) (by exact Nat.le_add_left _ _), Nat.min_eq_left (by exact Nat.le_add_left _ _)]
    congr 1
    rw [show J.length + 7 - 3 = ([40, 63, 115, 58] ++ J : List Nat).length by rw [e3]; assumption, List.take_left]
    rfl
theorem joinG_len9 : ∀ (l : List (Option (List Nat))) (o : Option (List Nat)), (∀ s, some s ∈ l → s.length ≤ 5) → (joinG l o).length ≤ 12 * l.length + (o.getD []).length + 2
  | [], none, _ => by simp [joinG]
  | [], some acc, _ => by simp [joinG]
  | some s :: r, none, h => by
    have := joinG_len9 r none fun x hx => h x (List.mem_cons_of_mem _ hx)
    have h1 := h s (by exact List.Mem.head _)
    simp only [joinG, List.length_append, List.length_cons, Option.getD_none, List.length_nil] at this ⊢
    lia
  | some s :: r, some acc, h => by
    have := joinG_len9 r (some (acc ++ s)) fun x hx => h x (List.mem_cons_of_mem _ hx)
    have h1 := h s (by exact List.Mem.head _)
    simp only [joinG, List.length_append, List.length_cons, Option.getD_some] at this ⊢
    lia
  | none :: r, none, h => by
    have := joinG_len9 r (some []) fun x hx => h x (List.mem_cons_of_mem _ hx)
    simp only [joinG, List.length_cons, Option.getD_none, Option.getD_some, List.length_nil] at this ⊢
    lia
  | none :: r, some acc, h => by
    have := joinG_len9 r (some []) fun x hx => h x (List.mem_cons_of_mem _ hx)
    simp only [joinG, List.length_append, List.length_cons, Option.getD_some, List.length_nil] at this ⊢
    lia
end Mine
namespace Mine
variable {S : Sys} {k : Nat} {cx : Cx} {σ : Sto}
theorem range_back (n : Nat) : sliceRange ((n : Int) - 1) (-1) (-1) = (List.range n).map fun q => n - 1 - q := by
  unfold sliceRange
  rw [if_neg (by decide)]
  have hc : ((if (n : Int) - 1 > -1 then ((n : Int) - 1 - -1 - -1 - 1) / (- -1) else 0) : Int).toNat = n := by
    split <;> lia
  dsimp only
  rw [hc]
  apply List.map_congr_left
  intro q hq
  have := List.mem_range.mp hq
  lia
theorem rev_take {α : Type} (ds : List α) : ∀ m, m ≤ ds.length → (List.range m).filterMap (fun q => ds[ds.length - 1 - q]?) = ds.reverse.take m
  | 0, _ => rfl
  | m + 1, h => by
    rw [List.range_succ, List.filterMap_append, rev_take ds m (Nat.le_of_succ_le h), List.take_add_one, List.getElem?_reverse h]
    congr 1
theorem pick_rev {α : Type} (ds : List α) : pickL ds none none (some (-1)) = ds.reverse := by
  show (sliceRange ((ds.length : Int) - 1) (-1) (-1)).filterMap (ds[·]?) = ds.reverse
  rw [range_back, List.filterMap_map]
  refine (rev_take ds ds.length (Nat.le_refl _)).trans ?_
  rw [List.take_of_length_le (by rw [List.length_reverse]; exact Nat.le_refl _)]
end Mine
namespace Mine
variable {S : Sys} {k : Nat} {cx : Cx} {σ : Sto} {F : Frag} {C fI fT fA : Addr}
theorem CmpS.isEntryTok {ds : List D} {n : Nat} {ob : Obj} (hE : S.entP = entStd C) (hι : S.ι n = n) (hn : S.K0 n = some ob) (hc : ob.cls ≠ .ref C) : CmpS S k .Is (.entry ds) (.tok n) false := by
  intro A s K v1 v2 Q E ro o r1 r2 h
  refine elEA r1.entry_inv fun vs e rl => ?_
  rw [hE] at e
  refine elEEEEEEAAAAAA e fun x m ua l nu nl e96 ho _ _ _ _ _ => ?_
  subst e96
  have hw := r2.tok_inv
  rw [hι] at hw
  subst hw
  refine elEEEEAAAA ho fun dx od es ep e1 _ _ _ _ => ?_
  have hne : x ≠ n := fun q => by
    rw [q, o.base _ _ hn] at e1
    exact hc (by rw [Option.some.inj e1])
  exact wpAny_is_ref_other hne (o.kn _ _ e1) (K0_get o hn) (by unfold instObj; simp) (h s K Le.refl o)
theorem EvS.newEntry {np cp : Pos} (e : EntF S F C fI fT fA) (hE : S.entP = entStd C) (hg : isGlob cx.sc "Entry" = true) : EvS S (k + 3) cx σ (.Call (.Name "Entry" np) [] [] cp) (.entry []) := by
  intro A env s K Q E ro o fm hq
  refine wpAny_Call_ofName (evalGlob o fm hg (.inl e.name) ?_)
  refine callWith_K0 (e.g.cf.inH o) e.keep ?_
  obtain ⟨oc, od, fd, sl, p1, q1, l1, a1, p2, q2, l2, a2, p3, q3, l3, a3, p4, q4, l4, a4, n3, n4, h1, h2, h3, h4, h5, h6⟩ := e.init
  refine callEntry (k := k) e.g.cf h1 h2 h3 h4 h5 h6 e.ι ro o fun x dx l ua nl nu s1 K1 le1 o1 x1 x2 x3 L hua => ?_
  have hW : (noKn.add l (lst [] nl)) l = some (lst [] nl) := Kn.add_self ..
  have hlx : l ≠ x := fun q => by
    have := (L.loose l _ hW).1
    rw [q, L.ox] at this; cases this
  refine elEAAAAA (ledDone o1 L hW hlx le1 x1 x2 x3) fun K2 o2 le2 k2 ho hl _ => ?_
  refine hq _ s1 K2 le2 o2 (Rep.entry' (vs := []) ?_ .nil)
  rw [hE]
  exact ⟨x, _, ua, l, nu, nl, rfl, ho, by kernel_rfl, k2 _ _ hua, by kernel_rfl, hl, by kernel_rfl, by kernel_rfl, by kernel_rfl⟩
theorem turn2 {elt : Expr} {g : Comprehension} {gs : List Comprehension} {d1 d2 : D} {o : List D} {x y : Str} {p q tp : Pos} {n : Nat} (ht : g.target = .Tuple [.Name x p, .Name y q] n tp) (hx : isVarW cx x = true) (hy : isVarW cx y = true) (hnx : σ x = none) (hny : σ y = none) (hxy : (x == y) = false)
    (h : (TestR S k cx ((σ.upd x (some (.val d1))).upd y (some (.val d2))) g.ifs false ∧ o = []) ∨ (TestR S k cx ((σ.upd x (some (.val d1))).upd y (some (.val d2))) g.ifs true ∧ GenR S k cx elt gs ((σ.upd x (some (.val d1))).upd y (some (.val d2))) o)) :
    ∃ σ', BindS S k cx g.target (.list [d1, d2]) σ σ' ∧ σ.sub σ' ∧ σ'.ownSub σ ∧ ((TestR S k cx σ' g.ifs false ∧ o = []) ∨ (TestR S k cx σ' g.ifs true ∧ GenR S k cx elt gs σ' o)) := by
  have hne : y ≠ x := fun e => by rw [e] at hxy; simp at hxy
  refine ⟨_, by rw [ht]; exact BindS.tup (.inl rfl) (BindL.cons (BindS.name hx) rfl (BindL.cons (BindS.name hy) rfl .nil)), fun z e he => ?_, fun z zs he => ?_, h⟩
  · exact Sto.sub_new (by rw [Sto.upd_ne _ _ hne]; exact hny) z e (Sto.sub_new hnx z e he)
  · exact Sto.ownSub_val z zs (Sto.ownSub_val z zs he)
end Mine
namespace Mine
variable {S : Sys} {k : Nat}
noncomputable def qlf (P : Addr) (p : Pos) : Str := if P = 57 then (if p.line = 62 ∧ p.col = 37 then Str.ofString "_translate.<locals>.<genexpr>" else Str.ofString "_translate.<locals>.<lambda>") else if P = 165 then Str.ofString "_law_record.<locals>.<lambda>" else Str.ofString "law.<locals>.<lambda>"
set_option genInjectivity false in
structure PO (S : Sys) : Prop where
  kn : ∀ a o, (frag S.w.params).lookup a = some o → a ∉ S.T → S.K0 a = some o
  T : S.T = [57, 165, 172]
  len : S.mg "len" = some (.builtin "len") ∨ (S.mg "len" = none ∧ S.mb "len" = some (.builtin "len"))
  max : S.mg "max" = some (.builtin "max") ∨ (S.mg "max" = none ∧ S.mb "max" = some (.builtin "max"))
  range : S.mg "range" = some (.type "range") ∨ (S.mg "range" = none ∧ S.mb "range" = some (.type "range"))
  ι : ∀ n, S.ι n = n
  isinst : S.mg "isinstance" = none ∧ S.mb "isinstance" = some (.builtin "isinstance")
  str : S.mg "str" = none ∧ S.mb "str" = some (.type "str")
  list : S.mg "list" = none ∧ S.mb "list" = some (.type "list")
  map : S.mg "map" = none ∧ S.mb "map" = some (.type "map")
  object : S.mg "object" = none ∧ S.mb "object" = some (.type "object")
  gspecial : S.mg "_special_chars_map" = some (.ref 45)
  gescape : S.mg "escape" = some (.ref 55)
  g_translate : S.mg "_translate" = some (.ref 62)
  gjoinp : S.mg "_join_translated_parts" = some (.ref 69)
  gtranslate : S.mg "translate" = some (.ref 43)
  gre : S.mg "_twin_re_1" = some (.ref 36)
  gtp : S.mg "translate_pattern" = some (.ref 118)
  gEntry : S.mg "Entry" = some (.ref 107)
  gmerge : S.mg "merge_entries" = some (.ref 125)
  greduce : S.mg "reduce" = some (.ref 134)
  gends : S.mg "_law_ends" = some (.ref 163)
  gitems : S.mg "_law_items" = some (.ref 139)
  grecord : S.mg "_law_record" = some (.ref 170)
  tab : S.tabOk = tabStd qlf
  blt : ∀ h : Heap, (∀ a ob, S.K0 a = some ob → h.get? a = some ob) → ∀ P ∈ S.T, h.BuiltinsAt S.mg P
  greads : S.mg "_law_reads" = some (.ref 158)
local macro_rules | `(tactic| walk_at "vn") => `(tactic| first | with_reducible assumption | ((with_reducible refine Nat.le_trans (Txt.slice_le _ _ _) ?_); walk_at "vn") | lia | (split <;> walk_at "vn") | with_reducible rfl | (simp [sizeLine]; done) | (simp [sizeLine]; lia) | decide)
local macro_rules | `(tactic| walk_at "vp") => `(tactic| first
  | with_reducible exact EvP.none
  | (with_reducible apply EvP.some); walk_at "vx")
local macro_rules | `(tactic| walk_at "vop") => `(tactic| first
  | (with_reducible first | exact BinS.add | exact BinS.sub)
  | (with_reducible first | exact CmpS.eqStr | exact CmpS.neStr | exact CmpS.eqInt | exact CmpS.lt | exact CmpS.gt | exact CmpS.ge | exact CmpS.inStr | exact CmpS.notInStr | exact CmpS.isNotStrTok | exact CmpS.isNotTok | exact CmpS.isTok | exact CmpS.isNotBool))
local macro_rules | `(tactic| walk_at "vx") => `(tactic| first
  | (with_reducible first | exact EvS.cint | exact EvS.cbool)
  | (with_reducible apply EvS.cstr); decide +kernel
  | (with_reducible apply EvS.name); rfl; rfl
  | (with_reducible apply EvS.bin); walk_at "vx"; walk_at "vx"; walk_at "vop"
  | (with_reducible apply EvS.cmp); walk_at "vx"; walk_at "vx"; walk_at "vop"; (first | rfl | with_unfolding_all rfl)
  | (with_reducible apply EvS.neg); walk_at "vx"
  | (with_reducible apply EvS.and2); walk_at "vx"; intro _; walk_at "vx"
  | (with_reducible apply EvS.or2); walk_at "vx"; intro _; walk_at "vx"
  | (with_reducible apply EvS.ifT); walk_at "vt"; (with_reducible assumption); walk_at "vx"
  | (with_reducible apply EvS.ifF); walk_at "vt"; (with_reducible assumption); walk_at "vx"
  | (with_reducible apply EvS.ifStr); walk_at "vt"; (intro _; walk_at "vx"); (intro _; walk_at "vx")
  | (with_reducible apply EvS.ifInt); walk_at "vt"; (intro _; walk_at "vx"); (intro _; walk_at "vx")
  | (with_reducible apply EvS.slice); walk_at "vx"; walk_at "vp"; walk_at "vp"; walk_at "vp"; walk_at "vsl"
  | (with_reducible apply EvS.index); walk_at "vx"; walk_at "vx"; walk_at "vix"; (intro _ _; rfl)
  | (with_reducible apply EvS.list); walk_at "vl"; (simp [sizeLine])
  | (with_reducible apply EvS.tuple); walk_at "vl"; (simp [sizeLine])
  | (with_reducible apply EvS.callBi); rfl; (exact PO.len (by assumption)); walk_at "vl"; (first | ((with_reducible apply CalS.lenTx); lia) | ((with_reducible apply CalS.lenStr); walk_at "vn") | ((with_reducible apply CalS.lenList); walk_at "vn")); rfl
  | (with_reducible apply EvS.callBi); rfl; (exact PO.max (by assumption)); walk_at "vl"; (with_reducible exact CalS.max2); rfl
  | (with_reducible apply EvS.callTy); rfl; (exact PO.range (by assumption)); walk_at "vl"; (first | with_reducible exact CalS.range1 | with_reducible exact CalS.range2 | ((with_reducible apply CalS.range3) <;> decide)); rfl
  | ((with_reducible apply EvS.meth); (first
      | (exact methFind; walk_at "vx"; rfl; walk_at "vl"; (first | with_reducible exact CalS.find3 | with_reducible exact CalS.find))
      | (exact methJoin; walk_at "vx"; rfl; walk_at "vl"; walk_at "vjoin")
      | (exact methCount; walk_at "vx"; rfl; walk_at "vl"; with_reducible exact CalS.countInts));
      (intro _; rfl); rfl; decide; rfl; rfl))
local macro_rules | `(tactic| walk_at "vsl") => `(tactic| first
  | (with_reducible apply SlcS.str); walk_at "vn"
  | (with_reducible apply SlcS.list) <;> walk_at "vn")
local macro_rules | `(tactic| walk_at "vix") => `(tactic| first
  | (with_reducible apply IdxS.nat); (with_reducible assumption); lia
  | (with_reducible apply IdxS.tx) <;> lia)
local macro_rules | `(tactic| walk_at "vt") => `(tactic| first
  | (with_reducible apply EvT.cmp); walk_at "vx"; walk_at "vx"; walk_at "vop"; (first | rfl | with_unfolding_all rfl)
  | (with_reducible apply EvT.not); walk_at "vt"
  | (with_reducible apply EvT.and2); walk_at "vt"; intro _; walk_at "vt"
  | (with_reducible apply EvT.val); walk_at "vx"; walk_at "vtr"; (intro _ _; rfl))
local macro_rules | `(tactic| walk_at "vtr") => `(tactic| first
  | (with_reducible first | exact TruS.bool | exact TruS.int)
  | (with_reducible apply TruS.str); walk_at "vn")
local macro_rules | `(tactic| walk_at "vs") => `(tactic| first
  | (with_reducible apply ExP.next); ((with_reducible apply Ex1.assign); walk_at "vx"; rfl; rfl)
  | (with_reducible apply ExP.next); ((with_reducible apply Ex1.aug); rfl; walk_at "vx"; (with_reducible exact IncS.add); rfl)
  | (with_reducible apply ExP.next); ((with_reducible apply Ex1.assignApp); rfl; rfl; rfl)
  | (with_reducible apply ExP.next); ((with_reducible apply Ex1.append); rfl; rfl; walk_at "vx"; walk_at "vn"; (exact ⟨rfl, rfl⟩); rfl; rfl; rfl)
  | (with_reducible apply ExP.next); ((with_reducible apply Ex1.appendBy); rfl; rfl; rfl; rfl; walk_at "vx"; walk_at "vn"; (exact ⟨rfl, rfl⟩); rfl; rfl; (intro _; rfl))
  | (with_reducible apply ExP.next); ((with_reducible apply Ex1.assert); walk_at "vt")
  | (with_reducible apply ExP.ret); walk_at "vx"; (repeat with_reducible apply Go.ret); (try show Fl.ret _ = Fl.ret _)
  | (with_reducible apply ExP.ite); walk_at "vt"
  | (with_reducible apply ExP.nil); try with_reducible apply Go.next
  | with_reducible apply Go.next)
local macro_rules | `(tactic| walk_at "vl") => `(tactic| first
  | with_reducible exact EvL.nil
  | (with_reducible apply EvL.cons); walk_at "vx"; walk_at "vl"; rfl)
local macro_rules | `(tactic| walk_at "vo") => `(tactic| ((with_reducible apply ExP.next); ((with_reducible apply Ex1.assignNew); rfl; rfl)))
local macro_rules | `(tactic| walk_at "vjoin") => `(tactic| first
  | (with_reducible apply CalS.joinE); lia)
theorem PO.at (P : PO S) {a : Addr} {o : Obj} (h : (frag S.w.params).lookup a = some o) (hT : [57, 165, 172].contains a = false := by rfl) : S.K0 a = some o :=
  P.kn a o h (by rw [P.T]; simpa using hT)
noncomputable def codeQ (K : Frag) (c : Addr) (q : Str) : Bool := match K.lookup c with
  | some ⟨_, _, .fields vs, _⟩ => (match (vs[1]? : Option Value) with | some (.str q2 _) => q2 == q | _ => false)
  | _ => false
theorem PO.code (P : PO S) {c : Addr} {q : Str} (h : codeQ (frag S.w.params) c q = true := by kernel_rfl) (hT : [57, 165, 172].contains c = false := by rfl) :
    ∀ h : Heap, (∀ b o, S.K0 b = some o → h.get? b = some o) → h.CodeRec (.ref c) q := fun h9 kn => by
  unfold codeQ at h
  split at h
  · rename_i vs _ hk
    split at h
    · rename_i q2 t hq
      rw [← eq_of_beq h]
      exact ⟨_, _, _, _, rfl, kn _ _ (P.at hk hT), rfl, hq⟩
    · exact ft h
  · exact ft h
theorem fn_reads (P : PO S) (item sign : Str) (hi : item.length ≤ sizeLine) : FnC S (k + 1) (.ref 158) [.str item, .str sign] (.bool (readsP item sign)) := by
  refine FnC.defP (names := ["item", "sign"]) (P.at rfl) rfl rfl (P.code) rfl (bl2 fun _ _ => rfl) ?_
  conv in (occs := *) (fB _) => whnf
  conv in (occs := *) (fS _) => whnf
  dsimp only [fnCx, List.map_cons, List.map_nil]
  have fin : ∀ {b : Bool}, b = readsP item sign → Fl.ret (.bool b) = Fl.ret (.bool (readsP item sign)) := fun e => by rw [e]
  walk_at "vs"
  · intro h1
    walk_at "vs"
    refine ExP.case (Txt.slice item (some 1) (some 2) == "^") (fun h2 => ?_) fun h2 => ?_
    · walk_at "vs"
      walk_at "vs"
      · intro h3
        repeat walk_at "vs"
        exact fin (by simp only [readsP, h1, h2, h3, if_true])
      · intro h3
        repeat walk_at "vs"
        exact fin (by simp only [readsP, h1, h2, h3, if_true, Bool.false_eq_true, if_false])
    · walk_at "vs"
      walk_at "vs"
      · intro h3
        repeat walk_at "vs"
        exact fin (by simp only [readsP, h1, h2, h3, if_true, Bool.false_eq_true, if_false])
      · intro h3
        repeat walk_at "vs"
        exact fin (by simp only [readsP, h1, h2, h3, if_true, Bool.false_eq_true, if_false])
  · intro h1
    walk_at "vs"
    walk_at "vs"
    · intro h2
      walk_at "vs"
      exact fin (by simp only [readsP, h1, h2, if_true, Bool.false_eq_true, if_false])
    · intro h2
      repeat walk_at "vs"
      exact fin (by simp only [readsP, h1, h2, Bool.false_eq_true, if_false])
section
variable {S : Sys} {k : Nat}
noncomputable abbrev EndsAt (text name r : List Nat) (x : List Nat × Bool × Nat) : Prop := (∃ n, endsL name n (text.drop x.2.2) x.1 x.2.1 = some r) ∧ x.1.length ≤ 1000 ∧ ∀ w ∈ x.1, w ≤ name.length
noncomputable def endsSt (text name : List Nat) (x : List Nat × Bool × Nat) : Sto :=
  lsto [("text", .val (.str (tx text))), ("name", .val (.str (tx name))), ("ways", .val (.list (x.1.map dN))), ("shut", .val (.bool x.2.1)), ("k", .val (.int (x.2.2 : Nat)))]
theorem fn_ends (P : PO S) (text name r : List Nat) {n : Nat} (h : endsL name n text [0] true = some r) (ht : text.length ≤ 2 ^ 20) (hn : name.length ≤ 1000) : FnC S (k + 2) (.ref 163) [.str (tx text), .str (tx name)] (.list (r.map dN)) := by
  refine FnC.defP (names := ["text", "name"]) (P.at rfl) rfl rfl (P.code) rfl (bl2 fun _ _ => rfl) ?_
  conv in (occs := *) (fB _) => whnf
  conv in (occs := *) (fS _) => whnf
  dsimp only [fnCx, List.map_cons, List.map_nil]
  have tl : (tx text).length ≤ sizeLine := by rw [tx_len, sizeLine_eq]; exact Nat.le_trans ‹_› (by decide)
  have nl : (tx name).length ≤ sizeLine := by rw [tx_len, sizeLine_eq]; exact Nat.le_trans ‹_› (by decide)
  have hi0 : EndsAt text name r ([0], true, 0) := ⟨⟨n, by simpa using h⟩, by trivial, by simp⟩
  walk_at "vs"
  walk_at "vs"
  walk_at "vs"
  refine ExP.while (ι := { x // EndsAt text name r x }) (fun i => text.length - i.1.2.2) (fun i => endsSt text name i.1) ⟨([0], true, 0), hi0⟩ (fun i => ?_) (lsto_sub ?_)
  · obtain ⟨⟨ways, shut, q⟩, ⟨m, hm⟩, hw, hle⟩ := i
    dsimp only at hm hw hle
    dsimp only [endsSt]
    have hk : ∀ j : Nat, ((q : Int) + (j : Int)) = ((q + j : Nat) : Int) := fun j => by rfl
    have e6 : Txt.slice (tx text) (some (q : Int)) (some ((q : Int) + 6)) = tx ((text.drop q).take 6) := slice_km text q 6 rfl rfl
    have e2 : Txt.slice (tx text) (some (q : Int)) (some ((q : Int) + 2)) = tx ((text.drop q).take 2) := slice_km text q 2 rfl rfl
    refine ⟨decide ((q : Int) < (text.length : Int)), ?_, fun h0 => ?_, fun h0 => ?_⟩
    · walk_at "vt"
    · rw [decide_eq_false_iff_not] at h0
      have hd : text.drop q = [] := List.drop_of_length_le (by lia)
      rw [hd] at hm
      cases m with
      | zero => exact nsm hm
      | succ m =>
        have hr : (if shut then ways else []) = r := Option.some.inj hm
        with_reducible apply ExP.ret
        · with_reducible apply EvS.ifList
          · walk_at "vt"
          · intro _
            walk_at "vx"
          · intro _
            walk_at "vx"
        · rw [← hr]
          cases shut <;> rfl
    · rw [decide_eq_true_iff] at h0
      have hq : q < text.length := by lia
      obtain ⟨c, rest, hd⟩ : ∃ c rest, text.drop q = c :: rest := by
        rw [List.drop_eq_getElem_cons hq]
        exact ⟨_, _, rfl⟩
      have hn0 : (tx name).length = name.length := tx_len name
      rw [hd] at hm
      cases m with
      | zero => exact nsm hm
      | succ m =>
      have hm' : (if (endsStep name (c :: rest) ways shut).1.length ≤ 1000 then endsL name m ((c :: rest).drop (endsStep name (c :: rest) ways shut).2.2) (endsStep name (c :: rest) ways shut).1 (endsStep name (c :: rest) ways shut).2.1 else none) = some r := hm
      by_cases hl : (endsStep name (c :: rest) ways shut).1.length ≤ 1000
      · rw [if_pos hl] at hm'
        have hstep : ∀ {σ' : Sto} {ways' : List Nat} {shut' : Bool} {j : Nat}, endsStep name (c :: rest) ways shut = (ways', shut', j) → 0 < j → (endsSt text name (ways', shut', q + j)).sub σ' →
            ∃ i' : { x // EndsAt text name r x }, text.length - i'.1.2.2 < text.length - q ∧ (endsSt text name i'.1).sub σ' := fun {σ' ways' shut' j} he hj hs => by
          refine ⟨⟨(ways', shut', q + j), ⟨m, ?_⟩, ?_, ?_⟩, ?_, hs⟩
          · rw [he] at hm'
            dsimp only at hm' ⊢
            rw [← List.drop_drop, hd]
            exact hm'
          · rw [he] at hl; exact hl
          · have := endsStep_le (rest := c :: rest) (shut := shut) hle
            rw [he] at this; exact this
          · show text.length - (q + j) < text.length - q
            lia
        have hlw : ways.length ≤ sizeLine := by rw [sizeLine_eq]; exact Nat.le_trans ‹_› (by decide)
        have g6 : Str.ofString "(?>.*?" = tx [40, 63, 62, 46, 42, 63] := rfl
        have g2 : Str.ofString ".*" = tx [46, 42] := rfl
        have g1 : Str.ofString ")" = tx [41] := rfl
        have gb : Str.ofString "\\" = tx [92] := rfl
        have gk : Str.ofString "[" = tx [91] := rfl
        have gc : text.getD q 0 = c := by
          have := congrArg (fun l : List Nat => l.getD 0 0) hd
          simpa [List.getD] using this
        walk_at "vs"
        · intro h1
          rw [e6, g6, tx_beq, hd] at h1
          have hs1 : endsStep name (c :: rest) ways shut = (ways.flatMap fun w => List.range' w (name.length + 1 - w), false, 6) := by
            unfold endsStep
            rw [if_pos h1]
          refine ExP.next (Ex1.assignComp (out := (ways.flatMap fun w => List.range' w (name.length + 1 - w)).map dN) rfl rfl (by walk_at "vx") IterS.list ?_ ?_) ?_
          · rw [List.map_flatMap]
            refine TurnsR.mapI dN _ ways fun w hw9 => turn1 rfl rfl rfl (.inr ⟨.nil, rfl, (fun _ _ => rfl), _, _, ?_, IterS.up (a := w) (b := name.length + 1) (by lia) (by have := hle w hw9; lia), ?_⟩)
            · show EvS S _ _ _ _ (.range (w : Int) ((name.length : Int) + 1) 1)
              walk_at "vx"
            · refine TurnsR.map1 dN dN _ fun v hv9 => turn1 rfl rfl rfl (.inr ⟨.nil, genOne (EvS.name rfl rfl)⟩)
          · rw [hs1] at hl
            rw [List.length_map, sizeLine_eq]; dsimp only at hl; exact Nat.le_trans ‹_› (by decide)
          repeat walk_at "vs"
          refine hstep hs1 (by exact Nat.succ_pos _) (lsto_sub ?_)
          skip
          exact allE_rfl rfl
        · intro h1
          rw [e6, g6, tx_beq, hd] at h1
          walk_at "vs"
          · intro h2
            rw [g1, tx_beq, gc] at h2
            have hs1 : endsStep name (c :: rest) ways shut = (ways.take 1, true, 1) := by
              unfold endsStep
              rw [if_neg (by rw [h1]; exact Bool.false_ne_true), if_pos (show (List.take 1 (c :: rest) == [41] && !shut) = true from h2)]
            have e1 : pickL (ways.map dN) none (some 1) none = (ways.take 1).map dN := (pick_m _ 1 rfl).trans List.map_take.symm
            repeat walk_at "vs"
            refine hstep hs1 (by exact Nat.le_refl _) (lsto_sub ?_)
            skip
            refine ⟨rfl, rfl, ?_, rfl, rfl, trivial⟩
            rw [← e1]; rfl
          · intro h2
            rw [g1, tx_beq, gc] at h2
            walk_at "vs"
            · intro h3
              rw [e2, g2, tx_beq, hd] at h3
              have hs1 : endsStep name (c :: rest) ways shut = (ways.flatMap fun w => (List.range' w (name.length + 1 - w)).reverse, shut, 2) := by
                unfold endsStep
                rw [if_neg (by rw [h1]; exact Bool.false_ne_true), if_neg (by rw [show List.take 1 (c :: rest) = [c] from rfl, h2]; exact Bool.false_ne_true), if_pos h3]
              refine ExP.next (Ex1.assignComp (out := (ways.flatMap fun w => (List.range' w (name.length + 1 - w)).reverse).map dN) rfl rfl (by walk_at "vx") IterS.list ?_ ?_) ?_
              · rw [List.map_flatMap]
                refine TurnsR.mapI dN _ ways fun w hw9 => turn1 rfl rfl rfl (.inr ⟨.nil, rfl, (fun _ _ => rfl), _, _, ?_, IterS.down (a := name.length) (b := w) (by have := hle w hw9; lia) (by have := hle w hw9; exact Nat.le_succ_of_le ‹_›) (by lia), ?_⟩)
                · walk_at "vx"
                · refine TurnsR.map1 dN dN _ fun v hv9 => turn1 rfl rfl rfl (.inr ⟨.nil, genOne (EvS.name rfl rfl)⟩)
              · rw [hs1] at hl
                rw [List.length_map, sizeLine_eq]; dsimp only at hl; exact Nat.le_trans ‹_› (by decide)
              repeat walk_at "vs"
              refine hstep hs1 (by exact Nat.succ_pos _) (lsto_sub ?_)
              skip
              exact allE_rfl rfl
            · intro h3
              rw [e2, g2, tx_beq, hd] at h3
              have hs1 : endsStep name (c :: rest) ways shut = (((ways.filter fun w => decide (w < name.length) && readsP (tx ((c :: rest).take (atomLen (c :: rest)))) (tx [name.getD w 0])).map (· + 1), shut, atomLen (c :: rest)) : List Nat × Bool × Nat) := by
                unfold endsStep
                rw [if_neg (by rw [h1]; exact Bool.false_ne_true), if_neg (by rw [show List.take 1 (c :: rest) = [c] from rfl, h2]; exact Bool.false_ne_true), if_neg (by rw [h3]; exact Bool.false_ne_true)]
              have hsub : Txt.slice (tx text) (some (q : Int)) (some ((q + atomLen (c :: rest) : Nat) : Int)) = tx ((c :: rest).take (atomLen (c :: rest))) := by
                rw [slice_km text q (atomLen (c :: rest)) rfl (by rfl), hd]
              have hfind : Txt.find3 (tx text) (Str.ofString "]") (q : Int) = match (c :: rest).idxOf? 93 with | some j => ((q + j : Nat) : Int) | none => -1 := by
                rw [show Str.ofString "]" = tx [93] from rfl, find3_tx text 93 q (by exact Nat.le_of_lt ‹_›), hd]
                all_goals rfl
              with_reducible apply ExP.next
              · refine Ex1.assign (d := .int ((q + (if c == 92 then 2 else 1) : Nat) : Int)) ?_ ?_ ?_
                · with_reducible apply EvS.to
                  · walk_at "vx"
                  · rw [gb, tx_beq, gc, show ([c] == [92]) = (c == 92) by simp]
                    cases c == 92 <;> rfl
                · rfl
                · rfl
              refine ExP.next (σ₁ := lsto [("text", .val (.str (tx text))), ("name", .val (.str (tx name))), ("ways", .val (.list (ways.map dN))), ("shut", .val (.bool shut)), ("k", .val (.int (q : Nat))), ("stop", .val (.int ((q + atomLen (c :: rest) : Nat) : Int)))]) ?_ ?_
              · by_cases hc : c = 91
                · with_reducible apply Ex1.weak
                  with_reducible apply Ex1.if_true
                  · with_reducible apply EvT.to
                    · walk_at "vt"
                    · rw [gk, tx_beq, gc, hc]; rfl
                  with_reducible apply ExS.one
                  · refine Ex1.assign (d := .int ((q + atomLen (c :: rest) : Nat) : Int)) ?_ ?_ ?_
                    · with_reducible apply EvS.to
                      · walk_at "vx"
                      · rw [hfind]
                        subst hc
                        have ha : atomLen (91 :: rest) = match (91 :: rest).idxOf? 93 with | some j => j + 1 | none => 1 := rfl
                        rw [ha]
                        cases (91 :: rest).idxOf? 93 with
                        | none =>
                          dsimp only
                          rw [if_neg (by lia)]; rfl
                        | some j =>
                          dsimp only
                          have : (if ((q + j : Nat) : Int) > (q : Int) then ((q + j : Nat) : Int) else (q : Int)) + 1 = ((q + (j + 1) : Nat) : Int) := by split <;> lia
                          rw [this]
                    · rfl
                    · rfl
                  · refine lsto_sub ?_
                    skip
                    exact allE_rfl rfl
                · refine Ex1.weak (Ex1.if_false (b := _) ?_ ExS.nil) (lsto_sub ?_)
                  · with_reducible apply EvT.to
                    · walk_at "vt"
                    · rw [gk, tx_beq, gc, show ([c] == [91]) = (c == 91) by simp]
                      exact beq_eq_false_iff_ne.mpr hc
                  · skip
                    refine ⟨rfl, rfl, rfl, rfl, rfl, ?_, trivial⟩
                    have : atomLen (c :: rest) = (if c == 92 then 2 else 1) := by
                      show (if c == 91 then _ else _) = _
                      rw [if_neg (by rw [beq_iff_eq]; exact hc)]
                    rw [this]; rfl
              refine ExP.next (Ex1.assignComp (out := ((ways.filter fun w => decide (w < name.length) && readsP (tx ((c :: rest).take (atomLen (c :: rest)))) (tx [name.getD w 0])).map (· + 1)).map dN) rfl rfl (by walk_at "vx") IterS.list ?_ ?_) ?_
              · rw [List.map_map]
                refine TurnsR.filt dN _ _ ways fun w hw9 => ⟨fun hc9 => turn1 rfl rfl rfl (.inr ⟨TestR.one (EvT.to ?_ hc9), genOne ?_⟩), fun hc9 => turn1 rfl rfl rfl (.inl ⟨TestR.one (EvT.to ?_ hc9), rfl⟩)⟩
                · have hv := hle w hw9
                  refine EvT.and2 (c := decide (w < name.length)) ?_ fun hc8 => EvT.val (EvS.callFn (ds := [.str (tx ((c :: rest).take (atomLen (c :: rest)))), .str (tx [name.getD w 0])]) rfl P.greads (P.at rfl) ?_ (fn_reads P _ _ ?_).call) TruS.bool
                  · with_reducible apply EvT.to
                    · walk_at "vt"
                    · rw [Bool.eq_iff_iff, decide_eq_true_iff, decide_eq_true_iff]; lia
                  · rw [decide_eq_true_iff] at hc8
                    rw [← hsub]
                    walk_at "vl"
                  · rw [tx_len, List.length_take, ← hd, List.length_drop, sizeLine_eq]; lia
                · with_reducible apply EvS.to
                  · walk_at "vx"
                  · rfl
                · have hv := hle w hw9
                  refine EvT.and2 (c := decide (w < name.length)) ?_ fun hc8 => EvT.val (EvS.callFn (ds := [.str (tx ((c :: rest).take (atomLen (c :: rest)))), .str (tx [name.getD w 0])]) rfl P.greads (P.at rfl) ?_ (fn_reads P _ _ ?_).call) TruS.bool
                  · with_reducible apply EvT.to
                    · walk_at "vt"
                    · rw [Bool.eq_iff_iff, decide_eq_true_iff, decide_eq_true_iff]; lia
                  · rw [decide_eq_true_iff] at hc8
                    rw [← hsub]
                    walk_at "vl"
                  · rw [tx_len, List.length_take, ← hd, List.length_drop, sizeLine_eq]; lia
              · rw [hs1] at hl
                rw [List.length_map, sizeLine_eq]; dsimp only at hl; exact Nat.le_trans ‹_› (by decide)
              repeat walk_at "vs"
              refine hstep hs1 (atomLen_pos _) (lsto_sub ?_)
              skip
              exact allE_rfl rfl
      · rw [if_neg hl] at hm'; exact nsm hm'
  · skip
    exact allE_rfl rfl
end
section
variable {S : Sys} {k : Nat}
noncomputable def ptD (q : Nat) : Option (List Nat) → D
  | none => .tok q
  | some s => .str (tx s)
noncomputable def headSome : List (Option (List Nat)) → Bool
  | some _ :: _ => true
  | _ => false
theorem joinG_acc : ∀ (l : List (Option (List Nat))) (acc : List Nat), acc.length ≤ (joinG l (some acc)).length
  | [], acc => by simp only [joinG, List.length_append]; exact Nat.le_add_left _ _
  | some s :: r, acc => by
    have := joinG_acc r (acc ++ s)
    simp only [joinG, List.length_append] at this ⊢; lia
  | none :: r, acc => by simp only [joinG, List.length_append]; lia
theorem joinG_some : ∀ (fx : List (List Nat)) (r : List (Option (List Nat))) (acc : List Nat), joinG (fx.map some ++ r) (some acc) = joinG r (some (acc ++ fx.flatten))
  | [], r, acc => by simp
  | f :: fx, r, acc => by
    show joinG (fx.map some ++ r) (some (acc ++ f)) = _
    rw [joinG_some fx r (acc ++ f)]; simp
theorem joinG_none : ∀ (fx : List (List Nat)) (r : List (Option (List Nat))), joinG (fx.map some ++ r) none = fx.flatten ++ joinG r none
  | [], r => by simp
  | f :: fx, r => by
    show f ++ joinG (fx.map some ++ r) none = _
    rw [joinG_none fx r]; simp
noncomputable abbrev stL (ps : List (List Nat)) : List D := ps.map fun p => .str (tx p)
theorem stL_add (ps : List (List Nat)) (p : List Nat) : stL ps ++ [.str (tx p)] = stL (ps ++ [p]) := by simp
noncomputable def jSt (inp : List (Option (List Nat))) (q : Nat) (res : List (List Nat)) (i : Nat) : Sto :=
  lsto [("inp", .val (.list (inp.map (ptD q)))), ("STAR", .val (.tok q)), ("res", .own (stL res)), ("add", .app "res"), ("i", .val (.int (i : Nat))), ("n", .val (.int (inp.length : Nat)))]
theorem fn_joinp (P : PO S) (q : Nat) (inp : List (Option (List Nat))) (hadj : ∀ l r, inp ≠ l ++ none :: none :: r) (hi : inp.length ≤ 2 ^ 20) (hl : (joinG inp none).length ≤ 2 ^ 20) :
    FnC S (k + 1) (.ref 69) [.list (inp.map (ptD q)), .tok q] (.str (tx ([40, 63, 115, 58] ++ joinG inp none ++ [41, 92, 90]))) := by
  refine FnC.defP (names := ["inp", "STAR"]) (P.at rfl) rfl rfl (P.code) rfl (bl2 fun _ _ => rfl) ?_
  conv in (occs := *) (fB _) => whnf
  conv in (occs := *) (fS _) => whnf
  dsimp only [fnCx, List.map_cons, List.map_nil]
  walk_at "vo"
  walk_at "vs"
  with_reducible apply ExP.next
  · with_reducible apply Ex1.assignTwo
    · walk_at "vx"
    · rfl
    · rfl
    · intro env he
      unfold swappedStores Env.blockKind Env.kindOf
      rw [he]; rfl
    · intro env; rfl
  have hln : (inp.map (ptD q)).length = inp.length := List.length_map ..
  have hget : ∀ (pre : List (Option (List Nat))) x r, inp = pre ++ x :: r → (inp.map (ptD q))[pre.length]? = some (ptD q x) := fun pre x r h => by
    rw [h]; simp
  refine ExP.while (ι := { x : List (List Nat) × List (Option (List Nat)) // inp = x.1.map some ++ x.2 }) (fun i => i.1.2.length) (fun i => jSt inp q i.1.1 i.1.1.length) ⟨([], inp), rfl⟩ (fun i => ?_) (lsto_sub ?_)
  · obtain ⟨⟨pre, rest⟩, hx⟩ := i
    dsimp only at hx
    dsimp only [jSt]
    have hlx : inp.length = pre.length + rest.length := by rw [hx]; simp
    refine ⟨headSome rest, ?_, fun h0 => ?_, fun h1 => ?_⟩
    · cases rest with
      | nil =>
        refine EvT.boolop (EvAll.and_false (EvT.to (c := decide ((pre.length : Int) < (inp.length : Int))) ?_ ?_))
        · walk_at "vt"
        · rw [decide_eq_false_iff_not]; simp only [List.length_nil] at hlx; lia
      | cons x rest =>
        have hg := hget (pre.map some) x rest hx
        rw [List.length_map] at hg
        cases x with
        | none =>
          refine EvT.to (c := decide ((pre.length : Int) < (inp.length : Int)) && false) (EvT.and2 ?_ fun _ => ?_) (by rw [Bool.and_false]; rfl)
          · walk_at "vt"
          · change _ = some (D.tok q) at hg
            walk_at "vt"
        | some s =>
          refine EvT.to (c := decide ((pre.length : Int) < (inp.length : Int)) && true) (EvT.and2 ?_ fun _ => ?_) ?_
          · walk_at "vt"
          · change _ = some (D.str (tx s)) at hg
            walk_at "vt"
          · rw [Bool.and_true]
            show _ = true
            rw [decide_eq_true_iff]
            simp only [List.length_cons] at hlx; lia
    · have hrest : rest = [] ∨ ∃ r, rest = none :: r := by
        cases rest with
        | nil => exact .inl rfl
        | cons x r => cases x with
          | none => exact .inr ⟨r, rfl⟩
          | some s => exact tf h0
      refine ExP.while (ι := { x : List (List Nat) × List (Option (List Nat)) × List (Option (List Nat)) // inp = x.2.1 ++ x.2.2 ∧ (x.2.2 = [] ∨ ∃ r, x.2.2 = none :: r) ∧ x.1.flatten ++ joinG x.2.2 none = joinG inp none ∧ x.1.length ≤ 2 * x.2.1.length })
        (fun i => i.1.2.2.length) (fun i => jSt inp q i.1.1 i.1.2.1.length) ⟨(pre, pre.map some, rest), hx, hrest, by rw [hx, joinG_none], by dsimp only; rw [List.length_map]; lia⟩ (fun i => ?_) (lsto_sub ?_)
      · obtain ⟨⟨res, pr, rs⟩, hx2, hr2, ht2, hc2⟩ := i
        dsimp only at hx2 hr2 ht2 hc2
        dsimp only [jSt]
        have hlx2 : inp.length = pr.length + rs.length := by rw [hx2]; simp
        have hlen2 : res.flatten.length ≤ 2 ^ 20 := by
          have := congrArg List.length ht2
          rw [List.length_append] at this; lia
        refine ⟨!rs.isEmpty, ?_, fun h2 => ?_, fun h2 => ?_⟩
        · refine EvT.to (c := decide ((pr.length : Int) < (inp.length : Int))) ?_ ?_
          · walk_at "vt"
          · cases rs with
            | nil => rw [List.isEmpty_nil]; simp only [List.length_nil] at hlx2; exact decide_eq_false (by lia)
            | cons x r => rw [List.isEmpty_cons]; simp only [List.length_cons] at hlx2; exact decide_eq_true (by lia)
        · have hrs : rs = [] := by simpa using h2
          subst hrs
          simp only [joinG, List.append_nil] at ht2
          simp only [List.length_nil] at hlx2
          with_reducible apply ExP.next
          · with_reducible apply Ex1.assert
            with_reducible apply EvT.to
            · walk_at "vt"
            · rw [beq_iff_eq]; lia
          refine ExP.freeze (x := "res") (xs := stL res) rfl rfl ?_
          walk_at "vs"
          with_reducible apply ExP.ret
          · refine EvS.fstrT (xs := [[40, 63, 115, 58], res.flatten, [41, 92, 90]]) (.cons EvS.cstr (.cons (EvS.fval (EvS.name rfl rfl) ?_) (.cons EvS.cstr .nil))) ?_
            · rw [tx_len, sizeLine_eq]; exact Nat.le_trans ‹_› (by decide)
            · simp only [List.flatten_cons, List.flatten_nil, List.append_nil, List.length_append, List.length_cons, List.length_nil]; lia
          · rw [← ht2]; simp
        · obtain ⟨r, rfl⟩ : ∃ r, rs = none :: r := by
            rcases hr2 with rfl | h
            · exact ft h2
            · exact h
          have hg := hget pr none r hx2
          change _ = some (D.tok q) at hg
          simp only [List.length_cons] at hlx2
          have hpl2 : (stL res).length ≤ sizeLine := by rw [List.length_map, sizeLine_eq]; lia
          walk_at "vs"
          walk_at "vs"
          with_reducible apply ExP.ite
          · walk_at "vt"
          · intro h3
            rw [beq_iff_eq] at h3
            have hr : r = [] := List.length_eq_zero_iff.mp (by lia)
            subst hr
            have ht3 : (res ++ [[46, 42]]).flatten = joinG inp none := by rw [← ht2]; simp [joinG]
            have hlen3 : (res ++ [[46, 42]]).flatten.length ≤ 2 ^ 20 := by rw [ht3]; exact hl
            walk_at "vs"
            refine ExP.brk (Go.brk ?_)
            show ExP S k _ _ _ _
            with_reducible apply ExP.next
            · with_reducible apply Ex1.assert
              with_reducible apply EvT.to
              · walk_at "vt"
              · rw [beq_iff_eq]; exact h3
            refine ExP.freeze (x := "res") (xs := stL (res ++ [[46, 42]])) ?_ rfl ?_
            · rw [← stL_add]; rfl
            walk_at "vs"
            with_reducible apply ExP.ret
            · refine EvS.fstrT (xs := [[40, 63, 115, 58], (res ++ [[46, 42]]).flatten, [41, 92, 90]]) (.cons EvS.cstr (.cons (EvS.fval (EvS.name rfl rfl) ?_) (.cons EvS.cstr .nil))) ?_
              · rw [tx_len, sizeLine_eq]; exact Nat.le_trans ‹_› (by decide)
              · simp only [List.flatten_cons, List.flatten_nil, List.append_nil, List.length_append, List.length_cons, List.length_nil] at hlen3 ⊢; lia
            · rw [← ht3]; simp
          · intro h3
            have h3' : ¬ ((pr.length : Int) + 1 = (inp.length : Int)) := by simpa using h3
            obtain ⟨s, r', rfl⟩ : ∃ s r', r = some s :: r' := by
              cases r with
              | nil => simp only [List.length_nil] at hlx2; lia
              | cons x r' => cases x with
                | none => exact absurd hx2 (hadj pr r')
                | some s => exact ⟨s, r', rfl⟩
            have hx3 : inp = (pr ++ [none]) ++ (some s :: r') := by rw [hx2]; simp
            have hg2 := hget (pr ++ [none]) (some s) r' hx3
            rw [List.length_append] at hg2
            change (inp.map (ptD q))[pr.length + 1]? = some (D.str (tx s)) at hg2
            walk_at "vs"
            with_reducible apply ExP.next
            · with_reducible apply Ex1.assert
              refine EvT.cmp (d1 := .str (tx s)) (d2 := .tok q) ?_ ?_ ?_
              · refine EvS.index (d2 := .int ((pr.length + 1 : Nat) : Int)) ?_ ?_ (IdxS.nat hg2 (by lia))
                · walk_at "vx"
                · walk_at "vx"
              · walk_at "vx"
              · walk_at "vop"
            walk_at "vo"
            refine ExP.while (ι := { x : List (List Nat) × List (Option (List Nat)) // some s :: r' = x.1.map some ++ x.2 }) (fun i => i.1.2.length)
              (fun i => lsto [("inp", .val (.list (inp.map (ptD q)))), ("STAR", .val (.tok q)), ("res", .own (stL res)), ("add", .app "res"), ("i", .val (.int ((pr.length + 1 + i.1.1.length : Nat) : Int))), ("n", .val (.int (inp.length : Nat))), ("fixed", .own (stL i.1.1))])
              ⟨([], some s :: r'), rfl⟩ (fun i => ?_) (lsto_sub ?_)
            · obtain ⟨⟨fx, rs⟩, hx4⟩ := i
              dsimp only at hx4
              dsimp only
              have hx5 : inp = (pr ++ [none] ++ fx.map some) ++ rs := by rw [hx3, hx4]; simp
              have hlx5 : inp.length = pr.length + 1 + fx.length + rs.length := by rw [hx5]; simp; lia
              have hgs : ∀ x r, rs = x :: r → (inp.map (ptD q))[pr.length + 1 + fx.length]? = some (ptD q x) := fun x r e => by
                have := hget (pr ++ [none] ++ fx.map some) x r (by rw [hx5, e])
                rw [List.length_append, List.length_append, List.length_map] at this
                exact this
              have hpf : (stL fx).length ≤ sizeLine := by rw [List.length_map, sizeLine_eq]; lia
              have hjg : joinG inp none = res.flatten ++ joinG rs (some fx.flatten) := by
                rw [← ht2]
                show _ = res.flatten ++ joinG rs (some fx.flatten)
                rw [hx4]
                show res.flatten ++ joinG (fx.map some ++ rs) (some []) = _
                rw [joinG_some]; simp
              have hlf : fx.flatten.length ≤ 2 ^ 20 := by
                have h9 := joinG_acc rs fx.flatten
                have := congrArg List.length hjg
                rw [List.length_append] at this; lia
              refine ⟨headSome rs, ?_, fun h4 => ?_, fun h4 => ?_⟩
              · cases rs with
                | nil =>
                  refine EvT.boolop (EvAll.and_false (EvT.to (c := decide (((pr.length + 1 + fx.length : Nat) : Int) < (inp.length : Int))) ?_ ?_))
                  · walk_at "vt"
                  · rw [decide_eq_false_iff_not]; simp only [List.length_nil] at hlx5; lia
                | cons x rs =>
                  have hg := hgs x rs rfl
                  cases x with
                  | none =>
                    refine EvT.to (c := decide (((pr.length + 1 + fx.length : Nat) : Int) < (inp.length : Int)) && false) (EvT.and2 ?_ fun _ => ?_) (by rw [Bool.and_false]; rfl)
                    · walk_at "vt"
                    · change _ = some (D.tok q) at hg
                      walk_at "vt"
                  | some s9 =>
                    refine EvT.to (c := decide (((pr.length + 1 + fx.length : Nat) : Int) < (inp.length : Int)) && true) (EvT.and2 ?_ fun _ => ?_) ?_
                    · walk_at "vt"
                    · change _ = some (D.str (tx s9)) at hg
                      walk_at "vt"
                    · rw [Bool.and_true]
                      show _ = true
                      rw [decide_eq_true_iff]
                      simp only [List.length_cons] at hlx5; lia
              · have hr4 : rs = [] ∨ ∃ r, rs = none :: r := by
                  cases rs with
                  | nil => exact .inl rfl
                  | cons x r => cases x with
                    | none => exact .inr ⟨r, rfl⟩
                    | some s => exact tf h4
                refine ExP.freeze (x := "fixed") (xs := stL fx) rfl rfl ?_
                walk_at "vs"
                with_reducible apply ExP.ite
                · walk_at "vt"
                · intro h5
                  have hrs : rs = [] := by
                    rw [beq_iff_eq] at h5
                    exact List.length_eq_zero_iff.mp (by lia)
                  subst hrs
                  walk_at "vs"
                  with_reducible apply ExP.next
                  · refine Ex1.appendBy (x := "res") (xs := stL (res ++ [[46, 42]])) rfl rfl ?_ rfl (EvS.name rfl rfl) ?_
                    · rw [← stL_add]; rfl
                    · rw [List.length_map, List.length_append, sizeLine_eq]; simp; lia
                  refine ExP.nil (Go.next (ExP.nil ⟨⟨(res ++ [[46, 42]] ++ [fx.flatten], inp, []), ?_, .inl rfl, ?_, ?_⟩, ?_, lsto_sub ?_⟩))
                  · simp
                  · rw [hjg]; simp [joinG]
                  · dsimp only; rw [List.length_append, List.length_append]; simp; lia
                  · simp
                  · skip
                    refine ⟨rfl, rfl, ?_, rfl, ?_, rfl, trivial⟩
                    · exact congrArg (fun z => some (Ent.own z)) (stL_add _ _)
                    · simp only [List.length_nil] at hlx5
                      show some (Ent.val (.int ((pr.length + 1 + fx.length : Nat) : Int))) = some (Ent.val (.int (inp.length : Int)))
                      rw [show pr.length + 1 + fx.length = inp.length by lia]
                · intro h5
                  obtain ⟨r5, rfl⟩ : ∃ r, rs = none :: r := by
                    rcases hr4 with rfl | h
                    · simp only [List.length_nil] at hlx5
                      have h6 : ¬ (((pr.length + 1 + fx.length : Nat) : Int) = (inp.length : Int)) := by simpa using h5
                      lia
                    · exact h
                  have hjl : ([40, 63, 62, 46, 42, 63] ++ fx.flatten ++ [41]).length ≤ 2 ^ 21 := by
                    rw [List.length_append, List.length_append]
                    simp only [List.length_cons, List.length_nil]; lia
                  with_reducible apply ExP.next
                  · refine Ex1.appendBy (x := "res") (xs := stL res) (d := .str (tx ([[40, 63, 62, 46, 42, 63], fx.flatten, [41]] : List (List Nat)).flatten)) rfl rfl rfl rfl ?_ hpl2
                    refine EvS.fstrT (xs := [[40, 63, 62, 46, 42, 63], fx.flatten, [41]]) (.cons EvS.cstr (.cons (EvS.fval (EvS.name rfl rfl) ?_) (.cons EvS.cstr .nil))) ?_
                    · rw [tx_len, sizeLine_eq]; exact Nat.le_trans ‹_› (by decide)
                    · simp; simp at hlf; exact Nat.le_trans ‹_› (by decide)
                  refine ExP.nil (Go.next (ExP.nil ⟨⟨(res ++ [([[40, 63, 62, 46, 42, 63], fx.flatten, [41]] : List (List Nat)).flatten], pr ++ [none] ++ fx.map some, none :: r5), ?_, .inr ⟨_, rfl⟩, ?_, ?_⟩, ?_, lsto_sub ?_⟩))
                  · exact hx5
                  · rw [hjg]; simp [joinG]
                  · dsimp only; simp; lia
                  · have := congrArg List.length hx4
                    simp at this ⊢
                    lia
                  · skip
                    refine ⟨rfl, rfl, ?_, rfl, ?_, rfl, trivial⟩
                    · rw [← stL_add]; rfl
                    · rw [List.length_append, List.length_append, List.length_map]; rfl
              · obtain ⟨s4, r4, rfl⟩ : ∃ s r, rs = some s :: r := by
                  cases rs with
                  | nil => exact ft h4
                  | cons x r => cases x with
                    | none => exact ft h4
                    | some s => exact ⟨s, r, rfl⟩
                have hg := hgs (some s4) r4 rfl
                change _ = some (D.str (tx s4)) at hg
                walk_at "vs"
                walk_at "vs"
                refine ExP.nil ⟨⟨(fx ++ [s4], r4), ?_⟩, ?_, lsto_sub ?_⟩
                · rw [hx4]; simp
                · simp
                · skip
                  refine ⟨rfl, rfl, rfl, rfl, ?_, rfl, ?_, trivial⟩
                  · rw [List.length_append]; rfl
                  · rw [← stL_add]; rfl
            · skip
              refine ⟨rfl, rfl, rfl, rfl, rfl, rfl, rfl, trivial⟩
      · skip
        refine ⟨rfl, rfl, rfl, rfl, ?_, rfl, trivial⟩
        rw [List.length_map]; rfl
    · obtain ⟨s, r, rfl⟩ : ∃ s r, rest = some s :: r := by
        cases rest with
        | nil => exact ft h1
        | cons x r => cases x with
          | none => exact ft h1
          | some s => exact ⟨s, r, rfl⟩
      have hg := hget (pre.map some) (some s) r hx
      rw [List.length_map] at hg
      change _ = some (D.str (tx s)) at hg
      have hpl : (stL pre).length ≤ sizeLine := by rw [List.length_map, sizeLine_eq]; lia
      walk_at "vs"
      walk_at "vs"
      refine ExP.nil ⟨⟨(pre ++ [s], r), ?_⟩, ?_, lsto_sub ?_⟩
      · rw [hx]; simp
      · simp
      · skip
        refine ⟨rfl, rfl, ?_, rfl, ?_, rfl, trivial⟩
        · rw [← stL_add]; rfl
        · rw [List.length_append]; rfl
  · skip
    refine ⟨rfl, rfl, rfl, rfl, rfl, ?_, trivial⟩
    rw [← hln]; rfl
end
section
variable {S : Sys} {k : Nat}
noncomputable def spOk (es : Array DictEntry) : Bool := es.all (fun e => match e.key with | .int k _ => e.hash == hashInt k | _ => false) &&
  (List.range 128).all fun c => match findBy Value.isInt es (c : Int) with
    | none => !spc.contains c
    | some (.str x _) => spc.contains c && x == tx [92, c]
    | _ => false
theorem spMap (P : PO S) : ∃ f : Int → Option Value, (∀ h : Heap, (∀ a o, S.K0 a = some o → h.get? a = some o) → h.MapOf (intKind S.prog S.w) 45 f) ∧
    ∀ c : Nat, c < 128 → (spc.contains c = false ∧ f c = none) ∨ (spc.contains c = true ∧ ∃ u, f c = some (.str (tx [92, c]) u)) := by
  obtain ⟨es, n, hl, hes⟩ : ∃ es n, (frag S.w.params).lookup 45 = some ⟨.type "dict", none, .dict es n, #[]⟩ ∧ spOk es = true := ⟨_, _, rfl, by kernel_rfl⟩
  unfold spOk at hes
  rw [Bool.and_eq_true, Array.all_eq_true_iff_forall_mem, List.all_eq_true] at hes
  refine ⟨fun c => findBy Value.isInt es c, fun h kn => ⟨_, es, n, kn _ _ (P.at hl), ⟨rfl, rfl, rfl⟩, rfl, fun e he => ?_, fun _ => rfl⟩, fun c hc => ?_⟩
  · have := hes.1 e he
    split at this
    · rename_i k t hk
      exact ⟨k, by rw [hk]; simp [intKind, Value.isInt], by simpa [intKind] using this⟩
    · exact ft this
  · have := hes.2 c (List.mem_range.mpr hc)
    split at this
    · rename_i hn
      exact .inl ⟨by simpa using this, hn⟩
    · rename_i x u hs
      rw [Bool.and_eq_true, beq_iff_eq] at this
      exact .inr ⟨this.1, u, by rw [← this.2]; exact hs⟩
    · exact ft this
theorem fn_escape (P : PO S) (l : List Nat) (h : ∀ c ∈ l, c < 128) (hl : l.length ≤ 2 ^ 20) : FnC S (k + 1) (.ref 55) [.str (tx l)] (.str (tx (escL spc l))) := by
  refine FnC.defP (names := ["pattern"]) (P.at rfl) rfl rfl (P.code) rfl (bl1 fun _ => rfl) ?_
  conv in (occs := *) (fB _) => whnf
  conv in (occs := *) (fS _) => whnf
  dsimp only [fnCx, List.map_cons, List.map_nil]
  refine elEA (spMap P) fun f hm hf => ?_
  refine ExP.ite (c := true) (EvT.val (EvS.isinstStr (EvS.name rfl rfl) rfl P.isinst rfl P.str) TruS.bool) (fun _ => ?_) fun h => by exact tf h
  refine ExP.ret (EvS.meth methTranslate (d0 := .str (tx l)) (ds := [.tok 45]) (EvS.name rfl rfl) rfl (.cons (EvS.globTok rfl P.gspecial (P.ι _)) .nil) (CalS.translate (P.ι _) rfl hm (fun c hc => ⟨h c hc, hf c (h c hc)⟩) hl)) ?_
  exact rfl
end
section
variable {S : Sys} {k : Nat}
noncomputable def tSt (pat : List Nat) (q : Nat) (acc : List (Option (List Nat))) (i : Nat) : Sto :=
  lsto [("pat", .val (.str (tx pat))), ("STAR", .val (.tok q)), ("QUESTION_MARK", .val (.str (tx [46]))), ("res", .own (acc.map (ptD q))), ("add", .app "res"), ("i", .val (.int (i : Nat))), ("n", .val (.int (pat.length : Nat)))]
theorem ptD_add (q : Nat) (acc : List (Option (List Nat))) (x : Option (List Nat)) : acc.map (ptD q) ++ [ptD q x] = (acc ++ [x]).map (ptD q) := by simp
theorem lamT (P : PO S) {cx : Cx} (h2 : cx.code = .ref 61) (h3 : cx.ql = Str.ofString "_translate.<locals>.") (pos : Pos) (hq : Str.ofString "_translate.<locals>." ++ "<lambda>" = qlf 57 pos) : LamAt S cx qlf 61 57 pos :=
  ⟨h2, fun h kn => ⟨_, _, _, _, _, _, _, _, _, kn _ _ (P.at rfl), rfl, rfl, rfl, rfl, rfl, rfl, rfl, rfl, by decide⟩, by rw [P.T]; exact .head _, P.tab, fun h kn => P.blt h kn _ (by rw [P.T]; exact .head _), by decide, by rw [h3]; exact hq, fun p h => by unfold qlf; rw [h.1, h.2]⟩
theorem genT (P : PO S) {cx : Cx} (h2 : cx.code = .ref 61) (h3 : cx.ql = Str.ofString "_translate.<locals>.") (pos : Pos) (hq : Str.ofString "_translate.<locals>." ++ "<genexpr>" = qlf 57 pos) : GenL S cx qlf 61 57 pos :=
  ⟨h2, fun h kn => ⟨_, _, _, _, _, _, _, _, _, kn _ _ (P.at rfl), rfl, rfl, rfl, rfl, rfl, rfl, rfl, rfl, by decide⟩, by rw [P.T]; exact .head _, P.tab, fun h kn => P.blt h kn _ (by rw [P.T]; exact .head _), by rw [h3]; exact hq, fun p h => by unfold qlf; rw [h.1, h.2]⟩
noncomputable def bSt (pat : List Nat) (q : Nat) (acc : List (Option (List Nat))) (i j : Nat) : Sto :=
  lsto [("pat", .val (.str (tx pat))), ("STAR", .val (.tok q)), ("QUESTION_MARK", .val (.str (tx [46]))), ("res", .own (acc.map (ptD q))), ("add", .app "res"), ("i", .val (.int (i : Nat))), ("n", .val (.int (pat.length : Nat))), ("c", .val (.str (tx [91]))), ("j", .val (.int (j : Nat)))]
noncomputable def cSt (pat : List Nat) (q : Nat) (acc : List (Option (List Nat))) (i j : Nat) (st : List Nat) : Sto :=
  lsto [("pat", .val (.str (tx pat))), ("STAR", .val (.tok q)), ("QUESTION_MARK", .val (.str (tx [46]))), ("res", .own (acc.map (ptD q))), ("add", .app "res"), ("i", .val (.int (i : Nat))), ("n", .val (.int (pat.length : Nat))), ("c", .val (.str (tx [91]))), ("j", .val (.int (j : Nat))), ("stuff", .val (.str (tx st)))]
noncomputable def kSt (pat : List Nat) (q : Nat) (acc : List (Option (List Nat))) (i j : Nat) (st : List Nat) : Sto :=
  lsto [("pat", .val (.str (tx pat))), ("STAR", .val (.tok q)), ("QUESTION_MARK", .val (.str (tx [46]))), ("res", .own (acc.map (ptD q))), ("add", .app "res"), ("i", .val (.int (i : Nat))), ("n", .val (.int (pat.length : Nat))), ("c", .val (.str (tx [91]))), ("j", .val (.int (j : Nat))), ("stuff", .val (.str (tx st))), ("chunks", .own []), ("k", .val (.int (j : Nat)))]
noncomputable def mSt (pat : List Nat) (q : Nat) (acc : List (Option (List Nat))) (i j : Nat) (st : List Nat) : Sto :=
  lsto [("pat", .val (.str (tx pat))), ("STAR", .val (.tok q)), ("QUESTION_MARK", .val (.str (tx [46]))), ("res", .own (acc.map (ptD q))), ("add", .app "res"), ("i", .val (.int (i : Nat))), ("n", .val (.int (pat.length : Nat))), ("c", .val (.str (tx [91]))), ("j", .val (.int (j : Nat))), ("stuff", .val (.str (tx st))), ("chunks", .own [.str (tx st)])]
theorem fn_translate1 (P : PO S) (q : Nat) (is : List It) (hok : ∀ it ∈ is, itOk it = true) (hl : is.length ≤ 1000) :
    FnC S (k + 3) (.ref 62) [.str (tx (patP is)), .tok q, .str (tx [46])] (.list ((partsP is).map (ptD q))) := by
  refine FnC.defP (names := ["pat", "STAR", "QUESTION_MARK"]) (P.at rfl) rfl rfl (P.code) rfl (bl3 fun _ _ _ => rfl) ?_
  conv in (occs := *) (fB _) => whnf
  conv in (occs := *) (fS _) => whnf
  dsimp only [fnCx, List.map_cons, List.map_nil]
  have hpl : (patP is).length ≤ 4 * is.length := by
    unfold patP
    clear hok hl
    induction is with
    | nil => simp
    | cons i is ih =>
      rw [List.flatMap_cons, List.length_append, List.length_cons]
      have : (itP i).length ≤ 4 := by cases i <;> simp [itP]
      lia
  walk_at "vo"
  walk_at "vs"
  with_reducible apply ExP.next
  · with_reducible apply Ex1.assignTwo
    · walk_at "vx"
    · rfl
    · rfl
    · intro env he
      unfold swappedStores Env.blockKind Env.kindOf
      rw [he]; rfl
    · intro env; rfl
  refine ExP.while (ι := { x : List It × List It // is = x.1 ++ x.2 }) (fun i => i.1.2.length) (fun i => tSt (patP is) q (partsP i.1.1) (patP i.1.1).length) ⟨([], is), rfl⟩ (fun i => ?_) (lsto_sub ?_)
  · obtain ⟨⟨done, rest⟩, hx⟩ := i
    dsimp only at hx
    dsimp only [tSt]
    have hpat : patP is = patP done ++ patP rest := by rw [hx]; simp [patP]
    have hlen : (patP is).length = (patP done).length + (patP rest).length := by rw [hpat, List.length_append]
    refine ⟨!rest.isEmpty, ?_, fun h0 => ?_, fun h1 => ?_⟩
    · refine EvT.to (c := decide (((patP done).length : Int) < ((patP is).length : Int))) ?_ ?_
      · walk_at "vt"
      · cases rest with
        | nil => rw [List.isEmpty_nil]; simp only [patP, List.flatMap_nil, List.length_nil] at hlen ⊢; exact decide_eq_false (by lia)
        | cons x r =>
          rw [List.isEmpty_cons]
          have : 1 ≤ (itP x).length := by cases x <;> simp [itP]
          have h2 : (patP (x :: r)).length = (itP x).length + (patP r).length := by simp [patP]
          exact decide_eq_true (by lia)
    · have hr : rest = [] := by simpa using h0
      subst hr
      have hd : done = is := by rw [hx]; simp
      subst hd
      with_reducible apply ExP.next
      · with_reducible apply Ex1.assert
        with_reducible apply EvT.to
        · walk_at "vt"
        · simp
      refine ExP.freeze (x := "res") (xs := (partsP done).map (ptD q)) rfl rfl ?_
      walk_at "vs"
      rfl
    · obtain ⟨x, r, rfl⟩ : ∃ x r, rest = x :: r := by
        cases rest with
        | nil => exact ft h1
        | cons x r => exact ⟨x, r, rfl⟩
      have hx1 : 1 ≤ (itP x).length := by cases x <;> simp [itP]
      have hxr : (patP (x :: r)).length = (itP x).length + (patP r).length := by simp [patP]
      have hdr : (patP is).drop (patP done).length = itP x ++ patP r := by
        rw [hpat, List.drop_left]; simp [patP]
      have hgd : ∀ j, (patP is).getD ((patP done).length + j) 0 = (itP x ++ patP r).getD j 0 := fun j => by
        rw [← hdr]; simp [List.getD]
      have hpl2 : ((partsP done).map (ptD q)).length ≤ sizeLine := by
        have := partsP_len done
        have h3 := congrArg List.length hx
        simp only [List.length_append, List.length_cons] at h3
        rw [List.length_map, sizeLine_eq]; lia
      have hnext : ∀ {σ' : Sto}, (tSt (patP is) q (partsP (done ++ [x])) (patP (done ++ [x])).length).sub σ' →
          ∃ i' : { y : List It × List It // is = y.1 ++ y.2 }, i'.1.2.length < (x :: r).length ∧ (tSt (patP is) q (partsP i'.1.1) (patP i'.1.1).length).sub σ' := fun hs => ⟨⟨(done ++ [x], r), by rw [hx]; simp⟩, by simp, hs⟩
      have hplx : (patP (done ++ [x])).length = (patP done).length + (itP x).length := by simp [patP]
      walk_at "vs"
      walk_at "vs"
      have h00 := hgd 0
      rw [Nat.add_zero] at h00
      rw [h00]
      have gs : Str.ofString "*" = tx [42] := rfl
      have gq : Str.ofString "?" = tx [63] := rfl
      have gk : Str.ofString "[" = tx [91] := rfl
      cases x using It.split with
      | star =>
        with_reducible apply ExP.ite
        · walk_at "vt"
        · intro _
          with_reducible apply ExP.ite
          · refine EvT.to (c := !decide ((partsP done).getLast? = some none)) ?_ rfl
            cases hlast : (partsP done).getLast? with
            | none =>
              have he : partsP done = [] := List.getLast?_eq_none_iff.mp hlast
              refine EvT.boolop (EvAll.or_true (EvT.to (EvT.not (EvT.own (xs := (partsP done).map (ptD q)) rfl rfl hpl2)) ?_))
              rw [he]; rfl
            | some z =>
              refine elE (List.getLast?_eq_some_iff.mp hlast) fun ys hys => ?_
              have hix : seqIndex? (-1) ((partsP done).map (ptD q)).length = some ys.length := by
                rw [hys]; unfold seqIndex?; simp; lia
              have hge : ((partsP done).map (ptD q))[ys.length]? = some (ptD q z) := by rw [hys]; simp
              refine EvT.boolop (EvAll.or_false (EvT.to (EvT.not (EvT.own (xs := (partsP done).map (ptD q)) rfl rfl hpl2)) ?_) ?_)
              · rw [hys]; simp
              · cases z with
                | none => exact EvAll.or_false (EvT.cmp (EvS.ownIndex (d := .tok q) (i := -1) rfl rfl (by walk_at "vx") (by decide) (by decide) hix hge) (EvS.name rfl rfl) CmpS.isNotTok) EvAll.nil
                | some y => exact EvAll.or_true (EvT.cmp (EvS.ownIndex (d := .str (tx y)) (i := -1) rfl rfl (by walk_at "vx") (by decide) (by decide) hix hge) (EvS.name rfl rfl) CmpS.isNotStrTok)
          · intro h3
            have hadd : partsP (done ++ [It.star]) = partsP done ++ [none] := by
              rw [partsP_snoc]
              show (if _ then _ else _) = _
              rw [if_neg (by simpa using h3)]
            walk_at "vs"
            repeat walk_at "vs"
            refine hnext (lsto_sub ?_)
            rw [hadd, hplx]
            skip
            refine ⟨rfl, rfl, rfl, ?_, rfl, rfl, rfl, trivial⟩
            exact congrArg (fun z => some (Ent.own z)) (ptD_add q (partsP done) none)
          · intro h3
            have hadd : partsP (done ++ [It.star]) = partsP done := by
              rw [partsP_snoc]
              show (if _ then _ else _) = _
              rw [if_pos (by simpa using h3)]
            repeat walk_at "vs"
            refine hnext (lsto_sub ?_)
            rw [hadd, hplx]
            skip
            exact allE_rfl rfl
        · intro h2
          rw [gs, tx_beq] at h2
          exact tf h2
      | any =>
        walk_at "vs"
        · intro h2; rw [gs, tx_beq] at h2; exact ft h2
        · intro h2
          walk_at "vs"
          · intro h3
            have hadd : partsP (done ++ [It.any]) = partsP done ++ [some [46]] := by rw [partsP_snoc]; rfl
            walk_at "vs"
            repeat walk_at "vs"
            refine hnext (lsto_sub ?_)
            rw [hadd, hplx]
            skip
            refine ⟨rfl, rfl, rfl, ?_, rfl, rfl, rfl, trivial⟩
            exact congrArg (fun z => some (Ent.own z)) (ptD_add q (partsP done) (some [46]))
          · intro h3; rw [gq, tx_beq] at h3; exact tf h3
      | lit c =>
        have hc : sgn c = true := hok (.lit c) (by rw [hx]; simp)
        have hc2 : c < 128 ∧ c ≠ 42 ∧ c ≠ 63 ∧ c ≠ 91 := by
          have key : ∀ c ∈ [97, 98, 99, 46, 43, 94, 36, 40, 41, 123, 125, 124, 38, 126, 35, 45, 92], c < 128 ∧ c ≠ 42 ∧ c ≠ 63 ∧ c ≠ 91 := by decide
          exact key c (sg_in hc)
        have hhd : (itP (.lit c) ++ patP r).getD 0 0 = c := rfl
        rw [hhd]
        have hadd : partsP (done ++ [It.lit c]) = partsP done ++ [some (escL spc [c])] := by rw [partsP_snoc]; rfl
        walk_at "vs"
        · intro h2; rw [gs, tx_beq] at h2; simp at h2; exact absurd h2 hc2.2.1
        · intro h2
          walk_at "vs"
          · intro h3; rw [gq, tx_beq] at h3; simp at h3; exact absurd h3 hc2.2.2.1
          · intro h3
            walk_at "vs"
            · intro h4; rw [gk, tx_beq] at h4; simp at h4; exact absurd h4 hc2.2.2.2
            · intro h4
              refine ExP.next (Ex1.appendBy (x := "res") (xs := (partsP done).map (ptD q)) (d := .str (tx (escL spc [c]))) rfl rfl rfl rfl (EvS.callFn (ds := [.str (tx [c])]) rfl P.gescape (P.at rfl) (.cons (EvS.name rfl rfl) .nil) (fn_escape P [c] (by simpa using hc2.1) (by exact Nat.succ_pos _)).call) hpl2) ?_
              repeat walk_at "vs"
              refine hnext (lsto_sub ?_)
              rw [hadd, hplx]
              skip
              refine ⟨rfl, rfl, rfl, ?_, rfl, rfl, rfl, trivial⟩
              exact congrArg (fun z => some (Ent.own z)) (ptD_add q (partsP done) (some (escL spc [c])))
      | br b c =>
        have hc := sgn_in (brk_ok (b := b) (c := c) (hok _ (by rw [hx]; simp)))
        have hc2 := brk_c c hc
        have hsm := brk_small c hc b
        have hout := brk_out c hc b
        have hI := brk_itP b c
        have hhd : (itP (brk b c) ++ patP r).getD 0 0 = 91 := by rw [hI]; rfl
        rw [hhd]
        have hlI : (itP (brk b c)).length = (preB b).length + 3 := by rw [hI]; simp
        rw [hlI] at hxr hplx
        have hlenB : (patP is).length = (patP done).length + (preB b).length + 3 + (patP r).length := by
          rw [hlen, hxr]; simp only [Nat.add_assoc]
        have hadd : partsP (done ++ [brk b c]) = partsP done ++ [some ([91] ++ outB b c ++ [93])] := by rw [partsP_snoc, brk_add]
        have ge : Str.ofString "!" = tx [33] := rfl
        have gz : Str.ofString "]" = tx [93] := rfl
        have g1 : (patP is).getD ((patP done).length + 1 + (preB b).length) 0 = c := by
          rw [Nat.add_assoc, hgd, hI]; cases b <;> rfl
        have g2 : (patP is).getD ((patP done).length + 2 + (preB b).length) 0 = 93 := by
          rw [Nat.add_assoc, hgd, hI]; cases b <;> rfl
        have g0 : ((patP is).getD ((patP done).length + 1) 0 == 33) = b := by
          rw [hgd, hI]
          cases b
          · exact beq_eq_false_iff_ne.mpr hc2.2.2.1
          · rfl
        have hdrop : (patP is).drop ((patP done).length + 1) = (preB b ++ [c]) ++ ([93] ++ patP r) := by
          rw [← List.drop_drop, hdr, hI]; simp
        have hnb := brk_nb b
        generalize hnbl : (preB b).length = nb at *
        refine ExP.weak (σ₀ := lsto [("pat", .val (.str (tx (patP is)))), ("STAR", .val (.tok q)), ("QUESTION_MARK", .val (.str (tx [46]))), ("res", .own ((partsP done).map (ptD q))), ("add", .app "res"), ("i", .val (.int (((patP done).length + 1 : Nat) : Int))), ("n", .val (.int ((patP is).length : Nat))), ("c", .val (.str (tx [91])))]) ?_ (lsto_sub ?_)
        rotate_left
        · skip
          exact allE_rfl rfl
        generalize (patP done).length = p at *
        walk_at "vs"
        · intro h2; rw [gs, tx_beq] at h2; exact ft h2
        intro h2
        walk_at "vs"
        · intro h3; rw [gq, tx_beq] at h3; exact ft h3
        intro h3
        walk_at "vs"
        rotate_left
        · intro h4; rw [gk, tx_beq] at h4; exact tf h4
        intro h4
        walk_at "vs"
        refine ExP.next (σ₁ := bSt (patP is) q (partsP done) (p + 1) (p + 1 + nb)) (Ex1.ifB (c := b) ?_ (fun hb => ExP.toS ?_) fun hb => ExP.toS ?_) ?_
        · with_reducible apply EvT.to
          · walk_at "vt"
          · rw [ge, tx_beq, decide_eq_true (show ((p + 1 : Nat) : Int) < ((patP is).length : Int) by lia), Bool.true_and]
            simpa using g0
        · walk_at "vs"
          refine ExP.nil ⟨rfl, lsto_sub ?_⟩
          rw [hnb.1 hb]
          exact allE_rfl rfl
        · refine ExP.nil ⟨rfl, lsto_sub ?_⟩
          rw [hnb.2 hb]
          exact allE_rfl rfl
        dsimp only [bSt]
        walk_at "vs"
        · intro h6; rw [g1, gz, tx_beq] at h6; simp at h6; exact absurd h6.2 hc2.2.1
        intro h6
        refine ExP.nil (Go.next ?_)
        refine ExP.while (ι := Bool) (fun b => if b then 0 else 1) (fun b => bSt (patP is) q (partsP done) (p + 1) (if b then p + 2 + nb else p + 1 + nb)) false (fun b9 => ?_) (fun _ _ h => h)
        cases b9 with
        | false =>
          refine ⟨true, ?_, fun h => by (exact tf h), fun _ => ?_⟩
          · simp only [Bool.false_eq_true, if_false]
            dsimp only [bSt]
            with_reducible apply EvT.to
            · walk_at "vt"
            · have e1 : (tx [c] != tx [93]) = true := by
                unfold bne; rw [tx_beq]; simp; exact hc2.2.1
              rw [g1, gz, e1, Bool.and_true]; exact decide_eq_true (by lia)
          · simp only [Bool.false_eq_true, if_false]
            dsimp only [bSt]
            walk_at "vs"
            refine ExP.nil ⟨true, by trivial, lsto_sub ?_⟩
            simp only [if_true]
            rw [show p + 2 + nb = p + 1 + nb + 1 by lia]
            exact allE_rfl rfl
        | true =>
          refine ⟨false, ?_, fun _ => ?_, fun h => by (exact ft h)⟩
          · simp only [if_true]
            dsimp only [bSt]
            with_reducible apply EvT.to
            · walk_at "vt"
            · have e1 : (tx [93] != tx [93]) = false := by simp
              rw [g2, gz, e1, Bool.and_false]
          simp only [if_true]
          dsimp only [bSt]
          walk_at "vs"
          · intro h7; exact absurd h7 (by simp; lia)
          intro h7
          have hst : Txt.slice (tx (patP is)) (some ((p + 1 : Nat) : Int)) (some ((p + 2 + nb : Nat) : Int)) = tx (preB b ++ [c]) := by
            rw [slice_km (patP is) (p + 1) (nb + 1) rfl (by lia), hdrop]
            congr 1
            rw [← hnbl]
            exact List.take_left' (by simp)
          have tl : (tx (patP is)).length ≤ sizeLine := by rw [tx_len, sizeLine_eq]; lia
          refine ExP.tick (d := .str (tx (preB b ++ [c]))) (EvS.to (d := .str (Txt.slice (tx (patP is)) (some ((p + 1 : Nat) : Int)) (some ((p + 2 + nb : Nat) : Int)))) (by walk_at "vx") (by rw [hst])) rfl rfl rfl ?_
          have hsl0 : (tx (preB b ++ [c])).length ≤ sizeLine := by rw [tx_len, sizeLine_eq, List.length_append, hnbl]; exact Nat.le_trans (Nat.succ_le_succ hsm.2.2.2.2.2) (by decide)
          refine ExP.next (σ₁ := cSt (patP is) q (partsP done) (p + 1) (p + 2 + nb) (preB b ++ e1B c)) (Ex1.ifB (c := !(c == 45)) ?_ (fun h8 => ?_) fun h8 => ?_) ?_
          · with_reducible apply EvT.to
            · walk_at "vt"
            · rw [show Str.ofString "-" = tx [45] from rfl, contains_tx, brk_con]
          · have h45 : c ≠ 45 := by simpa using h8
            have hrep := brk_rep c hc h45 b
            refine ExP.toS (ExP.next (Ex1.assign (d := .str (tx (preB b ++ e1B c))) (EvS.to (EvS.replLL (x := tx (preB b ++ [c])) (EvS.name rfl rfl) (Nat.le_refl 1) (by decide +kernel) (by rw [hrep]; exact strOk_small hsm.1) ?_ (fun _ => rfl) rfl) (by rw [hrep])) rfl rfl) (ExP.nil ⟨rfl, lsto_sub ?_⟩))
            · rw [tx_len, List.length_append, hnbl]
              show (nb + 1) + (nb + 1 + 1) * 2 ≤ 16777216
              lia
            · exact allE_rfl rfl
          · have h45 : c = 45 := by simpa using h8
            subst h45
            refine ExP.toS ?_
            walk_at "vo"
            refine ExP.next (Ex1.assign (d := .int ((p + 2 + nb : Nat) : Int)) (EvS.to (EvS.ifInt (c := b) (x := ((p + 1 : Nat) : Int) + 2) (y := ((p + 1 : Nat) : Int) + 1) ?_ (fun _ => by walk_at "vx") fun _ => by walk_at "vx") ?_) rfl rfl) ?_
            · with_reducible apply EvT.to
              · walk_at "vt"
              · rw [ge, tx_beq]; simpa using g0
            · cases b
              · rw [hnb.2 rfl]; rfl
              · rw [hnb.1 rfl]; rfl
            refine ExP.while (ι := Unit) (fun _ => 0) (fun _ => kSt (patP is) q (partsP done) (p + 1) (p + 2 + nb) (preB b ++ [45])) () (fun _ => ⟨true, EvT.val EvS.cbool TruS.bool (by intro _ _; rfl), fun h => by exact tf h, fun _ => ?_⟩) (lsto_sub (allE_rfl rfl))
            dsimp only [kSt]
            refine ExP.next (Ex1.assign (d := .int (-1)) (EvS.meth methFind (d0 := .str (tx (patP is))) (ds := [.str (tx [45]), .int ((p + 2 + nb : Nat) : Int), .int ((p + 2 + nb : Nat) : Int)]) (EvS.name rfl rfl) rfl (.cons EvS.cstr (.cons (EvS.name rfl rfl) (.cons (EvS.name rfl rfl) .nil))) (CalS.find4 (by rw [tx_len]; lia) (by rw [tx_len]; exact Nat.one_pos))) rfl rfl) ?_
            refine ExP.ite (c := true) (EvT.to (EvT.cmp (EvS.name rfl rfl) EvS.cint CmpS.lt (by with_unfolding_all rfl)) rfl) (fun _ => ?_) fun h => by exact tf h
            refine ExP.brk (Go.brk ?_)
            show ExP S (k + 2) _ _ _ _
            refine ExP.next (Ex1.assign (d := .str (tx (preB b ++ [45]))) (EvS.to (d := .str (Txt.slice (tx (patP is)) (some ((p + 1 : Nat) : Int)) (some ((p + 2 + nb : Nat) : Int)))) (by walk_at "vx") (by rw [hst])) rfl rfl) ?_
            refine ExP.ite (c := true) (EvT.to (EvT.val (EvS.name rfl rfl) (TruS.str hsl0) (by intro _ _; rfl)) (by rw [tx_len, List.length_append, hnbl]; simp; lia)) (fun _ => ?_) fun h => by exact tf h
            refine ExP.next (Ex1.append (x := "chunks") (d := .str (tx (preB b ++ [45]))) rfl rfl (EvS.name rfl rfl) (Nat.zero_le _)) (ExP.nil (Go.next ?_))
            refine ExP.for (ds := []) (fun _ => mSt (patP is) q (partsP done) (p + 1) (p + 2 + nb) (preB b ++ [45])) (EvS.to (EvS.callTy rfl P.range (.cons (EvS.bin (EvS.ownLenB rfl P.len rfl rfl (show 1 ≤ sizeLine by rw [sizeLine_eq]; decide)) EvS.cint BinS.sub) (.cons EvS.cint (.cons (EvS.neg EvS.cint) .nil))) (CalS.range3 (by decide) (by decide))) rfl) IterS.none0 (lsto_sub (allE_rfl rfl)) (fun i e h => by cases h) ?_
            dsimp only [mSt]
            refine ExP.freeze (x := "chunks") (xs := [.str (tx (preB b ++ [45]))]) rfl rfl ?_
            have hd := brk_dash b
            refine ExP.next (Ex1.assign (d := .str (tx (preB b ++ e1B 45))) (EvS.to (EvS.joinGen (ts := [tx (preB b ++ [45])]) (f := fun t => Txt.replace t (Str.ofString "-") (Str.ofString "\\-")) (genT P rfl rfl _ rfl) rfl rfl ?_ rfl (fun env => closureFor_eq (by simp)) (by simp) rfl rfl rfl ?_ (show 1 ≤ sizeLine by rw [sizeLine_eq]; decide) rfl ?_) ?_) rfl rfl) (ExP.nil ⟨rfl, lsto_sub (allE_rfl rfl)⟩)
            · show PyData.strOk (Txt.replace (tx (preB b ++ [45])) (Str.ofString "-") (Str.ofString "\\-")) = true
              rw [hd.2]; exact strOk_small hsm.1
            · show JoinOk (Str.ofString "-") [Txt.replace (tx (preB b ++ [45])) (Str.ofString "-") (Str.ofString "\\-")] = true
              rw [hd.2]; cases b <;> decide +kernel
            · intro A9 cenv E9 t9 u9 s9 m9 _ hs9 ht9 hN9 hm9
              rw [List.mem_singleton.mp ht9] at hm9 ⊢
              refine eltRepl hs9 rfl rfl (by decide) hN9 hm9 hd.1 (by decide +kernel) ?_ rfl rfl
              rw [tx_len, List.length_append, hnbl]
              show (nb + 1) + (nb + 1 + 1) * 2 ≤ 16777216
              lia
            · show D.str (Txt.replace (tx (preB b ++ [45])) (Str.ofString "-") (Str.ofString "\\-")) = _
              rw [hd.2]
          dsimp only [cSt]
          have hcase : (c ∈ [38, 126, 124] ∧ e1B c = [c] ∧ insP c = [92, c] ∧ oneFind (preB b ++ [c]) (preB b).length = true) ∨ (noFind (preB b ++ e1B c) = true ∧ insP c = e1B c) := by
            by_cases h : c ∈ [38, 126, 124]
            · have := brk_one c h b
              exact .inl ⟨h, this.2.1, this.2.2, this.1⟩
            · exact .inr (brk_none c hc h b)
          refine ExP.next (σ₁ := cSt (patP is) q (partsP done) (p + 1) (p + 2 + nb) (preB b ++ insP c)) ?_ ?_
          · rcases hcase with ⟨h, h1, h2, h3⟩ | ⟨h1, h2⟩
            · have h7 := hsm.2.2.1
              rw [h2] at h7 ⊢
              rw [h1]
              refine Ex1.weak (Ex1.assign (d := .str (tx (preB b ++ [92, c]))) (EvS.subOne (k := k) (re := 36) (y := "_m") (q := [92, c]) rfl P.gre P.ι (P.at rfl) (P.at rfl) (by kernel_rfl) (lamT P rfl rfl _ rfl) (EvS.name rfl rfl) h3 h7 (by rw [List.length_append, hnbl]; simp; lia) (by simp) (by simp) (fun _ => rfl) (fun n h => by simp at h) (by intro _ _ _ _; rfl) (by intro _ _ _ _; exact bl1 fun _ => rfl) ?_) rfl rfl) (lsto_sub (allE_rfl rfl))
              intro S9 cl pm cdv cv a tp li t9 hι9 ha9 ht9
              have hm9 : ((preB b ++ [c]).take ((preB b).length + 1)).drop (preB b).length = [c] := by
                rw [List.take_of_length_le (by simp), List.drop_left]
              refine EvS.bin (d1 := sD [92]) (d2 := sD [c]) EvS.cstr (EvS.or_stop (EvS.to (EvS.group1 (l := preB b ++ [c]) (p := (preB b).length) rfl rfl hι9 ha9 ht9 (by rw [List.length_append, hnbl]; simp; lia) (by have := hsm.1; rwa [h1] at this) rfl) (by rw [hm9])) ?_) (BinS.addTx (show 1 + 1 ≤ 2 ^ 24 by decide))
              have := TruS.str (S := S9) (k := k) (x := tx [c]) (by rw [tx_len, sizeLine_eq]; show 1 ≤ _; decide)
              rwa [tx_len] at this
            · rw [h2]
              refine Ex1.weak (Ex1.assign (d := .str (tx (preB b ++ e1B c))) (EvS.subNone (re := 36) (l := preB b ++ e1B c) rfl P.gre (P.at rfl) (P.at rfl) (by kernel_rfl) (lamT P rfl rfl _ rfl) (EvS.name rfl rfl) h1 hsm.2.2.2.2.1 (Nat.le_trans hsm.2.1 (by decide)) (fun _ => rfl) (fun n h => by simp at h)) rfl rfl) (lsto_sub (allE_rfl rfl))
          dsimp only [cSt]
          walk_at "vs"
          have hsl : (tx (preB b ++ insP c)).length ≤ sizeLine := by rw [tx_len, sizeLine_eq]; exact Nat.le_trans hout.2.1 (by decide)
          walk_at "vs"
          · intro h8
            have h0 := hout.1
            rw [tx_len] at h8
            generalize (preB b ++ insP c).length = z at h0 h8
            have : (z : Int) = 0 := by simpa using h8
            lia
          intro _
          walk_at "vs"
          · intro h8; rw [ge, tx_beq, hout.2.2.1] at h8; exact ft h8
          intro _
          refine ExP.next (σ₁ := cSt (patP is) q (partsP done) (p + 2 + nb + 1) (p + 2 + nb) (outB b c)) (Ex1.ifB (c := b) ?_ (fun hb => ?_) fun hb => ?_) ?_
          · refine EvT.to (EvT.cmp (d1 := .str (tx [(preB b ++ insP c).getD 0 0])) (d2 := .str (Str.ofString "!")) (EvS.index (EvS.name rfl rfl) EvS.cint (IdxS.tx (l := preB b ++ insP c) (q := 0) hout.1 (Nat.le_trans hout.2.1 (by decide)))) EvS.cstr CmpS.eqStr (by with_unfolding_all rfl)) ?_
            rw [ge, tx_beq]; exact hout.2.2.2.1
          · have hs1 : Txt.slice (tx (preB b ++ insP c)) (some 1) none = tx (insP c) := by rw [slice_k (preB b ++ insP c) 1 (i := 1) rfl, brk_tail b hb]
            refine ExS.one (Ex1.weak (Ex1.assign (d := .str (tx (outB b c))) (EvS.to (d := .str (Str.ofString "^" ++ Txt.slice (tx (preB b ++ insP c)) (some 1) none)) (EvS.bin EvS.cstr (EvS.slice (EvS.name rfl rfl) (EvP.some EvS.cint) EvP.none EvP.none (SlcS.str hsl)) (BinS.addStr ?_)) ?_) rfl rfl) (lsto_sub (allE_rfl rfl)))
            · have := hout.2.1
              rw [List.length_append] at this
              rw [hs1, tx_len, sizeLine_eq]
              show 1 + _ ≤ 16777216
              lia
            · rw [hs1, show Str.ofString "^" = tx [94] from rfl, tx_append]
              subst hb; rfl
          · refine ExS.one (Ex1.ifB (c := c == 94) ?_ (fun h9 => ?_) fun h9 => ?_)
            · exact EvT.to (EvT.cmp (EvS.index (EvS.name rfl rfl) EvS.cint (IdxS.tx (l := preB b ++ insP c) (q := 0) hout.1 (Nat.le_trans hout.2.1 (by decide)))) (EvS.tuple (.cons EvS.cstr (.cons EvS.cstr .nil))) CmpS.isInTup (by with_unfolding_all rfl)) (brk_f94 b c hb hout.2.2.2.2)
            · have h94 : c = 94 := by simpa using h9
              refine ExS.one (Ex1.weak (Ex1.assign (d := sD (outB b c)) (EvS.to (EvS.bin (d1 := sD [92]) (d2 := sD (preB b ++ insP c)) EvS.cstr (EvS.name rfl rfl) (BinS.addTx ?_)) ?_) rfl rfl) (lsto_sub (allE_rfl rfl)))
              · have := hout.2.1
                show 1 + _ ≤ 2 ^ 24
                lia
              · rw [h94, hb]; rfl
            · have h94 : c ≠ 94 := by simpa using h9
              refine ExS.weak ExS.nil (lsto_sub ?_)
              rw [show outB b c = preB b ++ insP c by rw [hb]; exact brk_94.2.2 c hc h94]
              exact allE_rfl rfl
          dsimp only [cSt]
          have hol := hsm.2.2.2.1
          refine ExP.next (Ex1.appendBy (x := "res") (xs := (partsP done).map (ptD q)) (d := .str (tx ([91] ++ outB b c ++ [93]))) rfl rfl rfl rfl (EvS.to (EvS.fstrT (xs := [[91], outB b c, [93]]) (.cons EvS.cstr (.cons (EvS.fval (EvS.name rfl rfl) ?_) (.cons EvS.cstr .nil))) ?_) (by simp)) hpl2) ?_
          · rw [tx_len, sizeLine_eq]; lia
          · simp; lia
          repeat walk_at "vs"
          refine hnext (lsto_sub ?_)
          rw [hadd, hplx, show p + (nb + 3) = p + 2 + nb + 1 by lia]
          refine ⟨rfl, rfl, rfl, ?_, rfl, rfl, rfl, trivial⟩
          exact congrArg (fun z => some (Ent.own z)) (ptD_add q (partsP done) (some ([91] ++ outB b c ++ [93])))
  · skip
    exact allE_rfl rfl
end
section
variable {S : Sys} {k : Nat}
theorem addP_get {acc : List (Option (List Nat))} {it : It} {p : Option (List Nat)} (h : p ∈ addP acc it) : p ∈ acc ∨ p = pieceP it := by
  cases it with
  | star =>
    have e : addP acc .star = if acc.getLast? = some none then acc else acc ++ [none] := rfl
    rw [e] at h
    split at h
    · exact .inl h
    · rcases List.mem_append.mp h with h | h
      · exact .inl h
      · exact .inr (List.mem_singleton.mp h)
  | _ =>
    unfold addP at h
    rcases List.mem_append.mp h with h | h
    · exact .inl h
    · exact .inr (by simpa using h)
theorem partsP_get (is : List It) : ∀ p ∈ partsP is, ∃ it ∈ is, p = pieceP it := by
  have : ∀ (is : List It) (acc : List (Option (List Nat))) (p), p ∈ is.foldl addP acc → p ∈ acc ∨ ∃ it ∈ is, p = pieceP it := by
    intro is
    induction is with
    | nil => intro acc p h; exact .inl h
    | cons i is ih =>
      intro acc p h
      rcases ih _ p h with h | ⟨it, hi, e⟩
      · rcases addP_get h with h | h
        · exact .inl h
        · exact .inr ⟨i, by exact List.Mem.head _, h⟩
      · exact .inr ⟨it, List.mem_cons_of_mem _ hi, e⟩
  intro p hp
  rcases this is [] p hp with h | h
  · cases h
  · exact h
theorem pieceP_len (it : It) : ∀ s, pieceP it = some s → s.length ≤ 5 := by
  intro s hs
  cases it with
  | lit c =>
    (replace hs := Option.some.inj hs; subst hs)
    have := escL_len spc [c]
    simp only [List.length_cons, List.length_nil] at this
    exact Nat.le_trans ‹_› (by decide)
  | star => exact nsm hs
  | any => (replace hs := Option.some.inj hs; subst hs); decide
  | bar c => (replace hs := Option.some.inj hs; subst hs); unfold insP; split <;> simp
  | br c => (replace hs := Option.some.inj hs; subst hs); unfold ins2; split <;> simp
theorem joinG_len : ∀ (l : List (Option (List Nat))) (o : Option (List Nat)), (∀ s, some s ∈ l → s.length ≤ 5) → (joinG l o).length ≤ 12 * l.length + (o.getD []).length + 2
  | [], none, _ => by simp [joinG]
  | [], some acc, _ => by simp [joinG]
  | some s :: r, none, h => by
    have := joinG_len r none fun x hx => h x (List.mem_cons_of_mem _ hx)
    have h1 := h s (by exact List.Mem.head _)
    simp only [joinG, List.length_append, List.length_cons, Option.getD_none, List.length_nil] at this ⊢
    lia
  | some s :: r, some acc, h => by
    have := joinG_len r (some (acc ++ s)) fun x hx => h x (List.mem_cons_of_mem _ hx)
    have h1 := h s (by exact List.Mem.head _)
    simp only [joinG, List.length_append, List.length_cons, Option.getD_some] at this ⊢
    lia
  | none :: r, none, h => by
    have := joinG_len r (some []) fun x hx => h x (List.mem_cons_of_mem _ hx)
    simp only [joinG, List.length_cons, Option.getD_none, Option.getD_some, List.length_nil] at this ⊢
    lia
  | none :: r, some acc, h => by
    have := joinG_len r (some []) fun x hx => h x (List.mem_cons_of_mem _ hx)
    simp only [joinG, List.length_append, List.length_cons, Option.getD_some, List.length_nil] at this ⊢
    lia
theorem addP_adj {acc : List (Option (List Nat))} (it : It) (h : ∀ l r, acc ≠ l ++ none :: none :: r) : ∀ l r, addP acc it ≠ l ++ none :: none :: r := by
  have key : ∀ x, (x = none → acc.getLast? ≠ some none) → ∀ l r, acc ++ [x] ≠ l ++ none :: none :: r := by
    intro x hx l r e
    rcases List.eq_nil_or_concat r with rfl | ⟨r', y, rfl⟩
    · have e' : acc ++ [x] = (l ++ [none]) ++ [none] := by rw [e]; simp
      refine elA (List.append_inj' e' rfl) fun e1 e2 => ?_
      cases e2
      exact hx rfl (by rw [e1]; simp)
    · have e' : acc ++ [x] = (l ++ none :: none :: r') ++ [y] := by rw [e]; simp
      refine elA (List.append_inj' e' rfl) fun e1 _ => ?_
      exact h l r' e1
  cases it with
  | star =>
    have e : addP acc .star = if acc.getLast? = some none then acc else acc ++ [none] := rfl
    rw [e]
    split
    · exact h
    · rename_i hn
      exact key none fun _ => hn
  | lit c => exact key _ fun e => by exact snm e
  | any => exact key _ fun e => by exact snm e
  | bar c => exact key _ fun e => by exact snm e
  | br c => exact key _ fun e => by exact snm e
theorem partsP_adj (is : List It) : ∀ l r, partsP is ≠ l ++ none :: none :: r := by
  have : ∀ (is : List It) (acc : List (Option (List Nat))), (∀ l r, acc ≠ l ++ none :: none :: r) → ∀ l r, is.foldl addP acc ≠ l ++ none :: none :: r := by
    intro is
    induction is with
    | nil => intro acc h; exact h
    | cons i is ih => intro acc h; exact ih _ (addP_adj i h)
  exact this is [] fun l r e => by simp at e
noncomputable def tlP (is : List It) : List Nat := [40, 63, 115, 58] ++ joinG (partsP is) none ++ [41, 92, 90]
theorem fn_translate (P : PO S) (is : List It) (hok : ∀ it ∈ is, itOk it = true) (hl : is.length ≤ 1000) :
    FnC S (k + 4) (.ref 43) [.str (tx (patP is))] (.str (tx (tlP is))) := by
  refine FnC.defP (names := ["pat"]) (P.at rfl) rfl rfl (P.code) rfl (bl1 fun _ => rfl) ?_
  conv in (occs := *) (fB _) => whnf
  conv in (occs := *) (fS _) => whnf
  dsimp only [fnCx, List.map_cons, List.map_nil]
  refine ExP.assignObj P.ι rfl (.inr P.object) rfl fun q => ?_
  refine ExP.next (Ex1.assign (EvS.callFn (ds := [.str (tx (patP is)), .tok q, .str (tx [46])]) rfl P.g_translate (P.at rfl) (.cons (EvS.name rfl rfl) (.cons (EvS.name rfl rfl) (.cons EvS.cstr .nil))) (fn_translate1 P q is hok hl).call) rfl rfl) ?_
  have h1 := partsP_len is
  have h2 := joinG_len (partsP is) none fun s hs => by
    refine elEA (partsP_get is _ hs) fun it _ e => ?_
    exact pieceP_len it s e.symm
  simp only [Option.getD_none, List.length_nil] at h2
  refine ExP.ret (EvS.callFn (ds := [.list ((partsP is).map (ptD q)), .tok q]) rfl P.gjoinp (P.at rfl) (.cons (EvS.name rfl rfl) (.cons (EvS.name rfl rfl) .nil)) (fn_joinp P q (partsP is) (partsP_adj is) (by lia) (by lia)).call) ?_
  rfl
end
section
variable {S : Sys} {k : Nat}
noncomputable def midL (i : Nat) (p : List Nat) (r : List (List Nat)) : List (List Nat) := p :: ((r.take i).map wrapP ++ r.drop i)
theorem tpTail_snoc (z : List Nat) : ∀ r : List (List Nat), tpTail (r ++ [z]) = (r.map wrapP).flatten ++ ([46, 42] ++ z)
  | [] => by simp [tpTail]
  | [a] => by simp [tpTail]
  | a :: b :: r => by
    show wrapP a ++ tpTail (b :: r ++ [z]) = _
    rw [tpTail_snoc z (b :: r)]
    simp
theorem mid_fin (p : List Nat) (r : List (List Nat)) : ∃ z, (midL (r.length - 1) p r)[r.length]? = some z ∧ ((midL (r.length - 1) p r).set r.length ([46, 42] ++ z)).flatten = tpG (p :: r) := by
  rcases List.eq_nil_or_concat r with rfl | ⟨r', z, rfl⟩
  · exact ⟨p, rfl, by simp [midL, tpG]⟩
  · rw [List.concat_eq_append]
    have e1 : midL ((r' ++ [z]).length - 1) p (r' ++ [z]) = p :: (r'.map wrapP ++ [z]) := by
      unfold midL
      rw [show (r' ++ [z]).length - 1 = r'.length by simp, List.take_left, List.drop_left]
    rw [e1]
    refine ⟨z, by simp, ?_⟩
    have e2 : (p :: (r'.map wrapP ++ [z])).set (r' ++ [z]).length ([46, 42] ++ z) = p :: (r'.map wrapP ++ [[46, 42] ++ z]) := by
      rw [show (r' ++ [z]).length = (r'.map wrapP).length + 1 by simp, List.set_cons_succ, List.set_append_right _ _ (Nat.le_refl _)]
      simp
    rw [e2]
    have e3 : tpG (p :: (r' ++ [z])) = p ++ tpTail (r' ++ [z]) := by
      cases r' with
      | nil => rfl
      | cons a r' => rfl
    rw [e3, tpTail_snoc]
    simp
theorem mid_len (i : Nat) (p : List Nat) (r : List (List Nat)) (h : i ≤ r.length) : (midL i p r).length = r.length + 1 := by
  unfold midL
  simp; lia
theorem mid_get (i : Nat) (p : List Nat) (r : List (List Nat)) (h : i < r.length) : (midL i p r)[1 + i]? = some r[i] := by
  unfold midL
  rw [Nat.add_comm 1 i, List.getElem?_cons_succ, List.getElem?_append_right (by simp; lia)]
  have e : i - ((r.take i).map wrapP).length = 0 := by simp; lia
  rw [e, List.getElem?_drop]
  simp
theorem mid_set (i : Nat) (p : List Nat) (r : List (List Nat)) (h : i < r.length) : (midL i p r).set (1 + i) (wrapP r[i]) = midL (i + 1) p r := by
  unfold midL
  rw [Nat.add_comm 1 i, List.set_cons_succ, List.set_append_right _ _ (by simp; lia)]
  have e : i - ((r.take i).map wrapP).length = 0 := by simp; lia
  rw [e, List.drop_eq_getElem_cons h, List.set_cons_zero, List.take_succ_eq_append_getElem h]
  simp only [List.map_append, List.map_cons, List.map_nil, List.append_assoc, List.cons_append, List.nil_append]
theorem stL_set (ps : List (List Nat)) (j : Nat) (p : List Nat) : (stL ps).set j (.str (tx p)) = stL (ps.set j p) := by simp [stL, List.map_set]
theorem stL_get {ps : List (List Nat)} {j : Nat} {p : List Nat} (h : ps[j]? = some p) : (stL ps)[j]? = some (.str (tx p)) := by simp [stL, h]
noncomputable def tpSt (l p : List Nat) (r : List (List Nat)) (i : Nat) : Sto := lsto [("path", .val (.str (tx l))), ("parts", .own (stL (midL i p r)))]
theorem mid_small {i : Nat} {p : List Nat} {r : List (List Nat)} {B : Nat} (hp : p.length ≤ B) (hr : ∀ q ∈ r, q.length ≤ B) : ∀ q ∈ midL i p r, q.length ≤ B + 7 := by
  intro q hq
  unfold midL at hq
  rcases List.mem_cons.mp hq with rfl | hq
  · lia
  · rcases List.mem_append.mp hq with hq | hq
    · (refine elEA (List.mem_map.mp hq) fun z hz e92 => ?_; subst e92)
      have := hr z (List.mem_of_mem_take hz)
      unfold wrapP
      simp only [List.length_append, List.length_cons, List.length_nil]
      lia
    · have := hr q (List.mem_of_mem_drop hq)
      lia
theorem fn_tp (P : PO S) (l : List Nat) (h : ∀ c ∈ l, c < 128) (hl : l.length ≤ 1000) : FnC S (k + 5) (.ref 118) [.str (tx l)] (.str (tx (tpG ((splitL 42 l).map (escL spc))))) := by
  refine FnC.defP (names := ["path"]) (P.at rfl) rfl rfl (P.code) rfl (bl1 fun _ => rfl) ?_
  conv in (occs := *) (fB _) => whnf
  conv in (occs := *) (fS _) => whnf
  dsimp only [fnCx, List.map_cons, List.map_nil]
  have hsum := splitL_sum 42 l
  have hsz : (stL ((splitL 42 l).map (escL spc))).length ≤ sizeLine := by
    rw [List.length_map, List.length_map, sizeLine_eq]; lia
  refine ExP.next (Ex1.assignOwn (EvO.listMap (k := k + 1) (ds := (splitL 42 l).map fun p => .str (tx p)) (outs := stL ((splitL 42 l).map (escL spc))) (P.ι _) rfl (.inr P.list) rfl (.inr P.map) rfl P.gescape ?_ hsz (by simp) ?_) rfl) ?_
  · refine EvS.meth methSplit (d0 := .str (tx l)) (ds := [.str (tx [42])]) (EvS.name rfl rfl) rfl (.cons EvS.cstr .nil) (CalS.splitT (by exact Nat.le_trans ‹_› (by decide)) h)
  · intro i d o h1 h2
    rw [List.getElem?_map] at h1 h2
    rw [List.getElem?_map] at h2
    (refine elEA (Option.map_eq_some_iff.mp h1) fun p hp e92 => ?_; subst e92)
    rw [hp] at h2
    (replace h2 := Option.some.inj h2; subst h2)
    have hm := List.mem_of_getElem? hp
    have hlen : p.length ≤ 2 ^ 20 := by
      have : p.length ≤ (splitL 42 l).flatten.length := by
        exact (List.sublist_flatten_of_mem hm).length_le
      lia
    exact (fn_escape P p (fun c hc => h c (splitL_mem hm hc)) hlen).call
  obtain ⟨p, r, hps⟩ : ∃ p r, (splitL 42 l).map (escL spc) = p :: r := by
    cases hq : splitL 42 l with
    | nil => exact absurd hq (splitL_ne 42 l)
    | cons a b => exact ⟨_, _, rfl⟩
  have hlr : r.length + 1 ≤ l.length + 1 := by
    have := congrArg List.length hps
    rw [List.length_map, List.length_cons] at this
    lia
  have hsm : ∀ q ∈ p :: r, q.length ≤ 3000 := fun q hq => by
    rw [← hps] at hq
    (refine elEA (List.mem_map.mp hq) fun z hz e92 => ?_; subst e92)
    have h1 := (List.sublist_flatten_of_mem hz).length_le
    have h2 := escL_len spc z
    lia
  have hsmp := hsm p (by exact List.Mem.head _)
  have hsmr : ∀ q ∈ r, q.length ≤ 3000 := fun q hq => hsm q (List.mem_cons_of_mem _ hq)
  rw [hps] at hsz ⊢
  refine ExP.for (st9 := tpSt l p r) (d := .range (1 : Nat) (r.length : Nat) 1) (ds := (List.range' 1 (r.length - 1)).map dN) ?_ (IterS.up (by lia) (by exact Nat.le_add_left _ _)) (lsto_sub ?_) (fun i e hi => ?_) ?_
  · refine EvS.to (EvS.callTy rfl P.range (.cons EvS.cint (.cons (EvS.bin (EvS.ownLenB rfl P.len rfl rfl hsz) EvS.cint BinS.sub) .nil)) CalS.range2) ?_
    simp [stL]
  · skip
    exact allE_rfl rfl
  · obtain ⟨hi1, rfl⟩ : i < r.length - 1 ∧ e = dN (1 + i) := by
      rw [List.getElem?_map] at hi
      (refine elEA (Option.map_eq_some_iff.mp hi) fun x hx e92 => ?_; subst e92)
      refine elE (List.getElem?_eq_some_iff.mp hx) fun h1 h2 => ?_
      rw [List.length_range'] at h1
      simp at h2
      exact ⟨h1, by rw [← h2]⟩
    have hi2 : i < r.length := by lia
    have hix : seqIndex? (((1 + i : Nat)) : Int) (stL (midL i p r)).length = some (1 + i) := by
      rw [List.length_map, mid_len i p r (by exact Nat.le_of_lt ‹_›)]
      unfold seqIndex?
      simp; lia
    have hri : (r[i]).length ≤ 3000 := hsmr _ (List.getElem_mem hi2)
    refine ⟨_, BindS.name rfl, ?_⟩
    dsimp only [tpSt]
    refine ExP.next (Ex1.setItem (xs := stL (midL i p r)) (d := .str (tx (wrapP r[i]))) (i := ((1 + i : Nat) : Int)) (j := 1 + i) rfl rfl ?_ (EvS.name rfl rfl) hix (by lia) (by lia)) ?_
    · refine EvS.to (EvS.fstrT (xs := [[40, 63, 62, 46, 42, 63], r[i], [41]]) (.cons EvS.cstr (.cons (EvS.fval (EvS.ownIndex (ds := stL (midL i p r)) (d := .str (tx r[i])) (i := ((1 + i : Nat) : Int)) (j := 1 + i) rfl rfl (EvS.name rfl rfl) (by lia) (by lia) hix (stL_get (mid_get i p r hi2))) ?_) (.cons EvS.cstr .nil))) ?_) ?_
      · rw [tx_len, sizeLine_eq]; exact Nat.le_trans ‹_› (by decide)
      · simp; exact Nat.le_trans ‹_› (by decide)
      · simp [wrapP]
    refine ExP.nil (lsto_sub ?_)
    skip
    refine ⟨rfl, ?_, trivial⟩
    rw [← mid_set i p r hi2, ← stL_set]
    rfl
  · rw [List.length_map, List.length_range']
    dsimp only [tpSt]
    refine elEA (mid_fin p r) fun z hz hfin => ?_
    have hml : (midL (r.length - 1) p r).length = r.length + 1 := mid_len _ p r (by exact Nat.sub_le _ _)
    have hix : seqIndex? (-1) (stL (midL (r.length - 1) p r)).length = some r.length := by
      rw [List.length_map, hml]
      unfold seqIndex?
      simp; lia
    have hzl : z.length ≤ 3007 := mid_small hsmp hsmr z (List.mem_of_getElem? hz)
    refine ExP.next (Ex1.setItem (xs := stL (midL (r.length - 1) p r)) (d := .str (tx ([46, 42] ++ z))) (i := -1) (j := r.length) rfl rfl ?_ (by walk_at "vx") hix (by decide) (by decide)) ?_
    · refine EvS.to (EvS.fstrT (xs := [[46, 42], z]) (.cons EvS.cstr (.cons (EvS.fval (EvS.ownIndex (ds := stL (midL (r.length - 1) p r)) (d := .str (tx z)) (i := -1) (j := r.length) rfl rfl (by walk_at "vx") (by decide) (by decide) hix (stL_get hz)) ?_) .nil)) ?_) ?_
      · rw [tx_len, sizeLine_eq]; exact Nat.le_trans ‹_› (by decide)
      · simp; exact Nat.le_trans ‹_› (by decide)
      · simp
    refine ExP.freeze (x := "parts") (xs := stL ((midL (r.length - 1) p r).set r.length ([46, 42] ++ z))) (by rw [← stL_set]; rfl) rfl ?_
    have hml2 : ((midL (r.length - 1) p r).set r.length ([46, 42] ++ z)).flatten.length ≤ 2 ^ 24 := by
      have : ∀ (B : Nat) (L : List (List Nat)), (∀ q ∈ L, q.length ≤ B) → L.flatten.length ≤ B * L.length := by
        intro B L hL
        induction L with
        | nil => simp
        | cons a L ih =>
          rw [List.flatten_cons, List.length_append, List.length_cons]
          have h1 := hL a (by exact List.Mem.head _)
          have h2 := ih fun q hq => hL q (List.mem_cons_of_mem _ hq)
          rw [Nat.mul_add]; lia
      refine Nat.le_trans (this 3010 _ fun q hq => ?_) ?_
      · rcases List.mem_or_eq_of_mem_set hq with hq | rfl
        · have := mid_small hsmp hsmr q hq; exact Nat.le_trans ‹_› (by decide)
        · simp; exact Nat.le_succ_of_le ‹_›
      · rw [List.length_set, hml]; lia
    refine ExP.ret (EvS.meth methJoin (d0 := .str (Str.ofString "")) EvS.cstr rfl (.cons (EvS.name rfl rfl) .nil) (CalS.joinE hml2)) ?_
    rw [hfin]
end
section
variable {S : Sys} {k : Nat}
noncomputable def FRG (P : Params) : Frag := lessT [57, 165, 172] (frag P)
set_option genInjectivity false in
structure PE (S : Sys) : Prop extends PO S where
  entP : S.entP = entStd 107
  filter : S.mg "filter" = none ∧ S.mb "filter" = some (.type "filter")
  set : S.mg "set" = none ∧ S.mb "set" = some (.type "set")
theorem PE.sub (P : PE S) : ∀ a o, (FRG S.w.params).lookup a = some o → S.K0 a = some o := fun a o e => by
  refine elA (lessT_get e) fun h1 h2 => ?_
  exact P.kn a o h1 (by rw [P.T]; exact h2)
theorem clsF (P : PE S) : ClsF S (FRG S.w.params) 107 83 eNames where
  sub := P.sub
  makes := by kernel_rfl
  init := by kernel_rfl
  fnI := by kernel_rfl
  over := by kernel_rfl
  has := by kernel_rfl
  sets := by kernel_rfl
  gets := by kernel_rfl
  taker := fun n hn => by
    have key : ∀ P, (eNames.all fun n => takerIn (FRG P) 107 n == some none) = true := fun P => by kernel_rfl
    exact eq_of_beq (List.all_eq_true.mp (key _) n hn)
  own := fun n hn od v h => by
    obtain ⟨cd, h1, h2⟩ : ∃ cd, clsIn (FRG S.w.params) 107 = some cd ∧ cd.hasDict = true := ⟨_, rfl, by kernel_rfl⟩
    have key : ∀ n ∈ eNames, ∃ attr get, findIn (FRG S.w.params) (.ref 107) n = some attr ∧ getIn (FRG S.w.params) attr = some get ∧ dataIn (FRG S.w.params) attr get = some false := fun n hn => by
      simp only [eNames, List.mem_cons, List.not_mem_nil, or_false] at hn
      rcases hn with rfl | rfl | rfl | rfl | rfl | rfl
      · exact ⟨none, none, by kernel_rfl, rfl, rfl⟩
      · exact ⟨none, none, by kernel_rfl, rfl, rfl⟩
      · exact ⟨none, none, by kernel_rfl, rfl, rfl⟩
      · exact ⟨none, none, by kernel_rfl, rfl, rfl⟩
      · exact ⟨some (.ref 97), some (.builtin "function.__get__"), by kernel_rfl, by kernel_rfl, by kernel_rfl⟩
      · exact ⟨some (.ref 104), some (.builtin "function.__get__"), by kernel_rfl, by kernel_rfl, by kernel_rfl⟩
    refine elEEAA (key n hn) fun attr get k1 k2 k3 => ?_
    exact findObj_own h1 h2 k1 k2 k3 h
theorem clsG (P : PE S) : ClsG S (FRG S.w.params) 107 83 97 104 where
  cf := clsF P
  gat := by kernel_rfl
  at1 := by kernel_rfl
  at2 := by kernel_rfl
  al1 := by kernel_rfl
  al2 := by kernel_rfl
  al3 := ⟨_, _, _, _, P.at rfl⟩
theorem entF (P : PE S) : EntF S (FRG S.w.params) 107 83 97 104 where
  g := clsG P
  keep := by kernel_rfl
  name := P.gEntry
  init := ⟨_, _, _, _, _, _, _, _, _, _, _, _, _, _, _, _, _, _, _, _, _, _, P.at rfl, rfl, rfl, rfl, P.code, bl1 fun _ => rfl⟩
  ι := P.ι
end
section
variable {S : Sys} {k : Nat}
noncomputable abbrev ruleD (r : Rul) : D := .rule r.1 r.2
noncomputable def alwSt (rs : List Rul) (x : Str) (i : Nat) : Sto :=
  lsto [("self", .val (.entry (rs.map ruleD))), ("filename", .val (.str x)), ("best_match", .val (.int ((rs.take i).foldl (alw x) (-1, true)).1)), ("allowance", .val (.bool ((rs.take i).foldl (alw x) (-1, true)).2))]
theorem fn_allow (P : PE S) {Lam : Kn → Addr → (Str → Int) → Prop} (hR : S.ruleP = ruleStd 107 Lam) (hlm : ∀ K K' cl f, Kn.le K K' → Lam K cl f → Lam K' cl f)
    (hl : ∀ K cl f, Lam K cl f → (∃ oc od fd sl, K cl = some ⟨oc, od, .func fd, sl⟩) ∧ ∀ x, CalK S (k + 1) K (.ref cl) [.str x] (.int (f x))) (rs : List Rul) (x : Str) :
    FnC S (k + 2) (.ref 104) [.entry (rs.map ruleD), .str x] (.bool (alwF x rs)) := by
  refine FnC.defP (names := ["self", "filename"]) (P.at rfl) rfl rfl (P.code) rfl (bl2 fun _ _ => rfl) ?_
  conv in (occs := *) (mB _ _) => whnf
  conv in (occs := *) (mS _ _) => whnf
  dsimp only [fnCx, List.map_cons, List.map_nil]
  have c := clsG P
  walk_at "vs"
  walk_at "vs"
  refine ExP.for (st9 := alwSt rs x) (d := .list (rs.map ruleD)) (ds := rs.map ruleD) (EvS.entRules c.cf P.entP rfl rfl) IterS.list (lsto_sub ?_) (fun i e hi => ?_) ?_
  · skip
    exact allE_rfl rfl
  · rw [List.getElem?_map] at hi
    (refine elEA (Option.map_eq_some_iff.mp hi) fun r hr e92 => ?_; subst e92)
    have hstep : (rs.take (i + 1)).foldl (alw x) (-1, true) = alw x ((rs.take i).foldl (alw x) (-1, true)) r := by
      rw [List.take_add_one, hr]; simp
    refine ⟨_, BindS.name rfl, ?_⟩
    dsimp only [alwSt]
    generalize (rs.take i).foldl (alw x) (-1, true) = a at hstep
    obtain ⟨best, al⟩ := a
    refine ExP.next (Ex1.assign (d := .int (r.2 x)) (EvS.ruleCall (b := r.1) (f := r.2) (x := x) c hR hlm hl rfl rfl (EvS.name rfl rfl)) rfl rfl) ?_
    have fin : ∀ {σ' : Sto}, (lsto [("self", .val (.entry (rs.map ruleD))), ("filename", .val (.str x)), ("best_match", .val (.int (alw x (best, al) r).1)), ("allowance", .val (.bool (alw x (best, al) r).2))] : Sto).sub σ' → (alwSt rs x (i + 1)).sub σ' := fun h => by
      unfold alwSt; rw [hstep]; exact h
    walk_at "vs"
    · intro h1
      have h1' : r.2 x ≠ 0 := by simpa using h1
      walk_at "vs"
      · intro h2
        have h2' : best < r.2 x := by simpa using h2
        walk_at "vs"
        refine ExP.next (Ex1.assign (d := .bool r.1) (EvS.ruleAllow (b := r.1) (f := r.2) c.cf hR rfl rfl) rfl rfl) ?_
        repeat walk_at "vs"
        refine fin (lsto_sub ?_)
        have e : alw x (best, al) r = (r.2 x, r.1) := by unfold alw; rw [if_neg h1', if_pos h2']
        rw [e]
        skip
        exact allE_rfl rfl
      · intro h2
        have h2' : ¬ best < r.2 x := by simpa using h2
        walk_at "vs"
        · intro h3
          have h3' : r.2 x = best ∧ al = false := by simpa using h3
          refine ExP.next (Ex1.assign (d := .bool r.1) (EvS.ruleAllow (b := r.1) (f := r.2) c.cf hR rfl rfl) rfl rfl) ?_
          repeat walk_at "vs"
          refine fin (lsto_sub ?_)
          have e : alw x (best, al) r = (best, r.1) := by unfold alw; rw [if_neg h1', if_neg h2', if_pos h3']
          rw [e]
          skip
          exact allE_rfl rfl
        · intro h3
          have h3' : ¬ (r.2 x = best ∧ al = false) := by simpa using h3
          repeat walk_at "vs"
          refine fin (lsto_sub ?_)
          have e : alw x (best, al) r = (best, al) := by unfold alw; rw [if_neg h1', if_neg h2', if_neg h3']
          rw [e]
          skip
          exact allE_rfl rfl
    · intro h1
      have h1' : r.2 x = 0 := by simpa using h1
      repeat walk_at "vs"
      refine fin (lsto_sub ?_)
      have e : alw x (best, al) r = (best, al) := by unfold alw; rw [if_pos h1']
      rw [e]
      skip
      exact allE_rfl rfl
  · rw [List.length_map]
    dsimp only [alwSt]
    rw [List.take_length]
    walk_at "vs"
    rfl
end
section
variable {S : Sys} {k : Nat}
theorem fn_merge (P : PE S) (rs1 rs2 : List D) (hlen : rs1.length + rs2.length ≤ 20000) : FnC S (k + 5) (.ref 125) [.entry rs1, .entry rs2] (.entry (rs1 ++ rs2)) := by
  intro A s K vs R ro o r h
  have e := entF P
  have c := e.g.cf
  refine enterFn (k := k + 4) (names := ["e1", "e2"]) (ds := [.entry rs1, .entry rs2]) (P.at rfl) rfl rfl (P.code) rfl (bl2 fun _ _ => rfl) ro o r fun env s1 E hln hkeep f ro1 => ?_
  have fresh : ∀ a, s1.heap.get? a = none → s.heap.get? a = none := fun a ha => by
    cases e9 : s.heap.get? a with
    | none => rfl
    | some ob => rw [hkeep a ob e9] at ha; exact snm ha
  refine execsC (stepNew (k := k + 1) e f rfl rfl ro1 fun x dx l ua nl nu s2 K2 x1 x2 x3 f2 L2 k2 hua t2 hdl => ?_)
  have hBd := fresh dx x2
  refine execsC (stepAttr (d := .list []) c f2 L2 hBd hdl rfl rfl (P.ι x) (EvO.toS (EvO.filterNil (k := k + 1) rfl (.inr P.list) rfl (.inr P.filter) rfl (.inr P.set) (EvS.entAgents c P.entP rfl rfl) (EvS.entAgents c P.entP rfl rfl))) ro1 (by decide +kernel) (ns := [sRR, sDE, sRL, sUA]) (within_updM (within_updM (within_updM (within_updM Within.nil)))) (by decide) rfl fun v3 s3 K3 f3 L3 r3 k3 t3 => ?_)
  (refine elEEEAA r3.list_inv fun a3 u3 n3 e93 e3 q3 => ?_; subst e93)
  rw [q3.nil_inv] at e3
  refine execsC (stepAttr (d := .list (rs1 ++ rs2)) c f3 L3 hBd hdl rfl rfl (P.ι x) (EvS.bin (EvS.entRules c P.entP rfl rfl) (EvS.entRules c P.entP rfl rfl) (BinS.addList (by rw [sizeLine_eq]; exact Nat.le_trans ‹_› (by decide)))) ro1 (by decide +kernel) (ns := [sUA, sRR, sDE, sRL, sUA]) (within_updM (within_updM (within_updM (within_updM (within_updM Within.nil))))) (by decide) rfl fun v4 s4 K4 f4 L4 r4 k4 t4 => ?_)
  (refine elEEEAA r4.list_inv fun a4 u4 n4 e93 e4 q4 => ?_; subst e93)
  refine execsC (stepAttr (d := .none) c f4 L4 hBd hdl rfl rfl (P.ι x) (EvS.ifexp_true (EvT.cmp (EvS.entDelay c P.entP rfl rfl) EvS.cnone CmpS.isNone) (EvS.entDelay c P.entP rfl rfl)) ro1 (by decide +kernel) (ns := [sRL, sUA, sRR, sDE, sRL, sUA]) (within_updM (within_updM (within_updM (within_updM (within_updM (within_updM Within.nil)))))) (by decide) rfl fun v5 s5 K5 f5 L5 r5 k5 t5 => ?_)
  rw [r5.none_inv] at L5
  refine execsC (stepAttr (d := .none) c f5 L5 hBd hdl rfl rfl (P.ι x) (EvS.ifexp_true (EvT.cmp (EvS.entRate c P.entP rfl rfl) EvS.cnone CmpS.isNone) (EvS.entRate c P.entP rfl rfl)) ro1 (by decide +kernel) (ns := [sDE, sRL, sUA, sRR, sDE, sRL, sUA]) (within_updM (within_updM (within_updM (within_updM (within_updM (within_updM (within_updM Within.nil))))))) (by decide) rfl fun v6 s6 K6 f6 L6 r6 k6 t6 => ?_)
  rw [r6.none_inv] at L6
  refine execsC (wpAny_Return_some (EvS.name (d := .tok x) rfl rfl _ env s6 K6 _ E ro1 f6.ok f6.fmI fun v7 s7 K7 l7 o7 r7 => ?_))
  intro ht
  have hv := r7.tok_inv
  rw [P.ι] at hv
  subst hv
  refine .inl ⟨_, rfl, ?_⟩
  have f7 := f6.le l7 o7
  have L7 := L6.le l7
  have le7 : Le S s s7 K K7 := f7.leOf (s0 := s) (fun b ob e => e) ht
  have hW : (noKn.add l (lst [] nl)) l = some (lst [] nl) := Kn.add_self ..
  have hlx : l ≠ x := fun q => by
    have := (L7.loose l _ hW).1
    rw [q, L7.ox] at this; cases this
  refine elEAAAA (ledDone o7 L7 hW hlx le7 (fresh x x1) (fresh dx x2) (fresh l x3)) fun K8 o8 le8 k8 ho _ => ?_
  have up3 : K3.le K8 := Kn.le_trans k4 (Kn.le_trans k5 (Kn.le_trans k6 (Kn.le_trans l7.ext k8)))
  have up4 : K4.le K8 := Kn.le_trans k5 (Kn.le_trans k6 (Kn.le_trans l7.ext k8))
  refine h _ s7 K8 le8 o8 (Rep.entry' (vs := u4) ?_ (q4.mono up4))
  rw [P.entP]
  exact ⟨x, _, a3, a4, n3, n4, rfl, ho, by kernel_rfl, up3 _ _ e3, by kernel_rfl, up4 _ _ e4, by kernel_rfl, by kernel_rfl, by kernel_rfl⟩
end
section
variable {S : Sys} {k : Nat}
noncomputable def tkB (it : List Nat) (s : Nat) : Bool := [[63], [s], [91, s, 93]].contains it || (it.take 2 == [91, 33] && !(it.getD 2 0 == s))
noncomputable def biteF : List (List Nat) → Nat → List (List (List Nat))
  | [], _ => []
  | it :: r, s => if it == [42] then (it :: r) :: biteF r s else if tkB it s then [r] else []
noncomputable def starsTo (items : List (List Nat)) (i : Nat) : Prop := ∀ j, j < i → items[j]? = some [42]
theorem bite_at {items : List (List Nat)} {s : Nat} : ∀ i, starsTo items i → i ≤ items.length → biteF items s = (List.range i).map (fun j => items.drop j) ++ biteF (items.drop i) s
  | 0, _, _ => by simp
  | i + 1, h, hl => by
    have h1 := bite_at (s := s) i (fun j hj => h j (Nat.lt_succ_of_lt hj)) (Nat.le_of_succ_le hl)
    have h2 := h i (Nat.lt_succ_self i)
    have h3 : items.drop i = [42] :: items.drop (i + 1) := by
      rw [List.drop_eq_getElem_cons hl]
      rw [List.getElem?_eq_getElem hl] at h2
      rw [Option.some.inj h2]
    rw [h1, List.range_succ, List.map_append, List.append_assoc, List.map_singleton]
    congr 1
    rw [h3]
    rfl
noncomputable def biteSt (items : List (List Nat)) (s i : Nat) : Sto :=
  lsto [("items", .val (rowD items)), ("sign", .val (sD [s])), ("left", .own ((List.range i).map fun j => rowD (items.drop j)))]
theorem rangeN {n : Nat} (h : n < 2 ^ 60) : IterS S (.range 0 (n : Int) 1) ((List.range n).map dN) := by
  have := IterS.up (S := S) (a := 0) (b := n) h (by decide)
  rwa [Nat.sub_zero, ← List.range_eq_range'] at this
theorem slice_two (l : List Nat) : Txt.slice (tx l) none (some 2) = tx (l.take 2) := by
  rw [slice_gen, clip_nat (i := 2) (k := 2) rfl]
  show tx ((l.take (min 2 l.length)).drop 0) = _
  rw [List.drop_zero]
  congr 1
  rcases Nat.le_total 2 l.length with h | h
  · rw [Nat.min_eq_left h]
  · rw [Nat.min_eq_right h, List.take_of_length_le (Nat.le_refl _), List.take_of_length_le h]
theorem ixAt {cx : Cx} {σ : Sto} {x y : Str} {p1 p2 p3 : Pos} {i : Nat} {it : List Nat} {items : List (List Nat)} (hx : isVar cx.sc x = true) (ex : σ x = some (.val (rowD items))) (hy : isVar cx.sc y = true) (ey : σ y = some (.val (.int (i : Nat)))) (h : items[i]? = some it) (hl : items.length ≤ 1000) :
    EvS S k cx σ (.Subscript (.Name x p1) (.Name y p2) p3) (sD it) :=
  EvS.index (EvS.name hx ex) (EvS.name hy ey) (IdxS.nat (by rw [List.getElem?_map, h]; rfl) (by rw [List.length_map]; exact Nat.le_trans hl (by decide))) (by intro _ _; rfl)
theorem fn_bite (P : PO S) (items : List (List Nat)) (s : Nat) (hl : items.length ≤ 1000) (hs : ∀ it ∈ items, it.length ≤ 1000 ∧ (it.take 2 = [91, 33] → 2 < it.length)) :
    FnC S (k + 2) (.ref 146) [rowD items, sD [s]] (.list ((biteF items s).map rowD)) := by
  refine FnC.defP (names := ["items", "sign"]) (P.at rfl) rfl rfl (P.code) rfl (bl2 fun _ _ => rfl) ?_
  conv in (occs := *) (fB _) => whnf
  conv in (occs := *) (fS _) => whnf
  dsimp only [fnCx, List.map_cons, List.map_nil]
  walk_at "vo"
  refine ExP.forJ (ds := (List.range items.length).map dN) (biteSt items s) (starsTo items) (fun j h => absurd h (Nat.not_lt_zero j)) (by walk_at "vx") (by rw [List.length_map]; exact rangeN (Nat.lt_of_le_of_lt hl (by decide))) (lsto_sub ?_) (fun i e hj hi => ?_) (fun hj => ?_)
  · exact allE_rfl rfl
  · rw [List.getElem?_map] at hi
    refine elEA (Option.map_eq_some_iff.mp hi) fun q hq e9 => ?_
    subst e9
    have hin0 : i < items.length ∧ i = q := by
      obtain ⟨h1, h2⟩ := List.getElem?_eq_some_iff.mp hq
      simp at h1 h2
      exact ⟨h1, h2⟩
    refine elA hin0 fun hin e8 => ?_
    subst e8
    clear hin0 hi hq
    have hit : items[i]? = some (items.getD i []) := getD_get hin
    generalize items.getD i [] = it at hit
    have hm := hs it (List.mem_of_getElem? hit)
    have hdr : items.drop i = it :: items.drop (i + 1) := by
      rw [List.drop_eq_getElem_cons hin]
      rw [List.getElem?_eq_getElem hin] at hit
      rw [Option.some.inj hit]
    have hspec := bite_at (s := s) i hj (Nat.le_of_lt hin)
    rw [hdr] at hspec
    refine ⟨_, BindS.name rfl, ?_⟩
    dsimp only [biteSt]
    have hlen : ((List.range i).map fun j => rowD (items.drop j)).length ≤ sizeLine := by rw [List.length_map, List.length_range, sizeLine_eq]; lia
    have hcut : ∀ m : Nat, pickL (items.map sD) (some ((m : Nat) : Int)) none none = (items.drop m).map sD := fun m => by rw [pick_k _ m rfl, List.map_drop]
    refine ExP.ite (c := !(it == [42])) (EvT.to (EvT.cmp (ixAt rfl rfl rfl rfl hit hl) EvS.cstr CmpS.neStr rfl) (by unfold bne; rw [show Str.ofString "*" = tx [42] from rfl, tx_beq])) (fun h1 => ?_) fun h1 => ?_
    · have hne : (it == [42]) = false := by simpa using h1
      have hb : biteF (it :: items.drop (i + 1)) s = if tkB it s then [items.drop (i + 1)] else [] := by
        show (if (it == [42]) = true then _ else _) = _
        rw [hne]; rfl
      rw [hb] at hspec
      refine ExP.ite (c := tkB it s) ?_ (fun h2 => ?_) fun h2 => ?_
      · refine EvT.or2 (c := [[63], [s], [91, s, 93]].contains it) (c' := it.take 2 == [91, 33] && !(it.getD 2 0 == s)) ?_ fun _ => ?_
        · refine EvT.cmp (d2 := rowD [[63], [s], [91, s, 93]]) (ixAt rfl rfl rfl rfl hit hl) (EvS.list (.cons EvS.cstr (.cons (EvS.name rfl rfl) (.cons (EvS.bin (d1 := sD ([91] ++ [s])) (EvS.bin EvS.cstr (EvS.name rfl rfl) (BinS.addTx (a := [91]) (show 2 ≤ 2 ^ 24 by decide))) EvS.cstr (BinS.addTx (b := [93]) (show 3 ≤ 2 ^ 24 by decide))) .nil)))) CmpS.inRow rfl
        · refine EvT.and2 (c := it.take 2 == [91, 33]) (c' := !(it.getD 2 0 == s)) ?_ fun h3 => ?_
          · refine EvT.to (EvT.cmp (EvS.slice (ixAt rfl rfl rfl rfl hit hl) .none (.some EvS.cint) .none (SlcS.str (by rw [tx_len, sizeLine_eq]; exact Nat.le_trans hm.1 (by decide)))) EvS.cstr CmpS.eqStr rfl) (by rw [slice_two, show Str.ofString "[!" = tx [91, 33] from rfl, tx_beq])
          · refine EvT.to (EvT.cmp (EvS.index (ixAt rfl rfl rfl rfl hit hl) EvS.cint (IdxS.tx (q := 2) (hm.2 (eq_of_beq h3)) (Nat.le_trans hm.1 (by decide)))) (EvS.name rfl rfl) CmpS.neStr rfl) (by unfold bne; rw [tx_beq]; simp)
      · rw [if_pos h2] at hspec
        refine ExP.next (Ex1.append (x := "left") (d := rowD (items.drop (i + 1))) rfl rfl (EvS.to (EvS.slice (EvS.name rfl rfl) (.some (EvS.bin (EvS.name rfl rfl) EvS.cint BinS.add)) .none .none (SlcS.list (by simp) (by rw [List.length_map, sizeLine_eq]; exact Nat.le_trans hl (by decide)))) (congrArg D.list (hcut (i + 1)))) hlen) ?_
        refine ExP.nil (Go.next (ExP.brk (Go.brk ?_)))
        refine ExP.freeze (x := "left") (xs := (biteF items s).map rowD) (by rw [hspec, List.map_append, List.map_map]; rfl) rfl ?_
        walk_at "vs"
        rfl
      · rw [if_neg (by rw [h2]; exact Bool.false_ne_true)] at hspec
        refine ExP.nil (Go.next (ExP.brk (Go.brk ?_)))
        refine ExP.freeze (x := "left") (xs := (biteF items s).map rowD) (by rw [hspec, List.append_nil, List.map_map]; rfl) rfl ?_
        walk_at "vs"
        rfl
    · have hst : it = [42] := by simpa using h1
      subst hst
      refine ExP.nil (Go.next ?_)
      refine ExP.next (Ex1.append (x := "left") (d := rowD (items.drop i)) rfl rfl (EvS.to (EvS.slice (EvS.name rfl rfl) (.some (EvS.name rfl rfl)) .none .none (SlcS.list (by simp) (by rw [List.length_map, sizeLine_eq]; exact Nat.le_trans hl (by decide)))) (congrArg D.list (hcut i))) hlen) ?_
      refine ExP.nil ⟨fun j h9 => ?_, lsto_sub ?_⟩
      · rcases Nat.lt_or_ge j i with h8 | h8
        · exact hj j h8
        · rw [Nat.le_antisymm (Nat.le_of_lt_succ h9) h8]; exact hit
      · refine ⟨rfl, rfl, ?_, trivial⟩
        rw [List.range_succ, List.map_append]; rfl
  · rw [List.length_map, List.length_range] at hj ⊢
    have hspec := bite_at (s := s) items.length hj (Nat.le_refl _)
    rw [List.drop_length] at hspec
    dsimp only [biteSt]
    refine ExP.freeze (x := "left") (xs := (biteF items s).map rowD) (by rw [hspec, show biteF [] s = [] from rfl, List.append_nil, List.map_map]; rfl) rfl ?_
    walk_at "vs"
    rfl
end
section
variable {S : Sys} {k : Nat}
noncomputable abbrev Rl := List (List Nat) × Bool
noncomputable abbrev rlD (r : Rl) : D := .list [rowD r.1, .bool r.2]
noncomputable abbrev rlsD (rs : List Rl) : D := .list (rs.map rlD)
theorem eqv_rl (a b : Rl) : eqvD (rlD a) (rlD b) = (a == b) := by
  show (eqvD (rowD a.1) (rowD b.1) && (eqvD (.bool a.2) (.bool b.2) && true)) = _
  rw [show eqvD (rowD a.1) (rowD b.1) = (a.1 == b.1) from eqv_list eqv_tx a.1 b.1, eqv_bool, Bool.and_true]
  rfl
noncomputable def leftF (name : List Nat) (side : Nat) (items : List (List Nat)) : List (List (List Nat)) :=
  if side == 0 then biteF items (name.getD 0 0) else (biteF items.reverse (name.getD (name.length - 1) 0)).map List.reverse
noncomputable def moreF (acc : List Rl) (r : Rl) (left : List (List (List Nat))) : List Rl := acc ++ (left.filter fun x => !acc.contains (x, r.2)).map fun x => (x, r.2)
noncomputable def nextF (rs : List Rl) (name : List Nat) (side : Nat) : List Rl := rs.foldl (fun acc r => moreF acc r (leftF name side r.1)) []
noncomputable def nameN (name : List Nat) (side : Nat) : List Nat := if side == 0 then name.drop 1 else name.take (name.length - 1)
noncomputable def nextSt (rs : List Rl) (name : List Nat) (side i : Nat) : Sto :=
  lsto [("side", .val (.int (side : Nat))), ("rules", .val (rlsD rs)), ("name", .val (sD name)), ("after", .val (rlsD ((rs.take i).foldl (fun acc r => moreF acc r (leftF name side r.1)) [])))]
theorem lastTx {l : List Nat} (h : 0 < l.length) (hl : l.length ≤ 1000) : IdxS S k (.str (tx l)) (.int (-1)) (.str (tx [l.getD (l.length - 1) 0])) := by
  have := IdxS.str (S := S) (k := k) (x := tx l) (i := -1) (by decide) (by rw [tx_len]; lia) (by rw [tx_len]; lia)
  have e : Txt.item (tx l) (-1) = tx [l.getD (l.length - 1) 0] := by
    rw [← item_txd l (l.length - 1) (by lia)]
    unfold Txt.item Txt.charAt
    have e1 : seqIndex? (-1) (tx l).length = seqIndex? ((l.length - 1 : Nat) : Int) (tx l).length := by
      unfold seqIndex?
      have a1 : (if (-1 : Int) < 0 then (-1 : Int) + (l.length : Int) else -1) = ((l.length - 1 : Nat) : Int) := by
        rw [if_pos (show (-1 : Int) < 0 by decide)]; lia
      have a2 : (if ((l.length - 1 : Nat) : Int) < 0 then ((l.length - 1 : Nat) : Int) + (l.length : Int) else ((l.length - 1 : Nat) : Int)) = ((l.length - 1 : Nat) : Int) := if_neg (by lia)
      rw [tx_len]
      dsimp only
      rw [a1, a2]
    rw [e1]
  rwa [e] at this
theorem biteF_len : ∀ (items : List (List Nat)) (s : Nat), (biteF items s).length ≤ items.length
  | [], _ => Nat.le_refl _
  | it :: r, s => by
    unfold biteF
    split
    · exact Nat.succ_le_succ (biteF_len r s)
    · split
      · exact Nat.succ_le_succ (Nat.zero_le _)
      · exact Nat.zero_le _
theorem biteF_row {s : Nat} {x : List (List Nat)} : ∀ {items : List (List Nat)}, x ∈ biteF items s → x.length ≤ items.length
  | [], h => by cases h
  | it :: r, h => by
    unfold biteF at h
    split at h
    · rcases List.mem_cons.mp h with rfl | h
      · exact Nat.le_refl _
      · exact Nat.le_succ_of_le (biteF_row h)
    · split at h
      · rw [List.mem_singleton.mp h]; exact Nat.le_succ _
      · cases h
theorem okD_row (n : Nat) (r : List (List Nat)) : okD (n + 1) (rowD r) = true := okD_list (fun t => okD_str n _) r
theorem okD_rl (n : Nat) (r : Rl) : okD (n + 2) (rlD r) = true := by
  show (okD (n + 1) (rowD r.1) && (okD (n + 1) (.bool r.2) && true)) = true
  rw [okD_row]; rfl
theorem leftF_len (name : List Nat) (side : Nat) (items : List (List Nat)) : (leftF name side items).length ≤ items.length := by
  unfold leftF
  split
  · exact biteF_len _ _
  · rw [List.length_map]; exact Nat.le_trans (biteF_len _ _) (by rw [List.length_reverse]; exact Nat.le_refl _)
theorem next_len (name : List Nat) (side : Nat) : ∀ (rs acc : List Rl), (∀ r ∈ rs, r.1.length ≤ 8) → (rs.foldl (fun acc r => moreF acc r (leftF name side r.1)) acc).length ≤ acc.length + 8 * rs.length
  | [], acc, _ => Nat.le_refl _
  | r :: rs, acc, h => by
    rw [List.foldl_cons]
    refine Nat.le_trans (next_len name side rs _ fun r hr => h r (.tail _ hr)) ?_
    unfold moreF
    rw [List.length_append, List.length_map, List.length_cons]
    have := List.length_filter_le (fun x => !acc.contains (x, r.2)) (leftF name side r.1)
    have := leftF_len name side r.1
    have := h r (.head _)
    lia
set_option genInjectivity false in
structure PM (S : Sys) : Prop extends PO S where
  gbite : S.mg "_law_bite" = some (.ref 146)
noncomputable def rowGood (items : List (List Nat)) : Prop := items.length ≤ 8 ∧ ∀ it ∈ items, it.length ≤ 1000 ∧ (it.take 2 = [91, 33] → 2 < it.length)
theorem fn_next (P : PM S) (rs : List Rl) (name : List Nat) (side : Nat) (hs : side < 2) (hn : 1 ≤ name.length ∧ name.length ≤ 1000) (hr : rs.length ≤ 2000) (hg : ∀ r ∈ rs, rowGood r.1) :
    FnC S (k + 4) (.ref 151) [.list [rlsD rs, sD name], dN side] (.list [rlsD (nextF rs name side), sD (nameN name side)]) := by
  have P0 := P.toPO
  refine FnC.defP (names := ["state", "side"]) (P.at rfl) rfl rfl (P.code) rfl (bl2 fun _ _ => rfl) ?_
  conv in (occs := *) (fB _) => whnf
  conv in (occs := *) (fS _) => whnf
  dsimp only [fnCx, List.map_cons, List.map_nil]
  refine ExP.next (Ex1.assignUnpack (ds := [rlsD rs, sD name]) (EvS.name rfl rfl) (.inl rfl) (BindL.cons (BindS.name rfl) rfl (BindL.cons (BindS.name rfl) rfl .nil)) (fun env => by rfl) (fun env => by rfl)) ?_
  refine ExP.next (Ex1.assign (d := .list []) (EvS.list .nil) rfl rfl) ?_
  refine ExP.for (ds := rs.map rlD) (nextSt rs name side) (EvS.name rfl rfl) IterS.list (lsto_sub ?_) (fun i e hi => ?_) ?_
  · exact allE_rfl rfl
  · rw [List.getElem?_map] at hi
    refine elEA (Option.map_eq_some_iff.mp hi) fun r hr9 e9 => ?_
    subst e9
    clear hi
    have hgr := hg r (List.mem_of_getElem? hr9)
    refine ⟨_, BindS.tup (.inl rfl) (BindL.cons (BindS.name rfl) rfl (BindL.cons (BindS.name rfl) rfl .nil)), ?_⟩
    dsimp only [nextSt]
    have hL : 0 < name.length := hn.1
    with_reducible apply ExP.next
    · by_cases h0 : side = 0
      · have hb := fn_bite (k := k + 1) P0 r.1 (name.getD 0 0) (Nat.le_trans hgr.1 (by decide)) hgr.2
        refine Ex1.if_true (EvT.to (EvT.cmp (EvS.name rfl rfl) EvS.cint CmpS.eqInt rfl) (by rw [h0]; rfl)) (ExS.one (Ex1.assign (d := .list ((leftF name side r.1).map rowD)) (EvS.to (EvS.callFn rfl P.gbite (P0.at rfl) (.cons (EvS.name rfl rfl) (.cons (EvS.index (EvS.name rfl rfl) EvS.cint (IdxS.tx (q := 0) hL (Nat.le_trans hn.2 (by decide)))) .nil)) hb.call rfl) (by unfold leftF; rw [h0]; all_goals rfl)) rfl rfl))
      · have h1 : side = 1 := by lia
        have hgr' : ∀ it ∈ r.1.reverse, it.length ≤ 1000 ∧ (it.take 2 = [91, 33] → 2 < it.length) := fun it hm => hgr.2 it (List.mem_reverse.mp hm)
        have hb := fn_bite (k := k + 1) P0 r.1.reverse (name.getD (name.length - 1) 0) (by rw [List.length_reverse]; exact Nat.le_trans hgr.1 (by decide)) hgr'
        refine Ex1.if_false (EvT.to (EvT.cmp (EvS.name rfl rfl) EvS.cint CmpS.eqInt rfl) (by rw [h1]; rfl)) (ExS.one (Ex1.weak (Ex1.assignComp (ds := (biteF r.1.reverse (name.getD (name.length - 1) 0)).map rowD) (di := .list ((biteF r.1.reverse (name.getD (name.length - 1) 0)).map rowD)) (out := (biteF r.1.reverse (name.getD (name.length - 1) 0)).map fun x => rowD x.reverse) rfl rfl ?_ IterS.list ?_ ?_) ?_))
        · refine EvS.callFn rfl P.gbite (P0.at rfl) (.cons (EvS.to (EvS.slice (EvS.name rfl rfl) .none .none (.some (EvS.neg EvS.cint)) (SlcS.list (by simp) (by rw [List.length_map, sizeLine_eq]; exact Nat.le_trans hgr.1 (by decide)))) (congrArg D.list (by rw [pick_rev, ← List.map_reverse]))) (.cons (EvS.index (EvS.name rfl rfl) (EvS.neg EvS.cint) (lastTx hL hn.2)) .nil)) hb.call rfl
        · refine TurnsR.map1 rowD _ _ fun x hx9 => turn1 rfl rfl rfl (.inr ⟨.nil, genOne ?_⟩)
          refine EvS.to (EvS.slice (EvS.name rfl rfl) .none .none (.some (EvS.neg EvS.cint)) (SlcS.list (by simp) ?_)) (congrArg D.list (by rw [pick_rev, ← List.map_reverse]))
          rw [List.length_map, sizeLine_eq]
          exact Nat.le_trans (biteF_row hx9) (by rw [List.length_reverse]; exact Nat.le_trans hgr.1 (by decide))
        · rw [List.length_map, sizeLine_eq]
          exact Nat.le_trans (biteF_len _ _) (by rw [List.length_reverse]; exact Nat.le_trans hgr.1 (by decide))
        · rw [show leftF name side r.1 = (biteF r.1.reverse (name.getD (name.length - 1) 0)).map List.reverse from by unfold leftF; rw [h1]; rfl, List.map_map]
          exact Sto.sub_refl
    · have hacc := next_len name side (rs.take i) [] (fun r hr => (hg r (List.mem_of_mem_take hr)).1)
      have hti : (rs.take i).length ≤ 2000 := by rw [List.length_take]; exact Nat.le_trans (Nat.min_le_right _ _) hr
      have hstep : (rs.take (i + 1)).foldl (fun acc r => moreF acc r (leftF name side r.1)) [] = moreF ((rs.take i).foldl (fun acc r => moreF acc r (leftF name side r.1)) []) r (leftF name side r.1) := by
        rw [List.take_add_one, hr9, List.foldl_append]; rfl
      have hll := leftF_len name side r.1
      have hgl := hgr.1
      generalize (rs.take i).foldl (fun acc r => moreF acc r (leftF name side r.1)) [] = acc at hacc hstep ⊢
      generalize leftF name side r.1 = left at hstep hll ⊢
      have hfl := List.length_filter_le (fun x => !acc.contains (x, r.2)) left
      refine ExP.next (Ex1.assign (d := rlsD (moreF acc r left)) (EvS.to (EvS.bin (EvS.name rfl rfl) (EvS.listComp (ds := left.map rowD) (out := (left.filter fun x => !acc.contains (x, r.2)).map fun x => rlD (x, r.2)) rfl (EvS.name rfl rfl) IterS.list ?_ ?_) (BinS.addList ?_)) ?_) rfl rfl) ?_
      · have ht : ∀ x : List (List Nat), (!(acc.map rlD).any fun e => eqvD e (rlD (x, r.2))) = !acc.contains (x, r.2) := fun x => by rw [any_map eqv_rl]
        refine TurnsR.filt rowD _ _ left fun x hx => ⟨fun hc => turn1 rfl rfl rfl (.inr ⟨TestR.one ?_, genOne ?_⟩), fun hc => turn1 rfl rfl rfl (.inl ⟨TestR.one ?_, rfl⟩)⟩
        · exact EvT.to (EvT.cmp (EvS.list (.cons (EvS.name rfl rfl) (.cons (EvS.name rfl rfl) .nil))) (EvS.name rfl rfl) (CmpS.notIn (okD_rl 6 (x, r.2)) (okD_list (n := 7) (fun a => okD_rl 5 a) acc)) rfl) ((ht x).trans hc)
        · exact EvS.list (.cons (EvS.name rfl rfl) (.cons (EvS.name rfl rfl) .nil))
        · exact EvT.to (EvT.cmp (EvS.list (.cons (EvS.name rfl rfl) (.cons (EvS.name rfl rfl) .nil))) (EvS.name rfl rfl) (CmpS.notIn (okD_rl 6 (x, r.2)) (okD_list (n := 7) (fun a => okD_rl 5 a) acc)) rfl) ((ht x).trans hc)
      · rw [List.length_map, sizeLine_eq]; lia
      · rw [List.length_map, List.length_map, sizeLine_eq]
        rw [List.length_nil] at hacc
        lia
      · unfold moreF rlsD
        rw [List.map_append, List.map_map]; rfl
      · refine ExP.nil ?_
        show (nextSt rs name side (i + 1)).sub _
        unfold nextSt
        rw [hstep]
        exact lsto_sub (allE_rfl rfl)
  · rw [List.length_map]
    dsimp only [nextSt]
    rw [List.take_length]
    refine ExP.ret (EvS.list (.cons (EvS.name rfl rfl) (.cons (d := sD (nameN name side)) ?_ .nil))) rfl
    by_cases h0 : side = 0
    · refine EvS.ifT (c := true) (EvT.to (EvT.cmp (EvS.name rfl rfl) EvS.cint CmpS.eqInt rfl) (by rw [h0]; rfl)) rfl (EvS.to (EvS.slice (EvS.name rfl rfl) (.some EvS.cint) .none .none (SlcS.str (by rw [tx_len, sizeLine_eq]; exact Nat.le_trans hn.2 (by decide)))) ?_)
      rw [slice_k name 1 (i := 1) rfl, h0]; rfl
    · refine EvS.ifF (c := false) (EvT.to (EvT.cmp (EvS.name rfl rfl) EvS.cint CmpS.eqInt rfl) (by rw [show side = 1 by lia]; rfl)) rfl (EvS.to (EvS.slice (EvS.name rfl rfl) .none (.some (EvS.neg EvS.cint)) .none (SlcS.str (by rw [tx_len, sizeLine_eq]; exact Nat.le_trans hn.2 (by decide)))) ?_)
      rw [slice_gen, clip_neg (i := -1) (m := 1) rfl (by decide) hn.1, show side = 1 by lia]
      rfl
end
section
theorem Mt_rev : ∀ {gs : List (List Nat)} {w : List Nat}, Mt gs w → Mt gs.reverse w.reverse
  | [], w, h => by
    have : w = [] := h
    subst this; rfl
  | g :: gs, w, h => by
    rw [List.reverse_cons]
    by_cases hg : g = [42]
    · subst hg
      refine elEEA (Mt_star.mp h) fun u v e h2 => ?_
      rw [e, List.reverse_append, Mt_snoc_star]
      exact ⟨v.reverse, u.reverse, rfl, Mt_rev h2⟩
    · refine elEEAA ((Mt_one hg).mp h) fun c v e hc h2 => ?_
      rw [e, List.reverse_cons, Mt_snoc_one hg]
      exact ⟨v.reverse, c, rfl, hc, Mt_rev h2⟩
theorem Mt_rev_iff {gs : List (List Nat)} {w : List Nat} : Mt gs.reverse w ↔ Mt gs w.reverse :=
  ⟨fun h => by have := Mt_rev h; rwa [List.reverse_reverse] at this, fun h => by have := Mt_rev h; rwa [List.reverse_reverse] at this⟩
noncomputable def gI (al it : List Nat) : List Nat := if it == [42] then [42] else al.filter (tkB it)
noncomputable abbrev gR (al : List Nat) (row : List (List Nat)) : List (List Nat) := row.map (gI al)
theorem gI_ne {al it : List Nat} (h : 42 ∉ al) (hi : (it == [42]) = false) : gI al it ≠ [42] := fun e => by
  have e2 : gI al it = al.filter (tkB it) := by unfold gI; rw [hi]; rfl
  rw [e2] at e
  have : 42 ∈ al.filter (tkB it) := by rw [e]; exact .head _
  exact h (List.mem_filter.mp this).1
theorem bite_ok {al : List Nat} (h42 : 42 ∉ al) {c : Nat} (hc : c ∈ al) {v : List Nat} : ∀ row : List (List Nat), (∃ x ∈ biteF row c, Mt (gR al x) v) ↔ Mt (gR al row) (c :: v)
  | [] => ⟨fun ⟨x, hx, _⟩ => (by cases hx), fun h => (by cases (show c :: v = [] from h))⟩
  | it :: r => by
    have ih := bite_ok h42 hc (v := v) r
    cases hi : it == [42] with
    | true =>
      have eb : biteF (it :: r) c = (it :: r) :: biteF r c := by rw [biteF, hi]; rfl
      have eg : gR al (it :: r) = [42] :: gR al r := by
        show gI al it :: _ = _
        unfold gI; rw [hi]; rfl
      rw [eb]
      constructor
      · intro ⟨x, hx, h⟩
        rw [eg, Mt_star]
        rcases List.mem_cons.mp hx with rfl | hx
        · rw [eg, Mt_star] at h
          refine elEEA h fun u w e h => ?_
          exact ⟨c :: u, w, by rw [e]; rfl, h⟩
        · exact ⟨[], c :: v, rfl, ih.mp ⟨x, hx, h⟩⟩
      · intro h
        rw [eg, Mt_star] at h
        refine elEEA h fun u w e h => ?_
        cases u with
        | nil =>
          have e : c :: v = w := e
          subst e
          obtain ⟨x, hx, h2⟩ := ih.mpr h
          exact ⟨x, .tail _ hx, h2⟩
        | cons a u =>
          refine ⟨it :: r, .head _, ?_⟩
          rw [eg, Mt_star]
          exact ⟨u, w, (List.cons.inj e).2, h⟩
    | false =>
      have hne := gI_ne h42 hi
      have eb : biteF (it :: r) c = if tkB it c then [r] else [] := by rw [biteF, hi]; rfl
      have hm : c ∈ gI al it ↔ tkB it c = true := by
        unfold gI; rw [hi]
        simp [hc]
      rw [eb, show gR al (it :: r) = gI al it :: gR al r from rfl, Mt_one hne]
      cases ht : tkB it c with
      | true =>
        constructor
        · intro ⟨x, hx, h⟩
          rw [List.mem_singleton.mp hx] at h
          exact ⟨c, v, rfl, hm.mpr ht, h⟩
        · intro ⟨c', v', e, _, h⟩
          exact ⟨r, .head _, by rw [(List.cons.inj e).2]; exact h⟩
      | false =>
        constructor
        · intro ⟨x, hx, h⟩
          cases hx
        · intro ⟨c', v', e, hc', h⟩
          rw [← (List.cons.inj e).1, hm, ht] at hc'
          exact ft hc'
theorem left_ok {al : List Nat} (h42 : 42 ∉ al) {nm : List Nat} (h0 : nm ≠ []) (hn : ∀ c ∈ nm, c ∈ al) (side : Nat) (row : List (List Nat)) : (∃ x ∈ leftF nm side row, Mt (gR al x) (nameN nm side)) ↔ Mt (gR al row) nm := by
  unfold leftF nameN
  cases hs : side == 0 with
  | true =>
    cases nm with
    | nil => exact absurd rfl h0
    | cons c v => exact bite_ok h42 (hn c (.head _)) row
  | false =>
    rcases List.eq_nil_or_concat nm with rfl | ⟨v, c, rfl⟩
    · exact absurd rfl h0
    · rw [List.concat_eq_append] at hn ⊢
      have e1 : (v ++ [c]).getD ((v ++ [c]).length - 1) 0 = c := by simp [List.getD_eq_getElem?_getD]
      have e2 : (v ++ [c]).take ((v ++ [c]).length - 1) = v := by rw [List.length_append]; exact List.take_left' rfl
      rw [e1, e2]
      have hb := bite_ok h42 (hn c (by simp)) (v := v.reverse) row.reverse
      have hr : ∀ x : List (List Nat), Mt (gR al x.reverse) v ↔ Mt (gR al x) v.reverse := fun x => by rw [show gR al x.reverse = (gR al x).reverse from List.map_reverse, Mt_rev_iff]
      rw [show gR al row.reverse = (gR al row).reverse from List.map_reverse, Mt_rev_iff, List.reverse_cons, List.reverse_reverse] at hb
      rw [← hb]
      constructor
      · intro ⟨x, hx, h⟩
        obtain ⟨y, hy, rfl⟩ := List.mem_map.mp hx
        exact ⟨y, hy, (hr y).mp h⟩
      · intro ⟨y, hy, h⟩
        exact ⟨y.reverse, List.mem_map.mpr ⟨y, hy, rfl⟩, (hr y).mpr h⟩
theorem more_mem {acc : List Rl} {r r' : Rl} {left : List (List (List Nat))} : r' ∈ moreF acc r left ↔ r' ∈ acc ∨ (r'.2 = r.2 ∧ r'.1 ∈ left) := by
  unfold moreF
  rw [List.mem_append, List.mem_map]
  constructor
  · rintro (h | ⟨x, hx, rfl⟩)
    · exact .inl h
    · exact .inr ⟨rfl, (List.mem_filter.mp hx).1⟩
  · rintro (h | ⟨h1, h2⟩)
    · exact .inl h
    · have e : (r'.1, r.2) = r' := by rw [← h1]
      by_cases hc : r' ∈ acc
      · exact .inl hc
      · exact .inr ⟨r'.1, List.mem_filter.mpr ⟨h2, by rw [e]; simpa using hc⟩, e⟩
theorem next_mem {nm : List Nat} {side : Nat} {r' : Rl} : ∀ {rs acc : List Rl}, r' ∈ rs.foldl (fun acc r => moreF acc r (leftF nm side r.1)) acc ↔ r' ∈ acc ∨ ∃ r ∈ rs, r'.2 = r.2 ∧ r'.1 ∈ leftF nm side r.1
  | [], acc => by simp
  | r :: rs, acc => by
    rw [List.foldl_cons, next_mem (rs := rs), more_mem]
    simp only [List.mem_cons, exists_eq_or_imp, or_assoc]
noncomputable def Tk (al : List Nat) (rs : List Rl) (nm : List Nat) (b : Bool) : Prop := ∃ r ∈ rs, r.2 = b ∧ Mt (gR al r.1) nm
theorem next_Tk {al : List Nat} (h42 : 42 ∉ al) {nm : List Nat} (h0 : nm ≠ []) (hn : ∀ c ∈ nm, c ∈ al) (side : Nat) (rs : List Rl) (b : Bool) : Tk al (nextF rs nm side) (nameN nm side) b ↔ Tk al rs nm b := by
  have hl := left_ok h42 h0 hn side
  constructor
  · intro ⟨r', hr, hb, h⟩
    rcases next_mem.mp hr with h9 | ⟨r, h1, h2, h3⟩
    · cases h9
    · exact ⟨r, h1, h2.symm.trans hb, (hl r.1).mp ⟨r'.1, h3, h⟩⟩
  · intro ⟨r, hr, hb, h⟩
    obtain ⟨x, hx, h2⟩ := (hl r.1).mpr h
    exact ⟨(x, r.2), next_mem.mpr (.inr ⟨r, hr, rfl, hx⟩), hb, h2⟩
noncomputable abbrev St2 := List Rl × List Nat
noncomputable def stepN (s : St2) (side : Nat) : St2 := (nextF s.1 s.2 side, nameN s.2 side)
noncomputable def stAt (s0 : St2) (sides : List Nat) (i : Nat) : St2 := (sides.take i).foldl stepN s0
theorem stAt_succ {s0 : St2} {sides : List Nat} {i d : Nat} (h : sides[i]? = some d) : stAt s0 sides (i + 1) = stepN (stAt s0 sides i) d := by
  unfold stAt
  rw [List.take_add_one, h, List.foldl_append]; rfl
theorem nameN_len {nm : List Nat} (side : Nat) : (nameN nm side).length = nm.length - 1 := by
  unfold nameN
  split
  · rw [List.length_drop]
  · rw [List.length_take]; exact Nat.min_eq_left (Nat.sub_le _ _)
theorem nameN_mem {nm : List Nat} {side c : Nat} (h : c ∈ nameN nm side) : c ∈ nm := by
  unfold nameN at h
  split at h
  · exact List.mem_of_mem_drop h
  · exact List.mem_of_mem_take h
theorem fold_snd : ∀ (l : List Nat) (s : St2), (l.foldl stepN s).2 = l.foldl nameN s.2
  | [], _ => rfl
  | d :: l, s => fold_snd l (stepN s d)
theorem name_fold : ∀ (l : List Nat) (nm : List Nat), (∀ d ∈ l, d < 2) → l.length ≤ nm.length → l.foldl nameN nm = (nm.take (nm.length - l.count 1)).drop (l.count 0)
  | [], nm, _, _ => by simp
  | d :: l, nm, h, hl => by
    have hl' : l.length + 1 ≤ nm.length := hl
    have hd := h d (.head _)
    have ih := name_fold l (nameN nm d) (fun x hx => h x (.tail _ hx)) (by rw [nameN_len]; lia)
    rw [List.foldl_cons, ih, nameN_len]
    have hc1 := List.count_le_length (a := 1) (l := l)
    have hc0 := List.count_le_length (a := 0) (l := l)
    have : d = 0 ∨ d = 1 := by lia
    rcases this with rfl | rfl
    · have e0 : (0 :: l).count 0 = l.count 0 + 1 := List.count_cons_self
      have e1 : (0 :: l).count 1 = l.count 1 := List.count_cons_of_ne (by decide)
      rw [e0, e1, show nameN nm 0 = nm.drop 1 from rfl, List.drop_take, List.drop_take, List.drop_drop, Nat.add_comm 1]
      congr 1
      lia
    · have e0 : (1 :: l).count 0 = l.count 0 := List.count_cons_of_ne (by decide)
      have e1 : (1 :: l).count 1 = l.count 1 + 1 := List.count_cons_self
      rw [e0, e1, show nameN nm 1 = nm.take (nm.length - 1) from rfl, List.take_take, Nat.min_eq_left (Nat.sub_le _ _)]
      congr 2
      lia
theorem stAt_name {s0 : St2} {sides : List Nat} (hs : ∀ d ∈ sides, d < 2) (hl : sides.length ≤ s0.2.length) (i : Nat) : (stAt s0 sides i).2 = (s0.2.take (s0.2.length - (sides.take i).count 1)).drop ((sides.take i).count 0) := by
  unfold stAt
  rw [fold_snd, name_fold _ _ (fun d hd => hs d (List.mem_of_mem_take hd)) (Nat.le_trans (by rw [List.length_take]; exact Nat.min_le_right _ _) hl)]
end
section
theorem stAt_len {s0 : St2} {sides : List Nat} : ∀ i, i ≤ sides.length → (stAt s0 sides i).2.length = s0.2.length - i ∧ ∀ c ∈ (stAt s0 sides i).2, c ∈ s0.2
  | 0, _ => ⟨rfl, fun c h => h⟩
  | i + 1, h => by
    refine elA (stAt_len (s0 := s0) i (Nat.le_of_succ_le h)) fun h1 h2 => ?_
    rw [stAt_succ (List.getElem?_eq_getElem h)]
    refine ⟨?_, fun c hc => h2 c (nameN_mem hc)⟩
    show (nameN _ _).length = _
    rw [nameN_len, h1]; lia
theorem stAt_Tk {al : List Nat} (h42 : 42 ∉ al) {s0 : St2} {sides : List Nat} (hn : ∀ c ∈ s0.2, c ∈ al) (hl : sides.length ≤ s0.2.length) (b : Bool) : ∀ i, i ≤ sides.length → (Tk al (stAt s0 sides i).1 (stAt s0 sides i).2 b ↔ Tk al s0.1 s0.2 b)
  | 0, _ => Iff.rfl
  | i + 1, h => by
    refine elA (stAt_len (s0 := s0) i (Nat.le_of_succ_le h)) fun h1 h2 => ?_
    rw [stAt_succ (List.getElem?_eq_getElem h), ← stAt_Tk h42 hn hl b i (Nat.le_of_succ_le h)]
    refine next_Tk h42 (fun e => ?_) (fun c hc => hn c (h2 c hc)) _ _ b
    rw [e] at h1
    have h1 : 0 = s0.2.length - i := h1
    lia
noncomputable def itS (m : Nat) : Bool → List (List Nat)
  | true => [[42], [97], [98], [m]]
  | false => [[42], [63], [97], [98], [m], [91, 33, 97, 93], [91, 33, 98, 93], [91, 33, m, 93], [91, 97, 93], [91, 98, 93], [91, m, 93]]
noncomputable def RuOk (m : Nat) (r : Rl) : Prop := r.1.length ≤ 8 ∧ ∀ it ∈ r.1, it ∈ itS m r.2
theorem biteF_mem {s : Nat} {x : List (List Nat)} : ∀ {items : List (List Nat)}, x ∈ biteF items s → ∀ it ∈ x, it ∈ items
  | [], h => by cases h
  | it :: r, h => by
    unfold biteF at h
    split at h
    · rcases List.mem_cons.mp h with rfl | h
      · exact fun _ h => h
      · exact fun z hz => .tail _ (biteF_mem h z hz)
    · split at h
      · rw [List.mem_singleton.mp h]
        exact fun z hz => .tail _ hz
      · cases h
theorem leftF_ok {nm : List Nat} {side : Nat} {items x : List (List Nat)} (h : x ∈ leftF nm side items) : x.length ≤ items.length ∧ ∀ it ∈ x, it ∈ items := by
  unfold leftF at h
  split at h
  · exact ⟨biteF_row h, biteF_mem h⟩
  · refine elEA (List.mem_map.mp h) fun y hy e => ?_
    subst e
    have h1 := biteF_row hy
    have h2 := biteF_mem hy
    rw [List.length_reverse] at h1 ⊢
    exact ⟨h1, fun it hit => List.mem_reverse.mp (h2 it (List.mem_reverse.mp hit))⟩
theorem next_ok {m : Nat} {nm : List Nat} {side : Nat} {rs : List Rl} (h : ∀ r ∈ rs, RuOk m r) : ∀ r ∈ nextF rs nm side, RuOk m r := fun r' hr => by
  rcases next_mem.mp hr with h9 | ⟨r, h1, h2, h3⟩
  · cases h9
  · have h4 := h r h1
    have h5 := leftF_ok h3
    exact ⟨Nat.le_trans h5.1 h4.1, fun it hit => by rw [h2]; exact h4.2 it (h5.2 it hit)⟩
theorem stAt_ok {m : Nat} {s0 : St2} {sides : List Nat} (h : ∀ r ∈ s0.1, RuOk m r) : ∀ i, i ≤ sides.length → (∀ r ∈ (stAt s0 sides i).1, RuOk m r) ∧ (stAt s0 sides i).1.length ≤ s0.1.length * 8 ^ i
  | 0, _ => ⟨h, by rw [Nat.pow_zero, Nat.mul_one]; exact Nat.le_refl _⟩
  | i + 1, hi => by
    refine elA (stAt_ok h i (Nat.le_of_succ_le hi)) fun h1 h2 => ?_
    rw [stAt_succ (List.getElem?_eq_getElem hi)]
    refine ⟨next_ok h1, ?_⟩
    have := next_len (stAt s0 sides i).2 sides[i] (stAt s0 sides i).1 [] fun r hr => (h1 r hr).1
    rw [List.length_nil, Nat.zero_add] at this
    refine Nat.le_trans this ?_
    rw [Nat.pow_succ, ← Nat.mul_assoc, Nat.mul_comm 8]
    exact Nat.mul_le_mul_right 8 h2
noncomputable def bareB (r : Rl) : Bool := (r.1.filter fun it => !(it == [42])) == []
theorem bare_ok {al : List Nat} (h42 : 42 ∉ al) : ∀ row : List (List Nat), Mt (gR al row) [] ↔ (row.filter fun it => !(it == [42])) = []
  | [] => ⟨fun _ => rfl, fun _ => rfl⟩
  | it :: r => by
    have ih := bare_ok h42 r
    cases hi : it == [42] with
    | true =>
      have eg : gR al (it :: r) = [42] :: gR al r := by
        show gI al it :: _ = _
        unfold gI; rw [hi]; rfl
      rw [eg, Mt_star, List.filter_cons, hi]
      show _ ↔ r.filter _ = []
      rw [← ih]
      constructor
      · intro ⟨u, v, e, h⟩
        have : v = [] := (List.append_eq_nil_iff.mp e.symm).2
        rwa [this] at h
      · intro h; exact ⟨[], [], rfl, h⟩
    | false =>
      rw [show gR al (it :: r) = gI al it :: gR al r from rfl, Mt_one (gI_ne h42 hi), List.filter_cons, hi]
      constructor
      · intro ⟨c, v, e, _⟩
        cases e
      · intro h
        cases h
noncomputable def tkD (al nm : List Nat) (r : Rl) : Bool := @decide (Mt (gR al r.1) nm) (Classical.propDecidable _)
theorem tkD_iff {al nm : List Nat} {r : Rl} : tkD al nm r = true ↔ Mt (gR al r.1) nm := by
  unfold tkD; exact @decide_eq_true_iff _ (Classical.propDecidable _)
theorem alw_on {α : Type} (x : Str) (m : Int) (hm : 0 < m) (ok tk : α → Bool) (F : α → Rul) (hF : ∀ a, (F a).1 = ok a ∧ (F a).2 x = if tk a then m else 0) : ∀ (l : List α) (b : Bool), ((l.map F).foldl (alw x) (m, b)).2 = (b || l.any fun r => tk r && ok r)
  | [], b => by simp
  | r :: l, b => by
    have h := hF r
    have e : alw x (m, b) (F r) = (m, b || (tk r && ok r)) := by
      unfold alw
      rw [h.1, h.2]
      cases tk r with
      | false => simp
      | true =>
        have h1 : ¬ m = 0 := by lia
        simp only [if_true, if_neg h1, if_neg (Int.lt_irrefl m), Bool.true_and]
        cases b <;> simp
    rw [List.map_cons, List.foldl_cons, e, alw_on x m hm ok tk F hF l, List.any_cons, Bool.or_assoc]
theorem alw_all {α : Type} (x : Str) (m : Int) (hm : 0 < m) (ok tk : α → Bool) (F : α → Rul) (hF : ∀ a, (F a).1 = ok a ∧ (F a).2 x = if tk a then m else 0) : ∀ l : List α, alwF x (l.map F) = ((l.any fun r => tk r && ok r) || !l.any tk)
  | [] => rfl
  | r :: l => by
    have h := hF r
    unfold alwF
    rw [List.map_cons, List.foldl_cons, List.any_cons, List.any_cons]
    cases ht : tk r with
    | false =>
      have e : alw x (-1, true) (F r) = (-1, true) := by
        unfold alw
        rw [h.2, ht]; rfl
      rw [e]
      exact alw_all x m hm ok tk F hF l
    | true =>
      have e : alw x (-1, true) (F r) = (m, ok r) := by
        unfold alw
        rw [h.1, h.2, ht]
        have h1 : ¬ m = 0 := by lia
        have h2 : (-1 : Int) < m := by lia
        simp only [if_true, if_neg h1, if_pos h2]
      rw [e, alw_on x m hm ok tk F hF l]
      simp
noncomputable def dueF (rs : List Rl) (even : Bool) : Bool := ((rs.filter bareB).map fun r => r.2 == even).contains true || ((rs.filter bareB).map fun r => r.2 == even) == []
theorem due_ok {al : List Nat} (h42 : 42 ∉ al) {s0 : St2} {sides : List Nat} (hn : ∀ c ∈ s0.2, c ∈ al) (hl : sides.length = s0.2.length) (even : Bool) {i : Nat} (hi : i ≤ sides.length) {l : List Rl} (hlm : ∀ r, r ∈ l ↔ r ∈ (stAt s0 sides i).1) :
    ((l.any fun r => tkD al (stAt s0 sides i).2 r && (r.2 == even)) || !l.any (tkD al (stAt s0 sides i).2)) = dueF (stAt s0 sides sides.length).1 even := by
  have hT := fun b => (stAt_Tk h42 hn (Nat.le_of_eq hl) b i hi).trans (stAt_Tk h42 hn (Nat.le_of_eq hl) b sides.length (Nat.le_refl _)).symm
  have h0 : (stAt s0 sides sides.length).2 = [] := List.length_eq_zero_iff.mp (by rw [(stAt_len _ (Nat.le_refl _)).1, hl, Nat.sub_self])
  rw [h0] at hT
  generalize (stAt s0 sides sides.length).1 = rs4 at hT
  have hA : (l.any fun r => tkD al (stAt s0 sides i).2 r && (r.2 == even)) = true ↔ Tk al rs4 [] even := by
    rw [← hT even, List.any_eq_true]
    constructor
    · intro ⟨r, hr, h⟩
      rw [Bool.and_eq_true] at h
      exact ⟨r, (hlm r).mp hr, eq_of_beq h.2, tkD_iff.mp h.1⟩
    · intro ⟨r, hr, h1, h2⟩
      exact ⟨r, (hlm r).mpr hr, by rw [tkD_iff.mpr h2, h1]; simp⟩
  have hB : l.any (tkD al (stAt s0 sides i).2) = true ↔ ∃ b, Tk al rs4 [] b := by
    rw [List.any_eq_true]
    constructor
    · intro ⟨r, hr, h⟩
      exact ⟨r.2, (hT r.2).mp ⟨r, (hlm r).mp hr, rfl, tkD_iff.mp h⟩⟩
    · intro ⟨b, h⟩
      obtain ⟨r, hr, h1, h2⟩ := (hT b).mpr h
      exact ⟨r, (hlm r).mpr hr, tkD_iff.mpr h2⟩
  have hb : ∀ r : Rl, bareB r = true ↔ Mt (gR al r.1) [] := fun r => by rw [bare_ok h42]; exact beq_iff_eq
  have hC : ((rs4.filter bareB).map fun r => r.2 == even).contains true = true ↔ Tk al rs4 [] even := by
    rw [List.contains_iff_mem, List.mem_map]
    constructor
    · intro ⟨r, hr, h⟩
      exact ⟨r, (List.mem_filter.mp hr).1, eq_of_beq h, (hb r).mp (List.mem_filter.mp hr).2⟩
    · intro ⟨r, hr, h1, h2⟩
      exact ⟨r, List.mem_filter.mpr ⟨hr, (hb r).mpr h2⟩, by rw [h1]; simp⟩
  have hD : (((rs4.filter bareB).map fun r => r.2 == even) == []) = true ↔ ¬ ∃ b, Tk al rs4 [] b := by
    rw [beq_iff_eq, List.map_eq_nil_iff, List.filter_eq_nil_iff]
    constructor
    · intro h ⟨b, r, hr, _, h2⟩
      exact h r hr ((hb r).mpr h2)
    · intro h r hr h9
      exact h ⟨r.2, r, hr, rfl, (hb r).mp h9⟩
  unfold dueF
  rw [Bool.eq_iff_iff, Bool.or_eq_true, Bool.or_eq_true, hA, hC, hD, Bool.not_eq_true', ← Bool.not_eq_true, hB]
end
section
noncomputable def eC (c : Nat) : List Nat := if spc.contains c then [92, c] else [c]
theorem escL_cons (x : Nat) (p : List Nat) : escL spc (x :: p) = eC x ++ escL spc p := rfl
noncomputable def psE (x : Nat) : Option At2 := if x = 42 then none else some (eC x, [x])
theorem psE_G (l : List Nat) : (l.map psE).map ptG = l.map fun x => [x] := by
  rw [List.map_map]
  apply List.map_congr_left
  intro x _
  unfold psE
  by_cases h : x = 42
  · subst h; rfl
  · simp [h, ptG]
theorem join_splitE : ∀ l : List Nat, joinG ((l.map psE).map ptT) none = tpS ((splitL 42 l).map (escL spc)) ∧ ∀ acc, joinG ((l.map psE).map ptT) (some acc) = tpTail ((acc ++ escL spc ((splitL 42 l).headD [])) :: (splitL 42 l).tail.map (escL spc))
  | [] => ⟨rfl, fun acc => by simp [joinG, splitL, tpTail, escL]⟩
  | x :: l => by
    refine elA (join_splitE l) fun h1 h2 => ?_
    have hne := splitL_ne9 42 l
    by_cases hx : x = 42
    · subst hx
      have e : splitL 42 (42 :: l) = [] :: splitL 42 l := by rw [splitL, if_pos rfl]
      obtain ⟨p, r, hp⟩ : ∃ p r, splitL 42 l = p :: r := by
        cases h : splitL 42 l with
        | nil => exact absurd h hne
        | cons p r => exact ⟨p, r, rfl⟩
      rw [hp] at h2
      constructor
      · rw [e, hp]
        show joinG ((l.map psE).map ptT) (some []) = [] ++ tpTail ((p :: r).map (escL spc))
        rw [h2]; rfl
      · intro acc
        rw [e, hp]
        show [40, 63, 62, 46, 42, 63] ++ acc ++ [41] ++ joinG ((l.map psE).map ptT) (some []) = tpTail ((acc ++ []) :: (p :: r).map (escL spc))
        rw [h2, List.append_nil]
        rfl
    · obtain ⟨p, r, hp⟩ : ∃ p r, splitL 42 l = p :: r := by
        cases h : splitL 42 l with
        | nil => exact absurd h hne
        | cons p r => exact ⟨p, r, rfl⟩
      have e : splitL 42 (x :: l) = (x :: p) :: r := by rw [splitL, if_neg hx, hp]
      have ep : ptT (psE x) = some (eC x) := by unfold psE; rw [if_neg hx]; rfl
      rw [hp] at h1 h2
      rw [e]
      constructor
      · show joinG (ptT (psE x) :: (l.map psE).map ptT) none = _
        rw [ep]
        show eC x ++ joinG ((l.map psE).map ptT) none = _
        rw [h1]
        cases r <;> simp [tpS, escL_cons]
      · intro acc
        show joinG (ptT (psE x) :: (l.map psE).map ptT) (some acc) = _
        rw [ep]
        show joinG ((l.map psE).map ptT) (some (acc ++ eC x)) = _
        rw [h2]
        simp [escL_cons]
noncomputable def pathE (l : List Nat) : List Nat := if l.contains 42 then tpG ((splitL 42 l).map (escL spc)) else (tpG ((splitL 42 l).map (escL spc))).drop 2
theorem pathE_eq (l : List Nat) : pathE l = joinG ((l.map psE).map ptT) none := by
  rw [(join_splitE l).1]
  unfold pathE
  by_cases h : 42 ∈ l
  · rw [if_pos (by simpa using h)]
    refine elEEE (splitL_two 42 l h) fun p q r e => ?_
    rw [e]; rfl
  · rw [if_neg (by simpa using h), splitL_one 42 l h]
    rfl
noncomputable def okT (t : List Nat) : Bool := match t with
  | [] => false
  | a :: r => a != 42 && a != 40 && a != 41 && (if a == 91 then (a :: r).idxOf? 93 == some r.length else if a == 92 then r.length == 1 else r.length == 0)
theorem okT_len {t : List Nat} (h : okT t = true) (rest : List Nat) : atomLen (t ++ rest) = t.length := by
  cases t with
  | nil => cases h
  | cons a r =>
    unfold okT at h
    rw [Bool.and_eq_true] at h
    have h := h.2
    have e0 : atomLen (a :: (r ++ rest)) = if a == 91 then (match (a :: (r ++ rest)).idxOf? 93 with | some j => j + 1 | none => 1) else if a == 92 then 2 else 1 := rfl
    show atomLen (a :: (r ++ rest)) = r.length + 1
    rw [e0]
    cases h1 : a == 91 with
    | true =>
      rw [h1] at h
      have h : (a :: r).idxOf? 93 = some r.length := by simpa using h
      have : (a :: (r ++ rest)).idxOf? 93 = some r.length := by
        rw [← List.cons_append]
        unfold List.idxOf? at h ⊢
        rw [List.findIdx?_append, h]; rfl
      rw [this]; rfl
    | false =>
      rw [h1] at h
      cases h2 : a == 92 with
      | true =>
        rw [h2] at h
        have h : r.length = 1 := by simpa using h
        rw [h]; rfl
      | false =>
        rw [h2] at h
        have h : r.length = 0 := by simpa using h
        rw [h]; rfl
theorem okT_atm {nm t g : List Nat} (h : okT t = true) (hr : ∀ c ∈ nm, readsP (tx t) (tx [c]) = g.contains c) (hg : g ≠ [42]) : Atm nm t g := by
  have hl := okT_len h
  cases t with
  | nil => cases h
  | cons a r =>
    unfold okT at h
    simp only [Bool.and_eq_true, bne_iff_ne] at h
    obtain ⟨⟨⟨h1, h2⟩, h3⟩, h4⟩ := h
    refine ⟨fun rest => ⟨fun e => h1 (Option.some.inj e), by intro e; cases e⟩, fun rest hrest => ⟨?_, ?_, ?_, hl rest⟩, hr, hg⟩
    · show ((a :: (r ++ rest).take 5 : List Nat) == _) = false
      simp [h2]
    · show (([a] : List Nat) == [41]) = false
      simp [h3]
    · show ((a :: (r ++ rest).take 1 : List Nat) == [46, 42]) = false
      by_cases h46 : a = 46
      · subst h46
        have : r = [] := List.length_eq_zero_iff.mp (by simpa using h4)
        subst this
        cases rest with
        | nil => rfl
        | cons z rest =>
          have hz : z ≠ 42 := fun e => hrest (congrArg some e)
          simp [hz]
      · simp [h46]
noncomputable def unIt (it : List Nat) : It := match it with
  | [42] => .star
  | [63] => .any
  | [c] => .lit c
  | [91, 33, c, 93] => .bar c
  | [91, c, 93] => .br c
  | _ => .any
noncomputable abbrev sgO (m : Nat) : List Nat := [97, 98, m]
noncomputable def itFact (m : Nat) (it : List Nat) : Bool := itP (unIt it) == it && itOk (unIt it) && gIt (sgO m) (unIt it) == gI (sgO m) it && (match pieceP (unIt it) with
  | none => it == [42]
  | some t => okT t && gIt (sgO m) (unIt it) != [42] && (sgO m).all fun c => readsP (tx t) (tx [c]) == (gIt (sgO m) (unIt it)).contains c)
theorem it_facts : ∀ m ∈ marksL, ∀ b, ∀ it ∈ itS m b, itFact m it = true := by decide +kernel
noncomputable def litFact (m x : Nat) : Bool := x < 128 && (if x = 42 then gI (sgO m) [x] == [42] else gI (sgO m) [x] == [x] && okT (eC x) && (sgO m).all fun c => readsP (tx (eC x)) (tx [c]) == [x].contains c)
theorem lit_facts : ∀ m ∈ marksL, ∀ it ∈ itS m true, ∃ x, it = [x] ∧ litFact m x = true := by
  intro m hm
  have key : ∀ m ∈ marksL, ∀ x ∈ [42, 97, 98, m], litFact m x = true := by decide +kernel
  intro it hit
  simp only [itS, List.mem_cons, List.not_mem_nil, or_false] at hit
  rcases hit with rfl | rfl | rfl | rfl
  · exact ⟨_, rfl, key m hm _ (by simp)⟩
  · exact ⟨_, rfl, key m hm _ (by simp)⟩
  · exact ⟨_, rfl, key m hm _ (by simp)⟩
  · exact ⟨_, rfl, key m hm _ (by simp)⟩
theorem shell_ok {m : Nat} (hm : m ∈ marksL) {b : Bool} {row : List (List Nat)} (hr : ∀ it ∈ row, it ∈ itS m b) {nm : List Nat} (hn : ∀ c ∈ nm, c ∈ sgO m) (hl : nm.length < 1000) :
    patP (row.map unIt) = row.flatten ∧ (∀ it ∈ row.map unIt, itOk it = true) ∧ ∃ n r, endsL nm n (joinG (partsP (row.map unIt)) none) [0] true = some r ∧ (nm.length ∈ r ↔ Mt (gR (sgO m) row) nm) := by
  have hf : ∀ it ∈ row, itP (unIt it) = it ∧ itOk (unIt it) = true ∧ gIt (sgO m) (unIt it) = gI (sgO m) it ∧ ∀ t, pieceP (unIt it) = some t → Atm nm t (gIt (sgO m) (unIt it)) := fun it hit => by
    have := it_facts m hm b it (hr it hit)
    unfold itFact at this
    simp only [Bool.and_eq_true, beq_iff_eq] at this
    refine ⟨this.1.1.1, this.1.1.2, this.1.2, fun t ht => ?_⟩
    have h := this.2
    rw [ht] at h
    simp only [Bool.and_eq_true, bne_iff_ne, List.all_eq_true, beq_iff_eq] at h
    exact okT_atm h.1.1 (fun c hc => h.2 c (hn c hc)) h.1.2
  refine ⟨?_, fun it hit => ?_, ?_⟩
  · clear hr hl
    induction row with
    | nil => rfl
    | cons it row ih =>
      have := ih fun z hz => hf z (.tail _ hz)
      show itP (unIt it) ++ patP (row.map unIt) = _
      rw [this, (hf it (.head _)).1, List.flatten_cons]
  · refine elEA (List.mem_map.mp hit) fun z hz e => ?_
    rw [← e]; exact (hf z hz).2.1
  · have := text_ok hl (partsA (sgO m) (row.map unIt)) fun a ha => by
      refine elEAA (parts_get (sgO m) _ a ha) fun it h1 h2 h3 => ?_
      refine elEA (List.mem_map.mp h1) fun z hz e => ?_
      rw [← e] at h2 h3
      rw [h3]
      exact (hf z hz).2.2.2 _ h2
    rw [parts_map] at this
    refine elEEA this fun n r h1 h2 => ?_
    refine ⟨n, r, h1, ?_⟩
    rw [h2, parts_Mt, List.map_map]
    rw [show row.map (gIt (sgO m) ∘ unIt) = gR (sgO m) row from List.map_congr_left fun it hit => (hf it hit).2.2.1]
theorem path_ok {m : Nat} (hm : m ∈ marksL) {row : List (List Nat)} (hr : ∀ it ∈ row, it ∈ itS m true) {nm : List Nat} (hn : ∀ c ∈ nm, c ∈ sgO m) (hl : nm.length < 1000) :
    (∀ c ∈ row.flatten, c < 128) ∧ ∃ n r, endsL nm n (pathE row.flatten) [0] true = some r ∧ (nm.length ∈ r ↔ Mt (gR (sgO m) row) nm) := by
  have hrow : row = row.flatten.map fun x => [x] := by
    clear hl
    induction row with
    | nil => rfl
    | cons it row ih =>
      obtain ⟨x, e, _⟩ := lit_facts m hm it (hr it (.head _))
      rw [List.flatten_cons, List.map_append, ← ih fun z hz => hr z (.tail _ hz), e]; rfl
  have hlit : ∀ x ∈ row.flatten, litFact m x = true := fun x hx => by
    obtain ⟨it, h1, h2⟩ := List.mem_flatten.mp hx
    obtain ⟨y, e, h3⟩ := lit_facts m hm it (hr it h1)
    rw [e] at h2
    rw [List.mem_singleton.mp h2]; exact h3
  have hg : gR (sgO m) row = row.flatten.map fun x => [x] := by
    conv => lhs; rw [hrow]
    rw [gR, List.map_map]
    apply List.map_congr_left
    intro x hx
    have := hlit x hx
    unfold litFact at this
    rw [Bool.and_eq_true] at this
    have h := this.2
    show gI (sgO m) [x] = [x]
    by_cases h42 : x = 42
    · rw [if_pos h42] at h; rw [h42] at h ⊢; exact eq_of_beq h
    · rw [if_neg h42] at h
      simp only [Bool.and_eq_true, beq_iff_eq] at h
      exact h.1.1
  refine ⟨fun c hc => ?_, ?_⟩
  · have := hlit c hc
    unfold litFact at this
    rw [Bool.and_eq_true] at this
    exact of_decide_eq_true this.1
  · have := text_ok hl (row.flatten.map psE) fun a ha => by
      refine elEA (List.mem_map.mp ha) fun x hx e => ?_
      have h := hlit x hx
      unfold litFact at h
      rw [Bool.and_eq_true] at h
      have h := h.2
      unfold psE at e
      by_cases h42 : x = 42
      · rw [if_pos h42] at e; cases e
      · rw [if_neg h42] at e h
        simp only [Bool.and_eq_true, List.all_eq_true, beq_iff_eq] at h
        cases e
        exact okT_atm h.1.2 (fun c hc => h.2 c (hn c hc)) (fun e => h42 (List.cons.inj e).1)
    rw [← pathE_eq, psE_G, ← hg] at this
    exact this
end
section
variable {S : Sys} {k : Nat}
theorem lamR2 (P : PO S) {cx : Cx} (h2 : cx.code = .ref 169) (h3 : cx.ql = Str.ofString "_law_record.<locals>.") (pos : Pos) : LamAt S cx qlf 169 165 pos :=
  ⟨h2, fun h kn => ⟨_, _, _, _, _, _, _, _, _, kn _ _ (P.at rfl), rfl, rfl, rfl, rfl, rfl, rfl, rfl, rfl, by decide⟩, by rw [P.T]; simp, P.tab, fun h kn => P.blt h kn _ (by rw [P.T]; simp), by decide, by rw [h3]; rfl, fun _ _ => rfl⟩
noncomputable def recG (nm : Str) (far : Int) : Str → Int := fun x => if x == nm then far else 0
set_option genInjectivity false in
structure Lam2At (K : Kn) (cl : Addr) (fd : FuncData) (c1 c2 : Addr) (nm : Str) (far : Int) : Prop where
  fn : ∃ oc od sl, K cl = some ⟨oc, od, .func fd, sl⟩
  body : ∃ p1 p2 p3 p4 p5 p6 n2, fd.body = .expr (.IfExp (.Compare (.Name "told" p1) [.Eq] [.Name "name" p2] p3) (.Name "far" p4) (.Constant (.int 0) n2 p5) p6)
  ok : lamOk fd ["told"] ["name", "far"] = true
  bind : ∀ vs : List Value, vs.length = 1 → bindArgs fd ⟨vs, []⟩ = pure ((["told"] : List Str).zip vs)
  v1 : isVar fd.scope "told" = true
  v2 : isVar fd.scope "name" = true
  v3 : isVar fd.scope "far" = true
  code : ∃ c' o' vs t, fd.code = .ref c' ∧ K c' = some o' ∧ o'.data = .fields vs ∧ vs[1]? = some (.str fd.qualname t)
  cl1 : fd.closure.lookup ("name" : Str) = some c1
  cl2 : fd.closure.lookup ("far" : Str) = some c2
  ce1 : ∃ o t, K c1 = some o ∧ o.data = .cell (some (.str nm t))
  ce2 : ∃ o t, K c2 = some o ∧ o.data = .cell (some (.int far t))
  nmok : PyData.strOk nm = true
noncomputable def Lam2 (K : Kn) (cl : Addr) (f : Str → Int) : Prop := ∃ fd c1 c2 nm far, Lam2At K cl fd c1 c2 nm far ∧ f = recG nm far
theorem Lam2_mono (K K' : Kn) (cl : Addr) (f : Str → Int) (h : K.le K') (l : Lam2 K cl f) : Lam2 K' cl f := by
  refine elEEEEEA l fun fd c1 c2 nm far a e => ?_
  subst e
  refine ⟨fd, c1, c2, nm, far, ⟨?_, a.body, a.ok, a.bind, a.v1, a.v2, a.v3, ?_, a.cl1, a.cl2, ?_, ?_, a.nmok⟩, rfl⟩
  · refine elEEE a.fn fun oc od sl e => ?_; exact ⟨oc, od, sl, h _ _ e⟩
  · refine elEEEEAA a.code fun c' o' vs t e1 e2 e3 => ?_; exact ⟨c', o', vs, t, e1, h _ _ e2, e3⟩
  · refine elEEA a.ce1 fun o t e1 e2 => ?_; exact ⟨o, t, h _ _ e1, e2⟩
  · refine elEEA a.ce2 fun o t e1 e2 => ?_; exact ⟨o, t, h _ _ e1, e2⟩
theorem lam2_ok (P : PO S) (K : Kn) (cl : Addr) (f : Str → Int) (l : Lam2 K cl f) : (∃ oc od fd sl, K cl = some ⟨oc, od, .func fd, sl⟩) ∧ ∀ x, CalK S (k + 1) K (.ref cl) [.str x] (.int (f x)) := by
  refine elEEEEEA l fun fd c1 c2 nm far a e => ?_
  subst e
  refine elEEE a.fn fun oc od sl hfn => ?_
  refine ⟨⟨oc, od, fd, sl, hfn⟩, fun x => ?_⟩
  intro A s vs Q E ro o r hq
  obtain ⟨p1, p2, p3, p4, p5, p6, n2, hb⟩ := a.body
  refine elEEEEAAA a.code fun c' o' cvs t e1 e2 e3 e4 => ?_
  refine callLam (k := k) (fn := ["name", "far"]) (ds := [.str x]) (frees := [("name", .str nm), ("far", .int far)]) hb a.ok rfl rfl a.bind ro o hfn ⟨c', o', cvs, t, e1, o.kn _ _ e2, e3, e4⟩ (fun y d hd => ?_) r ?_ hq
  · rw [List.lookup_cons] at hd
    split at hd
    · rename_i hy
      rw [eq_of_beq hy]
      (replace hd := Option.some.inj hd; subst hd)
      refine elEEA a.ce1 fun ob t g1 g2 => ?_
      exact ⟨c1, a.cl1, ob, _, g1, g2, .str _ a.nmok⟩
    · rw [List.lookup_cons] at hd
      split at hd
      · rename_i hy
        rw [eq_of_beq hy]
        (replace hd := Option.some.inj hd; subst hd)
        refine elEEA a.ce2 fun ob t g1 g2 => ?_
        exact ⟨c2, a.cl2, ob, _, g1, g2, .int _ _⟩
      · exact nsm hd
  · have ht : EvT S k (cxOf fd) (lamSto ["told"] [.str x] [("name", .str nm), ("far", .int far)]) (.Compare (.Name "told" p1) [.Eq] [.Name "name" p2] p3) (x == nm) :=
      EvT.cmp (EvS.name a.v1 rfl) (EvS.name a.v2 rfl) CmpS.eqStr (by with_unfolding_all rfl)
    unfold recG
    cases hc : x == nm with
    | true =>
      rw [hc] at ht
      exact EvS.ifexp_true ht (EvS.name a.v3 rfl)
    | false =>
      rw [hc] at ht
      exact EvS.ifexp_false ht EvS.cint
end
section
variable {S : Sys} {k : Nat} {cx : Cx} {σ : Sto}
theorem stepAttrG {A : Around} {env : Env} {B K₀ K : Kn} {s : Shared} {α : Str → Addr} {F : Frag} {C fI x dx : Addr} {names ns : List Str} {m : Str → Option Value} {W : Kn} {n y : Str} {p ap pos : Pos} {e : Expr} {Q : Flow → Shared → Prop} {E : Value → Shared → Prop}
    (c : ClsF S F C fI names) (f : FrA S cx env σ B K₀ s K α) (L : Led S C x dx m W s K) (hB : B dx = none) (hL : dx ≠ env.locals) (hy : isVar cx.sc y = true) (hσ : σ y = some (.val (.tok x))) (hι : S.ι x = x) (Pv : Value → Kn → Prop) (he : ∀ Q : Value → Shared → Prop, (∀ v s1 K1, Le S s s1 K K1 → Ok S K1 s1 → Pv v K1 → Q v s1) → wpAny (M S) A (eval e env) Q E s)
    (hn : n ∈ names) (hw : Within m ns) (hz : ns.length + 1 ≤ 1000) (hs : swapsWith e (some (.Attribute (.Name y p) n ap)) pos.line env = pure false)
    (h : ∀ v s' K', FrA S cx env σ B K₀ s' K' α → Led S C x dx (updM m n v) W s' K' → Pv v K' → K.le K' → s.toks ≤ s'.toks → Q .next s') : wpAny (M S) A (exec (.Assign [.Attribute (.Name y p) n ap] e pos) env) Q E s := by
  refine plainObj_wpAny_Assign_Attribute (he _ fun v s1 K1 l1 o1 r1 => ?_) hs
  have f1 := f.le l1 o1
  have L1 := L.le l1
  refine elAA (isVar_or hy) fun h1 h3 h4 => ?_
  refine wpAny_Name (loadEnt f1.fm h1 hσ (fun w ev => ?_) h3) h4
  have hw' := Rep.tok_inv ev
  rw [hι] at hw'
  subst hw'
  refine objStore c o1 L1 hn hw hz fun h' tk ht hs' L2 => ?_
  exact h v _ K1 (f1.updD L1.nd.ns hL L1.kd L1.td hB ht hs') L2 r1 l1.ext (Nat.le_trans l1.tok ht)
noncomputable def LamMade (env : Env) (K : Kn) (v : Value) (qual : Str) (params : Arguments) (body : Expr) (scope : Scope) (pm : Value) : Prop :=
  ∃ f cv ctv, v = .ref f ∧ K f = some { cls := .type "function", data := .func (lamFn qual params body scope (closL env scope.names []) pm cv ctv) } ∧ ∃ c' o' vs t, cv = .ref c' ∧ K c' = some o' ∧ o'.data = .fields vs ∧ vs[1]? = some (.str qual t)
theorem evalLam {A : Around} {env : Env} {s : Shared} {K : Kn} {E : Value → Shared → Prop} {params : Arguments} {body : Expr} {scope : Scope} {pos : Pos} {ql : Addr → Pos → Str} {c P : Addr} (o : Ok S K s) (fm : Fm S cx env σ s K) (L : LamAt S cx ql c P pos) (hdef : defaultsOf params env = ([], []))
    (hfree : ∀ n, (n, NameKind.free) ∈ scope.names → ∃ a, env.cells.lookup n = some a) (Q : Value → Shared → Prop) (h : ∀ v s1 K1, Le S s s1 K K1 → Ok S K1 s1 → LamMade env K1 v (ql P pos) params body scope ((S.mg "__name__").getD .none) → Q v s1) : wpAny (M S) A (eval (.Lambda params body scope pos) env) Q E s :=
  lamMake o fm L.code L.hd L.inT L.tab L.blt L.ne hdef L.q1 L.q2 hfree fun f s1 K1 cv ctv l1 o1 hK hcv => h _ s1 K1 l1 o1 ⟨f, cv, ctv, rfl, hK, hcv⟩
theorem noOwn_upd {x : Str} {d : D} (h : ∀ z zs, σ z ≠ some (.own zs)) (z : Str) (zs : List D) : σ.upd x (some (.val d)) z ≠ some (.own zs) := fun e => by
  unfold Sto.upd at e
  split at e
  · cases e
  · exact h z zs e
theorem noOwn_lsto {l : List (Str × Ent)} (h : (l.all fun p => match p.2 with | .val _ => true | _ => false) = true) (z : Str) (zs : List D) : lsto l z ≠ some (.own zs) := fun e => by
  have := List.all_eq_true.mp h _ (mem_of_lookup e)
  exact ft this
noncomputable def recSto (al : Bool) (nm T : List Nat) : Sto := lsto [("allow", .val (.bool al)), ("name", .val (sD nm)), ("text", .val (sD T))]
noncomputable def recSto2 (al : Bool) (nm : List Nat) (far : Int) : Sto := lsto [("allow", .val (.bool al)), ("name", .val (sD nm)), ("far", .val (.int far))]
theorem fn_record2 (P : PE S) (hR : S.ruleP = ruleStd 107 Lam2) (l T nm r : List Nat) (rb al : Bool) {n : Nat} (hpath : rb = true → (∀ c ∈ l, c < 128) ∧ T = pathE l) (hshell : rb = false → ∃ is : List It, patP is = l ∧ (∀ it ∈ is, itOk it = true) ∧ is.length ≤ 1000 ∧ T = joinG (partsP is) none)
    (hl : l.length ≤ 1000) (hT : T.length ≤ 2 ^ 20) (hends : endsL nm n T [0] true = some r) (hnm : nm.length ≤ 1000) :
    FnC S (k + 6) (.ref 170) [sD l, .bool rb, .bool al, sD nm] (.entry [.rule al (recG (tx nm) (if r.contains nm.length then (nm.length : Int) + 1 else 0))]) := by
  intro A s K vs R ro o rv h
  have P0 := P.toPO
  have e := entF P
  have c := e.g.cf
  refine enterFn (k := k + 5) (names := ["path", "robots", "allow", "name"]) (ds := [sD l, .bool rb, .bool al, sD nm]) (P.at rfl) rfl rfl (P.code) rfl (bl4 fun _ _ _ _ => rfl) ro o rv fun env s1 E hln hkeep f ro1 => ?_
  refine execsC (Ex1.ifB (c := rb) (fl := .next) (σ' := recSto al nm T) (EvT.val (EvS.name rfl rfl) TruS.bool (by intro _ _; rfl)) (fun hb => ?_) (fun hb => ?_) (A.deeper env) env _ _ s1 K _ E ro1 ⟨_, f⟩ fun f' s2 K2 f2 r2 => ?_)
  · refine elA (hpath hb) fun h7 hTe => ?_
    have htp := fn_tp (k := k) P0 l h7 hl
    have hcall : ∀ {cx : Cx} {σ : Sto} {p4 p5 p6 : Pos}, isVar cx.sc "path" = true → isGlob cx.sc "translate_pattern" = true → σ "path" = some (.val (sD l)) → EvS S (k + 5) cx σ (.Call (.Name "translate_pattern" p4) [.Name "path" p5] [] p6) (sD (tpG ((splitL 42 l).map (escL spc)))) := fun h1 h2 h3 => EvS.callFn h2 P0.gtp (P0.at rfl) (.cons (EvS.name h1 h3) .nil) htp.call rfl
    refine ExS.one (Ex1.weak (Ex1.assign (d := sD T) (EvS.to (d := .str (if l.contains 42 then tx (tpG ((splitL 42 l).map (escL spc))) else tx ((tpG ((splitL 42 l).map (escL spc))).drop 2))) (EvS.ifStr (EvT.cmp (d1 := sD [42]) EvS.cstr (EvS.name rfl rfl) CmpS.inTx (by with_unfolding_all rfl)) (fun _ => hcall rfl rfl rfl) fun hc => ?_) ?_) rfl rfl) (lsto_sub (allE_rfl rfl)))
    · refine EvS.to (EvS.slice (hcall rfl rfl rfl) (.some EvS.cint) .none .none (SlcS.str ?_)) (by rw [slice_k _ 2 (i := 2) rfl])
      rw [hTe] at hT
      unfold pathE at hT
      rw [hc] at hT
      have hT : ((tpG ((splitL 42 l).map (escL spc))).drop 2).length ≤ 2 ^ 20 := hT
      rw [List.length_drop] at hT
      rw [tx_len, sizeLine_eq]; lia
    · rw [hTe]
      unfold pathE
      cases l.contains 42 <;> rfl
  · refine elEAAA (hshell hb) fun is hpl hok hil hTe => ?_
    have htl : tlP is = [40, 63, 115, 58] ++ T ++ [41, 92, 90] := by rw [hTe]; rfl
    have htr := (fn_translate (k := k + 1) P0 is hok hil).call
    rw [hpl, htl] at htr
    refine elAA (shell_cut T) fun c1 c2 c3 => ?_
    have htll : (tx ([40, 63, 115, 58] ++ T ++ [41, 92, 90])).length ≤ sizeLine := by rw [tx_len, sizeLine_eq]; simp; lia
    generalize ([40, 63, 115, 58] ++ T ++ [41, 92, 90] : List Nat) = TL at c1 c2 c3 htll htr
    refine ExS.cons (Ex1.assign (d := sD TL) (EvS.callFn rfl P0.gtranslate (P0.at rfl) (.cons (EvS.name rfl rfl) .nil) htr rfl) rfl rfl) (ExS.one (Ex1.weak (Ex1.assign (d := sD T) (EvS.ifT (c := true) (EvT.to (EvT.cmp (d1 := sD ([40, 63, 115, 58] ++ [41, 92, 90])) (d2 := sD [40, 63, 115, 58, 41, 92, 90]) (EvS.bin (d1 := sD [40, 63, 115, 58]) (d2 := sD [41, 92, 90]) ?_ ?_ (BinS.addTx (by decide))) EvS.cstr CmpS.eqStr (by with_unfolding_all rfl)) rfl) rfl ?_) rfl rfl) (lsto_sub (allE_rfl rfl))))
    · exact EvS.to (EvS.slice (EvS.name rfl rfl) .none (.some EvS.cint) .none (SlcS.str htll)) (by rw [c1])
    · exact EvS.to (EvS.slice (EvS.name rfl rfl) (.some (EvS.neg EvS.cint)) .none .none (SlcS.str htll)) (by rw [c2])
    · exact EvS.to (EvS.slice (EvS.name rfl rfl) (.some EvS.cint) (.some (EvS.neg EvS.cint)) .none (SlcS.str htll)) (by rw [c3])
  have r2 : f' = .next := r2
  subst r2
  have hE := (fn_ends (k := k + 3) P0 T nm r hends hT hnm).call
  generalize hfar : (if r.contains nm.length then (nm.length : Int) + 1 else 0) = far
  refine execsC (Ex1.weak (σ₂ := recSto2 al nm far) (Ex1.assign (d := .int far) (EvS.to (EvS.ifInt (EvT.cmp (d1 := dN nm.length) (d2 := nsD r) ?_ (EvS.callFn rfl P0.gends (P0.at rfl) (.cons (EvS.name rfl rfl) (.cons (EvS.name rfl rfl) .nil)) hE rfl) CmpS.inNs (by with_unfolding_all rfl)) (fun _ => EvS.bin ?_ EvS.cint BinS.add) fun _ => EvS.cint) (congrArg D.int hfar)) rfl rfl) (lsto_sub (allE_rfl rfl)) (A.deeper env) env _ _ s2 K2 _ E ro1 f2 fun f' s3 K3 f3 r3 => ?_)
  · exact EvS.callBi rfl P0.len (.cons (EvS.name rfl rfl) .nil) (CalS.lenTx (Nat.le_trans hnm (by decide))) rfl
  · exact EvS.callBi rfl P0.len (.cons (EvS.name rfl rfl) .nil) (CalS.lenTx (Nat.le_trans hnm (by decide))) rfl
  have r3 : f' = .next := r3
  subst r3
  refine elE f3 fun α f3 => ?_
  have fresh : ∀ {cx9 : Cx} {s9 : Shared} {K9 : Kn} {σ9 : Sto} {α9 : Str → Addr}, FrA S cx9 env σ9 (fun b => s.heap.get? b) K s9 K9 α9 → ∀ a, s9.heap.get? a = none → s.heap.get? a = none := fun f9 a ha => by
    cases e9 : s.heap.get? a with
    | none => rfl
    | some ob =>
      by_cases hT : a ∈ S.T
      · obtain ⟨_, ps, e8, _⟩ := f9.ok.tabs a hT
        rw [ha] at e8; exact nsm e8
      · rw [f9.keep a ob e9 hT] at ha; exact snm ha
  refine execsC (stepNew (k := k + 2) e f3 rfl rfl ro1 fun x dx l4 ua nl nu s4 K4 x1 x2 x3 f4 L4 k4 hua t4 hdl => ?_)
  have hBx := fresh f3 x x1
  have hBd := fresh f3 dx x2
  have hce1 := f4.cells ("name" : Str) (by decide +kernel) rfl
  have hce2 := f4.cells ("far" : Str) (by decide +kernel) rfl
  refine execsC (stepAttrG c f4 L4 hBd hdl rfl rfl (P.ι x) (fun v K' => LamMade env K' v _ _ _ _ _) (fun Q => evalLam f4.ok f4.fmI (lamR2 P.toPO rfl rfl _) rfl (fun n hn => ?_) Q) (by decide +kernel) (ns := [sRR, sDE, sRL, sUA]) (within_updM (within_updM (within_updM (within_updM Within.nil)))) (by decide) rfl fun v5 s5 K5 f5 L5 r5 k5 t5 => ?_)
  · simp at hn
    rcases hn with rfl | rfl
    · (refine elEEA hce2 fun c _ h1 _ => ?_; try clear hce2); exact ⟨c, h1⟩
    · (refine elEEA hce1 fun c _ h1 _ => ?_; try clear hce1); exact ⟨c, h1⟩
  (refine elEEEAA r5 fun cl cv ctv e93 hcl hcode => ?_; try clear r5; subst e93)
  refine execsC (stepAttr (d := .bool al) c f5 L5 hBd hdl rfl rfl (P.ι x) (EvS.name rfl rfl) ro1 (by decide +kernel) (ns := [sAT, sRR, sDE, sRL, sUA]) (within_updM (within_updM (within_updM (within_updM (within_updM Within.nil))))) (by decide) rfl fun v6 s6 K6 f6 L6 r6 k6 t6 => ?_)
  rw [r6.bool_inv] at L6
  refine elEAAA (f6.doneObj L6 hBx hBd hdl) fun K7 f7 k7 hobj _ => ?_
  refine execsC (stepNew (k := k + 2) e f7 rfl rfl ro1 fun x' dx' l' ua' nl' nu' s8 K8 y1 y2 y3 f8 L8 k8 hua' t8 hdl' => ?_)
  have hW8 : (noKn.add l' (lst [] nl')) l' = some (lst [] nl') := Kn.add_self ..
  refine execsC (stepApp (d := .tok x) (ds := []) c f8 L8 hW8 (by kernel_rfl) (fresh f7 l' y3) rfl rfl (P.ι x') .nil (by decide) (noOwn_upd (noOwn_upd (noOwn_lsto rfl))) (EvS.name rfl rfl) ro1 rfl rfl fun v9 n9 s9 K9 f9 L9 r9 k9 t9 => ?_)
  rw [List.nil_append] at L9 r9
  refine execsC (wpAny_Return_some (EvS.name (d := .tok x') rfl rfl _ env s9 K9 _ E ro1 f9.ok f9.fmI fun vA sA KA lA oA rA => ?_))
  intro ht
  have hv := rA.tok_inv
  rw [P.ι] at hv
  subst hv
  refine .inl ⟨_, rfl, ?_⟩
  have fA := f9.le lA oA
  have LA := L9.le lA
  have hvx := r9.head.tok_inv
  rw [P.ι] at hvx
  subst hvx
  have leA : Le S s sA K KA := fA.leOf (s0 := s) (fun b ob e => e) ht
  have hWA : (fun a => if a = l' then some (lst [Value.ref x] n9) else (noKn.add l' (lst [] nl')) a) l' = some (lst [Value.ref x] n9) := if_pos rfl
  have hWl := (LA.loose l' _ hWA).1
  have hlx : l' ≠ x' := fun q => by
    rw [q, LA.ox] at hWl; cases hWl
  refine elEAAAAA (ledDone oA LA hWA hlx leA (fresh f7 x' y1) (fresh f7 dx' y2) (fresh f7 l' y3)) fun KB oB leB kB hoB klB ksame => ?_
  refine elEEAAA (fA.cells ("name" : Str) (by decide +kernel) rfl) fun c1 w1 hc1 hcell1 hB1 hK1 => ?_
  refine elEEAAA (fA.cells ("far" : Str) (by decide +kernel) rfl) fun c2 w2 hc2 hcell2 hB2 hK2 => ?_
  refine elEEAA (fA.fm.cel ("name" : Str) (.val (sD nm)) (.inl rfl) rfl) fun c1' u1 hc1' hcl1 rep1 => ?_
  refine elEEAA (fA.fm.cel ("far" : Str) (.val (.int far)) (.inl rfl) rfl) fun c2' u2 hc2' hcl2 rep2 => ?_
  have : c1' = c1 := Option.some.inj (hc1'.symm.trans hc1)
  subst this
  have : c2' = c2 := Option.some.inj (hc2'.symm.trans hc2)
  subst this
  have h12 : c2' ≠ c1' := fun q => by
    have := fA.apart ("far" : Str) ("name" : Str) c2' (by decide +kernel) (.inl rfl) rfl hc2 (q ▸ hc1)
    exact absurd this (by decide +kernel)
  (refine elEA hcl1 fun oc1 eo1 ed1 => ?_; try clear hcl1)
  (refine elEA hcl2 fun oc2 eo2 ed2 => ?_; try clear hcl2)
  have ncell : ∀ (c9 : Addr) (ob : Obj) (w : Value), sA.heap.get? c9 = some ob → ob.data = .cell (some w) → KB c9 = KA c9 ∧ c9 ∉ S.T := fun c9 ob w h9 hd9 => by
    refine ⟨ksame c9 (fun q => ?_) (fun q => ?_) (fun q => ?_), oA.notT' h9 fun vs q => by rw [hd9] at q; cases q⟩
    · rw [q, LA.ox] at h9; (replace h9 := Option.some.inj h9; subst h9); cases hd9
    · refine elEEEAA LA.nd fun od es ep g1 g2 _ => ?_
      rw [q, g1] at h9; (replace h9 := Option.some.inj h9; subst h9); rw [g2] at hd9; cases hd9
    · rw [q, hWl] at h9; (replace h9 := Option.some.inj h9; subst h9); cases hd9
  refine elA (ncell c1' oc1 u1 eo1 ed1) fun g1 t1' => ?_
  refine elA (ncell c2' oc2 u2 eo2 ed2) fun g2 t2' => ?_
  have hk1 : KB c1' = none := g1.trans hK1
  have oC := oB.freeze eo1 hk1 t1'
  have hk2 : (KB.add c1' oc1) c2' = none := by rw [Kn.add_ne h12]; exact g2.trans hK2
  have oD := oC.freeze eo2 hk2 t2'
  have up1 : KB.le (KB.add c1' oc1) := Kn.le_add hk1
  have up2 : (KB.add c1' oc1).le ((KB.add c1' oc1).add c2' oc2) := Kn.le_add hk2
  have upA : KA.le ((KB.add c1' oc1).add c2' oc2) := Kn.le_trans kB (Kn.le_trans up1 up2)
  have up7 : K7.le ((KB.add c1' oc1).add c2' oc2) := Kn.le_trans k8 (Kn.le_trans k9 (Kn.le_trans lA.ext upA))
  have up5 : K5.le ((KB.add c1' oc1).add c2' oc2) := Kn.le_trans k6 (Kn.le_trans k7 up7)
  (refine elEA (Rep.str_inv rep1) fun tn e91 hnok => ?_; subst e91)
  (refine elE (Rep.int_inv rep2) fun tt e91 => ?_; subst e91)
  refine h _ sA _ ⟨leB.keep, Kn.le_trans leB.ext (Kn.le_trans up1 up2), fun a ha => ?_, leB.tok⟩ oD (Rep.entry' (vs := [.ref x]) ?_ (.cons (.rule ?_) .nil))
  · rw [Kn.add_ne fun q => ha (by rw [q]; exact hB2), Kn.add_ne fun q => ha (by rw [q]; exact hB1)]
    exact leB.old a ha
  · rw [P.entP]
    exact ⟨x', _, ua', l', nu', n9, rfl, hoB.mono (Kn.le_trans up1 up2), by kernel_rfl, Kn.le_trans k9 (Kn.le_trans lA.ext upA) _ _ hua', by kernel_rfl, (Kn.le_trans up1 up2) _ _ klB, by kernel_rfl, by kernel_rfl, by kernel_rfl⟩
  · rw [hR, hfar]
    refine ⟨x, _, cl, rfl, hobj.mono up7, by kernel_rfl, by kernel_rfl, ?_⟩
    (refine elEEEEAAA hcode fun cc oo vv t9 q1 q2 q3 q4 => ?_; try clear hcode)
    have hfr : ∀ n, (n, NameKind.free) ∈ [((Str.ofString "told" : Str), NameKind.local), (Str.ofString "far", NameKind.free), (Str.ofString "name", NameKind.free)] → ∃ c, env.cells.lookup n = some c := fun n hn => by
      simp at hn
      rcases hn with rfl | rfl
      · exact ⟨_, hc2⟩
      · exact ⟨_, hc1⟩
    refine ⟨_, c1', c2', tx nm, far, ⟨⟨_, _, _, up5 _ _ hcl⟩, ⟨_, _, _, _, _, _, _, rfl⟩, rfl, bl1 fun _ => rfl, rfl, rfl, rfl, ⟨cc, oo, vv, t9, q1, up5 _ _ q2, q3, q4⟩, ?_, ?_, ⟨oc1, tn, up2 _ _ (Kn.add_self ..), ed1⟩, ⟨oc2, tt, Kn.add_self .., ed2⟩, hnok⟩, rfl⟩
    · exact (closL_lookup _ _ hfr (.inl (by simp))).trans hc1
    · exact (closL_lookup _ _ hfr (.inl (by simp))).trans hc2
end
section
variable {S : Sys} {k : Nat}
set_option genInjectivity false in
structure PR (S : Sys) : Prop extends PO S where
  iter : S.mg "iter" = some (.builtin "iter") ∨ (S.mg "iter" = none ∧ S.mb "iter" = some (.builtin "iter"))
  next : S.mg "next" = some (.builtin "next") ∨ (S.mg "next" = none ∧ S.mb "next" = some (.builtin "next"))
  miss : S.mg "_initial_missing" = some (.ref 126)
theorem PR.up {K : Kn} {hK : S.K0.le K} (P : PR S) : PR (S.up K hK) where
  kn := fun a o h hT => hK _ _ (P.kn a o h hT)
  T := P.T
  len := P.len
  max := P.max
  range := P.range
  ι := P.ι
  isinst := P.isinst
  str := P.str
  list := P.list
  map := P.map
  object := P.object
  gspecial := P.gspecial
  gescape := P.gescape
  g_translate := P.g_translate
  gjoinp := P.gjoinp
  gtranslate := P.gtranslate
  gre := P.gre
  gtp := P.gtp
  gEntry := P.gEntry
  gmerge := P.gmerge
  greduce := P.greduce
  gends := P.gends
  gitems := P.gitems
  grecord := P.grecord
  tab := P.tab
  blt := fun h kn => P.blt h fun a ob e => kn a ob (hK _ _ e)
  greads := P.greads
  iter := P.iter
  next := P.next
  miss := P.miss
noncomputable def redSt (f : Nat) (sq init : D) (I : Nat) (acc : D) : Sto := lsto [("function", .val (.tok f)), ("sequence", .val sq), ("initial", .val init), ("it", .val (.tok I)), ("value", .val acc)]
theorem bind3 (P : PO S) {A : Around} {s : Shared} {K : Kn} (o : Ok S K s) {fd : FuncData} {oc : Value} {od : Option Addr} {sl : Array (Option Value)} (hfd : (frag S.w.params).lookup 134 = some ⟨oc, od, .func fd, sl⟩) (a b c : Value) (Q : List (Str × Value) → Shared → Prop) (E : Value → Shared → Prop)
    (h : Q ((["function", "sequence", "initial"] : List Str).zip [a, b, c]) s) : wpAny (M S) A (bindArgs fd ⟨[a, b, c], []⟩) Q E s := by
  have e : (⟨oc, od, .func fd, sl⟩ : Obj) = _ := (Option.some.inj (hfd.symm.trans rfl))
  cases e
  have hl : s.heap.get? 127 = some { cls := .type "tuple", data := .seq #[.ref 126] } := K0_get o (P.at rfl)
  unfold bindArgs
  wp_walk using AutoSeq1.wpAny_loadPart' hl
  exact h
theorem stKeep {I : Addr} {fp : List Addr} {Pv : Nat → Value → Prop} {St : Nat → Heap → Prop} {ds : List D} {K K' : Kn} {s s' : Shared} {i : Nat} {A : Around} (hh : A.handled = none) (it : Itr S K I fp Pv St ds) (st : St i s.heap) (o : Ok S K s) (hI : ∀ o, s.heap.get? I = some o → s'.heap.get? I = some o) (o' : Ok S K' s') (hk : K.le K') : St i s'.heap := by
  refine (it.walks A hh).frame i _ _ st fun b hb ob e => ?_
  rcases it.fpK b hb with rfl | ⟨o9, h9⟩
  · exact hI ob e
  · have := o.kn _ _ h9
    rw [e] at this
    (replace this := Option.some.inj this; subst this)
    exact o'.kn _ _ (hk _ _ h9)
theorem Itr.mono {I : Addr} {fp : List Addr} {Pv : Nat → Value → Prop} {St : Nat → Heap → Prop} {ds : List D} {K K' : Kn} (it : Itr S K I fp Pv St ds) (h : K.le K') : Itr S K' I fp Pv St ds :=
  ⟨it.walks, fun b hb => (it.fpK b hb).imp id fun ⟨o, e⟩ => ⟨o, h _ _ e⟩, fun i v hi hp => let ⟨d, h1, h2⟩ := it.items i v hi hp; ⟨d, h1, h2.mono h⟩, it.alive⟩
theorem fn_reduce3 (P : PR S) (f : Nat) (hf : ∃ oc od fd sl, S.K0 f = some ⟨oc, od, .func fd, sl⟩) (sq : D) (ds : List D) (accs : Nat → D) (hi : IterS S sq ds) (hne : CmpS S k .Is (accs 0) (.tok 126) false) (hstep : ∀ i e, ds[i]? = some e → CalS S k (.ref f) [accs i, e] (accs (i + 1))) :
    FnC S (k + 1) (.ref 134) [.tok f, sq, accs 0] (accs ds.length) := by
  intro A s K vs R ro o r h
  refine elEEEE hf fun oc od fd sl hf => ?_
  refine enterFnW (k := k) (names := ["function", "sequence", "initial"]) (ds := [.tok f, sq, accs 0]) (vs := vs) (P.at rfl) rfl rfl (P.code) rfl ro o r (fun Q E hQ => ?_) fun env s1 E hln hkeep fr ro1 => ?_
  · (refine elEEEA (three_inv r) fun a b c e93 _ => ?_; subst e93)
    exact bind3 P.toPO o rfl a b c Q E hQ
  have fresh : ∀ a, s1.heap.get? a = none → s.heap.get? a = none := fun a ha => by
    cases e9 : s.heap.get? a with
    | none => rfl
    | some ob => rw [hkeep a ob e9] at ha; exact snm ha
  refine execsC (wpAny_Assign_Name (wpAny_Call_ofName (evalGlob fr.ok fr.fmI rfl P.iter ?_)) (swaps_no rfl _ _ _))
  refine PyProof.Rows.callWith_builtin1 (rest := []) ?_ (starEach_plain rfl _ _) rfl
  refine EvL.cons (d := sq) (EvS.name rfl rfl) .nil rfl _ env _ s1 K _ _ ro1 fr.ok fr.fmI fun us s2 K2 l2 o2 r2 => ?_
  (refine elEA (one_inv r2) fun u e91 ru => ?_; subst e91)
  refine callIter hi ro1.1 o2 ru fun ob fp Pv St it st => ?_
  have hg := get_size s2.heap
  generalize hI : s2.heap.objs.size = I at hg it
  have hI1 : s1.heap.get? I = none := by
    cases e9 : s1.heap.get? I with
    | none => rfl
    | some x => rw [l2.keep _ _ (o2.notT hg) e9] at hg; exact snm hg
  have hk3 : ∀ b x, s2.heap.get? b = some x → (s2.heap.push ob).get? b = some x := fun b x e => Heap.get?_push_of_some _ e
  have o3 : Ok S K2 { s2 with heap := s2.heap.push ob } := o2.grow (tk := s2.toks) hk3
  have f3 := fr.le (Le.trans fr.ok o2 l2 (Le.grow (tk := s2.toks) hk3)) o3
  have hIl : I ≠ env.locals := fun q => fr.locS (q ▸ hI1)
  have hrI : Rep S K2 (.ref I) (.tok I) := by
    have := Rep.tok (S := S) (K := K2) I
    rwa [P.ι] at this
  refine storeLocS f3 rfl hrI fun h4 hs4 f4 => ?_
  have st4 : St 0 h4 := stKeep (s := { s2 with heap := s2.heap.push ob }) (s' := { s2 with heap := h4, toks := s2.toks + 1 }) ro.1 it st o3 (fun o e => (hs4.2 _ hIl).trans e) f4.ok (Kn.le_refl _)
  have hKI : K2 I = none := o2.noneK hg
  have hTI : I ∉ S.T := o2.notT hg
  refine execsC (wpAny_If (EvT.cmp (d1 := accs 0) (d2 := .tok 126) (EvS.name rfl rfl) (EvS.globTok rfl P.miss (P.ι _)) hne (by with_unfolding_all rfl) _ env _ K2 _ _ ro1 f4.ok f4.fmI fun s5 K5 l5 o5 => ?_))
  have f5 := f4.le l5 o5
  have st5 : St 0 s5.heap := stKeep (s := { s2 with heap := h4, toks := s2.toks + 1 }) ro.1 it st4 f4.ok (fun o e => l5.keep _ _ hTI e) o5 l5.ext
  refine execsC (wpAny_Assign_Name (EvS.name (d := accs 0) rfl rfl _ env _ K5 _ _ ro1 f5.ok f5.fmI fun v6 s6 K6 l6 o6 r6 => ?_) (swaps_no rfl _ _ _))
  have f6 := f5.le l6 o6
  have st6 : St 0 s6.heap := stKeep (s := s5) ro.1 (it.mono l5.ext) st5 f5.ok (fun o e => l6.keep _ _ hTI e) o6 l6.ext
  refine storeLocS f6 rfl r6 fun h7 hs7 f7 => ?_
  have st7 : St 0 h7 := stKeep (s := s6) (s' := { s6 with heap := h7, toks := s6.toks + 1 }) ro.1 (it.mono (Kn.le_trans l5.ext l6.ext)) st6 o6 (fun o e => (hs7.2 _ hIl).trans e) f7.ok (Kn.le_refl _)
  refine wpAny_execs_nil ?_
  have hK6 : K6 I = none := by
    have e5 : K5 I = none := (l5.old I (by refine elEEEA (it.alive _ _ st4) fun o9 _ _ e9 _ => ?_; rw [e9]; simp)).trans hKI
    exact (l6.old I (by refine elEEEA (it.alive _ _ st5) fun o9 _ _ e9 _ => ?_; rw [e9]; simp)).trans e5
  refine forOn (fun i => redSt f sq (accs 0) I (accs i)) (P := fun fl σ' => fl = .ret (accs ds.length)) ro1 ⟨_, f7⟩ (P.ι I) rfl rfl (it.mono (Kn.le_trans l5.ext l6.ext)) st7 hK6 (fresh I hI1) hTI (Nat.zero_le _) (lsto_sub ?_) (fun i e _ he => ⟨_, BindS.name rfl, ?_⟩) ?_ fun f' fl σ' s' K' hP fI hfl => ?_
  · skip
    exact allE_rfl rfl
  · dsimp only [redSt]
    refine ExP.next (Ex1.assign (d := accs (i + 1)) (EvS.callTok (ds := [accs i, e]) rfl rfl (P.ι f) hf (.cons (EvS.name rfl rfl) (.cons (EvS.name rfl rfl) .nil)) (hstep i e he)) rfl rfl) ?_
    refine ExP.nil (lsto_sub ?_)
    skip
    exact allE_rfl rfl
  · dsimp only [redSt]
    exact ExP.ret (EvS.name rfl rfl) rfl
  · subst hP
    (refine elEA hfl fun v e91 rv => ?_; try clear hfl; subst e91)
    refine elE fI fun α fI => ?_
    exact fun ht => .inl ⟨v, rfl, h v s' K' (fI.leOf (s0 := s) (fun b ob e => e) ht) fI.ok rv⟩
end
section
variable {S : Sys} {k : Nat} {cx : Cx} {σ : Sto}
theorem lamL (P : PO S) {cx : Cx} (h2 : cx.code = .ref 174) (h3 : cx.ql = Str.ofString "law.<locals>.") (pos : Pos) : LamAt S cx qlf 174 172 pos :=
  ⟨h2, fun h kn => ⟨_, _, _, _, _, _, _, _, _, kn _ _ (P.at rfl), rfl, rfl, rfl, rfl, rfl, rfl, rfl, rfl, by decide⟩, by rw [P.T]; simp, P.tab, fun h kn => P.blt h kn _ (by rw [P.T]; simp), by decide, by rw [h3]; rfl, fun _ _ => rfl⟩
theorem ev_redlam0 (R : PR S) {params : Arguments} {body : Expr} {scope : Scope} {lp rp pos : Pos} {e2 e3 : Expr} {c : Addr} {names : List Str} {sq : D} {ds : List D} {accs : Nat → List D}
    (hx : isGlob cx.sc "reduce" = true) (L : LamAt S cx qlf c 172 lp) (hdef : ∀ env : Env, defaultsOf params env = ([], [])) (hfree : ∀ n, (n, NameKind.free) ∉ scope.names)
    (hok : ∀ cl pm cdv ct, lamOk (lamFn (qlf 172 lp) params body scope cl pm cdv ct) names [] = true)
    (hbind : ∀ cl pm cdv ct (vs : List Value), vs.length = names.length → bindArgs (lamFn (qlf 172 lp) params body scope cl pm cdv ct) ⟨vs, []⟩ = pure (names.zip vs)) (hn : names.length = 2)
    (h2 : EvS S (k + 2) cx σ e2 sq) (h3 : EvS S (k + 2) cx σ e3 (.list (accs 0))) (hi : ∀ S' : Sys, IterS S' sq ds) (hp2 : Plain e2 = true) (hp3 : Plain e3 = true)
    (hev : ∀ cl pm cdv ct i e, ds[i]? = some e → EvS S k (cxOf (lamFn (qlf 172 lp) params body scope cl pm cdv ct)) (lamSto names [.list (accs i), e] []) body (.list (accs (i + 1)))) :
    EvS S (k + 2) cx σ (.Call (.Name "reduce" rp) [.Lambda params body scope lp, e2, e3] [] pos) (.list (accs ds.length)) := by
  intro A env s K Q E ro o fm hq
  have P0 := R.toPO
  refine wpAny_Call_ofName (evalGlob o fm hx (.inl P0.greduce) ?_)
  refine callWith_F ⟨_, _, _, _, K0_get o (P0.at rfl)⟩ (wpAny_items_cons (evalLam o fm L (hdef env) (fun n h => absurd h (hfree n)) _ fun vf s1 K1 l1 o1 hm => ?_) (starEach_plain rfl _ _)) (starEach_plain rfl _ _) (noStars (es := [e2, e3]) (by simp [allPlain, hp2, hp3]))
  refine wpAny_items_cons (h2 A env s1 K1 _ E ro o1 (fm.le o l1) fun v2 s2 K2 l2 o2 r2 => ?_) (starEach_plain hp2 _ _)
  have l12 := Le.trans o o1 l1 l2
  refine wpAny_items_cons (h3 A env s2 K2 _ E ro o2 (fm.le o l12) fun v3 s3 K3 l3 o3 r3 => ?_) (starEach_plain hp3 _ _)
  have l13 := Le.trans o o2 l12 l3
  refine wpAny_items_nil ⟨⟨_, _, _, _, K0_get o3 (P0.at rfl)⟩, ?_⟩
  (refine elEEEAA hm fun f cv ctv e93 hKf hcode => ?_; subst e93)
  (refine elEEEEAAA hcode fun c' o' cvs t9 e94 hK' hd' hq9 => ?_; subst e94)
  have hKf3 := l3.ext _ _ (l2.ext _ _ hKf)
  have hKc3 := l3.ext _ _ (l2.ext _ _ hK')
  have R' : PR (S.up K3 o3.base) := R.up
  have hstep : ∀ i e, ds[i]? = some e → CalS (S.up K3 o3.base) (k + 1) (.ref f) [.list (accs i), e] (.list (accs (i + 1))) := fun i e he => by
    refine CalS.ofK fun K' hK' => ?_
    intro A s vs Q E ro o r hq
    exact callLam (fn := []) (names := names) (ds := [.list (accs i), e]) (frees := []) rfl (hok _ _ _ _) rfl hn (hbind _ _ _ _) ro o (hK' _ _ hKf3) ⟨c', o', cvs, t9, rfl, o.kn _ _ (hK' _ _ hKc3), hd', hq9⟩ (fun x d hd => by cases hd) r (hev _ _ _ _ i e he) hq
  have hne : CmpS (S.up K3 o3.base) (k + 1) .Is (.list (accs 0)) (.tok 126) false := CmpS.isListTok (P0.ι _) (o3.base _ _ (P0.at rfl)) (fun vs m => by simp [lst])
  have hft : Rep (S.up K3 o3.base) K3 (.ref f) (.tok f) := by
    have := Rep.tok (S := S.up K3 o3.base) (K := K3) f
    rwa [show (S.up K3 o3.base).ι f = f from P0.ι f] at this
  refine (fn_reduce3 R' f ⟨_, _, _, _, hKf3⟩ sq ds (fun i => .list (accs i)) (hi _) hne hstep).call A s3 _ _ Q E ro (o3.up (Kn.le_refl _)) (.cons hft (.cons (r2.mono l3.ext).up (.cons r3.up .nil))) fun v s4 K4 l4 o4' r4 => ?_
  exact hq v s4 K4 (Le.trans o o3 l13 l4.down) o4'.down r4.down
end
section
variable {S : Sys} {k : Nat}
noncomputable abbrev formsD (forms : Forms) : D := .list (forms.map rowD)
noncomputable def itsSt (signs : List Nat) (forms : Forms) (name : List Nat) (x : Int) (i : Nat) : Sto :=
  lsto [("signs", .val (sD signs)), ("forms", .val (formsD forms)), ("items", .val (rowD (itemsG signs forms x (name.take i)))), ("x", .val (.int (shiftG forms.length x i)))]
theorem fn_items2 (P : PO S) (m : Nat) (hm : m ∈ marksL) (name : List Nat) (x : Int) (forms : Forms) (hw : ∀ c ∈ name, c ∈ [97, 98, m]) (hl : name.length ≤ 10) (hf0 : 0 < forms.length) (hfl : forms.length ≤ 10) (hf : ∀ f ∈ forms, f.length ≤ 2 ∧ ∀ it ∈ f, it ∈ itL6) :
    FnC S (k + 4) (.ref 139) [sD name, sD [97, 98, m], .int x, formsD forms] (rowD (itemsG [97, 98, m] forms x name)) := by
  refine FnC.defP (names := ["name", "signs", "x", "forms"]) (P.at rfl) rfl rfl (P.code) rfl (bl4 fun _ _ _ _ => rfl) ?_
  conv in (occs := *) (fB _) => whnf
  conv in (occs := *) (fS _) => whnf
  dsimp only [fnCx, List.map_cons, List.map_nil]
  refine ExP.tick (EvS.list .nil) rfl rfl rfl ?_
  refine ExP.forStr (x := tx name) (itsSt [97, 98, m] forms name x) (EvS.name rfl rfl) ?_ (Nat.le_refl _) (lsto_sub ?_) (fun i c n hc hn => ?_) ?_
  · show (name.toArray).all _ = true
    rw [Array.all_eq_true_iff_forall_mem]
    intro c hc
    exact decide_eq_true (sig_facts m hm c (hw c (by simpa using hc))).2.2.1
  · exact allE_rfl rfl
  · have hc' : name[i]? = some c := by simpa [tx] using hc
    have hcm := hw c (List.mem_of_getElem? hc')
    have hil : i < name.length := (List.getElem?_eq_some_iff.mp hc').1
    have hsf := sig_facts m hm c hcm
    refine ⟨_, BindS.name rfl, ?_⟩
    dsimp only [itsSt]
    have hix : (([97, 98, m].idxOf c : Nat) : Int) + 1 = (([97, 98, m].idxOf c + 1 : Nat) : Int) := rfl
    refine ExP.assignItemT (y := tx ([97, 98, m] ++ [97])) (i := (([97, 98, m].idxOf c + 1 : Nat) : Int)) (EvS.bin (EvS.name rfl rfl) EvS.cstr (BinS.addTx (a := [97, 98, m]) (b := [97]) (show 3 + 1 ≤ 2 ^ 24 by decide))) ?_ ?_ ?_ ?_ rfl (Nat.le_add_left 1 n) fun n2 hn2 => ?_
    · refine EvS.to (EvS.bin (EvS.meth methFind (d0 := sD [97, 98, m]) (ds := [sD [c]]) (EvS.name rfl rfl) rfl (.cons (EvS.untag (EvS.name rfl rfl)) .nil) CalS.find) EvS.cint BinS.add) (congrArg D.int ?_)
      rw [hsf.1]; exact hix
    · have := hsf.2.1
      unfold fitsSsize; simp; lia
    · exact Int.le_trans (Int.neg_nonpos_of_nonneg (Int.natCast_nonneg _)) (Int.natCast_nonneg _)
    · rw [tx_len]
      exact Int.ofNat_lt.mpr (Nat.succ_lt_succ hsf.2.1)
    have hit : Txt.item (tx ([97, 98, m] ++ [97])) (([97, 98, m].idxOf c + 1 : Nat) : Int) = tx [othF [97, 98, m] c] := item_txd _ _ (Nat.succ_lt_succ hsf.2.1)
    rw [hit]
    refine elA (fmod_lt (x := shiftG forms.length x i) hf0) fun e1 e2 => ?_
    have hff := hf _ (List.mem_of_getElem? (getD_get (d := []) e2))
    have hsn := itemsG_snoc [97, 98, m] forms (name.take i) x c
    have htk : (name.take i).length = i := by rw [List.length_take]; lia
    rw [htk] at hsn
    have htake : name.take (i + 1) = name.take i ++ [c] := by rw [List.take_add_one, hc']; rfl
    have hl9 := itemsG_len [97, 98, m] forms hf0 (fun f h => (hf f h).1) (name.take i) x
    rw [htk] at hl9
    have hget : (forms.map rowD)[((shiftG forms.length x i).fmod forms.length).toNat]? = some (rowD (forms.getD ((shiftG forms.length x i).fmod forms.length).toNat [])) := by rw [List.getElem?_map, getD_get (d := []) e2]; rfl
    generalize forms.getD ((shiftG forms.length x i).fmod forms.length).toNat [] = F at hff hsn hget
    refine ExP.next (Ex1.assign (d := rowD (itemsG [97, 98, m] forms x (name.take (i + 1)))) ?_ rfl rfl) ?_
    · refine EvS.to (EvS.bin (d2 := rowD (F.map (repL c (othF [97, 98, m] c)))) (EvS.name rfl rfl) (EvS.to (EvS.listComp (out := F.map fun it => sD (repL c (othF [97, 98, m] c) it)) (ds := F.map sD) rfl (di := rowD F) ?_ IterS.list ?_ ?_) (by unfold rowD; rw [List.map_map]; rfl)) (BinS.addList ?_)) ?_
      · exact EvS.index (EvS.name rfl rfl) (EvS.to (EvS.bin (EvS.name rfl rfl) (EvS.callBi rfl P.len (.cons (EvS.name rfl rfl) .nil) (CalS.lenList (by rw [List.length_map, sizeLine_eq]; exact Nat.le_trans hfl (by decide))) rfl) (BinS.mod (by rw [List.length_map]; lia))) (by rw [List.length_map]; exact congrArg D.int e1)) (IdxS.nat hget (by rw [List.length_map]; exact Nat.le_trans hfl (by decide))) (by intro _ _; rfl)
      · refine TurnsR.map1 sD _ F fun it hit9 => turn1 rfl rfl rfl (.inr ⟨.nil, genOne ?_⟩)
        have hr := rep_facts m hm c hcm it (hff.2 it hit9)
        refine EvS.to (EvS.replLT (y := tx [121]) (z := tx [othF [97, 98, m] c]) (t := n2) (EvS.replLT (x := tx it) (y := tx [120]) (z := tx [c]) (t := n) (EvS.name rfl rfl) rfl rfl (Nat.le_succ_of_le hn2) hsf.2.2.2.1 hr.1 ?_ (by intro _; rfl) rfl) rfl rfl (Nat.lt_succ_self n2) hsf.2.2.2.2 (by rw [hr.2.2.2]; exact hr.2.2.1) ?_ (by intro _; rfl) rfl) (congrArg D.str hr.2.2.2)
        · have : it.length ≤ 4 := by
            have := hff.2 it hit9
            simp only [itL6, List.mem_cons, List.not_mem_nil, or_false] at this
            rcases this with rfl | rfl | rfl | rfl | rfl | rfl <;> decide
          rw [tx_len]
          show it.length + (it.length + 1) * 1 ≤ 16777216
          lia
        · have h4 := hr.2.1
          show _ + (_ + 1) * 1 ≤ 16777216
          lia
      · rw [List.length_map, sizeLine_eq]; exact Nat.le_trans hff.1 (by decide)
      · have := hff.1
        rw [List.length_map, List.length_map, List.length_map, sizeLine_eq]; lia
      · unfold rowD
        rw [htake, hsn, List.map_append]
    refine ExP.next (Ex1.assign (d := .int (shiftG forms.length x (i + 1))) (EvS.to (EvS.bin (EvS.name rfl rfl) (EvS.callBi rfl P.len (.cons (EvS.name rfl rfl) .nil) (CalS.lenList (by rw [List.length_map, sizeLine_eq]; exact Nat.le_trans hfl (by decide))) rfl) (BinS.floordiv (by rw [List.length_map]; lia) (by rw [List.length_map]; lia))) (by rw [List.length_map]; rfl)) rfl rfl) (ExP.nil ?_)
    exact lsto_sub (allE_rfl rfl)
  · rw [tx_len]
    dsimp only [itsSt]
    refine ExP.ret (EvS.name rfl rfl) ?_
    rw [List.take_length]
end
section
theorem s42 : ∀ m ∈ marksL, 42 ∉ sgO m := by decide
theorem item_small : ∀ m ∈ marksL, ∀ b, ∀ it ∈ itS m b, it.length ≤ 4 ∧ (it.take 2 = [91, 33] → 2 < it.length) := by decide
theorem flat_small {m : Nat} (hm : m ∈ marksL) {b : Bool} : ∀ {row : List (List Nat)}, (∀ it ∈ row, it ∈ itS m b) → row.flatten.length ≤ 4 * row.length
  | [], _ => Nat.le_refl _
  | it :: row, h => by
    have h1 := (item_small m hm b it (h it (.head _))).1
    have h2 := flat_small hm fun z hz => h z (.tail _ hz)
    rw [List.flatten_cons, List.length_append, List.length_cons]
    lia
theorem RuOk.good {m : Nat} (hm : m ∈ marksL) {r : Rl} (h : RuOk m r) : rowGood r.1 :=
  ⟨h.1, fun it hit => ⟨Nat.le_trans (item_small m hm _ it (h.2 it hit)).1 (by decide), (item_small m hm _ it (h.2 it hit)).2⟩⟩
theorem eC_len (x : Nat) : (eC x).length ≤ 5 := by unfold eC; split <;> simp
theorem piece_len : ∀ m ∈ marksL, ∀ b, ∀ it ∈ itS m b, ∀ s, pieceP (unIt it) = some s → s.length ≤ 5 := by
  intro m hm b it hit s hs
  have key : ∀ m ∈ marksL, ∀ b, ∀ it ∈ itS m b, ((pieceP (unIt it)).getD []).length ≤ 5 := by decide +kernel
  have := key m hm b it hit
  rwa [hs] at this
theorem rec_facts {m : Nat} (hm : m ∈ marksL) {r : Rl} (h : RuOk m r) {nm : List Nat} (hn : ∀ c ∈ nm, c ∈ sgO m) (hl : nm.length ≤ 4) :
    ∃ n T rr, (r.2 = true → (∀ c ∈ r.1.flatten, c < 128) ∧ T = pathE r.1.flatten) ∧ (r.2 = false → ∃ is : List It, patP is = r.1.flatten ∧ (∀ it ∈ is, itOk it = true) ∧ is.length ≤ 1000 ∧ T = joinG (partsP is) none) ∧ r.1.flatten.length ≤ 1000 ∧ T.length ≤ 2 ^ 20 ∧
      endsL nm n T [0] true = some rr ∧ rr.contains nm.length = tkD (sgO m) nm r := by
  have hfl := flat_small hm h.2
  have h8 := h.1
  have hlt : nm.length < 1000 := Nat.lt_of_le_of_lt hl (by decide)
  have hiff : ∀ rr : List Nat, (nm.length ∈ rr ↔ Mt (gR (sgO m) r.1) nm) → rr.contains nm.length = tkD (sgO m) nm r := fun rr h => by
    rw [Bool.eq_iff_iff, List.contains_iff_mem, h, tkD_iff]
  cases hb : r.2 with
  | true =>
    have hr := h.2
    rw [hb] at hr
    obtain ⟨h7, n, rr, h1, h2⟩ := path_ok hm hr hn hlt
    refine ⟨n, pathE r.1.flatten, rr, fun _ => ⟨h7, rfl⟩, (fun e => by cases e), by lia, ?_, h1, hiff rr h2⟩
    have := joinG_len9 ((r.1.flatten.map psE).map ptT) none fun s hs => by
      refine elEA (List.mem_map.mp hs) fun a ha e => ?_
      refine elEA (List.mem_map.mp ha) fun x _ ex => ?_
      rw [← ex] at e
      unfold psE at e
      split at e
      · cases e
      · rw [← Option.some.inj e]; exact eC_len x
    rw [← pathE_eq] at this
    simp only [List.length_map, Option.getD_none, List.length_nil] at this
    refine Nat.le_trans this ?_
    lia
  | false =>
    obtain ⟨h7, h9, n, rr, h1, h2⟩ := shell_ok hm h.2 hn hlt
    refine ⟨n, _, rr, (fun e => by cases e), fun _ => ⟨_, h7, h9, by rw [List.length_map]; exact Nat.le_trans h8 (by decide), rfl⟩, by lia, ?_, h1, hiff rr h2⟩
    have := joinG_len9 (partsP (r.1.map unIt)) none fun s hs => by
      have key : ∀ (is : List It) (acc : List (Option (List Nat))) (p), p ∈ is.foldl addP acc → p ∈ acc ∨ ∃ it ∈ is, p = pieceP it := by
        intro is
        induction is with
        | nil => intro acc p h; exact .inl h
        | cons i is ih =>
          intro acc p h
          rcases ih _ p h with h | ⟨it, hi, e⟩
          · have : p ∈ acc ∨ p = pieceP i := by
              cases i with
              | star =>
                rw [show addP acc .star = if acc.getLast? = some none then acc else acc ++ [none] from rfl] at h
                split at h
                · exact .inl h
                · rcases List.mem_append.mp h with h | h
                  · exact .inl h
                  · exact .inr (List.mem_singleton.mp h)
              | _ =>
                unfold addP at h
                rcases List.mem_append.mp h with h | h
                · exact .inl h
                · exact .inr (by simpa using h)
            rcases this with h | h
            · exact .inl h
            · exact .inr ⟨i, .head _, h⟩
          · exact .inr ⟨it, .tail _ hi, e⟩
      rcases key _ [] _ hs with h | ⟨it, hit, e⟩
      · cases h
      · refine elEA (List.mem_map.mp hit) fun z hz ez => ?_
        rw [← ez] at e
        exact piece_len m hm _ z (h.2 z hz) s e.symm
    have hp := partsP_len (r.1.map unIt)
    rw [List.length_map] at hp
    simp only [Option.getD_none, List.length_nil] at this
    refine Nat.le_trans this ?_
    lia
noncomputable def digF (number a : Int) (b q : Nat) : Nat := (((number + a).fdiv ((b : Int) ^ q)).fmod b).toNat
theorem digF_lt {number a : Int} {b q : Nat} (hb : 0 < b) : digF number a b q < b ∧ ((number + a).fdiv ((b : Int) ^ q)).fmod b = ((digF number a b q : Nat) : Int) := by
  refine elA (fmod_lt (x := (number + a).fdiv ((b : Int) ^ q)) hb) fun h1 h2 => ?_
  exact ⟨h2, h1⟩
noncomputable def mF (number : Int) : Nat := marksL.getD (number.fmod 14).toNat 0
theorem mF_mem (number : Int) : mF number ∈ marksL := List.mem_of_getElem? (getD_get (d := 0) (fmod_lt (x := number) (n := 14) (by decide)).2)
noncomputable def nameF (number : Int) : List Nat := (List.range 4).map fun q => (sgO (mF number)).getD (digF number 21 3 q) 0
noncomputable def sidesF (number : Int) : List Nat := (List.range 4).map fun q => digF number 6 2 q
theorem nameF_mem (number : Int) : ∀ c ∈ nameF number, c ∈ sgO (mF number) := fun c hc => by
  refine elEA (List.mem_map.mp hc) fun q _ e => ?_
  rw [← e]
  exact List.mem_of_getElem? (getD_get (d := 0) (digF_lt (by decide)).1)
theorem nameF_len (number : Int) : (nameF number).length = 4 := by unfold nameF; rw [List.length_map]; rfl
theorem sidesF_len (number : Int) : (sidesF number).length = 4 := by unfold sidesF; rw [List.length_map]; rfl
theorem sidesF_lt (number : Int) : ∀ d ∈ sidesF number, d < 2 := fun d hd => by
  refine elEA (List.mem_map.mp hd) fun q _ e => ?_
  rw [← e]
  exact (digF_lt (by decide)).1
noncomputable def formsP : Forms := [[[120]], [[42]], [[42], [120]], [[120], [42]], [[121]]]
noncomputable def formsS : Forms := [[[120]], [[42]], [[63]], [[91, 33, 121, 93]], [[42], [91, 120, 93]], [[121]]]
theorem rep_in : ∀ m ∈ marksL, ∀ s ∈ sgO m, (∀ f ∈ formsP, ∀ it ∈ f, repL s (othF (sgO m) s) it ∈ itS m true) ∧ ∀ f ∈ formsS, ∀ it ∈ f, repL s (othF (sgO m) s) it ∈ itS m false := by decide +kernel
theorem forms_ok : (∀ f ∈ formsP, f.length ≤ 2 ∧ ∀ it ∈ f, it ∈ itL6) ∧ ∀ f ∈ formsS, f.length ≤ 2 ∧ ∀ it ∈ f, it ∈ itL6 := by decide
theorem itemsG_in {m : Nat} {b : Bool} {forms : Forms} (h0 : 0 < forms.length) (h : ∀ s ∈ sgO m, ∀ f ∈ forms, ∀ it ∈ f, repL s (othF (sgO m) s) it ∈ itS m b) : ∀ (w : List Nat) (x : Int), (∀ c ∈ w, c ∈ sgO m) → ∀ it ∈ itemsG (sgO m) forms x w, it ∈ itS m b
  | [], x, _, it, hit => by cases hit
  | s :: w, x, hw, it, hit => by
    rw [itemsG] at hit
    rcases List.mem_append.mp hit with hit | hit
    · refine elEA (List.mem_map.mp hit) fun z hz e => ?_
      rw [← e]
      exact h s (hw s (.head _)) _ (List.mem_of_getElem? (getD_get (d := []) (fmod_lt (x := x) h0).2)) z hz
    · exact itemsG_in h0 h w _ (fun c hc => hw c (.tail _ hc)) it hit
noncomputable def pathR (script : List Int) (number : Int) : List (List Nat) := itemsG (sgO (mF number)) formsP (105 + (pickL script (some 0) none (some 2)).sum) (nameF number)
noncomputable def patR (number : Int) : List (List Nat) := itemsG (sgO (mF number)) formsS (912 + 7 * number) (nameF number)
theorem rs0_ok (script : List Int) (number : Int) : ∀ r ∈ ([(pathR script number, true), (patR number, false)] : List Rl), RuOk (mF number) r := fun r hr => by
  have hl : ∀ (forms : Forms) (x : Int), 0 < forms.length → (∀ f ∈ forms, f.length ≤ 2) → (itemsG (sgO (mF number)) forms x (nameF number)).length ≤ 8 := fun forms x h0 hf => by
    have := itemsG_len (sgO (mF number)) forms h0 hf (nameF number) x
    rwa [nameF_len] at this
  simp only [List.mem_cons, List.not_mem_nil, or_false] at hr
  rcases hr with rfl | rfl
  · exact ⟨hl _ _ (by decide) fun f hf => (forms_ok.1 f hf).1, itemsG_in (by decide) (fun s hs => (rep_in _ (mF_mem number) s hs).1) _ _ (nameF_mem number)⟩
  · exact ⟨hl _ _ (by decide) fun f hf => (forms_ok.2 f hf).1, itemsG_in (by decide) (fun s hs => (rep_in _ (mF_mem number) s hs).2) _ _ (nameF_mem number)⟩
end
section
variable {S : Sys} {k : Nat}
set_option genInjectivity false in
structure PL2 (S : Sys) : Prop extends PM S where
  gnext : S.mg "_law_next" = some (.ref 151)
  sum : S.mg "sum" = none ∧ S.mb "sum" = some (.builtin "sum")
noncomputable abbrev stD (s : St2) : D := .list [rlsD s.1, sD s.2]
noncomputable abbrev entD (r : Rul) : D := .entry [ruleD r]
theorem rangeD (n : Nat) (h : n ≤ 100) : IterS S (.range 0 (n : Int) 1) ((List.range n).map dN) := rangeN (Nat.lt_of_le_of_lt h (by decide))
theorem dig_facts : ∀ b ∈ [2, 3], ∀ q ∈ [0, 1, 2, 3], (Builtin.Int.intBits ((b : Nat) : Int) : Int) * ((q : Nat) : Int) ≤ 2 ^ 27 ∧ ((b : Nat) : Int) ^ q ≠ 0 ∧ (((b : Nat) : Int) ^ q).natAbs < 2 ^ 64 := by decide
theorem dig_ev {cx : Cx} {σ : Sto} {number a : Int} {b q : Nat} {p1 p2 p3 p4 p5 p6 p7 p8 p9 : Pos} {n1 n2 n3 : Nat} (hb : b ∈ [2, 3]) (hq : q ∈ [0, 1, 2, 3]) (v1 : isVar cx.sc "number" = true) (e1 : σ "number" = some (.val (.int number))) (v2 : isVar cx.sc "k" = true) (e2 : σ "k" = some (.val (dN q))) :
    EvS S k cx σ (.BinOp (.BinOp (.BinOp (.Name "number" p1) .Add (.Constant (.int a) n1 p2) p3) .FloorDiv (.BinOp (.Constant (.int (b : Nat)) n2 p4) .Pow (.Name "k" p5) p6) p7) .Mod (.Constant (.int (b : Nat)) n3 p8) p9) (dN (digF number a b q)) := by
  have hf := dig_facts b hb q hq
  have hb0 : 0 < b := by
    simp only [List.mem_cons, List.not_mem_nil, or_false] at hb
    lia
  exact EvS.to (EvS.bin (EvS.bin (EvS.bin (EvS.name v1 e1) EvS.cint BinS.add) (EvS.bin EvS.cint (EvS.name v2 e2) (BinS.pow (Int.natCast_nonneg q) hf.1)) (BinS.floordiv (by rw [Int.toNat_natCast]; exact hf.2.1) (by rw [Int.toNat_natCast]; exact hf.2.2))) EvS.cint (BinS.mod (by lia))) (congrArg D.int (digF_lt hb0).2)
theorem range4_mem {q : Nat} (h : q ∈ List.range 4) : q ∈ [0, 1, 2, 3] := h
theorem cS {cx : Cx} {σ : Sto} {s : Str} {l : List Nat} {n : Nat} {p : Pos} (h : s = tx l) (hx : PyData.strOk s = true := by decide +kernel) : EvS S k cx σ (.Constant (.str s) n p) (sD l) := by subst h; exact EvS.cstr (hx := hx)
theorem sl1 {a : D} : [a].length ≤ sizeLine := by rw [sizeLine_eq]; show 1 ≤ _; decide
theorem sl2 {a b : D} : [a, b].length ≤ sizeLine := by rw [sizeLine_eq]; show 2 ≤ _; decide
theorem sl5 {a b c d e : D} : [a, b, c, d, e].length ≤ sizeLine := by rw [sizeLine_eq]; show 5 ≤ _; decide
theorem sl6 {a b c d e f : D} : [a, b, c, d, e, f].length ≤ sizeLine := by rw [sizeLine_eq]; show 6 ≤ _; decide
theorem ev_formsP {cx : Cx} {σ : Sto} {p0 p1 p2 p3 p4 p5 q1 q2 q3 q4 q5 q6 q7 : Pos} {n1 n2 n3 n4 n5 n6 n7 : Nat} : EvS S k cx σ (.List [.List [.Constant (.str "x") n1 q1] p1, .List [.Constant (.str "*") n2 q2] p2, .List [.Constant (.str "*") n3 q3, .Constant (.str "x") n4 q4] p3, .List [.Constant (.str "x") n5 q5, .Constant (.str "*") n6 q6] p4, .List [.Constant (.str "y") n7 q7] p5] p0) (.list [.list [sD [120]], .list [sD [42]], .list [sD [42], sD [120]], .list [sD [120], sD [42]], .list [sD [121]]]) := by
  with_reducible exact EvS.list (.cons (EvS.list (.cons (cS (by decide +kernel)) .nil rfl) sl1) (.cons (EvS.list (.cons (cS (by decide +kernel)) .nil rfl) sl1) (.cons (EvS.list (.cons (cS (by decide +kernel)) (.cons (cS (by decide +kernel)) .nil rfl) rfl) sl2) (.cons (EvS.list (.cons (cS (by decide +kernel)) (.cons (cS (by decide +kernel)) .nil rfl) rfl) sl2) (.cons (EvS.list (.cons (cS (by decide +kernel)) .nil rfl) sl1) .nil rfl) rfl) rfl) rfl) rfl) sl5
theorem ev_formsS {cx : Cx} {σ : Sto} {p0 p1 p2 p3 p4 p5 p6 q1 q2 q3 q4 q5 q6 q7 : Pos} {n1 n2 n3 n4 n5 n6 n7 : Nat} : EvS S k cx σ (.List [.List [.Constant (.str "x") n1 q1] p1, .List [.Constant (.str "*") n2 q2] p2, .List [.Constant (.str "?") n3 q3] p3, .List [.Constant (.str "[!y]") n4 q4] p4, .List [.Constant (.str "*") n5 q5, .Constant (.str "[x]") n6 q6] p5, .List [.Constant (.str "y") n7 q7] p6] p0) (.list [.list [sD [120]], .list [sD [42]], .list [sD [63]], .list [sD [91, 33, 121, 93]], .list [sD [42], sD [91, 120, 93]], .list [sD [121]]]) := by
  with_reducible exact EvS.list (.cons (EvS.list (.cons (cS (by decide +kernel)) .nil rfl) sl1) (.cons (EvS.list (.cons (cS (by decide +kernel)) .nil rfl) sl1) (.cons (EvS.list (.cons (cS (by decide +kernel)) .nil rfl) sl1) (.cons (EvS.list (.cons (cS (by decide +kernel)) .nil rfl) sl1) (.cons (EvS.list (.cons (cS (by decide +kernel)) (.cons (cS (by decide +kernel)) .nil rfl) rfl) sl2) (.cons (EvS.list (.cons (cS (by decide +kernel)) .nil rfl) sl1) .nil rfl) rfl) rfl) rfl) rfl) rfl) sl6
theorem callItems (P : PO S) {k : Nat} {cx : Cx} {σ : Sto} {np pos : Pos} {eN eS eX eF : Expr} {d1 d2 d3 d4 d : D} (hg : isGlob cx.sc "_law_items" = true) (e : CalS S k (.ref 139) [d1, d2, d3, d4] d) (h1 : EvS S k cx σ eN d1) (h2 : EvS S k cx σ eS d2) (h3 : EvS S k cx σ eX d3) (h4 : EvS S k cx σ eF d4) (p1 : Plain eN = true) (p2 : Plain eS = true) (p3 : Plain eX = true) (p4 : Plain eF = true) :
    EvS S k cx σ (.Call (.Name "_law_items" np) [eN, eS, eX, eF] [] pos) d :=
  EvS.callFn hg P.gitems (P.at rfl) (.cons h1 (.cons h2 (.cons h3 (.cons h4 .nil p4) p3) p2) p1) e (hp := by simp [allPlain, p1, p2, p3, p4])
theorem cntI : ∀ (l : List Nat) (a : Nat), (l.map fun n : Nat => (n : Int)).count (a : Int) = l.count a
  | [], _ => rfl
  | b :: l, a => by
    rw [List.map_cons, List.count_cons, List.count_cons, cntI l a]
    congr 1
    have : ((b : Int) == (a : Int)) = (b == a) := by
      rw [Bool.eq_iff_iff, beq_iff_eq, beq_iff_eq]
      exact Int.ofNat_inj
    rw [this]
noncomputable def recRul (m : Nat) (nm : List Nat) (even : Bool) (r : Rl) : Rul := (r.2 == even, recG (tx nm) (if tkD (sgO m) nm r then (nm.length : Int) + 1 else 0))
theorem recRul_ok (m : Nat) (nm : List Nat) (even : Bool) (r : Rl) : (recRul m nm even r).1 = (r.2 == even) ∧ (recRul m nm even r).2 (tx nm) = if tkD (sgO m) nm r then (nm.length : Int) + 1 else 0 := by
  refine ⟨rfl, ?_⟩
  show (if tx nm == tx nm then _ else (0 : Int)) = _
  rw [tx_beq]; simp
theorem flat_ones (l : List Nat) : (l.map fun c => [c]).flatten = l := by
  induction l with
  | nil => rfl
  | cons a l ih => simp [ih]
theorem fn_law2 (P : PL2 S) (E : PE S) (R : PR S) (hR : S.ruleP = ruleStd 107 Lam2) (script : List Int) (hl : script.length ≤ 63) : FnC S (k + 12) (.ref 175) [.list (script.map .int)] (.bool true) := by
  have P0 := P.toPO
  refine FnC.defP (names := ["script"]) (P0.at rfl) rfl rfl (P0.code) rfl (bl1 fun _ => rfl) ?_
  conv in (occs := *) (fB _) => whnf
  conv in (occs := *) (fS _) => whnf
  dsimp only [fnCx, List.map_cons, List.map_nil]
  refine ExP.next (Ex1.assign (d := .int script.sum) (EvS.callBi rfl (.inr P.sum) (.cons (EvS.name rfl rfl) .nil) CalS.sum rfl) rfl rfl) ?_
  generalize hnum : script.sum = number
  refine ExP.next (Ex1.assign (d := .bool (number.fmod 2 == 0)) (EvS.cmp (EvS.bin (EvS.name rfl rfl) EvS.cint (BinS.mod (by decide))) EvS.cint CmpS.eqInt (by with_unfolding_all rfl)) rfl rfl) ?_
  generalize (number.fmod 2 == 0) = even
  have hm := mF_mem number
  refine elA (fmod_lt (x := number) (n := 14) (by decide)) fun hj1 hj2 => ?_
  refine ExP.next (Ex1.assign (d := sD (sgO (mF number))) (EvS.to (EvS.bin (d1 := sD [97, 98]) (d2 := sD [mF number]) (cS (by decide +kernel)) (EvS.index (d1 := sD marksL) (d2 := dN (number.fmod 14).toNat) (cS (by decide +kernel)) (EvS.to (EvS.bin (EvS.name rfl rfl) EvS.cint (BinS.mod (by decide))) (congrArg D.int hj1)) (IdxS.tx hj2 (by decide)) (by intro _ _; rfl)) (BinS.addTx (show 2 + 1 ≤ 2 ^ 24 by decide))) rfl) rfl rfl) ?_
  refine ExP.next (Ex1.assign (d := sD (nameF number)) (EvS.to (EvS.meth methJoin (d0 := .str (Str.ofString "")) EvS.cstr rfl (.cons (d := .list (((nameF number).map fun c => [c]).map sD)) ?_ .nil) (CalS.joinE (by rw [flat_ones, nameF_len]; decide))) (by rw [flat_ones])) rfl rfl) ?_
  · refine EvS.to (EvS.listComp (out := (List.range 4).map fun q => sD [(sgO (mF number)).getD (digF number 21 3 q) 0]) rfl (EvS.callTy rfl P0.range (.cons EvS.cint .nil) CalS.range1 rfl) (rangeD 4 (by decide)) ?_ (show 4 ≤ sizeLine by rw [sizeLine_eq]; decide)) (by unfold nameF; rw [List.map_map, List.map_map]; rfl)
    refine TurnsR.map1 dN _ (List.range 4) fun q hq9 => turn1 rfl rfl rfl (.inr ⟨.nil, genOne ?_⟩)
    exact EvS.index (EvS.name rfl rfl) (dig_ev (b := 3) (by decide) (range4_mem hq9) rfl rfl rfl rfl) (IdxS.tx (digF_lt (by decide)).1 (show 3 ≤ 2 ^ 30 by decide)) (by intro _ _; rfl)
  have hnl := nameF_len number
  have hnm := nameF_mem number
  have hok0 := rs0_ok script number
  unfold pathR patR at hok0
  generalize mF number = m at hm hnm hok0 ⊢
  generalize nameF number = nm at hnl hnm hok0 ⊢
  generalize hx1 : 105 + (pickL script (some 0) none (some 2)).sum = x1 at hok0
  generalize hx2 : 912 + 7 * number = x2 at hok0
  have e1 := (fn_items2 (k := k + 7) P0 m hm nm x1 formsP hnm (by rw [hnl]; decide) (by decide) (by decide) forms_ok.1).call
  have e2 := (fn_items2 (k := k + 7) P0 m hm nm x2 formsS hnm (by rw [hnl]; decide) (by decide) (by decide) forms_ok.2).call
  generalize itemsG (sgO m) formsP x1 nm = row1 at hok0 e1
  generalize itemsG (sgO m) formsS x2 nm = row2 at hok0 e2
  with_reducible refine ExP.next (Ex1.assign (d := rowD row1) (callItems P0 (by with_unfolding_all rfl) e1 (EvS.name (by with_unfolding_all rfl) (by with_unfolding_all rfl)) (EvS.name (by with_unfolding_all rfl) (by with_unfolding_all rfl)) (EvS.to (EvS.bin EvS.cint ?_ BinS.add) (congrArg D.int hx1)) ev_formsP (by with_unfolding_all rfl) (by with_unfolding_all rfl) (by with_unfolding_all rfl) (by with_unfolding_all rfl)) (by with_unfolding_all rfl) (by with_unfolding_all rfl)) ?_
  · refine EvS.callBi rfl (.inr P.sum) (.cons (d := .list ((pickL script (some 0) none (some 2)).map .int)) ?_ .nil) CalS.sum rfl
    with_reducible refine EvS.to (EvS.slice (EvS.name (by with_unfolding_all rfl) (by with_unfolding_all rfl)) (.some EvS.cint) .none (.some EvS.cint) (SlcS.list ?_ ?_)) ?_
    · decide
    · rw [List.length_map, sizeLine_eq]; exact Nat.le_trans hl (by decide)
    · rw [pick_map]
  with_reducible refine ExP.next (Ex1.assign (d := formsD formsS) ?_ (by with_unfolding_all rfl) (by with_unfolding_all rfl)) ?_
  · with_reducible exact EvS.to ev_formsS (by with_unfolding_all rfl)
  with_reducible refine ExP.next (Ex1.assign (d := rowD row2) (callItems P0 (by with_unfolding_all rfl) e2 (EvS.name (by with_unfolding_all rfl) (by with_unfolding_all rfl)) (EvS.name (by with_unfolding_all rfl) (by with_unfolding_all rfl)) (EvS.to (EvS.bin EvS.cint (EvS.bin EvS.cint (EvS.name (by with_unfolding_all rfl) (by with_unfolding_all rfl)) (BinS.mul (IntMulOk.of_left (by decide)))) BinS.add) (congrArg D.int hx2)) (EvS.name (by with_unfolding_all rfl) (by with_unfolding_all rfl)) (by with_unfolding_all rfl) (by with_unfolding_all rfl) (by with_unfolding_all rfl) (by with_unfolding_all rfl)) (by with_unfolding_all rfl) (by with_unfolding_all rfl)) ?_
  refine ExP.next (Ex1.assignComp (out := (sidesF number).map dN) rfl rfl (EvS.callTy rfl P0.range (.cons EvS.cint .nil) CalS.range1 rfl) (rangeD 4 (by decide)) ?_ (by rw [List.length_map, sidesF_len, sizeLine_eq]; decide)) ?_
  · unfold sidesF
    rw [List.map_map]
    refine TurnsR.map1 dN _ (List.range 4) fun q hq9 => turn1 rfl rfl rfl (.inr ⟨.nil, genOne ?_⟩)
    exact dig_ev (b := 2) (by decide) (range4_mem hq9) rfl rfl rfl rfl
  have hsl := sidesF_len number
  have hs2 := sidesF_lt number
  generalize sidesF number = sides at hsl hs2 ⊢
  refine ExP.weak (σ₀ := lsto [("even", .val (.bool even)), ("name", .val (sD nm)), ("path", .val (rowD row1)), ("pattern", .val (rowD row2)), ("sides", .val (nsD sides))]) ?_ (lsto_sub (allE_rfl rfl))
  generalize hs0 : (([(row1, true), (row2, false)], nm) : St2) = s0
  have hs01 : s0.1 = [(row1, true), (row2, false)] := by rw [← hs0]
  have hs02 : s0.2 = nm := by rw [← hs0]
  with_reducible refine ExP.next (Ex1.assign (d := stD s0) (EvS.to (EvS.list (.cons (EvS.list (.cons (EvS.list (.cons (EvS.name (by with_unfolding_all rfl) (by with_unfolding_all rfl)) (.cons EvS.cbool .nil (by with_unfolding_all rfl)) (by with_unfolding_all rfl)) sl2) (.cons (EvS.list (.cons (EvS.name (by with_unfolding_all rfl) (by with_unfolding_all rfl)) (.cons EvS.cbool .nil (by with_unfolding_all rfl)) (by with_unfolding_all rfl)) sl2) .nil (by with_unfolding_all rfl)) (by with_unfolding_all rfl)) sl2) (.cons (EvS.name (by with_unfolding_all rfl) (by with_unfolding_all rfl)) .nil (by with_unfolding_all rfl)) (by with_unfolding_all rfl)) sl2) ?_) (by with_unfolding_all rfl) (by with_unfolding_all rfl)) ?_
  · rw [← hs0]; rfl
  rw [← hs01] at hok0
  rw [← hs02] at hnl hnm
  have hst := fun i (hi : i ≤ 4) => stAt_ok (m := m) hok0 (sides := sides) i (by rw [hsl]; exact hi)
  have hlen := fun i (hi : i ≤ 4) => stAt_len (s0 := s0) (sides := sides) i (by rw [hsl]; exact hi)
  have hname := stAt_name (s0 := s0) hs2 (by rw [hsl, hnl]; exact Nat.le_refl _)
  have hdue := fun {i : Nat} (hi : i ≤ 4) {l : List Rl} => due_ok (s42 m hm) (s0 := s0) (sides := sides) hnm (by rw [hsl, hnl]) even (i := i) (by rw [hsl]; exact hi) (l := l)
  have hsucc : ∀ i d, sides[i]? = some d → stAt s0 sides (i + 1) = stepN (stAt s0 sides i) d := fun i d h => stAt_succ h
  have h00 : stAt s0 sides 0 = s0 := rfl
  rw [hsl] at hdue
  generalize stAt s0 sides = st at hst hlen hname hdue hsucc h00
  have hs2l : s0.1.length = 2 := by rw [hs01]; rfl
  subst h00
  have hcnt : ∀ i, i ≤ 4 → (st i).1.length ≤ 10000 := fun i hi => by
    have h1 := (hst i hi).2
    rw [hs2l] at h1
    have h2 : 8 ^ i ≤ 8 ^ 4 := Nat.pow_le_pow_right (by decide) hi
    lia
  have hea : ∀ i, (List.range (i + 1)).map (fun j => stD (st j)) = (List.range i).map (fun j => stD (st j)) ++ [stD (st i)] := fun i => by rw [List.range_succ, List.map_append]; rfl
  refine ExP.next (Ex1.assign (d := .list ((List.range 5).map fun j => stD (st j))) (EvS.to (ev_redlam0 (k := k + 9) R (names := ["row", "side"]) (sq := nsD sides) (ds := sides.map dN) (accs := fun i => (List.range (i + 1)).map fun j => stD (st j)) rfl (lamL P0 rfl rfl _) (by intro _; rfl) (by intro n hn; simp at hn) (by intro _ _ _ _; rfl) (by intro _ _ _ _; exact bl2 fun _ _ => rfl) rfl (EvS.name rfl rfl) (EvS.list (.cons (EvS.name rfl rfl) .nil) sl1) (fun S' => IterS.list) rfl rfl ?_) (by rw [List.length_map, hsl])) rfl rfl) ?_
  · intro cl pm cdv ct i e he
    rw [List.getElem?_map] at he
    refine elEA (Option.map_eq_some_iff.mp he) fun d hd e9 => ?_
    subst e9
    have hi : i < 4 := by rw [← hsl]; exact (List.getElem?_eq_some_iff.mp hd).1
    have hd2 := hs2 d (List.mem_of_getElem? hd)
    have hl := (hlen i (Nat.le_of_lt hi)).1
    have hr : (st i).1.length ≤ 2000 := by
      have h1 := (hst i (Nat.le_of_lt hi)).2
      rw [hs2l] at h1
      have h2 : 8 ^ i ≤ 8 ^ 3 := Nat.pow_le_pow_right (by decide) (Nat.le_of_lt_succ hi)
      lia
    have hn := (fn_next (k := k + 5) P.toPM (st i).1 (st i).2 d hd2 ⟨by lia, by lia⟩ hr fun r hr => ((hst i (Nat.le_of_lt hi)).1 r hr).good hm).call
    show EvS S (k + 9) _ (lamSto _ [.list ((List.range (i + 1)).map fun j => stD (st j)), dN d] []) _ (.list ((List.range (i + 1 + 1)).map fun j => stD (st j)))
    rw [hea (i + 1), hea i, hsucc i d hd]
    have hlen1 : ((List.range i).map (fun j => stD (st j)) ++ [stD (st i)]).length = i + 1 := by simp
    refine EvS.bin (EvS.name rfl rfl) (EvS.list (.cons ?_ .nil) sl1) (BinS.addList (by rw [hlen1, sizeLine_eq]; show i + 1 + 1 ≤ _; lia))
    refine EvS.callFn rfl P.gnext (P0.at rfl) (.cons (EvS.index (EvS.name rfl rfl) (EvS.neg EvS.cint) (IdxS.last (by rw [List.length_map, List.length_range]; lia))) (.cons (EvS.name rfl rfl) .nil)) hn
  refine ExP.weak (σ₀ := lsto [("even", .val (.bool even)), ("name", .val (sD nm)), ("sides", .val (nsD sides)), ("states", .val (.list ((List.range 5).map fun j => stD (st j))))]) ?_ (lsto_sub (allE_rfl rfl))
  have h4 := hcnt 4 (Nat.le_refl _)
  have h4i := (hst 4 (Nat.le_refl _)).1
  generalize hrs4 : (st 4).1 = rs4 at h4 h4i hdue
  have hfl := List.length_filter_le bareB rs4
  refine ExP.next (Ex1.assignComp (ds := rs4.map rlD) (out := ((rs4.filter bareB).map fun r => r.2 == even).map D.bool) (di := rlsD rs4) rfl rfl ?_ IterS.list ?_ ?_) ?_
  · refine EvS.to (EvS.index (d1 := stD (st 4)) (EvS.index (EvS.to (EvS.name rfl rfl) (congrArg D.list (hea 4))) (EvS.neg EvS.cint) (IdxS.last (by simp))) EvS.cint (IdxS.nat (j := 0) (d := rlsD (st 4).1) rfl (show 2 ≤ 2 ^ 30 by decide)) (by intro _ _; rfl)) (by rw [hrs4])
  · rw [List.map_map]
    have htest : ∀ r : Rl, r ∈ rs4 → ∀ {k : Nat} {cx : Cx} {σ : Sto} {p1 p2 p3 p4 p5 p6 p7 p8 p9 : Pos} {n1 : Nat} , cx.sc.kind = .function → isVar cx.sc "items" = true → σ "items" = some (.val (rowD r.1)) →
        EvT S k cx σ (.Compare (.ListComp (.Name "item" p1) [⟨.Name "item" p2, .Name "items" p3, [.Compare (.Name "item" p4) [.NotEq] [.Constant (.str "*") n1 p5] p6], 0⟩] { kind := .function, names := [((".0" : Str), .local), ("item", .local)], isGenerator := false, isCoroutine := false } p7) [.Eq] [.List [] p8] p9) (bareB r) := fun r hr {k cx σ} _ _ _ _ _ _ _ _ _ _ hk hv he => by
      have h8 := (h4i r hr).1
      have hf9 := List.length_filter_le (fun it : List Nat => !(it == [42])) r.1
      have hit : ∀ {cx : Cx} {σ : Sto} {q1 q2 q3 : Pos} {n : Nat} {it : List Nat}, isVar cx.sc "item" = true → σ "item" = some (.val (sD it)) → EvT S k cx σ (.Compare (.Name "item" q1) [.NotEq] [.Constant (.str "*") n q2] q3) (!(it == [42])) := fun h1 h2 => EvT.to (EvT.cmp (EvS.name h1 h2) EvS.cstr CmpS.neStr (by with_unfolding_all rfl)) (by unfold bne; rw [show Str.ofString "*" = tx [42] from rfl, tx_beq])
      refine EvT.to (EvT.cmp (d1 := rowD (r.1.filter fun it => !(it == [42]))) (d2 := .list (([] : List (List Nat)).map sD)) (EvS.listComp (ds := r.1.map sD) ?_ (EvS.name hv he) IterS.list (TurnsR.filt sD sD (fun it => !(it == [42])) r.1 fun it hit9 => ⟨fun e => turn1 rfl rfl rfl (.inr ⟨TestR.one (EvT.to (hit rfl rfl) e), genOne (EvS.name rfl rfl)⟩), fun e => turn1 rfl rfl rfl (.inl ⟨TestR.one (EvT.to (hit rfl rfl) e), rfl⟩)⟩) (by rw [List.length_map, sizeLine_eq]; lia)) (EvS.list .nil) (CmpS.eq (okD_list (fun b => okD_str 7 _) _) (okD_list (fun b => okD_str 7 _) _)) (by with_unfolding_all rfl)) (eqv_list eqv_tx _ _)
      unfold compOk
      rw [hk]; rfl
    refine TurnsR.filt rlD _ bareB rs4 fun r hr9 => ⟨fun e => turn2 rfl rfl rfl rfl rfl rfl (.inr ⟨TestR.one (EvT.to (htest r hr9 rfl rfl rfl) e), genOne ?_⟩), fun e => turn2 rfl rfl rfl rfl rfl rfl (.inl ⟨TestR.one (EvT.to (htest r hr9 rfl rfl rfl) e), rfl⟩)⟩
    exact EvS.cmp (EvS.name rfl rfl) (EvS.name rfl rfl) CmpS.isBool (by with_unfolding_all rfl)
  · rw [List.length_map, List.length_map, sizeLine_eq]; lia
  generalize hbs : ((rs4.filter bareB).map fun r => r.2 == even) = bs
  have hdf : dueF rs4 even = (bs.contains true || bs == []) := by rw [← hbs]; rfl
  rw [hdf] at hdue
  generalize hdv : (bs.contains true || bs == []) = due at hdue
  refine ExP.next (Ex1.assign (d := .bool due) (EvS.to (EvS.or2 (c := bs.contains true) (c' := bs == []) ?_ fun _ => ?_) (congrArg D.bool hdv)) rfl rfl) ?_
  · exact EvS.to (EvS.cmp (d1 := .bool true) (d2 := .list (bs.map D.bool)) EvS.cbool (EvS.name rfl rfl) (CmpS.isIn rfl (okD_list (fun b => rfl) _)) (by with_unfolding_all rfl)) (congrArg D.bool (any_map eqv_bool bs true))
  · exact EvS.to (EvS.cmp (d1 := .list (bs.map D.bool)) (d2 := .list (([] : List Bool).map D.bool)) (EvS.name rfl rfl) (EvS.list .nil) (CmpS.eq (okD_list (fun b => rfl) _) (okD_list (fun b => rfl) _)) (by with_unfolding_all rfl)) (congrArg D.bool (eqv_list eqv_bool bs []))
  refine ExP.weak (σ₀ := lsto [("even", .val (.bool even)), ("name", .val (sD (st 0).2)), ("sides", .val (nsD sides)), ("states", .val (.list ((List.range 5).map fun j => stD (st j)))), ("due", .val (.bool due))]) ?_ (lsto_sub ?_)
  rotate_left
  · rw [hs02]; exact allE_rfl rfl
  clear hdv hdf hbs hfl h4i h4 hrs4 hs0 hs01 hs02 hok0 hsucc e1 e2 hx1 hx2
  refine ExP.ite (c := false) ?_ (fun h => by exact ft h) fun _ => ExP.nil (Go.next ?_)
  · refine EvT.to (EvT.cmp (d1 := rowD ((List.range 5).map fun j => (st j).2)) (d2 := rowD ((List.range 5).map fun j => (st j).2)) (EvS.to (EvS.listComp (ds := (List.range 5).map fun j => stD (st j)) (out := (List.range 5).map fun j => sD (st j).2) rfl (EvS.name rfl rfl) IterS.list (TurnsR.map1 (fun j => stD (st j)) _ (List.range 5) fun j _ => turn2 rfl rfl rfl rfl rfl rfl (.inr ⟨.nil, genOne (EvS.name rfl rfl)⟩)) sl5) (by unfold rowD; rw [List.map_map]; rfl)) (EvS.to (EvS.listComp (out := (List.range 5).map fun j => sD (st j).2) rfl (EvS.callTy rfl P0.range (.cons EvS.cint .nil) CalS.range1 rfl) (rangeD 5 (by decide)) (TurnsR.map1 dN _ (List.range 5) fun j hj9 => turn1 rfl rfl rfl (.inr ⟨.nil, genOne ?_⟩)) sl5) (by unfold rowD; rw [List.map_map]; rfl)) (CmpS.ne (okD_list (fun b => okD_str 7 _) _) (okD_list (fun b => okD_str 7 _) _)) (by with_unfolding_all rfl)) (by rw [eqv_list eqv_tx]; simp)
    have hj : j < 5 := List.mem_range.mp hj9
    have hcn : ∀ (a : Nat) {k : Nat} {cx : Cx} {σ : Sto} {p1 p2 p3 p4 p5 p6 p7 : Pos} {n1 : Nat}, isVar cx.sc "sides" = true → σ "sides" = some (.val (nsD sides)) → isVar cx.sc "k" = true → σ "k" = some (.val (dN j)) → (p4.endLine == p7.line) = true → EvS S k cx σ (.Call (.Attribute (.Subscript (.Name "sides" p1) (.Slice none (some (.Name "k" p2)) none p3) p5) "count" p4) [.Constant (.int (a : Nat)) n1 p6] [] p7) (dN ((sides.take j).count a)) := fun a {k cx σ} _ _ _ _ _ _ _ _ v1 e1 v2 e2 hln => by
      refine EvS.to (EvS.meth methCount (d0 := .list (((sides.take j).map fun n : Nat => (n : Int)).map D.int)) (ds := [.int (a : Nat)]) (EvS.to (EvS.slice (EvS.name v1 e1) .none (.some (EvS.name v2 e2)) .none (SlcS.list (by simp) (by rw [List.length_map, hsl, sizeLine_eq]; decide))) (by rw [pick_m _ j rfl, List.map_map, ← List.map_take]; rfl)) rfl (.cons EvS.cint .nil) CalS.countInts (hlen := show 1 < 30 by decide) (hline := hln)) (by rw [cntI])
    have hc0 : (sides.take j).count 0 ≤ 4 := Nat.le_trans (List.count_le_length) (by rw [List.length_take, hsl]; exact Nat.min_le_right _ _)
    have hc1 : (sides.take j).count 1 ≤ 4 := Nat.le_trans (List.count_le_length) (by rw [List.length_take, hsl]; exact Nat.min_le_right _ _)
    refine EvS.to (EvS.slice (u := some ((4 - (sides.take j).count 1 : Nat) : Int)) (EvS.name rfl rfl) (.some (hcn 0 rfl rfl rfl rfl rfl)) (.some (EvS.to (EvS.bin EvS.cint (hcn 1 rfl rfl rfl rfl rfl) BinS.sub) (congrArg D.int ?_))) .none (SlcS.str (by rw [tx_len, hnl, sizeLine_eq]; decide))) ?_
    · lia
    · rw [slice_gen, clip_nat rfl, clip_nat rfl, hname j, hnl, Nat.min_eq_left (Nat.sub_le _ _), Nat.min_eq_left hc0]
  refine ExP.for (ds := (List.range 5).map fun j => stD (st j)) (fun _ => lsto [("even", .val (.bool even)), ("due", .val (.bool due))]) (EvS.name rfl rfl) IterS.list (lsto_sub (allE_rfl rfl)) (fun i e he => ?_) (ExP.ret (d := .bool true) EvS.cbool rfl)
  rw [List.getElem?_map] at he
  refine elEA (Option.map_eq_some_iff.mp he) fun j hj9 e9 => ?_
  subst e9
  have hj : j ≤ 4 := Nat.le_of_lt_succ (List.mem_range.mp (List.mem_of_getElem? hj9))
  clear he hj9
  have hRu := (hst j hj).1
  have hcj := hcnt j hj
  have hnj : ∀ c ∈ (st j).2, c ∈ sgO m := fun c hc => hnm c ((hlen j hj).2 c hc)
  have hlj : (st j).2.length ≤ 4 := by have := (hlen j hj).1; lia
  have hdj := @hdue j hj
  refine ⟨_, BindS.tup (.inl rfl) (BindL.cons (BindS.name rfl) rfl (BindL.cons (BindS.name rfl) rfl .nil)), ?_⟩
  generalize (st j).2 = nj at hnj hlj hdj ⊢
  generalize (st j).1 = rs at hRu hcj hdj ⊢
  clear hdue hcnt hst hlen hname hea hs2l hnl hnm hs2 hsl
  refine ExP.next (Ex1.assignComp (ds := rs.map rlD) (out := rs.map fun r => entD (recRul m nj even r)) rfl rfl (EvS.name rfl rfl) IterS.list (TurnsR.map1 rlD _ rs fun r hr9 => turn2 rfl rfl rfl rfl rfl rfl (.inr ⟨.nil, genOne ?_⟩)) (by rw [List.length_map, sizeLine_eq]; lia)) ?_
  · obtain ⟨n, T, rr, hp, hs, hlf, hT, hends, hc⟩ := rec_facts hm (hRu r hr9) hnj hlj
    have hrec := (fn_record2 (k := k + 5) E hR r.1.flatten T nj rr r.2 (r.2 == even) hp hs hlf hT hends (Nat.le_trans hlj (by decide))).call
    rw [hc] at hrec
    refine EvS.callFn rfl P0.grecord (P0.at rfl) (.cons ?_ (.cons (EvS.name rfl rfl) (.cons ?_ (.cons (EvS.name rfl rfl) .nil)))) hrec rfl
    · exact EvS.meth methJoin (d0 := .str (Str.ofString "")) EvS.cstr rfl (.cons (EvS.name rfl rfl) .nil) (CalS.joinE (Nat.le_trans hlf (by decide)))
    · exact EvS.cmp (EvS.name rfl rfl) (EvS.name rfl rfl) CmpS.isBool (by with_unfolding_all rfl)
  generalize hF : recRul m nj even = F
  have hFok : ∀ r : Rl, (F r).1 = (r.2 == even) ∧ (F r).2 (tx nj) = if tkD (sgO m) nj r then (nj.length : Int) + 1 else 0 := fun r => by rw [← hF]; exact recRul_ok m nj even r
  have hcase : ∀ (i : Nat) (e : D), ([D.list (rs.map fun r => entD (F r)), D.list (rs.map fun r => entD (F r)).reverse] : List D)[i]? = some e → ∃ l : List Rl, e = .list (l.map fun r => entD (F r)) ∧ (∀ r, r ∈ l ↔ r ∈ rs) ∧ l.length = rs.length := fun i e he =>
    match i, he with
    | 0, he => ⟨rs, (Option.some.inj he).symm, fun _ => Iff.rfl, rfl⟩
    | 1, he => ⟨rs.reverse, by rw [List.map_reverse]; exact (Option.some.inj he).symm, fun _ => List.mem_reverse, List.length_reverse⟩
    | n + 2, he => by simp at he
  refine ExP.for (ds := [D.list (rs.map fun r => entD (F r)), D.list (rs.map fun r => entD (F r)).reverse]) (fun _ => lsto [("even", .val (.bool even)), ("due", .val (.bool due)), ("rules", .val (rlsD rs)), ("rest", .val (sD nj))]) (EvS.list (.cons (EvS.name rfl rfl) (.cons (EvS.to (EvS.slice (EvS.name rfl rfl) .none .none (.some (EvS.neg EvS.cint)) (SlcS.list ?_ ?_)) (congrArg D.list (pick_rev _))) .nil)) sl2) IterS.list (lsto_sub (allE_rfl rfl)) (fun i e he => ?_) (ExP.nil (lsto_sub (allE_rfl rfl)))
  · decide
  · rw [List.length_map, sizeLine_eq]; lia
  refine elEAA (hcase i e he) fun l e9 hmem hlen => ?_
  subst e9
  clear hcase he
  have hdl := hdj hmem
  clear hdj hRu
  refine ⟨_, BindS.name rfl, ?_⟩
  refine ExP.next (Ex1.assign (d := .entry ((l.map F).map ruleD)) ?_ rfl rfl) ?_
  · have hred := (fn_reduce3 (k := k + 10) R 125 ⟨_, _, _, _, P0.at rfl⟩ (.list (l.map fun r => entD (F r))) (l.map fun r => entD (F r)) (fun i => .entry (((l.take i).map F).map ruleD)) IterS.list (CmpS.isEntryTok E.entP (P0.ι _) (P0.at rfl) (by decide)) (fun i e he => ?_)).call
    · rw [List.length_map, List.take_length] at hred
      exact EvS.callFn rfl P0.greduce (P0.at rfl) (.cons (EvS.globTok rfl P0.gmerge (P0.ι _)) (.cons (EvS.name rfl rfl) (.cons (EvS.newEntry (entF E) E.entP rfl) .nil))) hred rfl
    · rw [List.getElem?_map] at he
      refine elEA (Option.map_eq_some_iff.mp he) fun r hr e9 => ?_
      subst e9
      have hm := (fn_merge (k := k + 5) E (((l.take i).map F).map ruleD) [ruleD (F r)] (by rw [List.length_map, List.length_map, List.length_take]; simp only [List.length_cons, List.length_nil]; lia)).call
      have e9 : ((l.take (i + 1)).map F).map ruleD = ((l.take i).map F).map ruleD ++ [ruleD (F r)] := by
        rw [List.take_add_one, hr]; simp
      rw [e9]
      exact hm
  refine ExP.ite (c := false) (EvT.or2 (c := false) (c' := false) ?_ fun _ => ?_) (fun h => by exact ft h) fun _ => ExP.nil (Go.next (ExP.nil (lsto_sub (allE_rfl rfl))))
  · refine EvT.to (EvT.cmp (EvS.callBi rfl P0.len (.cons (EvS.entRules (clsF E) E.entP rfl rfl) .nil) (CalS.lenList (by rw [List.length_map, List.length_map, sizeLine_eq]; lia)) rfl) (EvS.callBi rfl P0.len (.cons (EvS.name rfl rfl) .nil) (CalS.lenList (by rw [List.length_map, sizeLine_eq]; lia)) rfl) CmpS.neInt (by with_unfolding_all rfl)) ?_
    rw [List.length_map, List.length_map, List.length_map, hlen]
    exact bne_self_eq_false _
  · have hA := (fn_allow (k := k + 9) E hR Lam2_mono (lam2_ok P0) (l.map F) (tx nj)).call
    rw [alw_all (tx nj) ((nj.length : Int) + 1) (by lia) (fun r => r.2 == even) (tkD (sgO m) nj) F hFok, hdl] at hA
    exact EvT.to (EvT.cmp (EvS.entAllow (clsG E) E.entP hA rfl rfl (EvS.name rfl rfl)) (EvS.name rfl rfl) CmpS.isNotBool (by with_unfolding_all rfl)) (by simp)
end
end Mine
namespace Mine
noncomputable def K0of (h : Heap) : Kn := fun a => if ([57, 165, 172] : List Addr).contains a then none else h.get? a
theorem K0_keep {h h' : Heap} (k : ∀ a o, K0of h a = some o → h'.get? a = some o) {a : Addr} {o : Obj} (ha : ([57, 165, 172] : List Addr).contains a = false) (e : h.get? a = some o) : h'.get? a = some o :=
  k a o (by unfold K0of; rw [ha]; exact e)
theorem ns_keep {h h' : Heap} {a : Addr} {m : Str → Option Value} (hn : h.Ns a m) (ha : ([57, 165, 172] : List Addr).contains a = false) (k : ∀ a o, K0of h a = some o → h'.get? a = some o) : h'.Ns a m :=
  let ⟨o, es, ep, e, r⟩ := hn; ⟨o, es, ep, K0_keep k ha e, r⟩
noncomputable def sysOf (w : World) (s : Shared) (mg mb : Str → Option Value) (hg : s.heap.Ns mainGlobals mg) (hb : s.heap.Ns builtinsNs mb) (hl : s.heap.NoLimit) : Sys where
  prog := PySem.Challenge.rw_in0273_02.row.prog
  w := w
  os := s.os
  K0 := K0of s.heap
  T := [57, 165, 172]
  tabOk := tabStd qlf
  tabMono := fun _ _ _ _ h t => tabStd_mono h t
  mg := mg
  mb := mb
  nsG := fun _ k => ns_keep hg rfl k
  nsB := fun _ k => ns_keep hb rfl k
  noLim := fun _ k => let ⟨mc, a, b⟩ := hl; ⟨mc, ns_keep a rfl k, b⟩
  ι := id
  ruleP := ruleStd 107 Lam2
  ruleMono := fun _ _ _ _ _ h e => ruleStd_mono Lam2_mono h e
  entP := entStd 107
  entMono := fun _ _ _ _ h e => entStd_mono h e
noncomputable def mainEs (P : Params) : Array DictEntry := match (frag P).lookup mainGlobals with
  | some ⟨_, _, .dict es _, _⟩ => es
  | _ => #[]
theorem main_at (P : Params) : ∃ n, (frag P).lookup mainGlobals = some ⟨.type "dict", none, .dict (mainEs P) n, #[]⟩ := ⟨_, rfl⟩
theorem code_at (P : Params) : ∀ b ∈ ([57, 165, 172] : List Addr), ∃ c o vs, (frag P).lookup c = some o ∧ o.cls = .type "code" ∧ o.data = .fields vs ∧ vs[11]? = some (.ref b) := by
  intro b hb
  simp only [List.mem_cons, List.not_mem_nil, or_false] at hb
  rcases hb with rfl | rfl | rfl
  · exact ⟨61, _, _, rfl, rfl, rfl, rfl⟩
  · exact ⟨169, _, _, rfl, rfl, rfl, rfl⟩
  · exact ⟨174, _, _, rfl, rfl, rfl, rfl⟩
section
variable {w : World} {s : Shared} {mg mb : Str → Option Value} {loose' : List Str} {mean : ExcName → Option Value}
theorem mgv (T : Top view loose' mean mg mb s.heap) (KX : (frag w.params).In s.heap) {x : Str} {v : Option Value} (e : nsFind (mainEs w.params) x = v) : mg x = v :=
  elE (main_at w.params) fun n hn => by
    obtain ⟨o, es, ep, h1, h2, _, h3⟩ := T.g
    rw [KX _ _ hn] at h1
    cases h1
    cases h2
    exact (h3 x).symm.trans e
theorem mbv (T : Top view loose' mean mg mb s.heap) {x : Str} {v : Option Value} (h : (x == Str.ofString "__name__") = false) (e : bootBuiltins x = v) : mb x = v := (T.builtins x (by simpa using h)).trans e
theorem poOf (T : Top view loose' mean mg mb s.heap) (KX : (frag w.params).In s.heap) : PO (sysOf w s mg mb T.g T.b T.nolimit) where
  kn := fun a o e hT => by
    show K0of s.heap a = some o
    unfold K0of
    rw [if_neg fun hc => hT (show a ∈ ([57, 165, 172] : List Addr) from by simpa using hc)]
    exact KX a o e
  T := rfl
  len := .inr ⟨mgv T KX (by kernel_rfl), mbv T (by kernel_rfl) (by kernel_rfl)⟩
  max := .inr ⟨mgv T KX (by kernel_rfl), mbv T (by kernel_rfl) (by kernel_rfl)⟩
  range := .inr ⟨mgv T KX (by kernel_rfl), mbv T (by kernel_rfl) (by kernel_rfl)⟩
  ι := fun _ => rfl
  isinst := ⟨mgv T KX (by kernel_rfl), mbv T (by kernel_rfl) (by kernel_rfl)⟩
  str := ⟨mgv T KX (by kernel_rfl), mbv T (by kernel_rfl) (by kernel_rfl)⟩
  list := ⟨mgv T KX (by kernel_rfl), mbv T (by kernel_rfl) (by kernel_rfl)⟩
  map := ⟨mgv T KX (by kernel_rfl), mbv T (by kernel_rfl) (by kernel_rfl)⟩
  object := ⟨mgv T KX (by kernel_rfl), mbv T (by kernel_rfl) (by kernel_rfl)⟩
  gspecial := mgv T KX (by kernel_rfl)
  gescape := mgv T KX (by kernel_rfl)
  g_translate := mgv T KX (by kernel_rfl)
  gjoinp := mgv T KX (by kernel_rfl)
  gtranslate := mgv T KX (by kernel_rfl)
  gre := mgv T KX (by kernel_rfl)
  gtp := mgv T KX (by kernel_rfl)
  gEntry := mgv T KX (by kernel_rfl)
  gmerge := mgv T KX (by kernel_rfl)
  greduce := mgv T KX (by kernel_rfl)
  gends := mgv T KX (by kernel_rfl)
  gitems := mgv T KX (by kernel_rfl)
  grecord := mgv T KX (by kernel_rfl)
  tab := rfl
  blt := fun h k P hP => by
    obtain ⟨bm, ob, h1, h2, h3, h4⟩ := T.bmain
    have e : mg "__builtins__" = some (.ref 4) := mgv T KX (by kernel_rfl)
    rw [e] at h1
    cases h1
    refine ⟨4, ob, e, h2, by decide, ?_, K0_keep k (by rfl) h3, h4⟩
    rintro rfl
    exact absurd hP (by show ¬ (4 : Nat) ∈ ([57, 165, 172] : List Nat); decide)
  greads := mgv T KX (by kernel_rfl)
theorem peOf (T : Top view loose' mean mg mb s.heap) (KX : (frag w.params).In s.heap) : PE (sysOf w s mg mb T.g T.b T.nolimit) where
  toPO := poOf T KX
  entP := rfl
  filter := ⟨mgv T KX (by kernel_rfl), mbv T (by kernel_rfl) (by kernel_rfl)⟩
  set := ⟨mgv T KX (by kernel_rfl), mbv T (by kernel_rfl) (by kernel_rfl)⟩
theorem prOf (T : Top view loose' mean mg mb s.heap) (KX : (frag w.params).In s.heap) : PR (sysOf w s mg mb T.g T.b T.nolimit) where
  toPO := poOf T KX
  iter := .inr ⟨mgv T KX (by kernel_rfl), mbv T (by kernel_rfl) (by kernel_rfl)⟩
  next := .inr ⟨mgv T KX (by kernel_rfl), mbv T (by kernel_rfl) (by kernel_rfl)⟩
  miss := mgv T KX (by kernel_rfl)
--2{
theorem plOf (T : Top view loose' mean mg mb s.heap) (KX : (frag w.params).In s.heap) : PL2 (sysOf w s mg mb T.g T.b T.nolimit) where
  toPO := poOf T KX
  gbite := mgv T KX (by kernel_rfl)
  gnext := mgv T KX (by kernel_rfl)
  sum := ⟨mgv T KX (by kernel_rfl), mbv T (by kernel_rfl) (by kernel_rfl)⟩
--}2
end
theorem ints_rep {S : Sys} {K : Kn} : ∀ {vs : List Value} {ns : List Int}, IntsAre vs ns → RepL S K vs (ns.map .int)
  | _, _, .nil => .nil
  | _, _, .cons n t h => .cons (.int n t) (ints_rep h)
theorem room0 : Room 12 callerA := ⟨rfl, by decide, by decide⟩
theorem lawWalk {w : World} {s₀ s₁ : Shared} {mg mb : Str → Option Value} {loose' : List Str} {l : Addr} {vals : List Value} {script : List Int} (T : Top view loose' (ExcName.means s₀.heap) mg mb s₁.heap) (KX : (frag w.params).In s₁.heap)
    (hT9 : ∀ P ∈ ([57, 165, 172] : List Addr), s₁.heap.get? P = some (tabObj #[])) (hg : s₁.gens = #[]) (hle : script.length ≤ 63) (hob : ∃ n, s₁.heap.get? l = some (lst vals n)) (hI : IntsAre vals script) :
    wpAny (model PySem.Challenge.rw_in0273_02.row.prog w) callerA (call (.ref 175) [.ref l])
      (fun v s' => GoodWG PySem.Challenge.rw_in0273_02.row.claim (classAt s₀.heap) (ExcName.means s₀.heap) [ofPy (PyData.list (script.map PyData.int))] s₁ (.ok (.ret v)) s')
      (fun e s' => GoodWG PySem.Challenge.rw_in0273_02.row.claim (classAt s₀.heap) (ExcName.means s₀.heap) [ofPy (PyData.list (script.map PyData.int))] s₁ (.error e) s') s₁ := by
  obtain ⟨n, hob⟩ := hob
  have hlT : ([57, 165, 172] : List Addr).contains l = false := by
    rw [Bool.eq_false_iff]
    intro hc
    have hm : l ∈ ([57, 165, 172] : List Addr) := by simpa using hc
    have := hT9 l hm
    rw [hob] at this
    cases this
  have kl : K0of s₁.heap l = some (lst vals n) := by
    unfold K0of
    rw [hlT]
    exact hob
  have okS : Ok (sysOf w s₁ mg mb T.g T.b T.nolimit) (K0of s₁.heap) s₁ := by
    refine ⟨fun a ob e => ?_, Kn.le_refl _, fun P hP => ?_, AllBare.of_eq hg, rfl⟩
    · unfold K0of at e
      split at e
      · cases e
      · exact e
    · refine ⟨?_, #[], hT9 P hP, ?_, ?_⟩
      · show K0of s₁.heap P = none
        unfold K0of
        rw [if_pos (show ([57, 165, 172] : List Addr).contains P = true from by simpa using (show P ∈ ([57, 165, 172] : List Addr) from hP))]
      · exact True.intro
      · intro pos cv e
        cases e
  have rl := ints_rep (S := sysOf w s₁ mg mb T.g T.b T.nolimit) (K := K0of s₁.heap) hI
  refine (fn_law2 (S := sysOf w s₁ mg mb T.g T.b T.nolimit) (k := 0) (plOf T KX) (peOf T KX) (prOf T KX) rfl script hle).call callerA s₁ (K0of s₁.heap) [.ref l] _ _ room0 okS (.cons (.list kl rl.len rl.all) .nil) fun v s' K' le ok' r => ?_
  cases r
  refine ⟨.inl ⟨_, .bool true, [], rfl, fun _ => rfl, .bool true, by kernel_rfl, fun _ => ⟨List.nodup_nil, fun a ha => by cases ha⟩⟩, ⟨fun b ob e => ?_, fun b ob e => ?_⟩, ok'.os, ok'.bare⟩
  all_goals by_cases hb : b ∈ ([57, 165, 172] : List Addr)
  · obtain ⟨_, ps, h2, _⟩ := ok'.tabs b hb
    have h3 := hT9 b hb
    rw [e] at h3
    cases h3
    obtain ⟨c, oc, vs, c1, c2, c3, c4⟩ := code_at w.params b hb
    exact .inr (.inl ⟨⟨c, oc, vs, KX _ _ c1, c2, c3, c4⟩, rfl, #[], ps, rfl, by simpa using h2⟩)
  · exact .inl (le.keep b ob hb e)
  · obtain ⟨_, ps, h2, _⟩ := ok'.tabs b hb
    exact ⟨_, h2⟩
  · exact ⟨_, le.keep b ob hb e⟩
end Mine
theorem PySem.Challenge.cw_in0273_02_holds : PySem.Challenge.rw_in0273_02.Holds := by
  refine holds_law Mine.said fun sd => ?_
  refine holds_open (q := Mine.view) (loose := Mine.loose) (Xt := Mine.seenF) (XP := XL Mine.view []) (Yf := Mine.hook.obs) (Ya := Mine.hook.val) (YP := Mine.hook.says) (N := 4488) Mine.left Mine.hook.of Mine.hook.keeps (fun s e => xl_of s (Bool.and_eq_true_iff.mp e).1) XL.keeps (by rfl) (by rfl) (by rfl) (fun s e => recFacts_of (Bool.and_eq_true_iff.mp e).2) (by rfl) sd (by decide +kernel) ⟨rfl, rfl, rfl, rfl, rfl, by decide +kernel⟩ ?hw ?hc
  case hw => exact ⟨[.list []], by decide +kernel, by decide +kernel⟩
  case hc =>
    k_fill
    intro w s₀ s₁ mg mb G Y fa o pm cd doc dV kV ho hd hcd hD hmg hg args vals as hpre hlay hrd hwl hlo
    have KX := km_in_of Y
    km_tabs Y
    clear ho hd hcd hD
    refine Ground.open G ?_
    intro T B D TE TW
    clear B D TE TW G
    wrow_args hpre hlay hrd hwl hlo
    rename_i script _ _ _ _ _ _ _ l vals _ hL ra w1 r0 hI _ hlen _
    have hT9 : ∀ P ∈ ([57, 165, 172] : List Addr), s₁.heap.get? P = some (tabObj #[]) := fun P hP => hT8 P (by
      simp only [List.mem_cons, List.not_mem_nil, or_false] at hP ⊢
      rcases hP with h | h | h <;> simp [h])
    have e0 : Value.ref fa = .ref 175 := Option.some.inj (hmg.symm.trans (Mine.mgv T KX (x := "law") (v := some (.ref 175)) (by kernel_rfl)))
    rw [e0]
    refine Mine.lawWalk T KX hT9 hg (by omega) ?_ hI
    obtain ⟨o1, h1, h2, n1, h3⟩ := hL
    cases w1 with
    | list h4 h5 =>
      rw [h1] at h4
      cases h4
      cases h3
      exact ⟨_, h1⟩
