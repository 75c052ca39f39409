import PyProof.Rows.All
import Wide.All
import OpenK.AllK
import Wide.FinOn
import KE.KOpsOwn
import KE.KStopIter
import KE.KOwnIter
import KE.KStar
import PyProof.CollectWalk
import Open.Boot
import Lean
import PySem.Challenge.RW_ba0003_01
open PySem PySem.W PyProof.Rows
set_option Elab.async false
set_option linter.unusedVariables false
set_option linter.unusedSimpArgs false
set_option maxRecDepth 100000
namespace EJ
noncomputable section
/-- the names, as the program's text has them -/
noncomputable abbrev S (x : String) : Str := Str.ofString x
noncomputable abbrev en (P : Params) (x : String) (t : Nat) (v : Value) : DictEntry := ⟨PyData.keyHash P (S x), .str (S x) t, v⟩
noncomputable def fdA : Stmt → Arguments
  | .FunctionDef _ a _ _ _ _ _ _ _ _ => a
  | _ => default
noncomputable def fdB : Stmt → List Stmt
  | .FunctionDef _ _ b _ _ _ _ _ _ _ => b
  | _ => []
noncomputable def fdS : Stmt → Scope
  | .FunctionDef _ _ _ _ _ _ s _ _ _ => s
  | _ => default
noncomputable def cdB : Stmt → List Stmt
  | .ClassDef _ _ _ b _ _ _ _ _ _ _ => b
  | _ => []
noncomputable def st1 (i : Nat) : Stmt := (PySem.Challenge.pw_ba0003_01.main.body[i]?).getD (.Pass default)
noncomputable def st2 (i j : Nat) : Stmt := ((cdB (st1 i))[j]?).getD (.Pass default)
noncomputable abbrev vR (a : Addr) : Value := .ref a
noncomputable abbrev vI (a : Int) : Value := .int a 0
noncomputable abbrev vS (x : String) (t : Nat) : Value := .str (S x) t
noncomputable abbrev fG (n q : String) (s : Stmt) : Obj := ⟨.none, none, .func { name := S n, qualname := S q, params := fdA s, body := .stmts (fdB s), scope := fdS s, globals := 0, closure := [], defaults := .none, kwdefaults := .none, doc := .none, pyModule := .none, annotations := none, code := .none, closureTuple := .none, builtins := 0 }, [].toArray⟩
noncomputable abbrev fF (n q : String) (s : Stmt) (d pm co : Value) : Obj := ⟨.type "function", none, .func { name := S n, qualname := S q, params := fdA s, body := .stmts (fdB s), scope := fdS s, globals := 3, closure := [], defaults := d, kwdefaults := .none, doc := .none, pyModule := pm, annotations := none, code := co, closureTuple := .none, builtins := 0 }, [].toArray⟩
noncomputable abbrev cO (n : String) (t1 : Nat) (q : String) (t2 t3 : Nat) (l a b c : Int) (m : List Value) (z : Int) (t4 : Nat) : Obj := ⟨.type "code", none, .fields (.str (S n) t1 :: .str (S q) t2 :: .str (S "/claim/cut.py") t3 :: .int l 0 :: .int a 0 :: .int 0 0 :: .int b 0 :: .int c 0 :: (m ++ [.int z 0, .int l 0, .str (S "/claim/cut.py") t4])).toArray, [].toArray⟩
noncomputable abbrev tU (l : List Value) : Obj := ⟨.type "tuple", none, .seq l.toArray 0, [].toArray⟩
noncomputable abbrev fI (l : List Value) : Obj := ⟨.none, none, .fields l.toArray, [].toArray⟩
noncomputable abbrev dI (l : List DictEntry) (n : Nat) : Obj := ⟨.type "dict", none, .dict l.toArray n, [].toArray⟩
noncomputable def o3 (P : Params) : Obj := dI [en P "__name__" 165 (.str (S "law_ba0003_01") 989), en P "__doc__" 166 .none, en P "__package__" 167 .none, en P "__loader__" 168 (.builtin "__main__.__loader__#opaque"), en P "__spec__" 169 .none, en P "__annotations__" 170 (.ref 6), en P "__builtins__" 171 (.ref 4), en P "__file__" 173 (.str (S "/claim/cut.py") 172), en P "__cached__" 174 .none, en P "partial" 270 (.type "functools.partial"), en P "_wall" 283 (.ref 39), en P "CandidateSet" 333 (.ref 75), en P "str_set_of_candidates" 343 (.ref 86), en P "_is_int" 353 (.ref 93), en P "_whole" 362 (.ref 100), en P "_picked" 373 (.ref 107), en P "combinations" 440 (.ref 140), en P "fraction_parts" 449 (.ref 154), en P "Fraction" 636 (.ref 298), en P "check_EJR" 652 (.ref 310), en P "_check_EJR_brute_force" 672 (.ref 317), en P "Profile" 834 (.ref 453), en P "Voter" 882 (.ref 490), en P "UnknownScoreFunctionError" 913 (.ref 513), en P "get_marginal_scorefct" 923 (.ref 524), en P "thiele_score" 937 (.ref 531), en P "geometric_marginal_score_fct" 945 (.ref 538), en P "pav_score_fct" 952 (.ref 545), en P "adams_score_fct" 959 (.ref 552), en P "slav_score_fct" 966 (.ref 559), en P "av_score_fct" 973 (.ref 566), en P "cc_score_fct" 980 (.ref 573), en P "at_least_ell_fct" 988 (.ref 580), en P "_law_draws" 996 (.ref 585), en P "_law_ballots" 1002 (.ref 590), en P "_law_within" 1008 (.ref 595), en P "_law_score" 1014 (.ref 600), en P "_law_gives" 1020 (.ref 605), en P "_law_neighbours" 1026 (.ref 610), en P "_law_lifted" 1039 (.ref 617), en P "law" 1045 (.ref 622)] 41
noncomputable def o43 : Obj := ⟨(.type "cell"), none, .cell (some (.ref 75)), [].toArray⟩
noncomputable def o49 : Obj := tU [.ref 48, .none]
noncomputable def o56 : Obj := cO "__init__" 298 "CandidateSet.__init__" 299 300 8 3 0 3 [.ref 51, (.bool true), (.int (271) 0), .ref 52, .none, .ref 53, .ref 54, .ref 55] 307 308
noncomputable def o57 : Obj := ⟨(.type "function"), none, .func { name := (S "__init__"), qualname := (S "CandidateSet.__init__"), params := fdA (st2 3 0), body := .stmts (fdB (st2 3 0)), scope := fdS (st2 3 0), globals := 3, closure := [((S "__class__"), 43)], defaults := (.ref 49), kwdefaults := .none, doc := .none, pyModule := (.str (S "abcvoting.misc") 284), annotations := none, code := (.ref 56), closureTuple := (.ref 50), builtins := 0 }, [].toArray⟩
noncomputable def o74 (P : Params) : Obj := dI [en P "__module__" 293 (.str (S "abcvoting.misc") 284), en P "__firstlineno__" 297 (.int (6) 296), en P "__init__" 309 (.ref 57), en P "__str__" 316 (.ref 64), en P "str_with_names" 324 (.ref 72), en P "__static_attributes__" 325 (.ref 73), en P "__dict__" 328 (.ref 76), en P "__doc__" 329 .none] 4
noncomputable def o75 : Obj := ⟨(.type "type"), none, .cls { name := (S "CandidateSet"), bases := [(.type "set")], mro := [.ref 75, (.type "set"), (.type "object")], ns := 74, qualname := (S "CandidateSet"), hasDict := true, slotNames := [], subclasses := [], abstract := false, collection := none, hasDel := false }, [(some (.ref 40)), none, (some (.str (S "CandidateSet") 286)), (some (.str (S "CandidateSet") 294)), (some (.builtin "set.__new__")), (some (.bool true))].toArray⟩
noncomputable def o76 : Obj := ⟨(.type "getset_descriptor"), none, .fields [.str (S "__dict__") 327, .ref 75, (.builtin "function.__dict__"), (.builtin "function.__dict__#set")].toArray, [].toArray⟩
noncomputable def o92 : Obj := cO "_is_int" 346 "_is_int" 347 348 32 1 0 3 [.ref 87, (.bool true), (.int (271) 0), .ref 88, .none, .ref 89, .ref 90, .ref 91] 351 352
noncomputable def o93 : Obj := fF "_is_int" "_is_int" (st1 6) .none (.str (S "itertools") 344) (.ref 92)
noncomputable def o99 : Obj := cO "_whole" 354 "_whole" 355 356 35 3 0 3 [.ref 94, (.bool true), (.int (271) 0), .ref 95, .none, .ref 96, .ref 97, .ref 98] 360 361
noncomputable def o100 : Obj := fF "_whole" "_whole" (st1 7) .none (.str (S "itertools") 344) (.ref 99)
noncomputable def o106 : Obj := cO "_picked" 363 "_picked" 364 365 40 3 0 3 [.ref 101, (.bool true), (.int (271) 0), .ref 102, .none, .ref 103, .ref 104, .ref 105] 371 372
noncomputable def o107 : Obj := fF "_picked" "_picked" (st1 8) .none (.str (S "itertools") 344) (.ref 106)
noncomputable def o115 : Obj := tU [.str (S "_pool") 386, .str (S "_indices") 387, .str (S "_r") 388, .str (S "_first") 389, .str (S "_stopped") 390]
noncomputable def o121 : Obj := cO "__init__" 392 "combinations.__init__" 393 394 50 3 0 3 [.ref 116, (.bool true), (.int (271) 0), .ref 117, .none, .ref 118, .ref 119, .ref 120] 399 400
noncomputable def o122 : Obj := fF "__init__" "combinations.__init__" (st2 9 1) .none (.str (S "itertools") 344) (.ref 121)
noncomputable def o128 : Obj := cO "__iter__" 402 "combinations.__iter__" 403 404 61 1 0 3 [.ref 123, (.bool true), (.int (271) 0), .ref 124, .none, .ref 125, .ref 126, .ref 127] 406 407
noncomputable def o129 : Obj := fF "__iter__" "combinations.__iter__" (st2 9 2) .none (.str (S "itertools") 344) (.ref 128)
noncomputable def o135 : Obj := cO "__next__" 409 "combinations.__next__" 410 411 64 1 0 3 [.ref 130, (.bool true), (.int (271) 0), .ref 131, .none, .ref 132, .ref 133, .ref 134] 419 420
noncomputable def o136 : Obj := fF "__next__" "combinations.__next__" (st2 9 3) .none (.str (S "itertools") 344) (.ref 135)
noncomputable def o139 (P : Params) : Obj := dI [en P "__module__" 381 (.str (S "itertools") 344), en P "__firstlineno__" 385 (.int (47) 384), en P "__slots__" 391 (.ref 115), en P "__init__" 401 (.ref 122), en P "__iter__" 408 (.ref 129), en P "__next__" 421 (.ref 136), en P "__static_attributes__" 427 (.ref 137), en P "_first" 429 (.ref 141), en P "_indices" 431 (.ref 142), en P "_pool" 433 (.ref 143), en P "_r" 435 (.ref 144), en P "_stopped" 437 (.ref 145), en P "__doc__" 438 .none] 7
noncomputable def o140 : Obj := ⟨(.type "type"), none, .cls { name := (S "combinations"), bases := [(.type "object")], mro := [.ref 140, (.type "object")], ns := 139, qualname := (S "combinations"), hasDict := false, slotNames := [(S "_first"), (S "_indices"), (S "_pool"), (S "_r"), (S "_stopped")], subclasses := [], abstract := false, collection := none, hasDel := false }, [none, none, (some (.str (S "combinations") 374)), (some (.str (S "combinations") 382)), (some (.builtin "object.__new__")), (some (.bool false))].toArray⟩
noncomputable def o141 : Obj := ⟨(.type "member_descriptor"), none, .fields [.str (S "_first") 428, .ref 140, (.builtin "proto.slot"), (.builtin "proto.slot#set"), (.int (4) 0)].toArray, [].toArray⟩
noncomputable def o142 : Obj := ⟨(.type "member_descriptor"), none, .fields [.str (S "_indices") 430, .ref 140, (.builtin "proto.slot"), (.builtin "proto.slot#set"), (.int (3) 0)].toArray, [].toArray⟩
noncomputable def o143 : Obj := ⟨(.type "member_descriptor"), none, .fields [.str (S "_pool") 432, .ref 140, (.builtin "proto.slot"), (.builtin "proto.slot#set"), (.int (2) 0)].toArray, [].toArray⟩
noncomputable def o144 : Obj := ⟨(.type "member_descriptor"), none, .fields [.str (S "_r") 434, .ref 140, (.builtin "proto.slot"), (.builtin "proto.slot#set"), (.int (1) 0)].toArray, [].toArray⟩
noncomputable def o145 : Obj := ⟨(.type "member_descriptor"), none, .fields [.str (S "_stopped") 436, .ref 140, (.builtin "proto.slot"), (.builtin "proto.slot#set"), (.int (0) 0)].toArray, [].toArray⟩
noncomputable def o153 : Obj := cO "fraction_parts" 443 "fraction_parts" 444 445 87 1 0 3 [.ref 148, (.bool true), (.int (271) 0), .ref 149, .none, .ref 150, .ref 151, .ref 152] 447 448
noncomputable def o154 : Obj := fF "fraction_parts" "fraction_parts" (st1 11) .none (.str (S "abcvoting.misc") 441) (.ref 153)
noncomputable def o162 : Obj := tU [(.int (0) 462), (.int (1) 463)]
noncomputable def o168 : Obj := cO "__init__" 464 "Fraction.__init__" 465 466 95 3 0 3 [.ref 163, (.bool true), (.int (271) 0), .ref 164, .none, .ref 165, .ref 166, .ref 167] 476 477
noncomputable def o169 : Obj := fF "__init__" "Fraction.__init__" (st2 12 0) (.ref 162) (.str (S "abcvoting.misc") 441) (.ref 168)
noncomputable def o189 : Obj := cO "floor" 493 "Fraction.floor" 494 495 115 1 0 3 [.ref 184, (.bool true), (.int (271) 0), .ref 185, .none, .ref 186, .ref 187, .ref 188] 497 498
noncomputable def o190 : Obj := fF "floor" "Fraction.floor" (st2 12 3) .none (.str (S "abcvoting.misc") 441) (.ref 189)
noncomputable def o196 : Obj := cO "ceil" 500 "Fraction.ceil" 501 502 118 1 0 3 [.ref 191, (.bool true), (.int (271) 0), .ref 192, .none, .ref 193, .ref 194, .ref 195] 504 505
noncomputable def o197 : Obj := fF "ceil" "Fraction.ceil" (st2 12 4) .none (.str (S "abcvoting.misc") 441) (.ref 196)
noncomputable def o210 : Obj := cO "__add__" 514 "Fraction.__add__" 515 516 124 2 0 3 [.ref 205, (.bool true), (.int (271) 0), .ref 206, .none, .ref 207, .ref 208, .ref 209] 521 522
noncomputable def o211 : Obj := fF "__add__" "Fraction.__add__" (st2 12 6) .none (.str (S "abcvoting.misc") 441) (.ref 210)
noncomputable def o217 : Obj := cO "__radd__" 524 "Fraction.__radd__" 525 526 128 2 0 3 [.ref 212, (.bool true), (.int (271) 0), .ref 213, .none, .ref 214, .ref 215, .ref 216] 529 530
noncomputable def o218 : Obj := fF "__radd__" "Fraction.__radd__" (st2 12 7) .none (.str (S "abcvoting.misc") 441) (.ref 217)
noncomputable def o238 : Obj := cO "__mul__" 548 "Fraction.__mul__" 549 550 137 2 0 3 [.ref 233, (.bool true), (.int (271) 0), .ref 234, .none, .ref 235, .ref 236, .ref 237] 555 556
noncomputable def o239 : Obj := fF "__mul__" "Fraction.__mul__" (st2 12 10) .none (.str (S "abcvoting.misc") 441) (.ref 238)
noncomputable def o245 : Obj := cO "__rmul__" 558 "Fraction.__rmul__" 559 560 141 2 0 3 [.ref 240, (.bool true), (.int (271) 0), .ref 241, .none, .ref 242, .ref 243, .ref 244] 563 564
noncomputable def o246 : Obj := fF "__rmul__" "Fraction.__rmul__" (st2 12 11) .none (.str (S "abcvoting.misc") 441) (.ref 245)
noncomputable def o266 : Obj := cO "__eq__" 582 "Fraction.__eq__" 583 584 150 2 0 3 [.ref 261, (.bool true), (.int (271) 0), .ref 262, .none, .ref 263, .ref 264, .ref 265] 587 588
noncomputable def o267 : Obj := fF "__eq__" "Fraction.__eq__" (st2 12 14) .none (.str (S "abcvoting.misc") 441) (.ref 266)
noncomputable def o297 (P : Params) : Obj := dI [en P "__module__" 457 (.str (S "abcvoting.misc") 441), en P "__firstlineno__" 461 (.int (93) 460), en P "__init__" 478 (.ref 169), en P "__bool__" 485 (.ref 176), en P "__str__" 492 (.ref 183), en P "floor" 499 (.ref 190), en P "ceil" 506 (.ref 197), en P "__neg__" 513 (.ref 204), en P "__add__" 523 (.ref 211), en P "__radd__" 531 (.ref 218), en P "__sub__" 539 (.ref 225), en P "__rsub__" 547 (.ref 232), en P "__mul__" 557 (.ref 239), en P "__rmul__" 565 (.ref 246), en P "__truediv__" 573 (.ref 253), en P "__rtruediv__" 581 (.ref 260), en P "__eq__" 589 (.ref 267), en P "__lt__" 599 (.ref 274), en P "__le__" 609 (.ref 281), en P "__gt__" 617 (.ref 288), en P "__ge__" 625 (.ref 295), en P "__static_attributes__" 628 (.ref 296), en P "__dict__" 630 (.ref 299), en P "__weakref__" 632 (.ref 300), en P "__doc__" 633 .none, en P "__hash__" 634 .none] 5
noncomputable def o298 : Obj := ⟨(.type "type"), none, .cls { name := (S "Fraction"), bases := [(.type "object")], mro := [.ref 298, (.type "object")], ns := 297, qualname := (S "Fraction"), hasDict := true, slotNames := [], subclasses := [], abstract := false, collection := none, hasDel := false }, [none, none, (some (.str (S "Fraction") 450)), (some (.str (S "Fraction") 458)), (some (.builtin "object.__new__")), (some (.bool true))].toArray⟩
noncomputable def o299 : Obj := ⟨(.type "getset_descriptor"), none, .fields [.str (S "__dict__") 629, .ref 298, (.builtin "function.__dict__"), (.builtin "function.__dict__#set")].toArray, [].toArray⟩
noncomputable def o303 : Obj := tU [.none, .str (S "fastest") 639]
noncomputable def o309 : Obj := cO "check_EJR" 640 "check_EJR" 641 642 167 4 0 3 [.ref 304, (.bool true), (.int (271) 0), .ref 305, .none, .ref 306, .ref 307, .ref 308] 650 651
noncomputable def o310 : Obj := fF "check_EJR" "check_EJR" (st1 14) (.ref 303) (.str (S "abcvoting.properties") 637) (.ref 309)
noncomputable def o316 : Obj := cO "_check_EJR_brute_force" 653 "_check_EJR_brute_force" 654 655 181 3 0 3 [.ref 311, (.bool true), (.int (271) 0), .ref 312, .none, .ref 313, .ref 314, .ref 315] 670 671
noncomputable def o317 : Obj := fF "_check_EJR_brute_force" "_check_EJR_brute_force" (st1 15) .none (.str (S "abcvoting.properties") 637) (.ref 316)
noncomputable def o325 : Obj := tU [.none]
noncomputable def o329 : Obj := cO "__init__" 687 "Profile.__init__" 688 689 203 3 0 3 [.ref 326, (.bool true), (.int (271) 0), .ref 327, .none, .none, .none, .ref 328] 690 691
noncomputable def o330 : Obj := fF "__init__" "Profile.__init__" (st2 17 0) (.ref 325) (.str (S "abcvoting.preferences") 673) (.ref 329)
noncomputable def o336 : Obj := cO "num_cand" 693 "Profile.num_cand" 694 695 214 1 0 3 [.ref 331, (.bool true), (.int (271) 0), .ref 332, .none, .ref 333, .ref 334, .ref 335] 697 698
noncomputable def o337 : Obj := fF "num_cand" "Profile.num_cand" (st2 17 1) .none (.str (S "abcvoting.preferences") 673) (.ref 336)
noncomputable def o338 : Obj := ⟨(.type "property"), none, .fields [.ref 337, .none, .none, .none, .str (S "num_cand") 700, (.bool false)].toArray, [].toArray⟩
noncomputable def o358 : Obj := cO "_unique_voter" 715 "Profile._unique_voter" 716 717 224 2 0 3 [.ref 353, (.bool true), (.int (271) 0), .ref 354, .none, .ref 355, .ref 356, .ref 357] 721 722
noncomputable def o359 : Obj := fF "_unique_voter" "Profile._unique_voter" (st2 17 4) .none (.str (S "abcvoting.preferences") 673) (.ref 358)
noncomputable def o365 : Obj := cO "add_voter" 724 "Profile.add_voter" 725 726 231 2 0 3 [.ref 360, (.bool true), (.int (271) 0), .ref 361, .none, .ref 362, .ref 363, .ref 364] 729 730
noncomputable def o366 : Obj := fF "add_voter" "Profile.add_voter" (st2 17 5) .none (.str (S "abcvoting.preferences") 673) (.ref 365)
noncomputable def o372 : Obj := cO "add_voters" 732 "Profile.add_voters" 733 734 234 2 0 3 [.ref 367, (.bool true), (.int (271) 0), .ref 368, .none, .ref 369, .ref 370, .ref 371] 738 739
noncomputable def o373 : Obj := fF "add_voters" "Profile.add_voters" (st2 17 6) .none (.str (S "abcvoting.preferences") 673) (.ref 372)
noncomputable def o379 : Obj := cO "total_weight" 741 "Profile.total_weight" 742 743 238 1 0 3 [.ref 374, (.bool true), (.int (271) 0), .ref 375, .none, .ref 376, .ref 377, .ref 378] 745 746
noncomputable def o380 : Obj := fF "total_weight" "Profile.total_weight" (st2 17 7) .none (.str (S "abcvoting.preferences") 673) (.ref 379)
noncomputable def o407 : Obj := cO "__iter__" 769 "Profile.__iter__" 770 771 250 1 0 3 [.ref 402, (.bool true), (.int (271) 0), .ref 403, .none, .ref 404, .ref 405, .ref 406] 773 774
noncomputable def o408 : Obj := fF "__iter__" "Profile.__iter__" (st2 17 11) .none (.str (S "abcvoting.preferences") 673) (.ref 407)
noncomputable def o414 : Obj := cO "__getitem__" 776 "Profile.__getitem__" 777 778 253 2 0 3 [.ref 409, (.bool true), (.int (271) 0), .ref 410, .none, .ref 411, .ref 412, .ref 413] 781 782
noncomputable def o415 : Obj := fF "__getitem__" "Profile.__getitem__" (st2 17 12) .none (.str (S "abcvoting.preferences") 673) (.ref 414)
noncomputable def o452 (P : Params) : Obj := dI [en P "__module__" 682 (.str (S "abcvoting.preferences") 673), en P "__firstlineno__" 686 (.int (201) 685), en P "__init__" 692 (.ref 330), en P "num_cand" 700 (.ref 338), en P "approved_candidates" 707 (.ref 345), en P "__len__" 714 (.ref 352), en P "_unique_voter" 723 (.ref 359), en P "add_voter" 731 (.ref 366), en P "add_voters" 740 (.ref 373), en P "total_weight" 747 (.ref 380), en P "has_unit_weights" 754 (.ref 387), en P "convert_to_unit_weights" 761 (.ref 394), en P "convert_to_weighted" 768 (.ref 401), en P "__iter__" 775 (.ref 408), en P "__getitem__" 783 (.ref 415), en P "__setitem__" 792 (.ref 422), en P "__str__" 802 (.ref 429), en P "copy" 809 (.ref 436), en P "is_party_list" 816 (.ref 443), en P "str_compact" 823 (.ref 450), en P "__static_attributes__" 827 (.ref 451), en P "__dict__" 829 (.ref 454), en P "__weakref__" 831 (.ref 455), en P "__doc__" 832 .none] 4
noncomputable def o453 : Obj := ⟨(.type "type"), none, .cls { name := (S "Profile"), bases := [(.type "object")], mro := [.ref 453, (.type "object")], ns := 452, qualname := (S "Profile"), hasDict := true, slotNames := [], subclasses := [], abstract := false, collection := none, hasDel := false }, [none, none, (some (.str (S "Profile") 675)), (some (.str (S "Profile") 683)), (some (.builtin "object.__new__")), (some (.bool true))].toArray⟩
noncomputable def o465 : Obj := tU [(.int (1) 847), .none]
noncomputable def o471 : Obj := cO "__init__" 848 "Voter.__init__" 849 850 281 4 0 3 [.ref 466, (.bool true), (.int (271) 0), .ref 467, .none, .ref 468, .ref 469, .ref 470] 855 856
noncomputable def o472 : Obj := fF "__init__" "Voter.__init__" (st2 18 0) (.ref 465) (.str (S "abcvoting.preferences") 673) (.ref 471)
noncomputable def o489 (P : Params) : Obj := dI [en P "__module__" 842 (.str (S "abcvoting.preferences") 673), en P "__firstlineno__" 846 (.int (279) 845), en P "__init__" 857 (.ref 472), en P "__str__" 864 (.ref 479), en P "str_with_names" 872 (.ref 487), en P "__static_attributes__" 875 (.ref 488), en P "__dict__" 877 (.ref 491), en P "__weakref__" 879 (.ref 492), en P "__doc__" 880 .none] 4
noncomputable def o490 : Obj := ⟨(.type "type"), none, .cls { name := (S "Voter"), bases := [(.type "object")], mro := [.ref 490, (.type "object")], ns := 489, qualname := (S "Voter"), hasDict := true, slotNames := [], subclasses := [], abstract := false, collection := none, hasDel := false }, [none, none, (some (.str (S "Voter") 835)), (some (.str (S "Voter") 843)), (some (.builtin "object.__new__")), (some (.bool true))].toArray⟩
noncomputable def o517 : Obj := tU [.none]
noncomputable def o523 : Obj := cO "get_marginal_scorefct" 914 "get_marginal_scorefct" 915 916 298 2 0 3 [.ref 518, (.bool true), (.int (271) 0), .ref 519, .none, .ref 520, .ref 521, .ref 522] 921 922
noncomputable def o524 : Obj := fF "get_marginal_scorefct" "get_marginal_scorefct" (st1 21) (.ref 517) (.str (S "abcvoting.scores") 883) (.ref 523)
noncomputable def o530 : Obj := cO "thiele_score" 924 "thiele_score" 925 926 316 3 0 3 [.ref 525, (.bool true), (.int (271) 0), .ref 526, .none, .ref 527, .ref 528, .ref 529] 935 936
noncomputable def o531 : Obj := fF "thiele_score" "thiele_score" (st1 22) .none (.str (S "abcvoting.scores") 883) (.ref 530)
noncomputable def o544 : Obj := cO "pav_score_fct" 946 "pav_score_fct" 947 948 329 1 0 3 [.ref 539, (.bool true), (.int (271) 0), .ref 540, .none, .ref 541, .ref 542, .ref 543] 950 951
noncomputable def o545 : Obj := fF "pav_score_fct" "pav_score_fct" (st1 24) .none (.str (S "abcvoting.scores") 883) (.ref 544)
noncomputable def o584 : Obj := cO "_law_draws" 991 "_law_draws" 992 993 356 2 0 3 [.ref 581, (.bool true), (.int (271) 0), .ref 582, .none, .none, .none, .ref 583] 994 995
noncomputable def o585 : Obj := fF "_law_draws" "_law_draws" (st1 31) .none (.str (S "law_ba0003_01") 989) (.ref 584)
noncomputable def o589 : Obj := cO "_law_ballots" 997 "_law_ballots" 998 999 359 2 0 3 [.ref 586, (.bool true), (.int (271) 0), .ref 587, .none, .none, .none, .ref 588] 1000 1001
noncomputable def o590 : Obj := fF "_law_ballots" "_law_ballots" (st1 32) .none (.str (S "law_ba0003_01") 989) (.ref 589)
noncomputable def o594 : Obj := cO "_law_within" 1003 "_law_within" 1004 1005 361 1 0 3 [.ref 591, (.bool true), (.int (271) 0), .ref 592, .none, .none, .none, .ref 593] 1006 1007
noncomputable def o595 : Obj := fF "_law_within" "_law_within" (st1 33) .none (.str (S "law_ba0003_01") 989) (.ref 594)
noncomputable def o599 : Obj := cO "_law_score" 1009 "_law_score" 1010 1011 366 2 0 3 [.ref 596, (.bool true), (.int (271) 0), .ref 597, .none, .none, .none, .ref 598] 1012 1013
noncomputable def o600 : Obj := fF "_law_score" "_law_score" (st1 34) .none (.str (S "law_ba0003_01") 989) (.ref 599)
noncomputable def o604 : Obj := cO "_law_gives" 1015 "_law_gives" 1016 1017 368 3 0 3 [.ref 601, (.bool true), (.int (271) 0), .ref 602, .none, .none, .none, .ref 603] 1018 1019
noncomputable def o605 : Obj := fF "_law_gives" "_law_gives" (st1 35) .none (.str (S "law_ba0003_01") 989) (.ref 604)
noncomputable def o609 : Obj := cO "_law_neighbours" 1021 "_law_neighbours" 1022 1023 376 2 0 3 [.ref 606, (.bool true), (.int (271) 0), .ref 607, .none, .none, .none, .ref 608] 1024 1025
noncomputable def o610 : Obj := fF "_law_neighbours" "_law_neighbours" (st1 36) .none (.str (S "law_ba0003_01") 989) (.ref 609)
noncomputable def o616 : Obj := cO "_law_lifted" 1027 "_law_lifted" 1028 1029 381 3 0 3 [.ref 611, (.bool true), (.int (271) 0), .ref 612, .none, .ref 613, .ref 614, .ref 615] 1037 1038
noncomputable def o617 : Obj := fF "_law_lifted" "_law_lifted" (st1 37) .none (.str (S "law_ba0003_01") 989) (.ref 616)
noncomputable def o621 : Obj := cO "law" 1040 "law" 1041 1042 388 1 0 3 [.ref 618, (.bool true), (.int (271) 0), .ref 619, .none, .none, .none, .ref 620] 1043 1044
noncomputable def o622 : Obj := fF "law" "law" (st1 38) .none (.str (S "law_ba0003_01") 989) (.ref 621)
noncomputable def o4 : Obj := ⟨(.type "module"), (some 0), .plain, [].toArray⟩
noncomputable def o52 : Obj := fI []
noncomputable def o375 : Obj := fI []
noncomputable def o312 : Obj := fI []
noncomputable def Kf (P : Params) : Frag := [(3, o3 P), (43, o43), (49, o49), (56, o56), (57, o57), (74, o74 P), (75, o75), (76, o76), (92, o92), (93, o93), (99, o99), (100, o100), (106, o106), (107, o107), (115, o115), (121, o121), (122, o122), (128, o128), (129, o129), (135, o135), (136, o136), (139, o139 P), (140, o140), (141, o141), (142, o142), (143, o143), (144, o144), (145, o145), (153, o153), (154, o154), (162, o162), (168, o168), (169, o169), (189, o189), (190, o190), (196, o196), (197, o197), (210, o210), (211, o211), (217, o217), (218, o218), (238, o238), (239, o239), (245, o245), (246, o246), (266, o266), (267, o267), (297, o297 P), (298, o298), (299, o299), (303, o303), (309, o309), (310, o310), (316, o316), (317, o317), (325, o325), (329, o329), (330, o330), (336, o336), (337, o337), (338, o338), (358, o358), (359, o359), (365, o365), (366, o366), (372, o372), (373, o373), (379, o379), (380, o380), (407, o407), (408, o408), (414, o414), (415, o415), (452, o452 P), (453, o453), (465, o465), (471, o471), (472, o472), (489, o489 P), (490, o490), (517, o517), (523, o523), (524, o524), (530, o530), (531, o531), (544, o544), (545, o545), (584, o584), (585, o585), (589, o589), (590, o590), (594, o594), (595, o595), (599, o599), (600, o600), (604, o604), (605, o605), (609, o609), (610, o610), (616, o616), (617, o617), (621, o621), (622, o622), (4, o4)]

/-- with the three tables of constants that generator expressions let grow -/
noncomputable def Kt (P : Params) : Frag := Kf P ++ [(52, o52), (375, o375), (312, o312)]
noncomputable def Ka : List Addr := [3, 43, 49, 56, 57, 74, 75, 76, 92, 93, 99, 100, 106, 107, 115, 121, 122, 128, 129, 135, 136, 139, 140, 141, 142, 143, 144, 145, 153, 154, 162, 168, 169, 189, 190, 196, 197, 210, 211, 217, 218, 238, 239, 245, 246, 266, 267, 297, 298, 299, 303, 309, 310, 316, 317, 325, 329, 330, 336, 337, 338, 358, 359, 365, 366, 372, 373, 379, 380, 407, 408, 414, 415, 452, 453, 465, 471, 472, 489, 490, 517, 523, 524, 530, 531, 544, 545, 584, 585, 589, 590, 594, 595, 599, 600, 604, 605, 609, 610, 616, 617, 621, 622, 4] ++ [52, 375, 312]
/-! the top's run, in pieces of its own: states as texts -/
noncomputable def Ls : Life := { registered := [], finalised := [], alive := [], known := 0, ids := [], orphanDicts := [], counting := false, cnt := #[], zero := [], soft := 0 }
noncomputable def Ds : Drawn := ⟨0, 0, 0, 0⟩
noncomputable def hs_0 (P : Params) : Obj := dI [en P "__name__" 1 (vS "builtins" 160), en P "__doc__" 2 (.builtin "builtins.__doc__:str#opaque"), en P "__package__" 3 (.builtin "builtins.__package__:str#opaque"), en P "__loader__" 4 (.builtin "builtins.__loader__:shared#opaque"), en P "__spec__" 5 (.builtin "builtins.__spec__#opaque"), en P "__build_class__" 6 (.builtin "__build_class__"), en P "__import__" 7 (.builtin "__import__"), en P "abs" 8 (.builtin "abs"), en P "all" 9 (.builtin "all"), en P "any" 10 (.builtin "any"), en P "ascii" 11 (.builtin "ascii"), en P "bin" 12 (.builtin "bin"), en P "breakpoint" 13 (.builtin "breakpoint"), en P "callable" 14 (.builtin "callable"), en P "chr" 15 (.builtin "chr"), en P "compile" 16 (.builtin "compile"), en P "delattr" 17 (.builtin "delattr"), en P "dir" 18 (.builtin "dir"), en P "divmod" 19 (.builtin "divmod"), en P "eval" 20 (.builtin "eval"), en P "exec" 21 (.builtin "exec"), en P "format" 22 (.builtin "format"), en P "getattr" 23 (.builtin "getattr"), en P "globals" 24 (.builtin "globals"), en P "hasattr" 25 (.builtin "hasattr"), en P "hash" 26 (.builtin "hash"), en P "hex" 27 (.builtin "hex"), en P "id" 28 (.builtin "id"), en P "input" 29 (.builtin "input"), en P "isinstance" 30 (.builtin "isinstance"), en P "issubclass" 31 (.builtin "issubclass"), en P "iter" 32 (.builtin "iter"), en P "aiter" 33 (.builtin "aiter"), en P "len" 34 (.builtin "len"), en P "locals" 35 (.builtin "locals"), en P "max" 36 (.builtin "max"), en P "min" 37 (.builtin "min"), en P "next" 38 (.builtin "next"), en P "anext" 39 (.builtin "anext"), en P "oct" 40 (.builtin "oct"), en P "ord" 41 (.builtin "ord"), en P "pow" 42 (.builtin "pow"), en P "print" 43 (.builtin "print"), en P "repr" 44 (.builtin "repr"), en P "round" 45 (.builtin "round"), en P "setattr" 46 (.builtin "setattr"), en P "sorted" 47 (.builtin "sorted"), en P "sum" 48 (.builtin "sum"), en P "vars" 49 (.builtin "vars"), en P "None" 50 .none, en P "Ellipsis" 51 .ellipsis, en P "NotImplemented" 52 .notImplemented, en P "False" 53 (.bool false), en P "True" 54 (.bool true), en P "bool" 55 (.type "bool"), en P "memoryview" 56 (.type "memoryview"), en P "bytearray" 57 (.type "bytearray"), en P "bytes" 58 (.type "bytes"), en P "classmethod" 59 (.type "classmethod"), en P "complex" 60 (.type "complex"), en P "dict" 61 (.type "dict"), en P "enumerate" 62 (.type "enumerate"), en P "filter" 63 (.type "filter"), en P "float" 64 (.type "float"), en P "frozenset" 65 (.type "frozenset"), en P "property" 66 (.type "property"), en P "int" 67 (.type "int"), en P "list" 68 (.type "list"), en P "map" 69 (.type "map"), en P "object" 70 (.type "object"), en P "range" 71 (.type "range"), en P "reversed" 72 (.type "reversed"), en P "set" 73 (.type "set"), en P "slice" 74 (.type "slice"), en P "staticmethod" 75 (.type "staticmethod"), en P "str" 76 (.type "str"), en P "super" 77 (.type "super"), en P "tuple" 78 (.type "tuple"), en P "type" 79 (.type "type"), en P "zip" 80 (.type "zip"), en P "__debug__" 81 (.bool true), en P "BaseException" 82 (.type "BaseException"), en P "BaseExceptionGroup" 83 (.type "BaseExceptionGroup"), en P "Exception" 84 (.type "Exception"), en P "GeneratorExit" 85 (.type "GeneratorExit"), en P "KeyboardInterrupt" 86 (.type "KeyboardInterrupt"), en P "SystemExit" 87 (.type "SystemExit"), en P "ArithmeticError" 88 (.type "ArithmeticError"), en P "AssertionError" 89 (.type "AssertionError"), en P "AttributeError" 90 (.type "AttributeError"), en P "BufferError" 91 (.type "BufferError"), en P "EOFError" 92 (.type "EOFError"), en P "ImportError" 93 (.type "ImportError"), en P "LookupError" 94 (.type "LookupError"), en P "MemoryError" 95 (.type "MemoryError"), en P "NameError" 96 (.type "NameError"), en P "OSError" 97 (.type "OSError"), en P "ReferenceError" 98 (.type "ReferenceError"), en P "RuntimeError" 99 (.type "RuntimeError"), en P "StopAsyncIteration" 100 (.type "StopAsyncIteration"), en P "StopIteration" 101 (.type "StopIteration"), en P "SyntaxError" 102 (.type "SyntaxError"), en P "SystemError" 103 (.type "SystemError"), en P "TypeError" 104 (.type "TypeError"), en P "ValueError" 105 (.type "ValueError"), en P "Warning" 106 (.type "Warning"), en P "FloatingPointError" 107 (.type "FloatingPointError"), en P "OverflowError" 108 (.type "OverflowError"), en P "ZeroDivisionError" 109 (.type "ZeroDivisionError"), en P "BytesWarning" 110 (.type "BytesWarning"), en P "DeprecationWarning" 111 (.type "DeprecationWarning"), en P "EncodingWarning" 112 (.type "EncodingWarning"), en P "FutureWarning" 113 (.type "FutureWarning"), en P "ImportWarning" 114 (.type "ImportWarning"), en P "PendingDeprecationWarning" 115 (.type "PendingDeprecationWarning"), en P "ResourceWarning" 116 (.type "ResourceWarning"), en P "RuntimeWarning" 117 (.type "RuntimeWarning"), en P "SyntaxWarning" 118 (.type "SyntaxWarning"), en P "UnicodeWarning" 119 (.type "UnicodeWarning"), en P "UserWarning" 120 (.type "UserWarning"), en P "BlockingIOError" 121 (.type "BlockingIOError"), en P "ChildProcessError" 122 (.type "ChildProcessError"), en P "ConnectionError" 123 (.type "ConnectionError"), en P "FileExistsError" 124 (.type "FileExistsError"), en P "FileNotFoundError" 125 (.type "FileNotFoundError"), en P "InterruptedError" 126 (.type "InterruptedError"), en P "IsADirectoryError" 127 (.type "IsADirectoryError"), en P "NotADirectoryError" 128 (.type "NotADirectoryError"), en P "PermissionError" 129 (.type "PermissionError"), en P "ProcessLookupError" 130 (.type "ProcessLookupError"), en P "TimeoutError" 131 (.type "TimeoutError"), en P "IndentationError" 132 (.type "IndentationError"), en P "_IncompleteInputError" 133 (.type "_IncompleteInputError"), en P "IndexError" 134 (.type "IndexError"), en P "KeyError" 135 (.type "KeyError"), en P "ModuleNotFoundError" 136 (.type "ModuleNotFoundError"), en P "NotImplementedError" 137 (.type "NotImplementedError"), en P "PythonFinalizationError" 138 (.type "PythonFinalizationError"), en P "RecursionError" 139 (.type "RecursionError"), en P "UnboundLocalError" 140 (.type "UnboundLocalError"), en P "UnicodeError" 141 (.type "UnicodeError"), en P "BrokenPipeError" 142 (.type "BrokenPipeError"), en P "ConnectionAbortedError" 143 (.type "ConnectionAbortedError"), en P "ConnectionRefusedError" 144 (.type "ConnectionRefusedError"), en P "ConnectionResetError" 145 (.type "ConnectionResetError"), en P "TabError" 146 (.type "TabError"), en P "UnicodeDecodeError" 147 (.type "UnicodeDecodeError"), en P "UnicodeEncodeError" 148 (.type "UnicodeEncodeError"), en P "UnicodeTranslateError" 149 (.type "UnicodeTranslateError"), en P "ExceptionGroup" 150 (.type "ExceptionGroup"), en P "EnvironmentError" 151 (.type "OSError"), en P "IOError" 152 (.type "OSError"), en P "open" 153 (.builtin "open"), en P "quit" 154 (.builtin "builtins.quit#opaque"), en P "exit" 155 (.builtin "builtins.exit#opaque"), en P "copyright" 156 (.builtin "builtins.copyright#opaque"), en P "credits" 157 (.builtin "builtins.credits#opaque"), en P "license" 158 (.builtin "builtins.license#opaque"), en P "help" 159 (.builtin "builtins.help#opaque")] 159
noncomputable def hs_1 (P : Params) : Obj := dI [en P "builtins" 162 (vR 4), en P "__main__" 163 (vR 5), en P "_functools" 246 (vR 13)] 3
noncomputable def hs_2 (P : Params) : Obj := ⟨.none, none, .dict [en P "\x69mport.loaded._functools" 185 (.bool true), en P "class._frozen_importlib.BuiltinImporter" 187 (vR 15), en P "watched.\x69mport" 208 (vR 19), en P "class._frozen_importlib.ModuleSpec" 218 (vR 23), en P "sys.modules.booked-epoch" 247 (vI 3), en P "sys.modules.landed._functools" 248 (.bool true), en P "\x69mport.later-laid._functools" 261 (.bool true), en P "watched.library" 263 (vR 28), en P "watched.library-objects" 0 (vS "\x0d" 0), en P "watched.library-deep._functools" 264 (vS "\x04\x00\x00\x0c\x04\x00\x00\x0c\x04\x00\x00\x03\x04\x00\x00\x0c\x08\x04dict\x02" 0)].toArray 10, [].toArray⟩
noncomputable def hs_3 (P : Params) : Obj := dI [en P "__name__" 165 (vS "__main__" 164), en P "__doc__" 166 .none, en P "__package__" 167 .none, en P "__loader__" 168 (.builtin "__main__.__loader__#opaque"), en P "__spec__" 169 .none, en P "__annotations__" 170 (vR 6), en P "__builtins__" 171 (vR 4), en P "__file__" 173 (vS "/claim/cut.py" 172), en P "__cached__" 174 .none, en P "partial" 270 (.type "functools.partial")] 10
noncomputable def hs_5 : Obj := ⟨(.type "module"), (some 3), .plain, [].toArray⟩
noncomputable def hs_6 : Obj := dI [] 0
noncomputable def hs_7 : Obj := tU []
noncomputable def hs_9 : Obj := cO "<module>" 176 "<module>" 177 178 1 0 0 0 [vR 7, (.bool false), vI 175, vR 8, .none, .none, .none, .none] 179 180
noncomputable def hs_10 : Obj := ⟨(.type "frame"), none, .plain, [(some (vR 9)), (some (vR 3)), (some (vR 3)), none, (some (vS "__main__" 164)), none, (some (vR 0))].toArray⟩
noncomputable def hs_11 : Obj := tU [vS "partial" 182]
noncomputable def hs_12 (P : Params) : Obj := dI [en P "__name__" 250 (vS "_functools" 249), en P "__doc__" 252 (vS "Tools that operate on functions." 251), en P "__package__" 254 (vS "" 253), en P "__loader__" 255 (.builtin "off-the-table:_functools.__loader__:shared#opaque"), en P "__spec__" 256 (.builtin "off-the-table:_functools.__spec__:shared#opaque"), en P "reduce" 257 (.builtin "_functools.reduce"), en P "cmp_to_key" 258 (.builtin "_functools.cmp_to_key"), en P "partial" 259 (.type "functools.partial"), en P "_lru_cache_wrapper" 260 (.type "functools._lru_cache_wrapper")] 9
noncomputable def hs_13 : Obj := ⟨(.type "module"), (some 12), .plain, [].toArray⟩
noncomputable def hs_14 (P : Params) : Obj := dI [en P "__module__" 191 (vS "_frozen_importlib" 188), en P "__firstlineno__" 192 (.int (971) 189), en P "__doc__" 193 (.builtin "_frozen_importlib.BuiltinImporter.__doc__:str#opaque"), en P "_ORIGIN" 194 (vS "built-in" 190), en P "find_spec" 195 (.builtin "_frozen_importlib.BuiltinImporter.find_spec#opaque"), en P "create_module" 196 (.builtin "_frozen_importlib.BuiltinImporter.create_module#opaque"), en P "exec_module" 197 (.builtin "_frozen_importlib.BuiltinImporter.exec_module#opaque"), en P "get_code" 198 (.builtin "_frozen_importlib.BuiltinImporter.get_code#opaque"), en P "get_source" 199 (.builtin "_frozen_importlib.BuiltinImporter.get_source#opaque"), en P "is_package" 200 (.builtin "_frozen_importlib.BuiltinImporter.is_package#opaque"), en P "load_module" 201 (.builtin "_frozen_importlib.BuiltinImporter.load_module#opaque"), en P "__static_attributes__" 202 (vR 16), en P "__dict__" 204 (vR 17), en P "__weakref__" 206 (vR 18)] 14
noncomputable def hs_15 : Obj := ⟨(.type "type"), none, .cls { name := (S "BuiltinImporter"), bases := [(.type "object")], mro := [vR 15, (.type "object")], ns := 14, qualname := (S "BuiltinImporter"), hasDict := true, slotNames := [], subclasses := [], abstract := false, collection := none, hasDel := false }, [].toArray⟩
noncomputable def hs_17 : Obj := ⟨(.type "getset_descriptor"), none, .fields [vS "__dict__" 203, vR 15, (.builtin "function.__dict__"), (.builtin "function.__dict__#set")].toArray, [].toArray⟩
noncomputable def hs_18 : Obj := ⟨(.type "getset_descriptor"), none, .fields [vS "__weakref__" 205, vR 15, (.builtin "ExceptionGroup.__weakref__"), .none].toArray, [].toArray⟩
noncomputable def hs_19 : Obj := ⟨.none, none, .seq [vI 14, vS "\x06¿\n__module__\x06¼\x11_frozen_importlib\x06À\x0f__firstlineno__\x04½\x00ϋ\x06Á\x07__doc__\t4_frozen_importlib.BuiltinImporter.__doc__:str#opaque\x06Â\x07_ORIGIN\x06¾\x08built-in\x06Ã\tfind_spec\t2_frozen_importlib.BuiltinImporter.find_spec#opaque\x06Ä\x0dcreate_module\t6_frozen_importlib.BuiltinImporter.create_module#opaque\x06Å\x0bexec_module\t4_frozen_importlib.BuiltinImporter.exec_module#opaque\x06Æ\x08get_code\t1_frozen_importlib.BuiltinImporter.get_code#opaque\x06Ç\nget_source\t3_frozen_importlib.BuiltinImporter.get_source#opaque\x06È\nis_package\t3_frozen_importlib.BuiltinImporter.is_package#opaque\x06É\x0bload_module\t4_frozen_importlib.BuiltinImporter.load_module#opaque\x06Ê\x15__static_attributes__\x04\x00\x00\x10\x06Ì\x08__dict__\x04\x00\x00\x11\x06Î\x0b__weakref__\x04\x00\x00\x12" 0, (.bool true), (.bool true), vS "" 207, vI 22, vS "\x06å\n__module__\x06Û\x11_frozen_importlib\x06æ\x0f__firstlineno__\x04Ü\x00Ȳ\x06ç\x07__doc__\t/_frozen_importlib.ModuleSpec.__doc__:str#opaque\x06è\x08__init__\t,_frozen_importlib.ModuleSpec.__init__#opaque\x06é\x08__repr__\t,_frozen_importlib.ModuleSpec.__repr__#opaque\x06ê\x06__eq__\t*_frozen_importlib.ModuleSpec.__eq__#opaque\x06ë\x06cached\t*_frozen_importlib.ModuleSpec.cached#opaque\x06ì\x06parent\t*_frozen_importlib.ModuleSpec.parent#opaque\x06í\x0chas_location\t0_frozen_importlib.ModuleSpec.has_location#opaque\x06î\x15__static_attributes__\x04\x00\x00\x18\x06ð\x08__dict__\x04\x00\x00\x19\x06ò\x0b__weakref__\x04\x00\x00\x1a\x06ó\x08__hash__\x00" 0, (.bool true), (.bool true), vS "" 244].toArray 1, [].toArray⟩
noncomputable def hs_20 : Obj := ⟨(.type "list"), none, .seq [].toArray 0, [].toArray⟩
noncomputable def hs_21 (P : Params) : Obj := dI [en P "name" 210 (vS "_functools" 209), en P "loader" 211 (vR 15), en P "origin" 212 (vS "built-in" 186), en P "loader_state" 213 .none, en P "submodule_search_locations" 214 .none, en P "_uninitialized_submodules" 215 (vR 20), en P "_set_fileattr" 216 (.bool false), en P "_cached" 217 .none, en P "_initializing" 245 (.bool false)] 9
noncomputable def hs_22 (P : Params) : Obj := dI [en P "__module__" 229 (vS "_frozen_importlib" 219), en P "__firstlineno__" 230 (.int (562) 220), en P "__doc__" 231 (.builtin "_frozen_importlib.ModuleSpec.__doc__:str#opaque"), en P "__init__" 232 (.builtin "_frozen_importlib.ModuleSpec.__init__#opaque"), en P "__repr__" 233 (.builtin "_frozen_importlib.ModuleSpec.__repr__#opaque"), en P "__eq__" 234 (.builtin "_frozen_importlib.ModuleSpec.__eq__#opaque"), en P "cached" 235 (.builtin "_frozen_importlib.ModuleSpec.cached#opaque"), en P "parent" 236 (.builtin "_frozen_importlib.ModuleSpec.parent#opaque"), en P "has_location" 237 (.builtin "_frozen_importlib.ModuleSpec.has_location#opaque"), en P "__static_attributes__" 238 (vR 24), en P "__dict__" 240 (vR 25), en P "__weakref__" 242 (vR 26), en P "__hash__" 243 .none] 13
noncomputable def hs_23 : Obj := ⟨(.type "type"), none, .cls { name := (S "ModuleSpec"), bases := [(.type "object")], mro := [vR 23, (.type "object")], ns := 22, qualname := (S "ModuleSpec"), hasDict := true, slotNames := [], subclasses := [], abstract := false, collection := none, hasDel := false }, [].toArray⟩
noncomputable def hs_24 : Obj := tU [vS "_cached" 221, vS "_set_fileattr" 222, vS "_uninitialized_submodules" 223, vS "loader" 224, vS "loader_state" 225, vS "name" 226, vS "origin" 227, vS "submodule_search_locations" 228]
noncomputable def hs_25 : Obj := ⟨(.type "getset_descriptor"), none, .fields [vS "__dict__" 239, vR 23, (.builtin "function.__dict__"), (.builtin "function.__dict__#set")].toArray, [].toArray⟩
noncomputable def hs_26 : Obj := ⟨(.type "getset_descriptor"), none, .fields [vS "__weakref__" 241, vR 23, (.builtin "ExceptionGroup.__weakref__"), .none].toArray, [].toArray⟩
noncomputable def hs_27 : Obj := ⟨(vR 23), (some 21), .plain, [].toArray⟩
noncomputable def hs_28 : Obj := ⟨.none, none, .seq [vI 12, vS "\x06ú\x08__name__\x06ù\n_functools\x06ü\x07__doc__\x06û Tools that operate on functions.\x06þ\x0b__package__\x06ý\x00\x06ÿ\n__loader__\x04\x00\x00\x0f\x06Ā\x08__spec__\x04\x00\x00\x1b\x06ā\x06reduce\t\x11_functools.reduce\x06Ă\ncmp_to_key\t\x15_functools.cmp_to_key\x06ă\x07partial\x08\x11functools.partial\x06Ą\x12_lru_cache_wrapper\x08\x1cfunctools._lru_cache_wrapper" 0, (.bool true), (.bool false), vS "_functools" 262].toArray 0, [].toArray⟩
noncomputable def Hs (P : Params) : Heap := ⟨#[hs_0 P, hs_1 P, hs_2 P, hs_3 P, o4, hs_5, hs_6, hs_7, o312, hs_9, hs_10, hs_11, hs_12 P, hs_13, hs_14 P, hs_15, hs_7, hs_17, hs_18, hs_19, hs_20, hs_21 P, hs_22 P, hs_23, hs_24, hs_25, hs_26, hs_27, hs_28], Ls⟩
noncomputable def hp_31 : Obj := cO "<module>" 272 "<module>" 273 274 1 0 0 0 [vR 29, (.bool false), vI 271, vR 30, .none, .none, .none, .none] 275 276
noncomputable def hp_32 : Obj := ⟨(.type "frame"), none, .plain, [(some (vR 31)), (some (vR 3)), (some (vR 3)), none, (some (vS "__main__" 164)), none, (some (vR 0))].toArray⟩
noncomputable def Hp (P : Params) : Heap := ⟨#[hs_0 P, hs_1 P, hs_2 P, hs_3 P, o4, hs_5, hs_6, hs_7, o312, hs_9, hs_10, hs_11, hs_12 P, hs_13, hs_14 P, hs_15, hs_7, hs_17, hs_18, hs_19, hs_20, hs_21 P, hs_22 P, hs_23, hs_24, hs_25, hs_26, hs_27, hs_28, hs_7, o312, hp_31, hp_32], Ls⟩
noncomputable def h10_2 (P : Params) : Obj := ⟨.none, none, .dict [en P "\x69mport.loaded._functools" 185 (.bool true), en P "class._frozen_importlib.BuiltinImporter" 187 (vR 15), en P "watched.\x69mport" 208 (vR 19), en P "class._frozen_importlib.ModuleSpec" 218 (vR 23), en P "sys.modules.booked-epoch" 247 (vI 3), en P "sys.modules.landed._functools" 248 (.bool true), en P "\x69mport.later-laid._functools" 261 (.bool true), en P "watched.library" 263 (vR 28), en P "watched.library-objects" 0 (vS "\x0d" 0), en P "watched.library-deep._functools" 264 (vS "\x04\x00\x00\x0c\x04\x00\x00\x0c\x04\x00\x00\x03\x04\x00\x00\x0c\x08\x04dict\x02" 0), en P "type.__subclasses__.set.0" 330 (vI 75), en P "type.__subclasses__.set.n" 331 (vI 1)].toArray 12, [].toArray⟩
noncomputable def h10_3 (P : Params) : Obj := dI [en P "__name__" 165 (vS "abcvoting.misc" 441), en P "__doc__" 166 .none, en P "__package__" 167 .none, en P "__loader__" 168 (.builtin "__main__.__loader__#opaque"), en P "__spec__" 169 .none, en P "__annotations__" 170 (vR 6), en P "__builtins__" 171 (vR 4), en P "__file__" 173 (vS "/claim/cut.py" 172), en P "__cached__" 174 .none, en P "partial" 270 (.type "functools.partial"), en P "_wall" 283 (vR 39), en P "CandidateSet" 333 (vR 75), en P "str_set_of_candidates" 343 (vR 86), en P "_is_int" 353 (vR 93), en P "_whole" 362 (vR 100), en P "_picked" 373 (vR 107), en P "combinations" 440 (vR 140)] 17
noncomputable def h10_30 : Obj := fI [vI 2, vI 0, vR 38, vI 6, vI 0, vR 46, vI 25, vI 0, vR 85, vI 32, vI 0, vR 92, vI 35, vI 0, vR 99, vI 40, vI 0, vR 106, vI 47, vI 0, vR 113]
noncomputable def h10_35 : Obj := tU [vS "k" 280]
noncomputable def h10_37 : Obj := fG "_wall" "_wall" (st1 1)
noncomputable def h10_38 : Obj := cO "_wall" 277 "_wall" 278 279 2 1 0 3 [vR 33, (.bool true), vI 271, vR 34, .none, vR 35, vR 36, vR 37] 281 282
noncomputable def h10_39 : Obj := fF "_wall" "_wall" (st1 1) .none (vS "__main__" 164) (vR 38)
noncomputable def h10_40 : Obj := tU [(.type "set")]
noncomputable def h10_41 : Obj := ⟨(.type "builtin_function_or_method"), none, .fields [(.builtin "type.__prepare__"), (.type "type")].toArray, [].toArray⟩
noncomputable def h10_42 (P : Params) : Obj := dI [en P "__module__" 293 (vS "abcvoting.misc" 284), en P "__qualname__" 295 (vS "CandidateSet" 294), en P "__firstlineno__" 297 (.int (6) 296), en P "__init__" 309 (vR 57), en P "__str__" 316 (vR 64), en P "str_with_names" 324 (vR 72), en P "__static_attributes__" 325 (vR 73), en P "__classcell__" 326 (vR 43)] 8
noncomputable def h10_45 : Obj := fI [vI 8, vI 4, vR 56, vI 20, vI 4, vR 63, vI 23, vI 4, vR 71]
noncomputable def h10_46 : Obj := cO "CandidateSet" 288 "CandidateSet" 289 290 6 0 0 0 [vR 44, (.bool false), vI 271, vR 45, .none, .none, .none, .none] 291 292
noncomputable def h10_47 : Obj := ⟨(.type "frame"), none, .plain, [(some (vR 46)), (some (vR 3)), (some (vR 42)), none, (some (vS "abcvoting.misc" 284)), none, (some (vR 0))].toArray⟩
noncomputable def h10_50 : Obj := tU [vR 43]
noncomputable def h10_51 : Obj := tU [vS "__class__" 301]
noncomputable def h10_53 : Obj := tU [vS "self" 302, vS "candidates" 303, vS "num_cand" 304, vS "cand" 305]
noncomputable def h10_54 : Obj := tU [vS "num_cand" 306]
noncomputable def h10_55 : Obj := fG "__init__" "CandidateSet.__init__" (st2 3 0)
noncomputable def h10_60 : Obj := tU [vS "self" 313]
noncomputable def h10_62 : Obj := fG "__str__" "CandidateSet.__str__" (st2 3 1)
noncomputable def h10_63 : Obj := cO "__str__" 310 "CandidateSet.__str__" 311 312 20 1 0 3 [vR 58, (.bool true), vI 271, vR 59, .none, vR 60, vR 61, vR 62] 314 315
noncomputable def h10_64 : Obj := fF "__str__" "CandidateSet.__str__" (st2 3 1) .none (vS "abcvoting.misc" 284) (vR 63)
noncomputable def h10_68 : Obj := tU [vS "self" 320, vS "cand_names" 321]
noncomputable def h10_70 : Obj := fG "str_with_names" "CandidateSet.str_with_names" (st2 3 2)
noncomputable def h10_71 : Obj := cO "str_with_names" 317 "CandidateSet.str_with_names" 318 319 23 2 0 3 [vR 66, (.bool true), vI 271, vR 67, .none, vR 68, vR 69, vR 70] 322 323
noncomputable def h10_72 : Obj := fF "str_with_names" "CandidateSet.str_with_names" (st2 3 2) (vR 65) (vS "abcvoting.misc" 284) (vR 71)
noncomputable def h10_77 : Obj := ⟨(.type "super"), none, .fields [vR 75, vR 75, vR 75].toArray, [].toArray⟩
noncomputable def h10_78 : Obj := ⟨(.type "builtin_function_or_method"), none, .fields [(.builtin "object.__init_subclass__"), vR 75].toArray, [].toArray⟩
noncomputable def h10_82 : Obj := tU [vS "candset" 337, vS "cand_names" 338, vS "named" 339]
noncomputable def h10_83 : Obj := tU [vS "cand_names" 340]
noncomputable def h10_84 : Obj := fG "str_set_of_candidates" "str_set_of_candidates" (st1 4)
noncomputable def h10_85 : Obj := cO "str_set_of_candidates" 334 "str_set_of_candidates" 335 336 25 2 0 3 [vR 80, (.bool true), vI 271, vR 81, .none, vR 82, vR 83, vR 84] 341 342
noncomputable def h10_86 : Obj := fF "str_set_of_candidates" "str_set_of_candidates" (st1 4) (vR 79) (vS "abcvoting.misc" 284) (vR 85)
noncomputable def h10_89 : Obj := tU [vS "x" 349, vS "t" 350]
noncomputable def h10_91 : Obj := fG "_is_int" "_is_int" (st1 6)
noncomputable def h10_96 : Obj := tU [vS "x" 357, vS "top" 358, vS "what" 359]
noncomputable def h10_98 : Obj := fG "_whole" "_whole" (st1 7)
noncomputable def h10_103 : Obj := tU [vS "pool" 366, vS "indices" 367, vS "r" 368, vS "result" 369, vS "i" 370]
noncomputable def h10_105 : Obj := fG "_picked" "_picked" (st1 8)
noncomputable def h10_110 (P : Params) : Obj := dI [en P "__module__" 381 (vS "itertools" 344), en P "__qualname__" 383 (vS "combinations" 382), en P "__firstlineno__" 385 (.int (47) 384), en P "__slots__" 391 (vR 115), en P "__init__" 401 (vR 122), en P "__iter__" 408 (vR 129), en P "__next__" 421 (vR 136), en P "__static_attributes__" 427 (vR 137)] 8
noncomputable def h10_112 : Obj := fI [vI 50, vI 4, vR 121, vI 61, vI 4, vR 128, vI 64, vI 4, vR 135]
noncomputable def h10_113 : Obj := cO "combinations" 376 "combinations" 377 378 47 0 0 0 [vR 111, (.bool false), vI 271, vR 112, .none, .none, .none, .none] 379 380
noncomputable def h10_114 : Obj := ⟨(.type "frame"), none, .plain, [(some (vR 113)), (some (vR 3)), (some (vR 110)), none, (some (vS "itertools" 344)), none, (some (vR 0))].toArray⟩
noncomputable def h10_118 : Obj := tU [vS "self" 395, vS "iterable" 396, vS "r" 397, vS "pool" 398]
noncomputable def h10_120 : Obj := fG "__init__" "combinations.__init__" (st2 9 1)
noncomputable def h10_125 : Obj := tU [vS "self" 405]
noncomputable def h10_127 : Obj := fG "__iter__" "combinations.__iter__" (st2 9 2)
noncomputable def h10_132 : Obj := tU [vS "self" 412, vS "pool" 413, vS "indices" 414, vS "n" 415, vS "r" 416, vS "i" 417, vS "j" 418]
noncomputable def h10_134 : Obj := fG "__next__" "combinations.__next__" (st2 9 3)
noncomputable def h10_137 : Obj := tU [vS "_first" 422, vS "_indices" 423, vS "_pool" 424, vS "_r" 425, vS "_stopped" 426]
noncomputable def h10_138 : Obj := ⟨(.type "list"), none, .seq [vS "_pool" 386, vS "_indices" 387, vS "_r" 388, vS "_first" 389, vS "_stopped" 390].toArray 1, [].toArray⟩
noncomputable def h10_146 : Obj := ⟨(.type "super"), none, .fields [vR 140, vR 140, vR 140].toArray, [].toArray⟩
noncomputable def h10_147 : Obj := ⟨(.type "builtin_function_or_method"), none, .fields [(.builtin "object.__init_subclass__"), vR 140].toArray, [].toArray⟩
noncomputable def h13_3 (P : Params) : Obj := dI [en P "__name__" 165 (vS "abcvoting.properties" 637), en P "__doc__" 166 .none, en P "__package__" 167 .none, en P "__loader__" 168 (.builtin "__main__.__loader__#opaque"), en P "__spec__" 169 .none, en P "__annotations__" 170 (vR 6), en P "__builtins__" 171 (vR 4), en P "__file__" 173 (vS "/claim/cut.py" 172), en P "__cached__" 174 .none, en P "partial" 270 (.type "functools.partial"), en P "_wall" 283 (vR 39), en P "CandidateSet" 333 (vR 75), en P "str_set_of_candidates" 343 (vR 86), en P "_is_int" 353 (vR 93), en P "_whole" 362 (vR 100), en P "_picked" 373 (vR 107), en P "combinations" 440 (vR 140), en P "fraction_parts" 449 (vR 154), en P "Fraction" 636 (vR 298)] 19
noncomputable def h13_30 : Obj := fI [vI 2, vI 0, vR 38, vI 6, vI 0, vR 46, vI 25, vI 0, vR 85, vI 32, vI 0, vR 92, vI 35, vI 0, vR 99, vI 40, vI 0, vR 106, vI 47, vI 0, vR 113, vI 87, vI 0, vR 153, vI 93, vI 0, vR 160]
noncomputable def h13_150 : Obj := tU [vS "number" 446]
noncomputable def h13_152 : Obj := fG "fraction_parts" "fraction_parts" (st1 11)
noncomputable def h13_157 (P : Params) : Obj := dI [en P "__module__" 457 (vS "abcvoting.misc" 441), en P "__qualname__" 459 (vS "Fraction" 458), en P "__firstlineno__" 461 (.int (93) 460), en P "__init__" 478 (vR 169), en P "__bool__" 485 (vR 176), en P "__str__" 492 (vR 183), en P "floor" 499 (vR 190), en P "ceil" 506 (vR 197), en P "__neg__" 513 (vR 204), en P "__add__" 523 (vR 211), en P "__radd__" 531 (vR 218), en P "__sub__" 539 (vR 225), en P "__rsub__" 547 (vR 232), en P "__mul__" 557 (vR 239), en P "__rmul__" 565 (vR 246), en P "__truediv__" 573 (vR 253), en P "__rtruediv__" 581 (vR 260), en P "__eq__" 589 (vR 267), en P "__lt__" 599 (vR 274), en P "__le__" 609 (vR 281), en P "__gt__" 617 (vR 288), en P "__ge__" 625 (vR 295), en P "__static_attributes__" 628 (vR 296)] 23
noncomputable def h13_159 : Obj := fI [vI 95, vI 4, vR 168, vI 107, vI 4, vR 175, vI 110, vI 4, vR 182, vI 115, vI 4, vR 189, vI 118, vI 4, vR 196, vI 121, vI 4, vR 203, vI 124, vI 4, vR 210, vI 128, vI 4, vR 217, vI 131, vI 4, vR 224, vI 134, vI 4, vR 231, vI 137, vI 4, vR 238, vI 141, vI 4, vR 245, vI 144, vI 4, vR 252, vI 147, vI 4, vR 259, vI 150, vI 4, vR 266, vI 153, vI 4, vR 273, vI 157, vI 4, vR 280, vI 161, vI 4, vR 287, vI 164, vI 4, vR 294]
noncomputable def h13_160 : Obj := cO "Fraction" 452 "Fraction" 453 454 93 0 0 0 [vR 158, (.bool false), vI 271, vR 159, .none, .none, .none, .none] 455 456
noncomputable def h13_161 : Obj := ⟨(.type "frame"), none, .plain, [(some (vR 160)), (some (vR 3)), (some (vR 157)), none, (some (vS "abcvoting.misc" 441)), none, (some (vR 0))].toArray⟩
noncomputable def h13_165 : Obj := tU [vS "self" 467, vS "numerator" 468, vS "denominator" 469, vS "upper" 470, vS "below" 471, vS "lower" 472, vS "above" 473, vS "divisor" 474, vS "rest" 475]
noncomputable def h13_167 : Obj := fG "__init__" "Fraction.__init__" (st2 12 0)
noncomputable def h13_172 : Obj := tU [vS "self" 482]
noncomputable def h13_174 : Obj := fG "__bool__" "Fraction.__bool__" (st2 12 1)
noncomputable def h13_175 : Obj := cO "__bool__" 479 "Fraction.__bool__" 480 481 107 1 0 3 [vR 170, (.bool true), vI 271, vR 171, .none, vR 172, vR 173, vR 174] 483 484
noncomputable def h13_176 : Obj := fF "__bool__" "Fraction.__bool__" (st2 12 1) .none (vS "abcvoting.misc" 441) (vR 175)
noncomputable def h13_179 : Obj := tU [vS "self" 489]
noncomputable def h13_181 : Obj := fG "__str__" "Fraction.__str__" (st2 12 2)
noncomputable def h13_182 : Obj := cO "__str__" 486 "Fraction.__str__" 487 488 110 1 0 3 [vR 177, (.bool true), vI 271, vR 178, .none, vR 179, vR 180, vR 181] 490 491
noncomputable def h13_183 : Obj := fF "__str__" "Fraction.__str__" (st2 12 2) .none (vS "abcvoting.misc" 441) (vR 182)
noncomputable def h13_186 : Obj := tU [vS "self" 496]
noncomputable def h13_188 : Obj := fG "floor" "Fraction.floor" (st2 12 3)
noncomputable def h13_193 : Obj := tU [vS "self" 503]
noncomputable def h13_195 : Obj := fG "ceil" "Fraction.ceil" (st2 12 4)
noncomputable def h13_200 : Obj := tU [vS "self" 510]
noncomputable def h13_202 : Obj := fG "__neg__" "Fraction.__neg__" (st2 12 5)
noncomputable def h13_203 : Obj := cO "__neg__" 507 "Fraction.__neg__" 508 509 121 1 0 3 [vR 198, (.bool true), vI 271, vR 199, .none, vR 200, vR 201, vR 202] 511 512
noncomputable def h13_204 : Obj := fF "__neg__" "Fraction.__neg__" (st2 12 5) .none (vS "abcvoting.misc" 441) (vR 203)
noncomputable def h13_207 : Obj := tU [vS "self" 517, vS "other" 518, vS "upper" 519, vS "lower" 520]
noncomputable def h13_209 : Obj := fG "__add__" "Fraction.__add__" (st2 12 6)
noncomputable def h13_214 : Obj := tU [vS "self" 527, vS "other" 528]
noncomputable def h13_216 : Obj := fG "__radd__" "Fraction.__radd__" (st2 12 7)
noncomputable def h13_221 : Obj := tU [vS "self" 535, vS "other" 536]
noncomputable def h13_223 : Obj := fG "__sub__" "Fraction.__sub__" (st2 12 8)
noncomputable def h13_224 : Obj := cO "__sub__" 532 "Fraction.__sub__" 533 534 131 2 0 3 [vR 219, (.bool true), vI 271, vR 220, .none, vR 221, vR 222, vR 223] 537 538
noncomputable def h13_225 : Obj := fF "__sub__" "Fraction.__sub__" (st2 12 8) .none (vS "abcvoting.misc" 441) (vR 224)
noncomputable def h13_228 : Obj := tU [vS "self" 543, vS "other" 544]
noncomputable def h13_230 : Obj := fG "__rsub__" "Fraction.__rsub__" (st2 12 9)
noncomputable def h13_231 : Obj := cO "__rsub__" 540 "Fraction.__rsub__" 541 542 134 2 0 3 [vR 226, (.bool true), vI 271, vR 227, .none, vR 228, vR 229, vR 230] 545 546
noncomputable def h13_232 : Obj := fF "__rsub__" "Fraction.__rsub__" (st2 12 9) .none (vS "abcvoting.misc" 441) (vR 231)
noncomputable def h13_235 : Obj := tU [vS "self" 551, vS "other" 552, vS "upper" 553, vS "lower" 554]
noncomputable def h13_237 : Obj := fG "__mul__" "Fraction.__mul__" (st2 12 10)
noncomputable def h13_242 : Obj := tU [vS "self" 561, vS "other" 562]
noncomputable def h13_244 : Obj := fG "__rmul__" "Fraction.__rmul__" (st2 12 11)
noncomputable def h13_249 : Obj := tU [vS "self" 569, vS "other" 570]
noncomputable def h13_251 : Obj := fG "__truediv__" "Fraction.__truediv__" (st2 12 12)
noncomputable def h13_252 : Obj := cO "__truediv__" 566 "Fraction.__truediv__" 567 568 144 2 0 3 [vR 247, (.bool true), vI 271, vR 248, .none, vR 249, vR 250, vR 251] 571 572
noncomputable def h13_253 : Obj := fF "__truediv__" "Fraction.__truediv__" (st2 12 12) .none (vS "abcvoting.misc" 441) (vR 252)
noncomputable def h13_256 : Obj := tU [vS "self" 577, vS "other" 578]
noncomputable def h13_258 : Obj := fG "__rtruediv__" "Fraction.__rtruediv__" (st2 12 13)
noncomputable def h13_259 : Obj := cO "__rtruediv__" 574 "Fraction.__rtruediv__" 575 576 147 2 0 3 [vR 254, (.bool true), vI 271, vR 255, .none, vR 256, vR 257, vR 258] 579 580
noncomputable def h13_260 : Obj := fF "__rtruediv__" "Fraction.__rtruediv__" (st2 12 13) .none (vS "abcvoting.misc" 441) (vR 259)
noncomputable def h13_263 : Obj := tU [vS "self" 585, vS "other" 586]
noncomputable def h13_265 : Obj := fG "__eq__" "Fraction.__eq__" (st2 12 14)
noncomputable def h13_270 : Obj := tU [vS "self" 593, vS "other" 594, vS "upper" 595, vS "lower" 596]
noncomputable def h13_272 : Obj := fG "__lt__" "Fraction.__lt__" (st2 12 15)
noncomputable def h13_273 : Obj := cO "__lt__" 590 "Fraction.__lt__" 591 592 153 2 0 3 [vR 268, (.bool true), vI 271, vR 269, .none, vR 270, vR 271, vR 272] 597 598
noncomputable def h13_274 : Obj := fF "__lt__" "Fraction.__lt__" (st2 12 15) .none (vS "abcvoting.misc" 441) (vR 273)
noncomputable def h13_277 : Obj := tU [vS "self" 603, vS "other" 604, vS "upper" 605, vS "lower" 606]
noncomputable def h13_279 : Obj := fG "__le__" "Fraction.__le__" (st2 12 16)
noncomputable def h13_280 : Obj := cO "__le__" 600 "Fraction.__le__" 601 602 157 2 0 3 [vR 275, (.bool true), vI 271, vR 276, .none, vR 277, vR 278, vR 279] 607 608
noncomputable def h13_281 : Obj := fF "__le__" "Fraction.__le__" (st2 12 16) .none (vS "abcvoting.misc" 441) (vR 280)
noncomputable def h13_284 : Obj := tU [vS "self" 613, vS "other" 614]
noncomputable def h13_286 : Obj := fG "__gt__" "Fraction.__gt__" (st2 12 17)
noncomputable def h13_287 : Obj := cO "__gt__" 610 "Fraction.__gt__" 611 612 161 2 0 3 [vR 282, (.bool true), vI 271, vR 283, .none, vR 284, vR 285, vR 286] 615 616
noncomputable def h13_288 : Obj := fF "__gt__" "Fraction.__gt__" (st2 12 17) .none (vS "abcvoting.misc" 441) (vR 287)
noncomputable def h13_291 : Obj := tU [vS "self" 621, vS "other" 622]
noncomputable def h13_293 : Obj := fG "__ge__" "Fraction.__ge__" (st2 12 18)
noncomputable def h13_294 : Obj := cO "__ge__" 618 "Fraction.__ge__" 619 620 164 2 0 3 [vR 289, (.bool true), vI 271, vR 290, .none, vR 291, vR 292, vR 293] 623 624
noncomputable def h13_295 : Obj := fF "__ge__" "Fraction.__ge__" (st2 12 18) .none (vS "abcvoting.misc" 441) (vR 294)
noncomputable def h13_296 : Obj := tU [vS "denominator" 626, vS "numerator" 627]
noncomputable def h13_300 : Obj := ⟨(.type "getset_descriptor"), none, .fields [vS "__weakref__" 631, vR 298, (.builtin "ExceptionGroup.__weakref__"), .none].toArray, [].toArray⟩
noncomputable def h13_301 : Obj := ⟨(.type "super"), none, .fields [vR 298, vR 298, vR 298].toArray, [].toArray⟩
noncomputable def h13_302 : Obj := ⟨(.type "builtin_function_or_method"), none, .fields [(.builtin "object.__init_subclass__"), vR 298].toArray, [].toArray⟩
noncomputable def h17_3 (P : Params) : Obj := dI [en P "__name__" 165 (vS "abcvoting.preferences" 673), en P "__doc__" 166 .none, en P "__package__" 167 .none, en P "__loader__" 168 (.builtin "__main__.__loader__#opaque"), en P "__spec__" 169 .none, en P "__annotations__" 170 (vR 6), en P "__builtins__" 171 (vR 4), en P "__file__" 173 (vS "/claim/cut.py" 172), en P "__cached__" 174 .none, en P "partial" 270 (.type "functools.partial"), en P "_wall" 283 (vR 39), en P "CandidateSet" 333 (vR 75), en P "str_set_of_candidates" 343 (vR 86), en P "_is_int" 353 (vR 93), en P "_whole" 362 (vR 100), en P "_picked" 373 (vR 107), en P "combinations" 440 (vR 140), en P "fraction_parts" 449 (vR 154), en P "Fraction" 636 (vR 298), en P "check_EJR" 652 (vR 310), en P "_check_EJR_brute_force" 672 (vR 317), en P "Profile" 834 (vR 453)] 22
noncomputable def h17_30 : Obj := fI [vI 2, vI 0, vR 38, vI 6, vI 0, vR 46, vI 25, vI 0, vR 85, vI 32, vI 0, vR 92, vI 35, vI 0, vR 99, vI 40, vI 0, vR 106, vI 47, vI 0, vR 113, vI 87, vI 0, vR 153, vI 93, vI 0, vR 160, vI 167, vI 0, vR 309, vI 181, vI 0, vR 316, vI 201, vI 0, vR 323]
noncomputable def h17_306 : Obj := tU [vS "profile" 643, vS "committee" 644, vS "quota" 645, vS "algorithm" 646, vS "standard_quota" 647, vS "result" 648, vS "detailed_information" 649]
noncomputable def h17_308 : Obj := fG "check_EJR" "check_EJR" (st1 14)
noncomputable def h17_313 : Obj := tU [vS "profile" 656, vS "committee" 657, vS "quota" 658, vS "ell_upper_bound" 659, vS "ell" 660, vS "voters_less_than_ell_approved_candidates" 661, vS "voters_less_than_ell_approved_candidates_weight" 662, vS "min_group_size" 663, vS "i" 664, vS "voter" 665, vS "combination" 666, vS "cut" 667, vS "detailed_information" 668]
noncomputable def h17_314 : Obj := tU [vS "profile" 669]
noncomputable def h17_315 : Obj := fG "_check_EJR_brute_force" "_check_EJR_brute_force" (st1 15)
noncomputable def h17_320 (P : Params) : Obj := dI [en P "__module__" 682 (vS "abcvoting.preferences" 673), en P "__qualname__" 684 (vS "Profile" 683), en P "__firstlineno__" 686 (.int (201) 685), en P "__init__" 692 (vR 330), en P "num_cand" 700 (vR 338), en P "approved_candidates" 707 (vR 345), en P "__len__" 714 (vR 352), en P "_unique_voter" 723 (vR 359), en P "add_voter" 731 (vR 366), en P "add_voters" 740 (vR 373), en P "total_weight" 747 (vR 380), en P "has_unit_weights" 754 (vR 387), en P "convert_to_unit_weights" 761 (vR 394), en P "convert_to_weighted" 768 (vR 401), en P "__iter__" 775 (vR 408), en P "__getitem__" 783 (vR 415), en P "__setitem__" 792 (vR 422), en P "__str__" 802 (vR 429), en P "copy" 809 (vR 436), en P "is_party_list" 816 (vR 443), en P "str_compact" 823 (vR 450), en P "__static_attributes__" 827 (vR 451)] 22
noncomputable def h17_322 : Obj := fI [vI 203, vI 4, vR 329, vI 215, vI 4, vR 336, vI 218, vI 4, vR 344, vI 221, vI 4, vR 351, vI 224, vI 4, vR 358, vI 231, vI 4, vR 365, vI 234, vI 4, vR 372, vI 238, vI 4, vR 379, vI 241, vI 4, vR 386, vI 244, vI 4, vR 393, vI 247, vI 4, vR 400, vI 250, vI 4, vR 407, vI 253, vI 4, vR 414, vI 256, vI 4, vR 421, vI 259, vI 4, vR 428, vI 271, vI 4, vR 435, vI 274, vI 4, vR 442, vI 277, vI 4, vR 449]
noncomputable def h17_323 : Obj := cO "Profile" 677 "Profile" 678 679 201 0 0 0 [vR 321, (.bool false), vI 271, vR 322, .none, .none, .none, .none] 680 681
noncomputable def h17_324 : Obj := ⟨(.type "frame"), none, .plain, [(some (vR 323)), (some (vR 3)), (some (vR 320)), none, (some (vS "abcvoting.preferences" 673)), none, (some (vR 0))].toArray⟩
noncomputable def h17_328 : Obj := fG "__init__" "Profile.__init__" (st2 17 0)
noncomputable def h17_333 : Obj := tU [vS "self" 696]
noncomputable def h17_335 : Obj := fG "num_cand" "Profile.num_cand" (st2 17 1)
noncomputable def h17_341 : Obj := tU [vS "self" 704]
noncomputable def h17_343 : Obj := fG "approved_candidates" "Profile.approved_candidates" (st2 17 2)
noncomputable def h17_344 : Obj := cO "approved_candidates" 701 "Profile.approved_candidates" 702 703 218 1 0 3 [vR 339, (.bool true), vI 271, vR 340, .none, vR 341, vR 342, vR 343] 705 706
noncomputable def h17_345 : Obj := fF "approved_candidates" "Profile.approved_candidates" (st2 17 2) .none (vS "abcvoting.preferences" 673) (vR 344)
noncomputable def h17_348 : Obj := tU [vS "self" 711]
noncomputable def h17_350 : Obj := fG "__len__" "Profile.__len__" (st2 17 3)
noncomputable def h17_351 : Obj := cO "__len__" 708 "Profile.__len__" 709 710 221 1 0 3 [vR 346, (.bool true), vI 271, vR 347, .none, vR 348, vR 349, vR 350] 712 713
noncomputable def h17_352 : Obj := fF "__len__" "Profile.__len__" (st2 17 3) .none (vS "abcvoting.preferences" 673) (vR 351)
noncomputable def h17_355 : Obj := tU [vS "self" 718, vS "voter" 719, vS "_voter" 720]
noncomputable def h17_357 : Obj := fG "_unique_voter" "Profile._unique_voter" (st2 17 4)
noncomputable def h17_362 : Obj := tU [vS "self" 727, vS "voter" 728]
noncomputable def h17_364 : Obj := fG "add_voter" "Profile.add_voter" (st2 17 5)
noncomputable def h17_369 : Obj := tU [vS "self" 735, vS "voters" 736, vS "voter" 737]
noncomputable def h17_371 : Obj := fG "add_voters" "Profile.add_voters" (st2 17 6)
noncomputable def h17_376 : Obj := tU [vS "self" 744]
noncomputable def h17_378 : Obj := fG "total_weight" "Profile.total_weight" (st2 17 7)
noncomputable def h17_383 : Obj := tU [vS "self" 751]
noncomputable def h17_385 : Obj := fG "has_unit_weights" "Profile.has_unit_weights" (st2 17 8)
noncomputable def h17_386 : Obj := cO "has_unit_weights" 748 "Profile.has_unit_weights" 749 750 241 1 0 3 [vR 381, (.bool true), vI 271, vR 382, .none, vR 383, vR 384, vR 385] 752 753
noncomputable def h17_387 : Obj := fF "has_unit_weights" "Profile.has_unit_weights" (st2 17 8) .none (vS "abcvoting.preferences" 673) (vR 386)
noncomputable def h17_390 : Obj := tU [vS "self" 758]
noncomputable def h17_392 : Obj := fG "convert_to_unit_weights" "Profile.convert_to_unit_weights" (st2 17 9)
noncomputable def h17_393 : Obj := cO "convert_to_unit_weights" 755 "Profile.convert_to_unit_weights" 756 757 244 1 0 3 [vR 388, (.bool true), vI 271, vR 389, .none, vR 390, vR 391, vR 392] 759 760
noncomputable def h17_394 : Obj := fF "convert_to_unit_weights" "Profile.convert_to_unit_weights" (st2 17 9) .none (vS "abcvoting.preferences" 673) (vR 393)
noncomputable def h17_397 : Obj := tU [vS "self" 765]
noncomputable def h17_399 : Obj := fG "convert_to_weighted" "Profile.convert_to_weighted" (st2 17 10)
noncomputable def h17_400 : Obj := cO "convert_to_weighted" 762 "Profile.convert_to_weighted" 763 764 247 1 0 3 [vR 395, (.bool true), vI 271, vR 396, .none, vR 397, vR 398, vR 399] 766 767
noncomputable def h17_401 : Obj := fF "convert_to_weighted" "Profile.convert_to_weighted" (st2 17 10) .none (vS "abcvoting.preferences" 673) (vR 400)
noncomputable def h17_404 : Obj := tU [vS "self" 772]
noncomputable def h17_406 : Obj := fG "__iter__" "Profile.__iter__" (st2 17 11)
noncomputable def h17_411 : Obj := tU [vS "self" 779, vS "i" 780]
noncomputable def h17_413 : Obj := fG "__getitem__" "Profile.__getitem__" (st2 17 12)
noncomputable def h17_418 : Obj := tU [vS "self" 787, vS "i" 788, vS "voter" 789]
noncomputable def h17_420 : Obj := fG "__setitem__" "Profile.__setitem__" (st2 17 13)
noncomputable def h17_421 : Obj := cO "__setitem__" 784 "Profile.__setitem__" 785 786 256 3 0 3 [vR 416, (.bool true), vI 271, vR 417, .none, vR 418, vR 419, vR 420] 790 791
noncomputable def h17_422 : Obj := fF "__setitem__" "Profile.__setitem__" (st2 17 13) .none (vS "abcvoting.preferences" 673) (vR 421)
noncomputable def h17_425 : Obj := tU [vS "self" 796, vS "output" 797, vS "vi" 798, vS "voter" 799]
noncomputable def h17_427 : Obj := fG "__str__" "Profile.__str__" (st2 17 14)
noncomputable def h17_428 : Obj := cO "__str__" 793 "Profile.__str__" 794 795 259 1 0 3 [vR 423, (.bool true), vI 271, vR 424, .none, vR 425, vR 426, vR 427] 800 801
noncomputable def h17_429 : Obj := fF "__str__" "Profile.__str__" (st2 17 14) .none (vS "abcvoting.preferences" 673) (vR 428)
noncomputable def h17_432 : Obj := tU [vS "self" 806]
noncomputable def h17_434 : Obj := fG "copy" "Profile.copy" (st2 17 15)
noncomputable def h17_435 : Obj := cO "copy" 803 "Profile.copy" 804 805 271 1 0 3 [vR 430, (.bool true), vI 271, vR 431, .none, vR 432, vR 433, vR 434] 807 808
noncomputable def h17_436 : Obj := fF "copy" "Profile.copy" (st2 17 15) .none (vS "abcvoting.preferences" 673) (vR 435)
noncomputable def h17_439 : Obj := tU [vS "self" 813]
noncomputable def h17_441 : Obj := fG "is_party_list" "Profile.is_party_list" (st2 17 16)
noncomputable def h17_442 : Obj := cO "is_party_list" 810 "Profile.is_party_list" 811 812 274 1 0 3 [vR 437, (.bool true), vI 271, vR 438, .none, vR 439, vR 440, vR 441] 814 815
noncomputable def h17_443 : Obj := fF "is_party_list" "Profile.is_party_list" (st2 17 16) .none (vS "abcvoting.preferences" 673) (vR 442)
noncomputable def h17_446 : Obj := tU [vS "self" 820]
noncomputable def h17_448 : Obj := fG "str_compact" "Profile.str_compact" (st2 17 17)
noncomputable def h17_449 : Obj := cO "str_compact" 817 "Profile.str_compact" 818 819 277 1 0 3 [vR 444, (.bool true), vI 271, vR 445, .none, vR 446, vR 447, vR 448] 821 822
noncomputable def h17_450 : Obj := fF "str_compact" "Profile.str_compact" (st2 17 17) .none (vS "abcvoting.preferences" 673) (vR 449)
noncomputable def h17_451 : Obj := tU [vS "_voters" 824, vS "cand_names" 825, vS "candidates" 826]
noncomputable def h17_454 : Obj := ⟨(.type "getset_descriptor"), none, .fields [vS "__dict__" 828, vR 453, (.builtin "function.__dict__"), (.builtin "function.__dict__#set")].toArray, [].toArray⟩
noncomputable def h17_455 : Obj := ⟨(.type "getset_descriptor"), none, .fields [vS "__weakref__" 830, vR 453, (.builtin "ExceptionGroup.__weakref__"), .none].toArray, [].toArray⟩
noncomputable def h17_456 : Obj := ⟨(.type "super"), none, .fields [vR 453, vR 453, vR 453].toArray, [].toArray⟩
noncomputable def h17_457 : Obj := ⟨(.type "builtin_function_or_method"), none, .fields [(.builtin "object.__init_subclass__"), vR 453].toArray, [].toArray⟩
noncomputable def h20_3 (P : Params) : Obj := dI [en P "__name__" 165 (vS "abcvoting.scores" 883), en P "__doc__" 166 .none, en P "__package__" 167 .none, en P "__loader__" 168 (.builtin "__main__.__loader__#opaque"), en P "__spec__" 169 .none, en P "__annotations__" 170 (vR 6), en P "__builtins__" 171 (vR 4), en P "__file__" 173 (vS "/claim/cut.py" 172), en P "__cached__" 174 .none, en P "partial" 270 (.type "functools.partial"), en P "_wall" 283 (vR 39), en P "CandidateSet" 333 (vR 75), en P "str_set_of_candidates" 343 (vR 86), en P "_is_int" 353 (vR 93), en P "_whole" 362 (vR 100), en P "_picked" 373 (vR 107), en P "combinations" 440 (vR 140), en P "fraction_parts" 449 (vR 154), en P "Fraction" 636 (vR 298), en P "check_EJR" 652 (vR 310), en P "_check_EJR_brute_force" 672 (vR 317), en P "Profile" 834 (vR 453), en P "Voter" 882 (vR 490), en P "UnknownScoreFunctionError" 913 (vR 513)] 24
noncomputable def h20_30 : Obj := fI [vI 2, vI 0, vR 38, vI 6, vI 0, vR 46, vI 25, vI 0, vR 85, vI 32, vI 0, vR 92, vI 35, vI 0, vR 99, vI 40, vI 0, vR 106, vI 47, vI 0, vR 113, vI 87, vI 0, vR 153, vI 93, vI 0, vR 160, vI 167, vI 0, vR 309, vI 181, vI 0, vR 316, vI 201, vI 0, vR 323, vI 279, vI 0, vR 463, vI 293, vI 0, vR 501]
noncomputable def h20_460 (P : Params) : Obj := dI [en P "__module__" 842 (vS "abcvoting.preferences" 673), en P "__qualname__" 844 (vS "Voter" 843), en P "__firstlineno__" 846 (.int (279) 845), en P "__init__" 857 (vR 472), en P "__str__" 864 (vR 479), en P "str_with_names" 872 (vR 487), en P "__static_attributes__" 875 (vR 488)] 7
noncomputable def h20_462 : Obj := fI [vI 281, vI 4, vR 471, vI 287, vI 4, vR 478, vI 290, vI 4, vR 486]
noncomputable def h20_463 : Obj := cO "Voter" 837 "Voter" 838 839 279 0 0 0 [vR 461, (.bool false), vI 271, vR 462, .none, .none, .none, .none] 840 841
noncomputable def h20_464 : Obj := ⟨(.type "frame"), none, .plain, [(some (vR 463)), (some (vR 3)), (some (vR 460)), none, (some (vS "abcvoting.preferences" 673)), none, (some (vR 0))].toArray⟩
noncomputable def h20_468 : Obj := tU [vS "self" 851, vS "approved" 852, vS "weight" 853, vS "num_cand" 854]
noncomputable def h20_470 : Obj := fG "__init__" "Voter.__init__" (st2 18 0)
noncomputable def h20_475 : Obj := tU [vS "self" 861]
noncomputable def h20_477 : Obj := fG "__str__" "Voter.__str__" (st2 18 1)
noncomputable def h20_478 : Obj := cO "__str__" 858 "Voter.__str__" 859 860 287 1 0 3 [vR 473, (.bool true), vI 271, vR 474, .none, vR 475, vR 476, vR 477] 862 863
noncomputable def h20_479 : Obj := fF "__str__" "Voter.__str__" (st2 18 1) .none (vS "abcvoting.preferences" 673) (vR 478)
noncomputable def h20_483 : Obj := tU [vS "self" 868, vS "cand_names" 869]
noncomputable def h20_485 : Obj := fG "str_with_names" "Voter.str_with_names" (st2 18 2)
noncomputable def h20_486 : Obj := cO "str_with_names" 865 "Voter.str_with_names" 866 867 290 2 0 3 [vR 481, (.bool true), vI 271, vR 482, .none, vR 483, vR 484, vR 485] 870 871
noncomputable def h20_487 : Obj := fF "str_with_names" "Voter.str_with_names" (st2 18 2) (vR 480) (vS "abcvoting.preferences" 673) (vR 486)
noncomputable def h20_488 : Obj := tU [vS "approved" 873, vS "weight" 874]
noncomputable def h20_491 : Obj := ⟨(.type "getset_descriptor"), none, .fields [vS "__dict__" 876, vR 490, (.builtin "function.__dict__"), (.builtin "function.__dict__#set")].toArray, [].toArray⟩
noncomputable def h20_492 : Obj := ⟨(.type "getset_descriptor"), none, .fields [vS "__weakref__" 878, vR 490, (.builtin "ExceptionGroup.__weakref__"), .none].toArray, [].toArray⟩
noncomputable def h20_493 : Obj := ⟨(.type "super"), none, .fields [vR 490, vR 490, vR 490].toArray, [].toArray⟩
noncomputable def h20_494 : Obj := ⟨(.type "builtin_function_or_method"), none, .fields [(.builtin "object.__init_subclass__"), vR 490].toArray, [].toArray⟩
noncomputable def h20_495 : Obj := tU [(.type "ValueError")]
noncomputable def h20_497 (P : Params) : Obj := dI [en P "__module__" 892 (vS "abcvoting.scores" 883), en P "__qualname__" 894 (vS "UnknownScoreFunctionError" 893), en P "__firstlineno__" 896 (.int (293) 895), en P "__init__" 906 (vR 510), en P "__static_attributes__" 907 (vR 511), en P "__classcell__" 908 (vR 498)] 6
noncomputable def h20_498 : Obj := ⟨(.type "cell"), none, .cell (some (vR 513)), [].toArray⟩
noncomputable def h20_500 : Obj := fI [vI 295, vI 4, vR 509]
noncomputable def h20_501 : Obj := cO "UnknownScoreFunctionError" 887 "UnknownScoreFunctionError" 888 889 293 0 0 0 [vR 499, (.bool false), vI 271, vR 500, .none, .none, .none, .none] 890 891
noncomputable def h20_502 : Obj := ⟨(.type "frame"), none, .plain, [(some (vR 501)), (some (vR 3)), (some (vR 497)), none, (some (vS "abcvoting.scores" 883)), none, (some (vR 0))].toArray⟩
noncomputable def h20_503 : Obj := tU [vR 498]
noncomputable def h20_504 : Obj := tU [vS "__class__" 900]
noncomputable def h20_506 : Obj := tU [vS "self" 901, vS "scorefct_id" 902, vS "message" 903]
noncomputable def h20_508 : Obj := fG "__init__" "UnknownScoreFunctionError.__init__" (st2 20 0)
noncomputable def h20_509 : Obj := cO "__init__" 897 "UnknownScoreFunctionError.__init__" 898 899 295 2 0 3 [vR 504, (.bool true), vI 271, vR 505, .none, vR 506, vR 507, vR 508] 904 905
noncomputable def h20_510 : Obj := ⟨(.type "function"), none, .func { name := (S "__init__"), qualname := (S "UnknownScoreFunctionError.__init__"), params := fdA (st2 20 0), body := .stmts (fdB (st2 20 0)), scope := fdS (st2 20 0), globals := 3, closure := [((S "__class__"), 498)], defaults := .none, kwdefaults := .none, doc := .none, pyModule := (vS "abcvoting.scores" 883), annotations := none, code := (vR 509), closureTuple := (vR 503), builtins := 0 }, [].toArray⟩
noncomputable def h20_512 (P : Params) : Obj := dI [en P "__module__" 892 (vS "abcvoting.scores" 883), en P "__firstlineno__" 896 (.int (293) 895), en P "__init__" 906 (vR 510), en P "__static_attributes__" 907 (vR 511), en P "__weakref__" 910 (vR 514), en P "__doc__" 911 .none] 4
noncomputable def h20_513 : Obj := ⟨(.type "type"), none, .cls { name := (S "UnknownScoreFunctionError"), bases := [(.type "ValueError")], mro := [vR 513, (.type "ValueError"), (.type "Exception"), (.type "BaseException"), (.type "object")], ns := 512, qualname := (S "UnknownScoreFunctionError"), hasDict := true, slotNames := [], subclasses := [], abstract := false, collection := none, hasDel := false }, [(some (vR 495)), none, (some (vS "UnknownScoreFunctionError" 885)), (some (vS "UnknownScoreFunctionError" 893)), (some (.builtin "ValueError.__new__")), (some (.bool true))].toArray⟩
noncomputable def h20_514 : Obj := ⟨(.type "getset_descriptor"), none, .fields [vS "__weakref__" 909, vR 513, (.builtin "ExceptionGroup.__weakref__"), .none].toArray, [].toArray⟩
noncomputable def h20_515 : Obj := ⟨(.type "super"), none, .fields [vR 513, vR 513, vR 513].toArray, [].toArray⟩
noncomputable def h20_516 : Obj := ⟨(.type "builtin_function_or_method"), none, .fields [(.builtin "object.__init_subclass__"), vR 513].toArray, [].toArray⟩
noncomputable def h38_30 : Obj := fI [vI 2, vI 0, vR 38, vI 6, vI 0, vR 46, vI 25, vI 0, vR 85, vI 32, vI 0, vR 92, vI 35, vI 0, vR 99, vI 40, vI 0, vR 106, vI 47, vI 0, vR 113, vI 87, vI 0, vR 153, vI 93, vI 0, vR 160, vI 167, vI 0, vR 309, vI 181, vI 0, vR 316, vI 201, vI 0, vR 323, vI 279, vI 0, vR 463, vI 293, vI 0, vR 501, vI 298, vI 0, vR 523, vI 316, vI 0, vR 530, vI 325, vI 0, vR 537, vI 329, vI 0, vR 544, vI 333, vI 0, vR 551, vI 339, vI 0, vR 558, vI 343, vI 0, vR 565, vI 347, vI 0, vR 572, vI 351, vI 0, vR 579, vI 356, vI 0, vR 584, vI 359, vI 0, vR 589, vI 361, vI 0, vR 594, vI 366, vI 0, vR 599, vI 368, vI 0, vR 604, vI 376, vI 0, vR 609, vI 381, vI 0, vR 616, vI 388, vI 0, vR 621]
noncomputable def h38_520 : Obj := tU [vS "scorefct_id" 917, vS "committeesize" 918, vS "base" 919, vS "param" 920]
noncomputable def h38_522 : Obj := fG "get_marginal_scorefct" "get_marginal_scorefct" (st1 21)
noncomputable def h38_527 : Obj := tU [vS "scorefct_id" 927, vS "profile" 928, vS "committee" 929, vS "marginal_scorefct" 930, vS "score" 931, vS "vote" 932, vS "cand_in_com" 933, vS "_" 934]
noncomputable def h38_529 : Obj := fG "thiele_score" "thiele_score" (st1 22)
noncomputable def h38_534 : Obj := tU [vS "i" 941, vS "base" 942]
noncomputable def h38_536 : Obj := fG "geometric_marginal_score_fct" "geometric_marginal_score_fct" (st1 23)
noncomputable def h38_537 : Obj := cO "geometric_marginal_score_fct" 938 "geometric_marginal_score_fct" 939 940 325 2 0 3 [vR 532, (.bool true), vI 271, vR 533, .none, vR 534, vR 535, vR 536] 943 944
noncomputable def h38_538 : Obj := fF "geometric_marginal_score_fct" "geometric_marginal_score_fct" (st1 23) .none (vS "abcvoting.scores" 883) (vR 537)
noncomputable def h38_541 : Obj := tU [vS "i" 949]
noncomputable def h38_543 : Obj := fG "pav_score_fct" "pav_score_fct" (st1 24)
noncomputable def h38_548 : Obj := tU [vS "i" 956]
noncomputable def h38_550 : Obj := fG "adams_score_fct" "adams_score_fct" (st1 25)
noncomputable def h38_551 : Obj := cO "adams_score_fct" 953 "adams_score_fct" 954 955 333 1 0 3 [vR 546, (.bool true), vI 271, vR 547, .none, vR 548, vR 549, vR 550] 957 958
noncomputable def h38_552 : Obj := fF "adams_score_fct" "adams_score_fct" (st1 25) .none (vS "abcvoting.scores" 883) (vR 551)
noncomputable def h38_555 : Obj := tU [vS "i" 963]
noncomputable def h38_557 : Obj := fG "slav_score_fct" "slav_score_fct" (st1 26)
noncomputable def h38_558 : Obj := cO "slav_score_fct" 960 "slav_score_fct" 961 962 339 1 0 3 [vR 553, (.bool true), vI 271, vR 554, .none, vR 555, vR 556, vR 557] 964 965
noncomputable def h38_559 : Obj := fF "slav_score_fct" "slav_score_fct" (st1 26) .none (vS "abcvoting.scores" 883) (vR 558)
noncomputable def h38_562 : Obj := tU [vS "i" 970]
noncomputable def h38_564 : Obj := fG "av_score_fct" "av_score_fct" (st1 27)
noncomputable def h38_565 : Obj := cO "av_score_fct" 967 "av_score_fct" 968 969 343 1 0 3 [vR 560, (.bool true), vI 271, vR 561, .none, vR 562, vR 563, vR 564] 971 972
noncomputable def h38_566 : Obj := fF "av_score_fct" "av_score_fct" (st1 27) .none (vS "abcvoting.scores" 883) (vR 565)
noncomputable def h38_569 : Obj := tU [vS "i" 977]
noncomputable def h38_571 : Obj := fG "cc_score_fct" "cc_score_fct" (st1 28)
noncomputable def h38_572 : Obj := cO "cc_score_fct" 974 "cc_score_fct" 975 976 347 1 0 3 [vR 567, (.bool true), vI 271, vR 568, .none, vR 569, vR 570, vR 571] 978 979
noncomputable def h38_573 : Obj := fF "cc_score_fct" "cc_score_fct" (st1 28) .none (vS "abcvoting.scores" 883) (vR 572)
noncomputable def h38_576 : Obj := tU [vS "i" 984, vS "ell" 985]
noncomputable def h38_578 : Obj := fG "at_least_ell_fct" "at_least_ell_fct" (st1 29)
noncomputable def h38_579 : Obj := cO "at_least_ell_fct" 981 "at_least_ell_fct" 982 983 351 2 0 3 [vR 574, (.bool true), vI 271, vR 575, .none, vR 576, vR 577, vR 578] 986 987
noncomputable def h38_580 : Obj := fF "at_least_ell_fct" "at_least_ell_fct" (st1 29) .none (vS "abcvoting.scores" 883) (vR 579)
noncomputable def h38_583 : Obj := fG "_law_draws" "_law_draws" (st1 31)
noncomputable def h38_588 : Obj := fG "_law_ballots" "_law_ballots" (st1 32)
noncomputable def h38_593 : Obj := fG "_law_within" "_law_within" (st1 33)
noncomputable def h38_598 : Obj := fG "_law_score" "_law_score" (st1 34)
noncomputable def h38_603 : Obj := fG "_law_gives" "_law_gives" (st1 35)
noncomputable def h38_608 : Obj := fG "_law_neighbours" "_law_neighbours" (st1 36)
noncomputable def h38_613 : Obj := tU [vS "ballots" 1030, vS "m" 1031, vS "committee" 1032, vS "best" 1033, vS "gain" 1034, vS "other" 1035, vS "lift" 1036]
noncomputable def h38_615 : Obj := fG "_law_lifted" "_law_lifted" (st1 37)
noncomputable def h38_620 : Obj := fG "law" "law" (st1 38)
noncomputable def sp : List Obj → List Obj × List Obj
  | [] => ([], [])
  | x :: l => (x :: (sp l).2, (sp l).1)
noncomputable def bt : Nat → List Obj → BT
  | 0, _ => .nil
  | _ + 1, [] => .nil
  | n + 1, x :: l => .node x (bt n (sp l).1) (bt n (sp l).2)
noncomputable def LF (P : Params) : List Obj := [hs_0 P, hs_1 P, h10_2 P, o3 P, o4, hs_5, hs_6, hs_7, o312, hs_9, hs_10, hs_11, hs_12 P, hs_13, hs_14 P, hs_15, hs_7, hs_17, hs_18, hs_19, hs_20, hs_21 P, hs_22 P, hs_23, hs_24, hs_25, hs_26, hs_27, hs_28, hs_7, h38_30, hp_31, hp_32, hs_7, o312, h10_35, hs_7, h10_37, h10_38, h10_39, h10_40, h10_41, h10_42 P, o43, hs_7, h10_45, h10_46, h10_47, hs_7, o49, h10_50, h10_51, o312, h10_53, h10_54, h10_55, o56, o57, hs_7, o312, h10_60, hs_7, h10_62, h10_63, h10_64, o517, hs_7, o312, h10_68, hs_7, h10_70, h10_71, h10_72, hs_7, o74 P, o75, o76, h10_77, h10_78, o517, hs_7, o312, h10_82, h10_83, h10_84, h10_85, h10_86, hs_7, o312, h10_89, hs_7, h10_91, o92, o93, hs_7, o312, h10_96, hs_7, h10_98, o99, o100, hs_7, o312, h10_103, hs_7, h10_105, o106, o107, hs_7, h10_41, h10_110 P, hs_7, h10_112, h10_113, h10_114, o115, hs_7, o312, h10_118, hs_7, h10_120, o121, o122, hs_7, o312, h10_125, hs_7, h10_127, o128, o129, hs_7, o312, h10_132, hs_7, h10_134, o135, o136, h10_137, h10_138, o139 P, o140, o141, o142, o143, o144, o145, h10_146, h10_147, hs_7, o312, h13_150, hs_7, h13_152, o153, o154, hs_7, h10_41, h13_157 P, hs_7, h13_159, h13_160, h13_161, o162, hs_7, o312, h13_165, hs_7, h13_167, o168, o169, hs_7, o312, h13_172, hs_7, h13_174, h13_175, h13_176, hs_7, o312, h13_179, hs_7, h13_181, h13_182, h13_183, hs_7, o312, h13_186, hs_7, h13_188, o189, o190, hs_7, o312, h13_193, hs_7, h13_195, o196, o197, hs_7, o312, h13_200, hs_7, h13_202, h13_203, h13_204, hs_7, o312, h13_207, hs_7, h13_209, o210, o211, hs_7, o312, h13_214, hs_7, h13_216, o217, o218, hs_7, o312, h13_221, hs_7, h13_223, h13_224, h13_225, hs_7, o312, h13_228, hs_7, h13_230, h13_231, h13_232, hs_7, o312, h13_235, hs_7, h13_237, o238, o239, hs_7, o312, h13_242, hs_7, h13_244, o245, o246, hs_7, o312, h13_249, hs_7, h13_251, h13_252, h13_253, hs_7, o312, h13_256, hs_7, h13_258, h13_259, h13_260, hs_7, o312, h13_263, hs_7, h13_265, o266, o267, hs_7, o312, h13_270, hs_7, h13_272, h13_273, h13_274, hs_7, o312, h13_277, hs_7, h13_279, h13_280, h13_281, hs_7, o312, h13_284, hs_7, h13_286, h13_287, h13_288, hs_7, o312, h13_291, hs_7, h13_293, h13_294, h13_295, h13_296, o297 P, o298, o299, h13_300, h13_301, h13_302, o303, hs_7, o312, h17_306, hs_7, h17_308, o309, o310, hs_7, o312, h17_313, h17_314, h17_315, o316, o317, hs_7, h10_41, h17_320 P, hs_7, h17_322, h17_323, h17_324, o517, hs_7, o312, h17_328, o329, o330, hs_7, o312, h17_333, hs_7, h17_335, o336, o337, o338, hs_7, o312, h17_341, hs_7, h17_343, h17_344, h17_345, hs_7, o312, h17_348, hs_7, h17_350, h17_351, h17_352, hs_7, o312, h17_355, hs_7, h17_357, o358, o359, hs_7, o312, h17_362, hs_7, h17_364, o365, o366, hs_7, o312, h17_369, hs_7, h17_371, o372, o373, hs_7, o312, h17_376, hs_7, h17_378, o379, o380, hs_7, o312, h17_383, hs_7, h17_385, h17_386, h17_387, hs_7, o312, h17_390, hs_7, h17_392, h17_393, h17_394, hs_7, o312, h17_397, hs_7, h17_399, h17_400, h17_401, hs_7, o312, h17_404, hs_7, h17_406, o407, o408, hs_7, o312, h17_411, hs_7, h17_413, o414, o415, hs_7, o312, h17_418, hs_7, h17_420, h17_421, h17_422, hs_7, o312, h17_425, hs_7, h17_427, h17_428, h17_429, hs_7, o312, h17_432, hs_7, h17_434, h17_435, h17_436, hs_7, o312, h17_439, hs_7, h17_441, h17_442, h17_443, hs_7, o312, h17_446, hs_7, h17_448, h17_449, h17_450, h17_451, o452 P, o453, h17_454, h17_455, h17_456, h17_457, hs_7, h10_41, h20_460 P, hs_7, h20_462, h20_463, h20_464, o465, hs_7, o312, h20_468, hs_7, h20_470, o471, o472, hs_7, o312, h20_475, hs_7, h20_477, h20_478, h20_479, o517, hs_7, o312, h20_483, hs_7, h20_485, h20_486, h20_487, h20_488, o489 P, o490, h20_491, h20_492, h20_493, h20_494, h20_495, h10_41, h20_497 P, h20_498, hs_7, h20_500, h20_501, h20_502, h20_503, h20_504, o312, h20_506, hs_7, h20_508, h20_509, h20_510, hs_7, h20_512 P, h20_513, h20_514, h20_515, h20_516, o517, hs_7, o312, h38_520, hs_7, h38_522, o523, o524, hs_7, o312, h38_527, hs_7, h38_529, o530, o531, hs_7, o312, h38_534, hs_7, h38_536, h38_537, h38_538, hs_7, o312, h38_541, hs_7, h38_543, o544, o545, hs_7, o312, h38_548, hs_7, h38_550, h38_551, h38_552, hs_7, o312, h38_555, hs_7, h38_557, h38_558, h38_559, hs_7, o312, h38_562, hs_7, h38_564, h38_565, h38_566, hs_7, o312, h38_569, hs_7, h38_571, h38_572, h38_573, hs_7, o312, h38_576, hs_7, h38_578, h38_579, h38_580, hs_7, o312, h38_583, o584, o585, hs_7, o312, h38_588, o589, o590, hs_7, o312, h38_593, o594, o595, hs_7, o312, h38_598, o599, o600, hs_7, o312, h38_603, o604, o605, hs_7, o312, h38_608, o609, o610, hs_7, o312, h38_613, hs_7, h38_615, o616, o617, hs_7, o312, h38_620, o621, o622]
noncomputable def Tb (P : Params) : BT := bt 11 (((((LF P).take 33).set 2 (hs_2 P)).set 3 (hs_3 P)).set 30 (o312))
noncomputable def T10 (P : Params) : BT := bt 11 ((((LF P).take 148).set 3 (h10_3 P)).set 30 (h10_30))
noncomputable def T13 (P : Params) : BT := bt 11 ((((LF P).take 303).set 3 (h13_3 P)).set 30 (h13_30))
noncomputable def T17 (P : Params) : BT := bt 11 ((((LF P).take 458).set 3 (h17_3 P)).set 30 (h17_30))
noncomputable def T20 (P : Params) : BT := bt 11 ((((LF P).take 517).set 3 (h20_3 P)).set 30 (h20_30))
noncomputable def T38 (P : Params) : BT := bt 11 (LF P)
noncomputable def Hf (P : Params) : Heap := ⟨(LF P).toArray, Ls⟩
noncomputable abbrev pW : Program := PySem.Challenge.pw_ba0003_01
noncomputable def bB : List Stmt := behindTheImports pW
noncomputable def eE : Env := { scope := pW.main.scope, locals := mainNs, globals := mainNs, cells := [], code := .ref 31, frame := some 32 }
noncomputable def cE : Code := .body bB eE
noncomputable abbrev p0 : Pos := ⟨0, 0, 0, 0⟩
noncomputable abbrev fB : List Frame := [topFrame p0]
noncomputable abbrev aN : Option Value := some (.ref 6)
noncomputable abbrev Xb (w : World) (os : OsState) : SharedT := ⟨Tb w.params, 33, Ls, #[], Ds, 277, os⟩
noncomputable abbrev X10 (w : World) (os : OsState) : SharedT := ⟨T10 w.params, 148, Ls, #[], Ds, 443, os⟩
noncomputable abbrev X13 (w : World) (os : OsState) : SharedT := ⟨T13 w.params, 303, Ls, #[], Ds, 639, os⟩
noncomputable abbrev X17 (w : World) (os : OsState) : SharedT := ⟨T17 w.params, 458, Ls, #[], Ds, 835, os⟩
noncomputable abbrev X20 (w : World) (os : OsState) : SharedT := ⟨T20 w.params, 517, Ls, #[], Ds, 914, os⟩
noncomputable abbrev X38 (w : World) (os : OsState) : SharedT := ⟨T38 w.params, 623, Ls, #[], Ds, 1046, os⟩
theorem h_open : ∀ w : World, (fencedOpening treeTable pW w 7418).map (fun s => (s.heap, s.gens, s.drawn, s.toks)) = some (Hs w.params, #[], Ds, 271) := by intro w; kernel_rfl
theorem h_pre : ∀ (w : World) (os : OsState), topGo treeTable pW w 29 aN 12 ⟨Hs w.params, #[], Ds, 271, os⟩ (topStub pW) = some (⟨Hp w.params, #[], Ds, 277, os⟩, ⟨denote treeTable cE, cE, p0, fB⟩) := by intro w os; kernel_rfl
theorem h_block : ∀ (w : World) (os : OsState), segRun treeTable pW w 29 aN 1 1 ⟨Hp w.params, #[], Ds, 277, os⟩ (blockOf bB eE cE p0 fB) = some (.next, (Xb w os).abs, cE, p0) := by intro w os; kernel_rfl
theorem h_10 : ∀ (w : World) (os : OsState), segRunT treeTable pW w 29 aN 1 852 (Xb w os) (piecesOf ((bB.drop 0).take 10) eE cE p0 fB) = some (.next, X10 w os, cE, ⟨86, 0, 86, 8⟩) := by intro w os; kernel_rfl
theorem h_13 : ∀ (w : World) (os : OsState), segRunT treeTable pW w 29 aN 1 857 (X10 w os) (piecesOf ((bB.drop 10).take 3) eE cE ⟨86, 0, 86, 8⟩ fB) = some (.next, X13 w os, cE, ⟨166, 0, 166, 8⟩) := by intro w os; kernel_rfl
theorem h_17 : ∀ (w : World) (os : OsState), segRunT treeTable pW w 29 aN 1 906 (X13 w os) (piecesOf ((bB.drop 13).take 4) eE cE ⟨166, 0, 166, 8⟩ fB) = some (.next, X17 w os, cE, ⟨201, 0, 278, 16⟩) := by intro w os; kernel_rfl
theorem h_20 : ∀ (w : World) (os : OsState), segRunT treeTable pW w 29 aN 1 535 (X17 w os) (piecesOf ((bB.drop 17).take 3) eE cE ⟨201, 0, 278, 16⟩ fB) = some (.next, X20 w os, cE, ⟨293, 0, 297, 33⟩) := by intro w os; kernel_rfl
theorem h_38 : ∀ (w : World) (os : OsState), segRunT treeTable pW w 29 aN 1 501 (X20 w os) (piecesOf ((bB.drop 20).take 18) eE cE ⟨293, 0, 297, 33⟩ fB) = some (.next, X38 w os, cE, ⟨388, 0, 406, 59⟩) := by intro w os; kernel_rfl
theorem h_fin : ∀ (w : World) (os : OsState), topRun treeTable pW w 29 aN 2 (X38 w os).abs ⟨doneF .next, cE, ⟨388, 0, 406, 59⟩, fB⟩ = some ⟨Hf w.params, #[], Ds, 1046, os⟩ := by intro w os; kernel_rfl
theorem h_nil : bB.drop 38 = [] := by kernel_rfl
theorem drop_take (i k : Nat) : bB.drop i = (bB.drop i).take k ++ bB.drop (i + k) := by
  rw [← List.drop_drop]; exact (List.take_append_drop k (bB.drop i)).symm
theorem h_run : ∀ (w : World) (os : OsState), topRun treeTable pW w 29 aN (12 + (1 + (852 + (857 + (906 + (535 + (501 + 2))))))) ⟨Hs w.params, #[], Ds, 271, os⟩ (topStub pW) = some ⟨Hf w.params, #[], Ds, 1046, os⟩ := by
  intro w os
  have k := h_fin w os
  have k : topRun treeTable pW w 29 aN 2 (X38 w os).abs (restOf (bB.drop 38) eE cE ⟨388, 0, 406, 59⟩ fB) = some ⟨Hf w.params, #[], Ds, 1046, os⟩ := by rw [h_nil]; exact piece_nil k
  have k : topRun treeTable pW w 29 aN (501 + 2) (X20 w os).abs (restOf (bB.drop 20) eE cE ⟨293, 0, 297, 33⟩ fB) = some ⟨Hf w.params, #[], Ds, 1046, os⟩ := by rw [drop_take 20 18]; exact piece_app (segRun_of (h_38 w os)) k
  have k : topRun treeTable pW w 29 aN (535 + (501 + 2)) (X17 w os).abs (restOf (bB.drop 17) eE cE ⟨201, 0, 278, 16⟩ fB) = some ⟨Hf w.params, #[], Ds, 1046, os⟩ := by rw [drop_take 17 3]; exact piece_app (segRun_of (h_20 w os)) k
  have k : topRun treeTable pW w 29 aN (906 + (535 + (501 + 2))) (X13 w os).abs (restOf (bB.drop 13) eE cE ⟨166, 0, 166, 8⟩ fB) = some ⟨Hf w.params, #[], Ds, 1046, os⟩ := by rw [drop_take 13 4]; exact piece_app (segRun_of (h_17 w os)) k
  have k : topRun treeTable pW w 29 aN (857 + (906 + (535 + (501 + 2)))) (X10 w os).abs (restOf (bB.drop 10) eE cE ⟨86, 0, 86, 8⟩ fB) = some ⟨Hf w.params, #[], Ds, 1046, os⟩ := by rw [drop_take 10 3]; exact piece_app (segRun_of (h_13 w os)) k
  have k : topRun treeTable pW w 29 aN (852 + (857 + (906 + (535 + (501 + 2))))) (Xb w os).abs (restOf (bB.drop 0) eE cE p0 fB) = some ⟨Hf w.params, #[], Ds, 1046, os⟩ := by rw [drop_take 0 10]; exact piece_app (segRun_of (h_10 w os)) k
  have k := piece_block (h_block w os) k
  exact go_top (h_pre w os) k
theorem h_size : ∀ w : World, ((Hs w.params).isNs mainGlobals && (#[] : Array GenState).size == 0, (Hs w.params).objs.size, (Hs w.params).nsMap mainGlobals "__annotations__") = (true, 29, aN) := by intro w; kernel_rfl
section
set_option maxHeartbeats 0
/-- the part of the text that the head's view shows -/
noncomputable def Vw : Program := view PySem.Challenge.pw_ba0003_01 [0, 1, 3, 6, 7, 8, 9, 11, 12, 15, 17, 18, 20, 22, 23, 24, 25, 26, 27, 28, 29, 31, 32, 33, 34, 35, 36, 37, 38]
noncomputable def Lo : List Str := [S "CandidateSet", S "str_set_of_candidates", S "combinations", S "check_EJR", S "Profile", S "get_marginal_scorefct"]
noncomputable def Kt2 (P : Params) : Frag := Kt P ++ [(2, h10_2 P)]
noncomputable def Ka2 : List Addr := Ka ++ [2]
noncomputable abbrev hkK := kHook Kt2 Ka2 (fun _ => by kernel_rfl)
noncomputable def Xt (s : Shared) : Bool := xlAt Vw [] s && recOk (RowW.records PySem.Challenge.rw_ba0003_01.row.toRowW) s
theorem h_looks : ∀ w : World, (fun os => ((staticsOk (importedModules pW.main.body) (Hs w.params) (Hf w.params) && namesBound pW (Hf w.params) && gensDone ⟨Hf w.params, #[], Ds, 1046, os⟩ && laidKept (Hs w.params) (Hf w.params)),
        openSeen Vw Lo (importedModules pW.main.body) Xt true ⟨Hf w.params, #[], Ds, 1046, os⟩, Hook.obs hkK ⟨Hf w.params, #[], Ds, 1046, os⟩)) = fun _ => (true, openGood Vw Lo, Hook.val hkK w) := by intro w; kernel_rfl
theorem h_left : LeftO pW Vw Lo Xt (Hook.obs hkK) (Hook.val hkK) 7418 :=
  LeftO.of_pieces h_open h_size h_run (by kernel_rfl) h_looks
theorem h_said : PySem.Challenge.rw_ba0003_01.wellSaid = true := by kernel_rfl
end
theorem len1 {α : Type} : ∀ {l : List α}, l.length = 1 → ∃ a, l = [a]
  | [a], _ => ⟨a, rfl⟩
theorem len2 {α : Type} : ∀ {l : List α}, l.length = 2 → ∃ a b, l = [a, b]
  | [a, b], _ => ⟨a, b, rfl⟩
theorem len3 {α : Type} : ∀ {l : List α}, l.length = 3 → ∃ a b c, l = [a, b, c]
  | [a, b, c], _ => ⟨a, b, c, rfl⟩
theorem dec1 {i n : Nat} (h : i < n) : n + 1 - (i + 1) < n + 1 - i := by omega
theorem mcs {α : Type} {a b : α} {l : List α} (h : b ∈ a :: l) : a = b ∨ b ∈ l := (List.mem_cons.mp h).imp Eq.symm id
structure Pr where
  p : Program
  file : ((p.main.file : Str) == S "/claim/cut.py") = true
  sup : (p.main.scope.names.lookup ("super" : Str)).isSome = false
noncomputable abbrev noE : Value → Shared → Prop := fun _ _ => False
noncomputable abbrev Wp {α : Type} (prog : Pr) (w : World) (A : Around) (t : Sem α) (Q : α → Shared → Prop) (s : Shared) : Prop := wpAny (model prog.p w) A t Q noE s
section
variable {α β : Type} {prog : Pr} {w : World} {A : Around} {s : Shared}
theorem Wp.mono {t : Sem α} {Q Q' : α → Shared → Prop} (h : Wp prog w A t Q s) (hQ : ∀ a s, Q a s → Q' a s) : Wp prog w A t Q' s := wpAny_mono h hQ fun _ _ e => e
theorem Wp.any {t : Sem α} {Q : α → Shared → Prop} {E : Value → Shared → Prop} (h : Wp prog w A t Q s) : wpAny (model prog.p w) A t Q E s := wpAny_mono h (fun _ _ q => q) fun _ _ e => e.elim
end
structure Kh (h h' : Heap) : Prop where
  k : ∀ b o, h.get? b = some o → o.cls ≠ .none → h'.get? b = some o
  x : ∀ b o, h.get? b = some o → ∃ o', h'.get? b = some o'
theorem Kh.refl (h : Heap) : Kh h h := ⟨fun _ _ e _ => e, fun b o e => ⟨o, e⟩⟩
theorem Kh.trans {a b c : Heap} (x : Kh a b) (y : Kh b c) : Kh a c := ⟨fun p o e n => y.k p o (x.k p o e n) n, fun p o e => let ⟨o', e'⟩ := x.x p o e; y.x p o' e'⟩
theorem Kh.of {h h' : Heap} (k : ∀ b o, h.get? b = some o → h'.get? b = some o) : Kh h h' := ⟨fun b o e _ => k b o e, fun b o e => ⟨o, k b o e⟩⟩
theorem Kh.none {h h' : Heap} (x : Kh h h') {a : Addr} (e : h'.get? a = none) : h.get? a = none := by
  cases q : h.get? a with
  | none => rfl
  | some o => obtain ⟨o', e'⟩ := x.x a o q; rw [e] at e'; cases e'
noncomputable def NN (h : Heap) (a : Addr) : Prop := ∃ o, h.get? a = some o ∧ o.cls ≠ .none
theorem NN.at {h h' : Heap} {a : Addr} (n : NN h a) (k : Kh h h') : ∀ o, h.get? a = some o → h'.get? a = some o := fun o e => by
  obtain ⟨o', e', c⟩ := n
  rw [e'] at e; cases e
  exact k.k a _ e' c
theorem NN.kh {h h' : Heap} {a : Addr} (n : NN h a) (k : Kh h h') : NN h' a := let ⟨o, e, c⟩ := n; ⟨o, k.k a o e c, c⟩
noncomputable abbrev Kp (s s' : Shared) : Prop := Kh s.heap s'.heap
theorem kp_refl (s : Shared) : Kp s s := Kh.refl _
theorem kp_trans {s s' s'' : Shared} (x : Kp s s') (y : Kp s' s'') : Kp s s'' := Kh.trans x y
theorem kp_tok (s : Shared) (t : Nat) : Kp s { s with toks := t } := Kh.refl _
theorem kp_mk {s : Shared} {h : Heap} {t : Nat} (k : ∀ b o, s.heap.get? b = some o → h.get? b = some o) : Kp s { s with heap := h, toks := t } := Kh.of k
structure Pm where
  H : Heap
  mg : Str → Option Value
  mb : Str → Option Value
  os : OsState
noncomputable def NoOpq (h : Heap) : Prop := ∃ mc, h.Ns cStatics mc ∧ mc "thirdparty.any" = none
structure CxH (w : World) (β : Pm) (h : Heap) (gs : Array GenState) (os : OsState) : Prop where
  KH : (Kf w.params).In β.H
  gH : β.H.Ns mainGlobals β.mg
  bH : β.H.Ns builtinsNs β.mb
  lH : β.H.NoLimit
  h1 : β.H.TableAt 56 52 #[]
  h2 : β.H.TableAt 379 375 #[]
  h3 : β.H.TableAt 316 312 #[]
  K : (Kf w.params).In h
  g : h.Ns mainGlobals β.mg
  b : h.Ns builtinsNs β.mb
  lim : h.NoLimit
  op : NoOpq h
  bi : ∀ x : Str, x ≠ "__name__" → β.mb x = bootBuiltins x
  old : OldK β.H h
  t1 : ∃ ps, h.IsCode 56 52 ps ∧ h.TableAt 56 52 ps
  t2 : ∃ ps, h.IsCode 379 375 ps ∧ h.TableAt 379 375 ps
  t3 : ∃ ps, h.IsCode 316 312 ps ∧ h.TableAt 316 312 ps
  bare : AllBare gs
  os : os = β.os
noncomputable abbrev Cx (w : World) (β : Pm) (s : Shared) : Prop := CxH w β s.heap s.gens s.os
section
variable {w : World} {β : Pm} {s : Shared} {g₀ h : Heap} {gs : Array GenState} {os : OsState}
theorem CxH.keeps' (C : CxH w β g₀ gs os) (k : ∀ b o, g₀.get? b = some o → h.get? b = some o) : CxH w β h gs os :=
  { C with
    K := C.K.keeps k
    g := C.g.keeps k
    b := C.b.keeps k
    lim := C.lim.keeps k
    op := let ⟨mc, x, y⟩ := C.op; ⟨mc, x.keeps k, y⟩
    old := C.old.step_keeps k
    t1 := let ⟨ps, a, b⟩ := C.t1; ⟨ps, a.keeps k, b.keeps k⟩
    t2 := let ⟨ps, a, b⟩ := C.t2; ⟨ps, a.keeps k, b.keeps k⟩
    t3 := let ⟨ps, a, b⟩ := C.t3; ⟨ps, a.keeps k, b.keeps k⟩ }
theorem old_turn {h₀ h h' : Heap} (K : OldK h₀ h) (k : ∀ b, (∃ o, h₀.get? b = some o) → ∀ o, h.get? b = some o → h'.get? b = some o) : OldK h₀ h' := by
  refine ⟨fun b o e => ?_, fun b o e => let ⟨o', ho'⟩ := K.there b o e; ⟨o', k b ⟨o, e⟩ _ ho'⟩⟩
  rcases K.old b o e with x | ⟨t, hc, vs, more, hv, x⟩ | ⟨rfl, hc, ⟨o', es, n, ho', r⟩, z⟩
  · exact .inl (k b ⟨o, e⟩ _ x)
  · exact .inr (.inl ⟨t, hc, vs, more, hv, k b ⟨o, e⟩ _ x⟩)
  · exact .inr (.inr ⟨rfl, hc, ⟨o', es, n, k _ ⟨o, e⟩ _ ho', r⟩, fun key => by rw [OldK.staticOf_congr ((k _ ⟨o, e⟩ _ ho').trans ho'.symm) key]; exact z key⟩)
theorem CxH.new (C : CxH w β g₀ gs os) {a : Addr} (e : g₀.get? a = none) : β.H.get? a = none := by
  cases q : β.H.get? a with
  | none => rfl
  | some o => obtain ⟨o', e'⟩ := C.old.there a o q; rw [e] at e'; cases e'
theorem CxH.turn (C : CxH w β g₀ gs os) (k : ∀ b, (∃ o, β.H.get? b = some o) → ∀ o, g₀.get? b = some o → h.get? b = some o) : CxH w β h gs os := by
  have tb : ∀ {c P : Addr} {ps : Array Value}, β.H.TableAt c P #[] → g₀.IsCode c P ps → g₀.TableAt c P ps → h.IsCode c P ps ∧ h.TableAt c P ps := by
    rintro c P ps ⟨⟨o, vs, e1, _⟩, e2⟩ ⟨o', vs', file, tf, flags, tg, inF, text, tt, op, a, r1, r2, r3, r4, r5, r6, b, r⟩ ⟨⟨o'', vs'', q2, r2'⟩, q3⟩
    exact ⟨⟨o', vs', file, tf, flags, tg, inF, text, tt, op, k _ ⟨_, e1⟩ _ a, r1, r2, r3, r4, r5, r6, k _ ⟨_, e2⟩ _ b, r⟩, ⟨o'', vs'', k _ ⟨_, e1⟩ _ q2, r2'⟩, k _ ⟨_, e2⟩ _ q3⟩
  have ns : ∀ {b : Addr} {m : Str → Option Value}, β.H.Ns b m → ∀ {m'}, g₀.Ns b m' → h.Ns b m' := by
    rintro b m ⟨o, es, ep, e, _⟩ m' x
    exact x.at' (k _ ⟨o, e⟩)
  refine { C with K := fun b o e => k b ⟨o, C.KH b o e⟩ _ (C.K b o e), g := ns C.gH C.g, b := ns C.bH C.b, lim := ?_, op := ?_, old := old_turn C.old k, t1 := ?_, t2 := ?_, t3 := ?_ }
  · obtain ⟨mc, x, y⟩ := C.lim
    obtain ⟨mc', x', _⟩ := C.lH
    exact ⟨mc, ns x' x, y⟩
  · obtain ⟨mc, x, y⟩ := C.op
    obtain ⟨mc', x', _⟩ := C.lH
    exact ⟨mc, ns x' x, y⟩
  · obtain ⟨ps, x, y⟩ := C.t1; exact ⟨ps, tb C.h1 x y⟩
  · obtain ⟨ps, x, y⟩ := C.t2; exact ⟨ps, tb C.h2 x y⟩
  · obtain ⟨ps, x, y⟩ := C.t3; exact ⟨ps, tb C.h3 x y⟩
theorem CxH.but (C : CxH w β g₀ gs os) {wr : List Addr} (hw : ∀ b ∈ wr, β.H.get? b = none) (k : ∀ b o, b ∉ wr → g₀.get? b = some o → h.get? b = some o) : CxH w β h gs os :=
  C.turn fun b ⟨o, e⟩ o' e' => k b o' (fun z => by rw [hw b z] at e; cases e) e'
theorem CxH.step (C : CxH w β g₀ gs os) {a : Addr} (ha : β.H.get? a = none) (hs : Heap.SameBut a g₀ h) : CxH w β h gs os :=
  C.turn fun b ⟨o, e⟩ o' e' => (hs.2 b fun z => by rw [z, ha] at e; cases e).trans e'
end
noncomputable def stay (o : Obj) : Bool := match o.cls with
  | .type x => x == "list" || x == "tuple" || x == "range" || x == "dict" || x == "set"
  | .ref _ => true
  | _ => false
noncomputable def D (M : List Addr) (h h' : Heap) : Prop := ∀ b o, h.get? b = some o → stay o = true → b ∉ M → h'.get? b = some o
theorem D.refl (M : List Addr) (h : Heap) : D M h h := fun _ _ e _ _ => e
theorem D.trans {M : List Addr} {a b c : Heap} (x : D M a b) (y : D M b c) : D M a c := fun p o e q r => y p o (x p o e q r) q r
theorem stay_ne {o : Obj} (h : stay o = true) : o.cls ≠ .none := fun e => by simp [stay, e] at h
theorem D.of_kh {M : List Addr} {h h' : Heap} (x : Kh h h') : D M h h' := fun b o e q _ => x.k b o e (stay_ne q)
theorem D.of_kp {M : List Addr} {s s' : Shared} (x : Kp s s') : D M s.heap s'.heap := D.of_kh x
theorem D.but {M : List Addr} {h h' : Heap} (k : ∀ b o, b ∉ M → h.get? b = some o → h'.get? b = some o) : D M h h' := fun b o e _ n => k b o n e
theorem D.of {M : List Addr} {h h' : Heap} (k : ∀ b o, h.get? b = some o → h'.get? b = some o) : D M h h' := fun b o e _ _ => k b o e
inductive PV where
  | raw (v : Value)
  | int (n : Int)
  | bool (b : Bool)
  | str (x : Str)
  | list (xs : List PV)
  | tup (xs : List PV)
  | rng (a : Int) (n : Nat)
  | frac (a b : Int)
  | set (own led : Bool) (S : Nat)
  | obj (C : Addr) (fs : List (Str × PV))
  | any
noncomputable def els (S : Nat) : List Nat := [0, 1, 2, 3].filter (S.testBit ·)
noncomputable def tab (led : Bool) (S : Nat) : SetTable := { mask := 7, place := (els S).toArray, dummies := #[], finger := 0, led := led, moves := 0, plain := true }
noncomputable def ents (S : Nat) (tk : Nat → Tok) : Array (Int × Value) := ((els S).map fun k => (((k : Nat) : Int), Value.int ((k : Nat) : Int) (tk k))).toArray
noncomputable def setO (C : Value) (d : Option Addr) (led : Bool) (S : Nat) (tk : Nat → Tok) (ep : Nat) : Obj := { cls := C, dict := d, data := .set (ents S tk) ep (tab led S) }
noncomputable def setC : Bool → Value
  | true => .ref 75
  | false => .type "set"
theorem stay_set {own : Bool} {d : Option Addr} {led : Bool} {S : Nat} {tk : Nat → Tok} {ep : Nat} : stay (setO (setC own) d led S tk ep) = true := by cases own <;> rfl
noncomputable abbrev SeqAt (h : Heap) (T : String) (a : Addr) (its : Array Value) : Prop := ∃ n, h.get? a = some { cls := .type T, data := .seq its n }
noncomputable def DictAt (h : Heap) (a : Addr) (m : Str → Option Value) : Prop := ∃ es ep, h.get? a = some { cls := .type "dict", data := .dict es ep } ∧ StrKeys es ∧ ∀ name, nsFind es name = m name
theorem DictAt.at {h h' : Heap} {a : Addr} {m : Str → Option Value} (x : DictAt h a m) (k : ∀ o, h.get? a = some o → h'.get? a = some o) : DictAt h' a m := let ⟨es, ep, e, r⟩ := x; ⟨es, ep, k _ e, r⟩
noncomputable abbrev inst (C dx : Addr) : Obj := { cls := .ref C, dict := some dx, data := .plain }
inductive Rep (M : List Addr) (h : Heap) : Value → PV → Prop
  | any (v : Value) : Rep M h v .any
  | raw (v : Value) : Rep M h v (.raw v)
  | int (n : Int) (t : Tok) : Rep M h (.int n t) (.int n)
  | bool (b : Bool) : Rep M h (.bool b) (.bool b)
  | str (x : Str) (t : Tok) : Rep M h (.str x t) (.str x)
  | list {a : Addr} {its : Array Value} {xs : List PV} (hm : a ∉ M) (hl : SeqAt h "list" a its) (hs : its.size = xs.length) (he : ∀ (i : Nat) v x, its[i]? = some v → xs[i]? = some x → Rep M h v x) : Rep M h (.ref a) (.list xs)
  | tup {a : Addr} {its : Array Value} {xs : List PV} (hm : a ∉ M) (hl : SeqAt h "tuple" a its) (hs : its.size = xs.length) (he : ∀ (i : Nat) v x, its[i]? = some v → xs[i]? = some x → Rep M h v x) : Rep M h (.ref a) (.tup xs)
  | rng {r : Addr} {a b : Int} {n : Nat} {t u v : Tok} (hm : r ∉ M) (hr : IsRange h r a b 1 t u v) (hs : Builtin.Range.small a b 1 = true) (hn : Builtin.Range.rangeSize a b 1 = (n : Int)) : Rep M h (.ref r) (.rng a n)
  | frac {x dx : Addr} {a b : Int} {t u : Tok} {m : Str → Option Value} (hm : x ∉ M) (hm' : dx ∉ M) (hx : h.get? x = some (inst 298 dx)) (hd : DictAt h dx m) (h1 : m (S "numerator") = some (.int a t)) (h2 : m (S "denominator") = some (.int b u)) (h3 : ∀ y v, m y = some v → y = S "numerator" ∨ y = S "denominator") : Rep M h (.ref x) (.frac a b)
  | set {x : Addr} {own led : Bool} {d : Option Addr} {S : Nat} {tk : Nat → Tok} {ep : Nat} (hm : x ∉ M) (hS : S < 16) (ho : h.get? x = some (setO (setC own) d led S tk ep)) (hd : own = false → d = none) : Rep M h (.ref x) (.set own led S)
  | obj {x dx C : Addr} {fs : List (Str × PV)} {m : Str → Option Value} {vals : Str → Value} (hm : x ∉ M) (hm' : dx ∉ M) (hx : h.get? x = some (inst C dx)) (hd : DictAt h dx m) (hv : ∀ y p, fs.lookup y = some p → m y = some (vals y)) (hr : ∀ y p, fs.lookup y = some p → Rep M h (vals y) p) (ha : ∀ y v, m y = some v → (fs.lookup y).isSome = true) : Rep M h (.ref x) (.obj C fs)
theorem Rep.mono {M : List Addr} {h h' : Heap} (d : D M h h') {v : Value} {p : PV} (r : Rep M h v p) : Rep M h' v p := by
  induction r with
  | any v => exact .any v
  | raw v => exact .raw v
  | int n t => exact .int n t
  | bool b => exact .bool b
  | str x t => exact .str x t
  | list hm hl hs he ih => obtain ⟨n, e⟩ := hl; exact .list hm ⟨n, d _ _ e rfl hm⟩ hs ih
  | tup hm hl hs he ih => obtain ⟨n, e⟩ := hl; exact .tup hm ⟨n, d _ _ e rfl hm⟩ hs ih
  | rng hm hr hs hn => exact .rng hm (d _ _ hr rfl hm) hs hn
  | frac hm hm' hx hd h1 h2 h3 => exact .frac hm hm' (d _ _ hx rfl hm) (hd.at fun o e => d _ o e (by obtain ⟨es, ep, q, _⟩ := hd; rw [q] at e; cases e; rfl) hm') h1 h2 h3
  | set hm hS ho hd => exact .set hm hS (d _ _ ho stay_set hm) hd
  | obj hm hm' hx hd hv hr ha ih => exact .obj hm hm' (d _ _ hx rfl hm) (hd.at fun o e => d _ o e (by obtain ⟨es, ep, q, _⟩ := hd; rw [q] at e; cases e; rfl) hm') hv ih ha
theorem Rep.more {M M' : List Addr} {h : Heap} (hM : ∀ a ∈ M', a ∈ M ∨ h.get? a = none) {v : Value} {p : PV} (r : Rep M h v p) : Rep M' h v p := by
  have key : ∀ {a : Addr} {o : Obj}, a ∉ M → h.get? a = some o → a ∉ M' := fun hm e q => (hM _ q).elim hm fun z => by rw [z] at e; cases e
  induction r with
  | any v => exact .any v
  | raw v => exact .raw v
  | int n t => exact .int n t
  | bool b => exact .bool b
  | str x t => exact .str x t
  | list hm hl hs he ih => obtain ⟨n, e⟩ := hl; exact .list (key hm e) ⟨n, e⟩ hs ih
  | tup hm hl hs he ih => obtain ⟨n, e⟩ := hl; exact .tup (key hm e) ⟨n, e⟩ hs ih
  | rng hm hr hs hn => exact .rng (key hm hr) hr hs hn
  | frac hm hm' hx hd h1 h2 h3 => exact .frac (key hm hx) (by obtain ⟨es, ep, q, _⟩ := id hd; exact key hm' q) hx hd h1 h2 h3
  | set hm hS ho hd => exact .set (key hm ho) hS ho hd
  | obj hm hm' hx hd hv hr ha ih => exact .obj (key hm hx) (by obtain ⟨es, ep, q, _⟩ := id hd; exact key hm' q) hx hd hv ih ha
noncomputable abbrev PVs := List (Str × PV)
inductive RepE (M : List Addr) (h : Heap) : List (Str × Value) → PVs → Prop
  | nil : RepE M h [] []
  | cons {x : Str} {v : Value} {p : PV} {r : List (Str × Value)} {q : PVs} (a : Rep M h v p) (b : RepE M h r q) : RepE M h ((x, v) :: r) ((x, p) :: q)
theorem RepE.mono {M : List Addr} {h h' : Heap} (d : D M h h') {r : List (Str × Value)} {q : PVs} (x : RepE M h r q) : RepE M h' r q := by
  induction x with
  | nil => exact .nil
  | cons a _ ih => exact .cons (a.mono d) ih
theorem RepE.lookup {M : List Addr} {h : Heap} {r : List (Str × Value)} {q : PVs} (e : RepE M h r q) {x : Str} {p : PV} (l : q.lookup x = some p) : ∃ v, r.lookup x = some v ∧ Rep M h v p := by
  induction e with
  | nil => cases l
  | @cons y v p' r q a b ih =>
    simp only [List.lookup] at l ⊢
    cases hx : x == y with
    | true => rw [hx] at l; cases l; exact ⟨v, rfl, a⟩
    | false => rw [hx] at l; exact ih l
theorem RepE.append {M : List Addr} {h : Heap} {r r' : List (Str × Value)} {q q' : PVs} (x : RepE M h r q) (y : RepE M h r' q') : RepE M h (r ++ r') (q ++ q') := by
  induction x with
  | nil => exact y
  | cons a _ ih => exact .cons a ih
noncomputable def isVar : Option NameKind → Bool
  | some .local => true
  | some .cell => true
  | some .free => true
  | _ => false
noncomputable def Loads (env : Env) (h : Heap) (x : Str) (v : Value) : Prop :=
  (env.kindOf x = some .local ∧ NN h env.locals ∧ ∃ m, h.Ns env.locals m ∧ m x = some v) ∨
  ((env.kindOf x = some .cell ∨ (env.kindOf x = some .free ∧ (x == ("__classdict__" : Str)) = false)) ∧ ∃ c, env.cells.lookup x = some c ∧ NN h c ∧ h.IsCell c (some v))
noncomputable abbrev Vars := List (Str × Value)
structure Ld (M : List Addr) (env : Env) (sc : Scope) (h : Heap) (ρ : PVs) : Prop where
  mx : ∀ a ∈ M, NN h a
  nl : ∀ y, sc.names.lookup y = some .cell ∨ sc.names.lookup y = some .free → env.kindOf y ≠ some .local
  kind : env.scope.kind = .function
  glb : env.globals = mainGlobals
  bns : env.builtins = builtinsNs
  glo : ∀ x, sc.names.lookup x = some .globalImplicit → env.kindOf x = some .globalImplicit
  val : ∀ x p, isVar (sc.names.lookup x) = true → ρ.lookup x = some p → ∃ v, Loads env h x v ∧ Rep M h v p
theorem Loads.kh {env : Env} {h h' : Heap} {x : Str} {v : Value} (l : Loads env h x v) (k : Kh h h') : Loads env h' x v := by
  rcases l with ⟨a, n, m, b, c⟩ | ⟨a, c, b, n, o, e, d⟩
  · exact .inl ⟨a, n.kh k, m, b.at' (n.at k), c⟩
  · exact .inr ⟨a, c, b, n.kh k, o, n.at k o e, d⟩
theorem Ld.kh {M : List Addr} {env : Env} {sc : Scope} {h h' : Heap} {ρ : PVs} (l : Ld M env sc h ρ) (k : Kh h h') : Ld M env sc h' ρ :=
  { l with val := fun x p a b => let ⟨v, c, d⟩ := l.val x p a b; ⟨v, c.kh k, d.mono (D.of_kh k)⟩, mx := fun a ha => (l.mx a ha).kh k }
theorem Ld.kp {M : List Addr} {env : Env} {sc : Scope} {s s' : Shared} {ρ : PVs} (l : Ld M env sc s.heap ρ) (k : Kp s s') : Ld M env sc s'.heap ρ := l.kh k
theorem lk_here {α : Type} {x : Str} {v : α} {r : List (Str × α)} : List.lookup x ((x, v) :: r) = some v := by simp [List.lookup]
theorem lk_next {α : Type} {x y : Str} {u v : α} {r : List (Str × α)} (h : (x == y) = false) (e : List.lookup x r = some v) : List.lookup x ((y, u) :: r) = some v := by
  simp only [List.lookup, h]; exact e
section
variable {prog : Pr} {w : World} {A : Around} {β : Pm} {s : Shared} {env : Env} {sc : Scope} {ρ : PVs} {x : Str} {pos : Pos} {v : Value} {p : PV} {Q : Value → Shared → Prop} {M : List Addr}
theorem ev_var (L : Ld M env sc s.heap ρ) (hk : isVar (sc.names.lookup x) = true) (hv : ρ.lookup x = some p) (hd : (x == ("__debug__" : Str)) = false) (h : ∀ v, Rep M s.heap v p → Q v s) :
    Wp prog w A (eval (.Name x pos) env) Q s := by
  obtain ⟨v, l, r⟩ := L.val x p hk hv
  rcases l with ⟨a, _, m, b, c⟩ | ⟨a | ⟨a, a'⟩, c, b, _, d⟩
  · exact wpAny_Name (wpAny_loadName_local L.kind a b c (h v r)) hd
  · exact wpAny_Name (wpAny_loadName_cell L.kind a b d (h v r)) hd
  · exact wpAny_Name (wpAny_loadName_free L.kind a b d (h v r) a') hd
theorem ev_glob (C : Cx w β s) (L : Ld M env sc s.heap ρ) (hk : sc.names.lookup x = some .globalImplicit) (hv : nsIn (Kf w.params) mainGlobals x = some (some v)) (hd : (x == ("__debug__" : Str)) = false) (h : Q v s) :
    Wp prog w A (eval (.Name x pos) env) Q s :=
  Calls.Name_function_global L.kind (L.glo x hk) (Calls.loadGlobal_global (by rw [L.glb]; exact C.g) (mg_of C.K C.g hv) h) hd
theorem ev_bi (C : Cx w β s) (L : Ld M env sc s.heap ρ) (hk : sc.names.lookup x = some .globalImplicit) (hv : nsIn (Kf w.params) mainGlobals x = some none) (hb : bootBuiltins x = some v) (hn : x ≠ "__name__") (hd : (x == ("__debug__" : Str)) = false) (h : Q v s) :
    Wp prog w A (eval (.Name x pos) env) Q s :=
  Calls.Name_function_global L.kind (L.glo x hk) (Calls.loadGlobal_builtin (by rw [L.glb]; exact C.g) (mg_none_of C.K C.g hv) (by rw [L.bns]; exact C.b) ((C.bi x hn).trans hb) h) hd
end
structure Fm (env : Env) (sc : Scope) (B H h : Heap) (ρ : Vars) : Prop where
  scope : env.scope = sc
  kind : sc.kind = .function
  glb : env.globals = mainGlobals
  bns : env.builtins = builtinsNs
  lo : B.get? env.locals = none ∧ H.get? env.locals = none
  ns : ∃ m, h.Ns env.locals m ∧ ∀ x v, sc.names.lookup x = some .local → ρ.lookup x = some v → m x = some v
  fcls : ∃ o, h.get? env.locals = some o ∧ o.cls = .type "frame"
  cel : ∀ x, sc.names.lookup x = some .cell → ∃ c v, env.cells.lookup x = some c ∧ (B.get? c = none ∧ H.get? c = none ∧ c ≠ env.locals) ∧ (∃ o, h.get? c = some o ∧ o.cls = .type "cell" ∧ o.data = .cell v) ∧ ∀ u, ρ.lookup x = some u → v = some u
  fre : ∀ x v, sc.names.lookup x = some .free → ρ.lookup x = some v → Loads env h x v
  apart : ∀ x y c, env.cells.lookup x = some c → env.cells.lookup y = some c → x = y
  off : ∀ x c, env.cells.lookup x = some c → c ≠ env.locals
  kept : Kh H h
  cex : ∀ x c, env.cells.lookup x = some c → ∃ o, h.get? c = some o ∧ stay o = false ∧ o.cls ≠ .none
section
variable {env : Env} {sc : Scope} {B H h h' : Heap} {ρ : Vars} {M : List Addr} {q : PVs}
theorem Fm.ld (F : Fm env sc B H h ρ) (R : RepE M h ρ q) (mx : ∀ a ∈ M, NN h a) : Ld M env sc h q where
  mx := mx
  nl := fun y e => by
    have ks : env.kindOf y = sc.names.lookup y := by show env.scope.names.lookup y = _; rw [F.scope]
    rw [ks]; rcases e with e | e <;> rw [e] <;> simp
  kind := by rw [F.scope]; exact F.kind
  glb := F.glb
  bns := F.bns
  glo := fun x e => by show env.scope.names.lookup x = _; rw [F.scope]; exact e
  val := fun x p a b => by
    have ks : env.kindOf x = sc.names.lookup x := by show env.scope.names.lookup x = _; rw [F.scope]
    obtain ⟨v, b, r⟩ := R.lookup b
    refine ⟨v, ?_, r⟩
    cases q : sc.names.lookup x with
    | none => rw [q] at a; cases a
    | some k =>
      cases k with
      | «local» =>
        obtain ⟨m, n, f⟩ := F.ns
        obtain ⟨o, eo, ec⟩ := F.fcls
        exact .inl ⟨ks.trans q, ⟨o, eo, by rw [ec]; simp⟩, m, n, f x v q b⟩
      | cell =>
        obtain ⟨c, u, e1, _, ⟨o, eo, ec, ed⟩, e3⟩ := F.cel x q
        have := e3 v b
        subst this
        exact .inr ⟨.inl (ks.trans q), c, e1, ⟨o, eo, by rw [ec]; simp⟩, o, eo, ed⟩
      | free => exact F.fre x v q b
      | _ => rw [q] at a; cases a
theorem Fm.kh (F : Fm env sc B H h ρ) (k : Kh h h') : Fm env sc B H h' ρ :=
  { F with
    ns := let ⟨m, n, f⟩ := F.ns; ⟨m, n.at' (fun o e => by
      obtain ⟨o', e', c⟩ := F.fcls
      rw [e'] at e; cases e; exact k.k _ _ e' (by rw [c]; simp)), f⟩
    fcls := let ⟨o, e, c⟩ := F.fcls; ⟨o, k.k _ _ e (by rw [c]; simp), c⟩
    cel := fun x e => let ⟨c, v, a, b, ⟨o, eo, r, r'⟩, d⟩ := F.cel x e; ⟨c, v, a, b, ⟨o, k.k _ _ eo (by rw [r]; simp), r, r'⟩, d⟩
    fre := fun x v a b => (F.fre x v a b).kh k
    kept := F.kept.trans k
    cex := fun x c e => let ⟨o, q, z, z'⟩ := F.cex x c e; ⟨o, k.k _ _ q z', z, z'⟩ }
theorem Fm.but {wr : List Addr} (F : Fm env sc B H h ρ) (hw : ∀ b ∈ wr, b ≠ env.locals ∧ (∀ x c, env.cells.lookup x = some c → c ≠ b) ∧ H.get? b = none) (k : ∀ b o, b ∉ wr → h.get? b = some o → h'.get? b = some o) : Fm env sc B H h' ρ := by
  have kl : ∀ o, h.get? env.locals = some o → h'.get? env.locals = some o := fun o e => k _ o (fun z => (hw _ z).1 rfl) e
  have kc : ∀ {x c}, env.cells.lookup x = some c → ∀ o, h.get? c = some o → h'.get? c = some o := fun {x c} q o e => k _ o (fun z => (hw _ z).2.1 x c q rfl) e
  exact { F with
    ns := let ⟨m, n, f⟩ := F.ns; ⟨m, n.at' kl, f⟩
    fcls := let ⟨o, e, c⟩ := F.fcls; ⟨o, kl _ e, c⟩
    cel := fun x e => let ⟨c, v, a, b, ⟨o, eo, r⟩, d⟩ := F.cel x e; ⟨c, v, a, b, ⟨o, kc a _ eo, r⟩, d⟩
    fre := fun x v a b => by
      rcases F.fre x v a b with ⟨q, ⟨o', e', c'⟩, m, n, r⟩ | ⟨q, c, q2, ⟨o', e', c'⟩, o, eo, d⟩
      · exact .inl ⟨q, ⟨o', kl _ e', c'⟩, m, n.at' kl, r⟩
      · exact .inr ⟨q, c, q2, ⟨o', kc q2 _ e', c'⟩, o, kc q2 _ eo, d⟩
    kept := ⟨fun b o e n => k _ _ (fun z => by rw [(hw _ z).2.2] at e; cases e) (F.kept.k b o e n), fun b o e => by
      obtain ⟨o', e'⟩ := F.kept.x b o e
      exact ⟨o', k _ _ (fun z => by rw [(hw _ z).2.2] at e; cases e) e'⟩⟩
    cex := fun x c e => let ⟨o, q, z⟩ := F.cex x c e; ⟨o, kc e _ q, z⟩ }
theorem Fm.kp {s s' : Shared} (F : Fm env sc B H s.heap ρ) (k : Kp s s') : Fm env sc B H s'.heap ρ := F.kh k
theorem Fm.sub {ρ' : Vars} (F : Fm env sc B H h ρ) (k : ∀ x u, ρ'.lookup x = some u → ρ.lookup x = some u) : Fm env sc B H h ρ' :=
  { F with
    ns := let ⟨m, n, f⟩ := F.ns; ⟨m, n, fun x v a b => f x v a (k x v b)⟩
    cel := fun x e => let ⟨c, v, a, b, d, f⟩ := F.cel x e; ⟨c, v, a, b, d, fun u q => f u (k x u q)⟩
    fre := fun x v a b => F.fre x v a (k x v b) }
end
structure Kb (env : Env) (h h' : Heap) : Prop where
  k : ∀ b o, h.get? b = some o → o.cls ≠ .none → b ≠ env.locals → (∀ x c, env.cells.lookup x = some c → b ≠ c) → h'.get? b = some o
  x : ∀ b o, h.get? b = some o → ∃ o', h'.get? b = some o'
theorem Kb.refl (env : Env) (h : Heap) : Kb env h h := ⟨fun _ _ e _ _ _ => e, fun b o e => ⟨o, e⟩⟩
theorem Kb.trans {env : Env} {a b c : Heap} (x : Kb env a b) (y : Kb env b c) : Kb env a c := ⟨fun p o e n q r => y.k p o (x.k p o e n q r) n q r, fun p o e => let ⟨o', e'⟩ := x.x p o e; y.x p o' e'⟩
theorem Kb.of_kh {env : Env} {h h' : Heap} (x : Kh h h') : Kb env h h' := ⟨fun b o e n _ _ => x.k b o e n, x.x⟩
theorem Kb.of_kp {env : Env} {s s' : Shared} (x : Kp s s') : Kb env s.heap s'.heap := Kb.of_kh x
theorem Kb.d {env : Env} {sc : Scope} {B H h h' : Heap} {ρ : Vars} {M : List Addr} (F : Fm env sc B H h ρ) (k : Kb env h h') : D M h h' := fun b o e q _ => k.k b o e (stay_ne q)
  (fun z => by obtain ⟨o', e', c⟩ := F.fcls; rw [z, e'] at e; cases e; simp [stay, c] at q)
  (fun x c l z => by obtain ⟨o', e', c', _⟩ := F.cex x c l; rw [z, e'] at e; cases e; rw [c'] at q; cases q)
section
variable {prog : Pr} {w : World} {A : Around} {β : Pm} {s : Shared} {env : Env} {sc : Scope} {H : Heap} {ρ : Vars} {x : Str} {v : Value} {Q : Unit → Shared → Prop}
theorem lk_cons {α : Type} {x y : Str} {v : α} {ρ : List (Str × α)} : List.lookup y ((x, v) :: ρ) = if y = x then some v else ρ.lookup y := by
  by_cases e : y = x
  · subst e; simp [List.lookup]
  · rw [if_neg e]
    have : (y == x) = false := by simpa using e
    simp only [List.lookup, this]
theorem nsSet_cls {M : Model} {A : Around} {E : Value → Shared → Prop} {s : Shared} {a : Addr} {m : Str → Option Value} {name : Str} {v : Value} {Q : Unit → Shared → Prop} (hn : s.heap.Ns a m)
    (h : ∀ h', h'.Ns a (fun x => if x = name then some v else m x) → Heap.SameBut a s.heap h' → (∀ o, s.heap.get? a = some o → ∃ o', h'.get? a = some o' ∧ o'.cls = o.cls) → Q () { s with heap := h', toks := s.toks + 1 }) :
    wpAny M A (nsSet a name v) Q E s := fun Γ p _ => by
  obtain ⟨o, es, ep, ho, hd, hk, hm⟩ := hn
  simp only [nsSet, strHash, Sem.wp_bind', Sem.wp_cmd_ask, Sem.wp_pure', Sem.wp_cmd_mkText]
  rw [Sem.wp_loadPart_of M Γ _ p { s with toks := s.toks + 1 } (o := o) _ ho]
  have hany : es.any (·.refKey) = false := by
    rw [Array.any_eq_false']; intro e he; obtain ⟨n, t, h⟩ := hk e he; simp [DictEntry.refKey, h]
  simp only [hd, aRefKeyMayBeTheName_eq, aRefKeyMayBeTheNameByArray, hany, Bool.and_false, Bool.false_eq_true, if_false, Sem.wp_cmd_updatePart]
  obtain ⟨c, d, dt, sl⟩ := o
  subst hd
  have self : ∀ (x : Int) (y : Value), (s.heap.update a (Obj.putName name x y v)).get? a = some (Obj.putName name x y v ⟨c, d, .dict es ep, sl⟩) := fun x y =>
    Heap.get?_update_self _ ho (by simp only [Obj.putName_eq, Obj.putNameByArray]; cases es.findIdx? (·.key.isStr name) <;> rfl)
  refine ⟨by rw [ho]; rfl, h _ ?_ (Heap.SameBut.update ..) fun o e => ⟨_, self _ _, by rw [ho] at e; cases e; simp only [Obj.putName_eq, Obj.putNameByArray]; cases es.findIdx? (·.key.isStr name) <;> rfl⟩⟩
  cases hi : es.findIdx? (·.key.isStr name) with
  | some i =>
    refine ⟨_, _, ep, self _ _, by simp only [Obj.putName_eq, Obj.putNameByArray, hi]; rfl, hk.modify _ _, fun x => ?_⟩
    show _ = if x = name then some v else m x
    rw [← hm]; exact findBy_modify (fun n v => v.isStr n) Value.isStr_inj es name x v i hi
  | none =>
    refine ⟨_, _, ep + 1, self _ _, by simp only [Obj.putName_eq, Obj.putNameByArray, hi]; rfl, hk.push _ _ _ _, fun x => ?_⟩
    show _ = if x = name then some v else m x
    rw [← hm]
    exact findBy_push (fun n v => v.isStr n) es name x _ _ v (fun y => by
      show (name == y) = decide (y = name)
      by_cases h : y = name
      · subst h; simp
      · have : ¬ name = y := fun e => h e.symm
        simp [h, this]) hi
theorem store (C : Cx w β s) (F : Fm env sc β.H H s.heap ρ) (hk : sc.names.lookup x = some .local ∨ sc.names.lookup x = some .cell)
    (h : ∀ s', Cx w β s' → Fm env sc β.H H s'.heap ((x, v) :: ρ) → Kb env s.heap s'.heap → Q () s') :
    Wp prog w A (storeName env x v) Q s := by
  have ks : env.kindOf x = sc.names.lookup x := by show env.scope.names.lookup x = _; rw [F.scope]
  have kf : env.scope.kind = .function := by rw [F.scope]; exact F.kind
  obtain ⟨m, hn, hm⟩ := F.ns
  obtain ⟨oL, eL, cL⟩ := F.fcls
  rcases hk with hk | hk
  · rw [storeName_local (ks.trans hk) (by rw [kf]; rfl)]
    refine nsSet_cls hn fun h' hn' hs hc => ?_
    have cls' : ∃ o, h'.get? env.locals = some o ∧ o.cls = .type "frame" := by
      obtain ⟨o', e', c'⟩ := hc oL eL
      exact ⟨o', e', c'.trans cL⟩
    have dd : Kb env s.heap h' := ⟨fun b o e _ q _ => (hs.2 b q).trans e, fun b o e => by
      by_cases z : b = env.locals
      · obtain ⟨o', e', _⟩ := cls'; exact ⟨o', z ▸ e'⟩
      · exact ⟨o, (hs.2 b z).trans e⟩⟩
    refine h _ (C.step F.lo.1 hs) { F with ns := ⟨_, hn', fun y u a b => ?_⟩, fcls := cls', cel := fun y e => ?_, fre := fun y u a b => ?_, kept := ⟨fun b o e n => (hs.2 b fun z => by rw [z, F.lo.2] at e; cases e).trans (F.kept.k b o e n), fun b o e => by
      obtain ⟨o', e'⟩ := F.kept.x b o e
      exact ⟨o', (hs.2 b fun z => by rw [z, F.lo.2] at e; cases e).trans e'⟩⟩, cex := fun y c e => let ⟨o, q, z⟩ := F.cex y c e; ⟨o, (hs.2 c (F.off y c e)).trans q, z⟩ } dd
    · rw [lk_cons] at b
      by_cases e : y = x
      · rw [if_pos e] at b ⊢; exact b
      · rw [if_neg e] at b ⊢; exact hm y u a b
    · obtain ⟨c, v', a, b, ⟨o, eo, r⟩, d⟩ := F.cel y e
      refine ⟨c, v', a, b, ⟨o, (hs.2 c b.2.2).trans eo, r⟩, fun u q => ?_⟩
      rw [lk_cons] at q
      by_cases e' : y = x
      · subst e'; rw [hk] at e; cases e
      · rw [if_neg e'] at q; exact d u q
    · rw [lk_cons] at b
      by_cases e' : y = x
      · subst e'; rw [hk] at a; cases a
      · rw [if_neg e'] at b
        rcases F.fre y u a b with ⟨q, _⟩ | ⟨q, c, q2, ⟨o', e', c'⟩, o, eo, d⟩
        · rw [show env.kindOf y = some .free from ((by show env.scope.names.lookup y = _; rw [F.scope]; exact a))] at q; cases q
        · exact .inr ⟨q, c, q2, ⟨o', (hs.2 c (F.off y c q2)).trans e', c'⟩, o, (hs.2 c (F.off y c q2)).trans eo, d⟩
  · obtain ⟨c, v₀, a, b, ⟨o, eo, co, d⟩, f⟩ := F.cel x hk
    unfold storeName
    simp only [ks.trans hk, kf]
    refine wpAny_bind (wpAny_cellOf a ?_)
    unfold cellSet
    refine wpAny_bind (wpAny_load eo ?_)
    rw [d]
    refine wpAny_update eo ?_
    have hs : Heap.SameBut c s.heap (s.heap.update c fun o => { o with data := .cell (some v) }) := Heap.SameBut.update ..
    have self : (s.heap.update c fun o => { o with data := .cell (some v) }).get? c = some { o with data := .cell (some v) } := Heap.get?_update_self _ eo rfl
    have dd : Kb env s.heap (s.heap.update c fun o => { o with data := .cell (some v) }) := ⟨fun b' o' e _ _ q => (hs.2 b' (q x c a)).trans e, fun b' o' e => by
      by_cases z : b' = c
      · subst z; exact ⟨_, self⟩
      · exact ⟨o', (hs.2 b' z).trans e⟩⟩
    refine h _ (C.step b.1 hs) { F with ns := ⟨m, hn.sameBut hs (Ne.symm b.2.2), fun y u e q => ?_⟩, fcls := ⟨oL, (hs.2 _ (Ne.symm b.2.2)).trans eL, cL⟩, cel := fun y e => ?_, fre := fun y u e q => ?_, kept := ⟨fun b' o' e n => (hs.2 b' fun z => by rw [z, b.2.1] at e; cases e).trans (F.kept.k b' o' e n), fun b' o' e => by
      obtain ⟨o'', e''⟩ := F.kept.x b' o' e
      exact ⟨o'', (hs.2 b' fun z => by rw [z, b.2.1] at e; cases e).trans e''⟩⟩, cex := fun y c' e => (by
      by_cases z : c' = c
      · subst z; exact ⟨_, self, by simp [stay, co], by show o.cls ≠ _; rw [co]; simp⟩
      · obtain ⟨o, q, z'⟩ := F.cex y c' e; exact ⟨o, (hs.2 c' z).trans q, z'⟩) } dd
    · rw [lk_cons] at q
      by_cases e' : y = x
      · subst e'; rw [hk] at e; cases e
      · rw [if_neg e'] at q; exact hm y u e q
    · by_cases e' : y = x
      · subst e'
        exact ⟨c, some v, a, b, ⟨_, self, co, rfl⟩, fun u q => by rw [lk_cons, if_pos rfl] at q; exact q⟩
      · obtain ⟨c', v', a', b', ⟨o', eo', r⟩, d'⟩ := F.cel y e
        have ne : c' ≠ c := fun z => e' (F.apart y x c' a' (z ▸ a))
        exact ⟨c', v', a', b', ⟨o', (hs.2 c' ne).trans eo', r⟩, fun u q => by rw [lk_cons, if_neg e'] at q; exact d' u q⟩
    · rw [lk_cons] at q
      by_cases e' : y = x
      · subst e'; rw [hk] at e; cases e
      · rw [if_neg e'] at q
        rcases F.fre y u e q with ⟨q1, _⟩ | ⟨q1, c', q2, ⟨on, en', cn⟩, o', eo', d'⟩
        · rw [show env.kindOf y = some .free from ((by show env.scope.names.lookup y = _; rw [F.scope]; exact e))] at q1; cases q1
        · exact .inr ⟨q1, c', q2, ⟨on, (hs.2 c' fun z => e' (F.apart y x c' q2 (z ▸ a))).trans en', cn⟩, o', (hs.2 c' fun z => e' (F.apart y x c' q2 (z ▸ a))).trans eo', d'⟩
end
noncomputable abbrev cellO : Obj := { cls := .type "cell", data := .cell none }
structure COk (h : Heap) (lo : Nat) (cl cs : List (Str × Addr)) : Prop where
  at' : ∀ n c, (n, c) ∈ cs → (h.get? c = some cellO ∧ lo ≤ c) ∨ (n, c) ∈ cl
  apart : cs.Pairwise fun x y => x.2 ≠ y.2
theorem cells_ok (cl : List (Str × Addr)) : ∀ (names : List (Str × NameKind)) (h : Heap) (lo : Nat) (acc : List (Str × Addr)), COk h lo cl acc → lo ≤ h.objs.size → (∀ p ∈ cl, p.2 < lo) → COk (pushCells h names) lo cl (cellsFrom h.objs.size names acc)
  | [], _, _, _, x, _, _ => x
  | (name, kind) :: r, h, lo, acc, x, hlo, hcl => by
    unfold pushCells cellsFrom
    split
    · have := cells_ok cl r (h.push cellO) lo ((name, h.objs.size) :: acc)
        ⟨fun n c hm => by
            rcases List.mem_cons.mp hm with e | hm
            · cases e; exact .inl ⟨Heap.get?_push_size _ rfl, hlo⟩
            · exact (x.at' n c hm).imp (fun y => ⟨Heap.get?_push_of_some _ y.1, y.2⟩) id,
          List.pairwise_cons.mpr ⟨fun y hy e => by
            have e' : h.objs.size = y.2 := e
            rcases x.at' y.1 y.2 hy with z | z
            · exact Nat.lt_irrefl _ (e' ▸ Heap.lt_size z.1)
            · exact Nat.lt_irrefl _ (Nat.lt_of_lt_of_le (e' ▸ hcl _ z) hlo), x.apart⟩⟩ (by rw [Heap.size_push]; omega) hcl
      rwa [Heap.size_push] at this
    · exact cells_ok cl r h lo acc x hlo hcl
noncomputable def kindOk (sc : Scope) (binds : List (Str × Value)) : Bool := binds.all fun y => sc.names.lookup y.1 == some .local || sc.names.lookup y.1 == some .cell
theorem kindOk_cons {sc : Scope} {x : Str × Value} {r : List (Str × Value)} (e : kindOk sc (x :: r) = true) : (sc.names.lookup x.1 = some .local ∨ sc.names.lookup x.1 = some .cell) ∧ kindOk sc r = true := by
  unfold kindOk at e ⊢
  rw [List.all_cons, Bool.and_eq_true] at e
  refine ⟨?_, e.2⟩
  rcases Bool.or_eq_true_iff.mp e.1 with q | q
  · exact .inl (by simpa using q)
  · exact .inr (by simpa using q)
section
variable {prog : Pr} {w : World} {A : Around} {β : Pm} {env : Env} {sc : Scope}
theorem bind_all {H : Heap} (f : Str × Value → PUnit → Sem (ForInStep PUnit)) (hf : ∀ n v u, f (n, v) u = (do storeName env n v; pure (.yield ⟨⟩))) :
    ∀ (binds : List (Str × Value)) (ρ : Vars) (s : Shared) (Q : PUnit → Shared → Prop), Cx w β s → Fm env sc β.H H s.heap ρ →
      kindOk sc binds = true →
      (∀ s', Cx w β s' → Fm env sc β.H H s'.heap (binds.reverse ++ ρ) → Q ⟨⟩ s') → Wp prog w A (forIn binds ⟨⟩ f) Q s
  | [], ρ, s, Q, C, F, _, h => by
    rw [List.forIn_nil]
    exact wpAny_pure (h s C F)
  | (n, v) :: r, ρ, s, Q, C, F, hk, h => by
    rw [List.forIn_cons, hf]
    have hk' := kindOk_cons hk
    refine wpAny_bind (wpAny_bind (store C F hk'.1 fun s' C' F' _ => wpAny_pure ?_))
    exact bind_all f hf r _ s' Q C' F' hk'.2 fun s'' C'' F'' => h s'' C'' (by rw [List.reverse_cons, List.append_assoc]; exact F'')
end
theorem cellsFrom_other : ∀ (names : List (Str × NameKind)) (n : Nat) (acc : List (Str × Addr)) (x : Str), names.all (fun p => p.1 != x || p.2 != .cell) = true → (cellsFrom n names acc).lookup x = acc.lookup x
  | [], _, _, _, _ => rfl
  | (y, kind) :: r, n, acc, x, e => by
    rw [List.all_cons, Bool.and_eq_true] at e
    unfold cellsFrom
    split
    · rename_i hk
      rw [cellsFrom_other r (n + 1) _ x e.2]
      have : (x == y) = false := by
        have hk' : kind = .cell := by simpa using hk
        have := e.1
        subst hk'
        simp at this
        simpa using fun z => this z.symm
      simp only [List.lookup, this]
    · exact cellsFrom_other r n acc x e.2
theorem none_of_ge {h : Heap} {a : Addr} (e : h.objs.size ≤ a) : h.get? a = none := by
  cases q : h.get? a with
  | none => rfl
  | some o => exact absurd (Heap.lt_size q) (Nat.not_lt.mpr e)
theorem new_env {prog : Pr} {w : World} {A : Around} {β : Pm} {s : Shared} {sc : Scope} {cl : List (Str × Addr)} {binds : List (Str × Value)} {qual : Str} {func : Option Addr} {code : Value} {Q : Env → Shared → Prop}
    (C : Cx w β s) (hk : sc.kind = .function) (hb : kindOk sc binds = true) (hcl' : ∀ p ∈ cl, ∃ o, s.heap.get? p.2 = some o ∧ stay o = false ∧ o.cls ≠ .none) (hcn : cl.all (fun p => sc.names.lookup p.1 != some .cell) = true) (hcp : cl.Pairwise fun x y => x.2 ≠ y.2)
    (h : ∀ env s', env.scope = sc → env.code = code → env.frame = some env.locals → env.func = func → env.qual = qual → (∀ x c, cl.lookup x = some c → sc.names.all (fun p => p.1 != x || p.2 != .cell) = true → env.cells.lookup x = some c) → Cx w β s' → Fm env sc β.H s.heap s'.heap binds.reverse → Q env s') :
    Wp prog w A (newFunctionEnv sc mainGlobals cl binds qual func code none builtinsNs) Q s := by
  have hcl : ∀ p ∈ cl, p.2 < s.heap.objs.size := fun p hp => by obtain ⟨o, e, _⟩ := hcl' p hp; exact Heap.lt_size e
  simp only [newFunctionEnv, Option.isSome_none, Bool.false_eq_true, if_false]
  refine wpAny_bind (wpAny_alloc ?_)
  refine wpAny_bind (wpAny_layCells _ (fun name kind cells => by cases hkc : kind == NameKind.cell <;> simp [hkc]) _ _ _ _ ?_)
  have ok := cells_ok cl sc.names (s.heap.push { cls := .type "frame", data := .dict #[] }) (s.heap.objs.size + 1) cl ⟨fun n c hm => .inr hm, hcp⟩ (by rw [Heap.size_push]; exact Nat.le_refl _) (fun p hp => Nat.lt_succ_of_lt (hcl p hp))
  rw [Heap.size_push] at ok
  rw [show ({ s with heap := s.heap.push { cls := .type "frame", data := .dict #[] } } : Shared).heap.objs.size = s.heap.objs.size + 1 from Heap.size_push ..]
  generalize hcs : cellsFrom (s.heap.objs.size + 1) sc.names cl = cs at ok ⊢
  have kp : ∀ b o, s.heap.get? b = some o → (pushCells (s.heap.push { cls := .type "frame", data := .dict #[] }) sc.names).get? b = some o := fun b o e => pushCells_keeps _ _ b o (Heap.get?_push_of_some _ e)
  have fr : (pushCells (s.heap.push { cls := .type "frame", data := .dict #[] }) sc.names).get? s.heap.objs.size = some { cls := .type "frame", data := .dict #[] } := pushCells_keeps _ _ _ _ (Heap.get?_push_size _ rfl)
  have cellAt : ∀ x, sc.names.lookup x = some .cell → ∃ c, cs.lookup x = some c ∧ s.heap.objs.size < c ∧ (pushCells (s.heap.push { cls := .type "frame", data := .dict #[] }) sc.names).get? c = some cellO := fun x hx => by
    have q := cellsFrom_some sc.names (s.heap.objs.size + 1) cl (.inl hx)
    rw [hcs] at q
    obtain ⟨c, hc⟩ := Option.isSome_iff_exists.mp q
    rcases ok.at' x c (mem_of_lookup hc) with z | z
    · exact ⟨c, hc, z.2, z.1⟩
    · have := List.all_eq_true.mp hcn _ z
      rw [hx] at this; simp at this
  refine wpAny_bind (bind_all (β := β) (H := s.heap) (env := { scope := sc, locals := s.heap.objs.size, globals := mainGlobals, cells := cs, qual := qual, func := func, code := code, frame := some s.heap.objs.size, builtins := builtinsNs })
    _ (fun _ _ _ => rfl) binds [] _ _ (C.keeps' kp) ?_ hb fun s' C' F' => wpAny_pure (h _ s' rfl rfl rfl rfl rfl ?_ C' (by rwa [List.append_nil] at F')))
  · refine { scope := rfl, kind := hk, glb := rfl, bns := rfl, lo := ⟨C.new (none_of_ge (Nat.le_refl _)), none_of_ge (Nat.le_refl _)⟩, ns := ⟨_, ⟨_, _, _, fr, rfl, fun _ he => by simp at he, fun _ => rfl⟩, fun x v _ e => (nomatch e)⟩, fcls := ⟨_, fr, rfl⟩, cel := fun x hx => ?_, fre := fun _ _ _ e => (nomatch e), apart := fun x y c hx hy => name_of_addr ok.apart (mem_of_lookup hx) (mem_of_lookup hy), off := fun x c hx => ?_, kept := Kh.of kp, cex := fun x c hx => ?_ }
    · obtain ⟨c, a, b, d⟩ := cellAt x hx
      exact ⟨c, none, a, ⟨C.new (none_of_ge (Nat.le_of_lt b)), none_of_ge (Nat.le_of_lt b), Nat.ne_of_gt b⟩, ⟨_, d, rfl, rfl⟩, fun u e => by cases e⟩
    · rcases ok.at' x c (mem_of_lookup hx) with z | z
      · exact Nat.ne_of_gt z.2
      · exact Nat.ne_of_lt (hcl _ z)
    · rcases ok.at' x c (mem_of_lookup hx) with z | z
      · exact ⟨_, z.1, rfl, by simp⟩
      · obtain ⟨o, e, q⟩ := hcl' _ z; exact ⟨o, kp _ _ e, q⟩
  · intro x c hx hn
    show cs.lookup x = some c
    rw [← hcs, cellsFrom_other sc.names _ cl x hn]
    exact hx
theorem call_def {prog : Pr} {w : World} {A : Around} {β : Pm} {s : Shared} {f : Addr} {st : Stmt} {nm qual : Str} {cl : List (Str × Addr)} {dV pm cdv ct : Value} {pos : List Value} {kw : List (Str × Value)} {binds : List (Str × Value)} {Q : Value → Shared → Prop} (o : Obj)
    (C : Cx w β s) (R : A.depth < recursionLimit)
    (ho : (Kf w.params).lookup f = some o) (hd : o.data = .func (fnX nm qual (fdA st) (fdB st) (fdS st) cl dV .none .none pm none cdv ct)) (hcd : codeIn (Kf w.params) cdv qual = true)
    (hb : BindsTo s (fnX nm qual (fdA st) (fdB st) (fdS st) cl dV .none .none pm none cdv ct) ⟨pos, kw⟩ binds) (hk : kindOk (fdS st) binds = true)
    (hsc : ((fdS st).isCoroutine == false && (fdS st).isGenerator == false) = true) (hkf : (fdS st).kind = .function)
    (hcl : ∀ p ∈ cl, ∃ o, s.heap.get? p.2 = some o ∧ stay o = false ∧ o.cls ≠ .none) (hcn : cl.all (fun p => (fdS st).names.lookup p.1 != some .cell) = true) (hcp : cl.Pairwise fun x y => x.2 ≠ y.2)
    (h : ∀ env s', env.code = cdv → env.frame = some env.locals → env.func = some f → (∀ x c, cl.lookup x = some c → (fdS st).names.all (fun p => p.1 != x || p.2 != .cell) = true → env.cells.lookup x = some c) → Cx w β s' → Fm env (fdS st) β.H s.heap s'.heap binds.reverse →
      Wp prog w (A.deeper env) (execs (fdB st) env) (fun fl s'' => Q (match fl with | .ret v => v | _ => .none) s'') s') :
    Wp prog w A (call (.ref f) pos kw) Q s := by
  simp only [Bool.and_eq_true, beq_iff_eq] at hsc
  refine wpAny_call (codeAny_call_function R (C.K _ _ ho) hd hsc.1 hsc.2 rfl (codeRec_of C.K hcd) (hb _ _ _ _ ?_))
  refine new_env C hkf hk hcl hcn hcp fun env s' e1 e2 e3 e4 e5 e6 C' F' => ⟨C'.lim, codeAny_func ?_⟩
  exact wpAny_mono (h env s' e2 e3 e4 e6 C' F') (fun _ _ q => q) fun _ _ e => e.elim
structure Ok (A : Around) (n : Nat) : Prop where
  h : A.handled = none
  d : A.depth + n < 900
  u : A.units + 40 * n < 9000
theorem Ok.deeper {A : Around} {n : Nat} {env : Env} (k : Ok A (n + 1)) : Ok (A.deeper env) n := ⟨k.h, by have := k.d; show A.depth + 1 + n < 900; omega, by have := k.u; rw [Around.deeper_units]; omega⟩
theorem Ok.lt {A : Around} {n : Nat} (k : Ok A n) : A.depth < recursionLimit := by have := k.d; show A.depth < 1000; omega
theorem Ok.cl {A : Around} {n : Nat} (k : Ok A n) : A.units < cLine := by have := k.u; show A.units < 9900; omega
theorem Ok.le {A : Around} {n m : Nat} (k : Ok A n) (h : m ≤ n) : Ok A m := ⟨k.h, by have := k.d; omega, by have := k.u; omega⟩
noncomputable def Ev (w : World) (β : Pm) (n : Nat) (sc : Scope) (ρ : PVs) (e : Expr) (p : PV) : Prop :=
  ∀ ⦃prog : Pr⦄ ⦃A : Around⦄ ⦃env : Env⦄ ⦃s : Shared⦄ ⦃M : List Addr⦄ ⦃Q : Value → Shared → Prop⦄, Ok A n → Cx w β s → Ld M env sc s.heap ρ →
    (∀ v s', Cx w β s' → Kp s s' → Rep M s'.heap v p → Q v s') → Wp prog w A (eval e env) Q s
noncomputable def Tv (w : World) (β : Pm) (n : Nat) (sc : Scope) (ρ : PVs) (e : Expr) (b : Bool) : Prop :=
  ∀ ⦃prog : Pr⦄ ⦃A : Around⦄ ⦃env : Env⦄ ⦃s : Shared⦄ ⦃M : List Addr⦄ ⦃Q : Bool → Shared → Prop⦄, Ok A n → Cx w β s → Ld M env sc s.heap ρ →
    (∀ s', Cx w β s' → Kp s s' → Q b s') → Wp prog w A (isTrue e env (eval e env)) Q s
section
variable {w : World} {β : Pm} {s : Shared}
theorem Cx.kp (C : Cx w β s) {h : Heap} {t : Nat} (k : ∀ b o, s.heap.get? b = some o → h.get? b = some o) : Cx w β { s with heap := h, toks := t } := CxH.keeps' C k
theorem Cx.tk (C : Cx w β s) {t : Nat} : Cx w β { s with toks := t } := C
theorem Cx.push (C : Cx w β s) (o : Obj) : Cx w β { s with heap := s.heap.push o } := CxH.keeps' C fun _ _ e => Heap.get?_push_of_some _ e
theorem kp_push (s : Shared) (o : Obj) : Kp s { s with heap := s.heap.push o } := Kh.of fun _ _ e => Heap.get?_push_of_some _ e
theorem Rep.kp {M : List Addr} {s s' : Shared} (k : Kp s s') {v : Value} {p : PV} (r : Rep M s.heap v p) : Rep M s'.heap v p := r.mono (D.of_kp k)
inductive RepL (M : List Addr) (h : Heap) : List Value → List PV → Prop
  | nil : RepL M h [] []
  | cons {v : Value} {p : PV} {vs : List Value} {ps : List PV} (a : Rep M h v p) (b : RepL M h vs ps) : RepL M h (v :: vs) (p :: ps)
theorem RepL.at {M : List Addr} {h : Heap} {vs : List Value} {ps : List PV} (r : RepL M h vs ps) : vs.length = ps.length ∧ ∀ (i : Nat) v x, vs[i]? = some v → ps[i]? = some x → Rep M h v x := by
  induction r with
  | nil => exact ⟨rfl, fun i v x e => by simp at e⟩
  | cons a _ ih =>
    refine ⟨by simp [ih.1], fun i v x e e' => ?_⟩
    cases i with
    | zero => simp at e e'; subst e e'; exact a
    | succ i => exact ih.2 i v x (by simpa using e) (by simpa using e')
theorem RepL.of {M : List Addr} {h : Heap} : ∀ {vs : List Value} {ps : List PV}, vs.length = ps.length → (∀ (i : Nat) v x, vs[i]? = some v → ps[i]? = some x → Rep M h v x) → RepL M h vs ps
  | [], [], _, _ => .nil
  | [], _ :: _, e, _ => by simp at e
  | _ :: _, [], e, _ => by simp at e
  | v :: vs, p :: ps, e, k => .cons (k 0 v p rfl rfl) (RepL.of (by simpa using e) fun i v x a b => k (i + 1) v x (by simpa using a) (by simpa using b))
theorem RepL.mono {M : List Addr} {h h' : Heap} {vs : List Value} {ps : List PV} (d : D M h h') (r : RepL M h vs ps) : RepL M h' vs ps := by
  induction r with
  | nil => exact .nil
  | cons a _ ih => exact .cons (a.mono d) ih
theorem RepL.snoc {M : List Addr} {h : Heap} {vs : List Value} {ps : List PV} {v : Value} {p : PV} (r : RepL M h vs ps) (x : Rep M h v p) : RepL M h (vs ++ [v]) (ps ++ [p]) := by
  induction r with
  | nil => exact .cons x .nil
  | cons a _ ih => exact .cons a ih
theorem RepL.append {M : List Addr} {h : Heap} {vs vs' : List Value} {ps ps' : List PV} (r : RepL M h vs ps) (x : RepL M h vs' ps') : RepL M h (vs ++ vs') (ps ++ ps') := by
  induction r with
  | nil => exact x
  | cons a _ ih => exact .cons a ih
theorem Rep.of_list {M : List Addr} {h : Heap} {a : Addr} {its : Array Value} {xs : List PV} (hm : a ∉ M) (hl : SeqAt h "list" a its) (r : RepL M h its.toList xs) : Rep M h (.ref a) (.list xs) :=
  .list hm hl (by rw [← r.at.1, Array.length_toList]) fun i v x e e' => r.at.2 i v x (by rw [Array.getElem?_toList]; exact e) e'
theorem Rep.of_tup {M : List Addr} {h : Heap} {a : Addr} {its : Array Value} {xs : List PV} (hm : a ∉ M) (hl : SeqAt h "tuple" a its) (r : RepL M h its.toList xs) : Rep M h (.ref a) (.tup xs) :=
  .tup hm hl (by rw [← r.at.1, Array.length_toList]) fun i v x e e' => r.at.2 i v x (by rw [Array.getElem?_toList]; exact e) e'
theorem Rep.inv_list {M : List Addr} {h : Heap} {v : Value} {xs : List PV} (r : Rep M h v (.list xs)) : ∃ a its, v = .ref a ∧ a ∉ M ∧ SeqAt h "list" a its ∧ RepL M h its.toList xs := by
  cases r with
  | list hm hl hs he => exact ⟨_, _, rfl, hm, hl, RepL.of (by rw [Array.length_toList, hs]) fun i v x e e' => he i v x (by rw [← Array.getElem?_toList]; exact e) e'⟩
theorem Rep.inv_tup {M : List Addr} {h : Heap} {v : Value} {xs : List PV} (r : Rep M h v (.tup xs)) : ∃ a its, v = .ref a ∧ a ∉ M ∧ SeqAt h "tuple" a its ∧ RepL M h its.toList xs := by
  cases r with
  | tup hm hl hs he => exact ⟨_, _, rfl, hm, hl, RepL.of (by rw [Array.length_toList, hs]) fun i v x e e' => he i v x (by rw [← Array.getElem?_toList]; exact e) e'⟩
theorem Rep.inv_int {M : List Addr} {h : Heap} {v : Value} {n : Int} (r : Rep M h v (.int n)) : ∃ t, v = .int n t := by cases r; exact ⟨_, rfl⟩
theorem Rep.inv_bool {M : List Addr} {h : Heap} {v : Value} {n : Bool} (r : Rep M h v (.bool n)) : v = .bool n := by cases r; rfl
theorem Rep.inv_str {M : List Addr} {h : Heap} {v : Value} {n : Str} (r : Rep M h v (.str n)) : ∃ t, v = .str n t := by cases r; exact ⟨_, rfl⟩
theorem Rep.inv_raw {M : List Addr} {h : Heap} {v v' : Value} (r : Rep M h v (.raw v')) : v = v' := by cases r; rfl
theorem SeqAt.isList {h : Heap} {a : Addr} {its : Array Value} (x : SeqAt h "list" a its) : h.IsList a its := let ⟨n, e⟩ := x; ⟨_, e, rfl, n, rfl⟩
noncomputable def PV.items : PV → Option (List PV)
  | .list xs => some xs
  | .rng a n => some ((List.range n).map fun (i : Nat) => .int (a + (i : Int)))
  | _ => none
theorem it_walks {prog : Pr} {M : List Addr} {A : Around} {E : Value → Shared → Prop} {v : Value} {p : PV} {xs : List PV} {Q : Value → Shared → Prop} (hA : A.handled = none) (C : Cx w β s) (r : Rep M s.heap v p) (hx : p.items = some xs) (hn : xs.length ≤ sizeLine)
    (h : ∀ I s' fp P St, Walks prog.p w A I fp [I] xs.length P St → St 0 s'.heap → Cx w β s' → Kp s s' → s.heap.get? I = none → (∀ b ∈ fp, ∃ o, s'.heap.get? b = some o) → I ∈ fp → (∀ b ∈ fp, b = I ∨ ∃ o, s.heap.get? b = some o ∧ stay o = true) → (∀ i h, St i h → (∃ o, h.get? I = some o ∧ stay o = false) ∧ ∀ b ∈ fp, NN h b) → (∀ (i : Nat) v, P i v → ∃ x, xs[i]? = some x ∧ Rep M s.heap v x) → Q (.ref I) s') :
    wpAny (model prog.p w) A (pyIter v) Q E s := by
  cases p with
  | list ys =>
    cases hx
    obtain ⟨a, its, rfl, hm, hl, rl⟩ := r.inv_list
    refine wpAny_pyIter_list hl.isList ?_
    have hlt : a < s.heap.objs.size := by obtain ⟨n, e⟩ := hl; exact Heap.lt_size e
    have W := Walks.list (prog := prog.p) (w := w) hA s.heap.objs.size a (Nat.ne_of_lt hlt) its
    have hz : its.size = xs.length := by rw [← rl.at.1, Array.length_toList]
    rw [hz] at W
    refine h _ _ _ _ _ W ⟨⟨_, Heap.get?_push_size _ rfl, rfl, rfl⟩, hl.isList.push _⟩ (C.push _) (kp_push s _) (none_of_ge (Nat.le_refl _)) (fun b hb => ?_) (by simp) (fun b hb => ?_) (fun i h st => by
      obtain ⟨⟨o, e, c, _⟩, ⟨o2, e2, c2, _⟩⟩ := st
      refine ⟨⟨o, e, by simp [stay, c]⟩, fun b hb => ?_⟩
      rcases mcs hb with rfl | hb
      · exact ⟨o, e, by rw [c]; simp⟩
      · cases List.mem_singleton.mp hb; exact ⟨o2, e2, by rw [c2]; simp⟩) fun i v e => ?_
    · rcases mcs hb with rfl | hb
      · exact ⟨_, Heap.get?_push_size _ rfl⟩
      · cases List.mem_singleton.mp hb
        obtain ⟨n, e⟩ := hl
        exact ⟨_, Heap.get?_push_of_some _ e⟩
    · rcases mcs hb with rfl | hb
      · exact .inl rfl
      · cases List.mem_singleton.mp hb
        obtain ⟨n, e⟩ := hl
        exact .inr ⟨_, e, rfl⟩
    · have hi : i < xs.length := by
        rw [← hz]
        exact (Array.getElem?_eq_some_iff.mp e).1
      exact ⟨xs[i], List.getElem?_eq_getElem hi, rl.at.2 i v _ (by rw [Array.getElem?_toList]; exact e) (List.getElem?_eq_getElem hi)⟩
  | rng a n =>
    cases hx
    cases r with
    | rng hm hr hs hn' =>
      refine wpAny_pyIter_range hr hs ?_
      have W : Walks prog.p w A s.heap.objs.size [s.heap.objs.size] [s.heap.objs.size] n (fun i v => i < n ∧ ∃ t, v = .int (a + i * 1) t) (fun i h => IsRangeIter h s.heap.objs.size (a + (i : Nat) * 1) ((n : Int) - (i : Nat)) 1) := (Walks.range hA s.heap.objs.size a 1 n).bound
      have hz : ((List.range n).map fun (i : Nat) => PV.int (a + (i : Int))).length = n := by simp
      rw [← hz] at W
      refine h _ _ _ _ _ W ?_ (C.push _) (kp_push s _) (none_of_ge (Nat.le_refl _)) (fun b hb => ?_) (by simp) (fun b hb => .inl (List.mem_singleton.mp hb)) (fun i h st => ⟨⟨_, st, rfl⟩, fun b hb => by cases List.mem_singleton.mp hb; exact ⟨_, st, by simp⟩⟩) fun i v e => ?_
      · show (Heap.push _ _).get? _ = _
        rw [Heap.get?_push_size _ rfl, hn', hz]
        simp
      · cases List.mem_singleton.mp hb; exact ⟨_, Heap.get?_push_size _ rfl⟩
      · obtain ⟨hi, t, rfl⟩ := e
        refine ⟨.int (a + (i : Int)), by simp [hz ▸ hi], by rw [Int.mul_one]; exact .int _ _⟩
  | _ => cases hx
end
noncomputable def capt (env : Env) : List (Str × NameKind) → List (Str × Addr) → List (Str × Addr)
  | [], acc => acc
  | (n, k) :: r, acc => if k == .free then (match env.cells.lookup n with | some c => capt env r ((n, c) :: acc) | none => capt env r acc) else capt env r acc
theorem capt_forIn (env : Env) (f : Str × NameKind → List (Str × Addr) → Sem (ForInStep (List (Str × Addr)))) (hf : ∀ n k cs, f (n, k) cs = if k == .free then (do let c ← cellOf env n; pure (.yield ((n, c) :: cs))) else pure (.yield cs)) :
    ∀ (names : List (Str × NameKind)) (acc : List (Str × Addr)), (∀ p ∈ names, p.2 = .free → ∃ c, env.cells.lookup p.1 = some c) → forIn names acc f = pure (capt env names acc)
  | [], _, _ => rfl
  | (n, k) :: r, acc, h => by
    rw [List.forIn_cons, hf]
    unfold capt
    by_cases e : (k == .free) = true
    · obtain ⟨c, hc⟩ := h (n, k) (List.mem_cons_self ..) (by simpa using e)
      rw [if_pos e, if_pos e, hc]
      show (do let c ← cellOf env n; pure (ForInStep.yield ((n, c) :: acc))) >>= _ = _
      unfold cellOf
      rw [hc]
      exact capt_forIn env f hf r _ fun p hp => h p (List.mem_cons_of_mem _ hp)
    · rw [if_neg e, if_neg e]
      exact capt_forIn env f hf r _ fun p hp => h p (List.mem_cons_of_mem _ hp)
theorem clo_eq {env : Env} {scope : Scope} (h : ∀ p ∈ scope.names, p.2 = .free → ∃ c, env.cells.lookup p.1 = some c) : closureFor scope env = pure (capt env scope.names []) := by
  have := capt_forIn env (fun x cs => match x with | (name, kind) => if (kind == NameKind.free) = true then do let c ← cellOf env name; pure (ForInStep.yield ((name, c) :: cs)) else pure (ForInStep.yield cs)) (fun _ _ _ => rfl) scope.names [] h
  show (forIn scope.names ([] : List (Str × Addr)) _ >>= fun cs => pure cs) = _
  exact (congrArg (· >>= fun cs => pure cs) this)
theorem capt_mem {env : Env} : ∀ {names : List (Str × NameKind)} {acc : List (Str × Addr)} {y : Str} {c : Addr}, (y, c) ∈ capt env names acc → ((y, .free) ∈ names ∧ env.cells.lookup y = some c) ∨ (y, c) ∈ acc
  | [], acc, y, c, h => .inr h
  | (n, k) :: r, acc, y, c, h => by
    unfold capt at h
    by_cases e : (k == .free) = true
    · rw [if_pos e] at h
      cases hc : env.cells.lookup n with
      | none => rw [hc] at h; exact (capt_mem h).imp (fun x => ⟨List.mem_cons_of_mem _ x.1, x.2⟩) id
      | some c' =>
        rw [hc] at h
        rcases capt_mem h with x | x
        · exact .inl ⟨List.mem_cons_of_mem _ x.1, x.2⟩
        · rcases List.mem_cons.mp x with q | q
          · cases q
            have : k = .free := by simpa using e
            subst this
            exact .inl ⟨List.mem_cons_self .., hc⟩
          · exact .inr q
    · rw [if_neg e] at h; exact (capt_mem h).imp (fun x => ⟨List.mem_cons_of_mem _ x.1, x.2⟩) id
theorem capt_has {env : Env} : ∀ {names : List (Str × NameKind)} {acc : List (Str × Addr)} {y : Str} {c : Addr}, (((y, .free) ∈ names ∧ env.cells.lookup y = some c) ∨ ∃ c, (y, c) ∈ acc) → ∃ c, (y, c) ∈ capt env names acc
  | [], acc, y, c, h => by
    rcases h with ⟨h, _⟩ | h
    · cases h
    · exact h
  | (n, k) :: r, acc, y, c, h => by
    unfold capt
    by_cases e : (k == .free) = true
    · rw [if_pos e]
      cases hc : env.cells.lookup n with
      | none =>
        refine capt_has (c := c) ?_
        rcases h with ⟨h, h'⟩ | h
        · rcases List.mem_cons.mp h with q | q
          · cases q; rw [hc] at h'; cases h'
          · exact .inl ⟨q, h'⟩
        · exact .inr h
      | some c' =>
        refine capt_has (c := c) ?_
        rcases h with ⟨h, h'⟩ | ⟨c'', h⟩
        · rcases List.mem_cons.mp h with q | q
          · cases q; exact .inr ⟨c', List.mem_cons_self ..⟩
          · exact .inl ⟨q, h'⟩
        · exact .inr ⟨c'', List.mem_cons_of_mem _ h⟩
    · rw [if_neg e]
      refine capt_has (c := c) ?_
      rcases h with ⟨h, h'⟩ | h
      · rcases List.mem_cons.mp h with q | q
        · cases q; exact (e rfl).elim
        · exact .inl ⟨q, h'⟩
      · exact .inr h
theorem lookup_of_mem_all {β : Type} {l : List (Str × β)} {x : Str} {v : β} (h : ∃ u, (x, u) ∈ l) (k : ∀ u, (x, u) ∈ l → u = v) : l.lookup x = some v := by
  induction l with
  | nil => obtain ⟨_, h⟩ := h; cases h
  | cons p r ih =>
    obtain ⟨y, u⟩ := p
    simp only [List.lookup]
    cases e : x == y with
    | true =>
      have : x = y := by simpa using e
      subst this
      exact congrArg some (k u (List.mem_cons_self ..))
    | false =>
      refine ih ?_ fun u hu => k u (List.mem_cons_of_mem _ hu)
      obtain ⟨u', h⟩ := h
      rcases List.mem_cons.mp h with q | q
      · cases q; simp at e
      · exact ⟨u', q⟩
theorem capt_lookup {env : Env} {names : List (Str × NameKind)} {y : Str} {c : Addr} (hy : (y, .free) ∈ names) (hc : env.cells.lookup y = some c) : (capt env names []).lookup y = some c :=
  lookup_of_mem_all (capt_has (c := c) (.inl ⟨hy, hc⟩)) fun u hu => by
    rcases capt_mem hu with ⟨_, q⟩ | q
    · rw [hc] at q; exact (Option.some.inj q).symm
    · cases q
noncomputable def compOk (sc : Scope) (ρ : PVs) (scope : Scope) (x : Str) : Bool :=
  scope.kind == .function && (scope.names.lookup x == some .local || scope.names.lookup x == some .cell) &&
  scope.names.all fun y => match y.2 with
    | .local => scope.names.lookup y.1 == some .local && (y.1 == x || (ρ.lookup y.1).isNone)
    | .cell => scope.names.lookup y.1 == some .cell && y.1 == x
    | .free => scope.names.lookup y.1 == some .free && (sc.names.lookup y.1 == some .cell || sc.names.lookup y.1 == some .free) && (ρ.lookup y.1).isSome && y.1 != ("__classdict__" : Str) && y.1 != x
    | _ => true
structure COk' (sc : Scope) (ρ : PVs) (scope : Scope) (x : Str) : Prop where
  kind : scope.kind = .function
  kx : scope.names.lookup x = some .local ∨ scope.names.lookup x = some .cell
  loc : ∀ y ∈ scope.names, y.2 = .local → scope.names.lookup y.1 = some .local ∧ (y.1 = x ∨ ρ.lookup y.1 = none)
  cel : ∀ y ∈ scope.names, y.2 = .cell → scope.names.lookup y.1 = some .cell ∧ y.1 = x
  fre : ∀ y ∈ scope.names, y.2 = .free → (sc.names.lookup y.1 = some .cell ∨ sc.names.lookup y.1 = some .free) ∧ (∃ p, ρ.lookup y.1 = some p) ∧ (y.1 == ("__classdict__" : Str)) = false ∧ y.1 ≠ x
theorem COk'.of {sc : Scope} {ρ : PVs} {scope : Scope} {x : Str} (h : compOk sc ρ scope x = true) : COk' sc ρ scope x := by
  unfold compOk at h
  simp only [Bool.and_eq_true, Bool.or_eq_true, beq_iff_eq, List.all_eq_true] at h
  obtain ⟨⟨a, b⟩, c⟩ := h
  refine ⟨a, b, fun y hy e => ?_, fun y hy e => ?_, fun y hy e => ?_⟩
  · have := c y hy; rw [e] at this; simpa using this
  · have := c y hy; rw [e] at this; simpa using this
  · have := c y hy; rw [e] at this
    simp only [Bool.and_eq_true, Bool.or_eq_true, beq_iff_eq, bne_iff_ne] at this
    obtain ⟨⟨⟨⟨_, p⟩, q⟩, r⟩, t⟩ := this
    exact ⟨p, Option.isSome_iff_exists.mp q, by simpa using r, t⟩
theorem lookup_map_relabel {f : Str → NameKind → NameKind} : ∀ {names : List (Str × NameKind)} {x : Str} {k : NameKind}, names.lookup x = some k → (names.map fun y => (y.1, f y.1 y.2)).lookup x = some (f x k)
  | [], _, _, h => by simp at h
  | (n, k') :: r, x, k, h => by
    simp only [List.lookup, List.map_cons] at h ⊢
    cases hx : x == n with
    | true => rw [hx] at h; cases h; have : x = n := by simpa using hx
              subst this; rfl
    | false => rw [hx] at h; exact lookup_map_relabel h
theorem lookup_relabel {env : Env} {scope : Scope} {x : Str} {k : NameKind} (h : scope.names.lookup x = some k) : (relabel scope env).names.lookup x = some (if (k == .free && env.scope.kind == .function && env.kindOf x == some .cell) then .cell else k) := by
  have := lookup_map_relabel (f := fun n k => if (k == .free && env.scope.kind == .function && env.kindOf n == some .cell) then .cell else k) h
  rw [← this]
  unfold relabel
  dsimp only
  congr 1
  refine List.map_congr_left fun y _ => ?_
  obtain ⟨n, k⟩ := y
  dsimp only
  split <;> rfl
theorem comp_ld {M : List Addr} {env cenv : Env} {sc scope : Scope} {h : Heap} {ρ : PVs} {x : Str} {p : PV} {v : Value} (L : Ld M env sc h ρ) (K : COk' sc ρ scope x)
    (e1 : cenv.scope = relabel scope env) (e2 : cenv.globals = env.globals) (e3 : cenv.builtins = env.builtins) (e4 : ∀ y c, (y, NameKind.free) ∈ scope.names → env.cells.lookup y = some c → cenv.cells.lookup y = some c)
    (bx : (scope.names.lookup x = some .local ∧ NN h cenv.locals ∧ ∃ m, h.Ns cenv.locals m ∧ m x = some v) ∨ (scope.names.lookup x = some .cell ∧ ∃ c, cenv.cells.lookup x = some c ∧ NN h c ∧ h.IsCell c (some v))) (r : Rep M h v p) : Ld M cenv scope h ((x, p) :: ρ) := by
  have ks : ∀ y k, scope.names.lookup y = some k → cenv.kindOf y = some (if (k == .free && env.scope.kind == .function && env.kindOf y == some .cell) then .cell else k) := fun y k e => by
    show cenv.scope.names.lookup y = _
    rw [e1]; exact lookup_relabel e
  refine { mx := L.mx, nl := fun y e => ?_, kind := by rw [e1]; exact K.kind, glb := e2.trans L.glb, bns := e3.trans L.bns, glo := fun y e => ks y _ e, val := fun y q a b => ?_ }
  · rcases e with e | e <;> rw [ks y _ e] <;> simp
    split <;> simp
  · rw [lk_cons] at b
    by_cases hy : y = x
    · subst hy
      rw [if_pos rfl] at b; cases b
      refine ⟨v, ?_, r⟩
      rcases bx with ⟨a1, nn, m, a2, a3⟩ | ⟨a1, c, a2, nn, a3⟩
      · exact .inl ⟨ks y _ a1, nn, m, a2, a3⟩
      · exact .inr ⟨.inl (ks y _ a1), c, a2, nn, a3⟩
    · rw [if_neg hy] at b
      cases hk : scope.names.lookup y with
      | none => rw [hk] at a; cases a
      | some k =>
        have hm := mem_of_lookup hk
        cases k with
        | «local» =>
          have := K.loc (y, .local) hm rfl
          rcases this.2 with z | z
          · exact (hy z).elim
          · rw [b] at z; cases z
        | cell => exact (hy (K.cel (y, .cell) hm rfl).2).elim
        | free =>
          obtain ⟨f1, _, f3, _⟩ := K.fre (y, .free) hm rfl
          obtain ⟨u, l, ru⟩ := L.val y q (by rcases f1 with z | z <;> simp only at z <;> rw [z] <;> rfl) b
          refine ⟨u, ?_, ru⟩
          rcases l with ⟨z, _⟩ | ⟨z, c, z1, z2⟩
          · exact (L.nl y f1 z).elim
          · refine .inr ⟨?_, c, e4 y c hm z1, z2⟩
            rw [ks y _ hk]
            by_cases w : (NameKind.free == NameKind.free && env.scope.kind == .function && env.kindOf y == some .cell) = true
            · rw [if_pos w]; exact .inl rfl
            · rw [if_neg w]; exact .inr ⟨rfl, f3⟩
        | _ => rw [hk] at a; cases a
theorem comp_env {prog : Pr} {w : World} {A : Around} {E : Value → Shared → Prop} {s : Shared} {env : Env} {sc scope : Scope} {ρ : PVs} {x : Str} {Q : Env → Shared → Prop} (K : COk' sc ρ scope x) (hf : ∀ p ∈ scope.names, p.2 = .free → ∃ c, env.cells.lookup p.1 = some c)
    (h : ∀ cenv s', cenv.locals = s.heap.objs.size → cenv.globals = env.globals → cenv.builtins = env.builtins → (∀ y c, (y, NameKind.free) ∈ scope.names → env.cells.lookup y = some c → cenv.cells.lookup y = some c) → (∀ β, Cx w β s → Cx w β s') → Kp s s' → s'.heap.Ns s.heap.objs.size (fun _ => none) →
      (∃ o, s'.heap.get? s.heap.objs.size = some o ∧ o.cls = .type "dict") → (scope.names.lookup x = some .cell → ∃ c, cenv.cells.lookup x = some c ∧ s.heap.get? c = none ∧ c ≠ s.heap.objs.size ∧ s'.heap.get? c = some cellO) → Q cenv s') :
    wpAny (model prog.p w) A (newFunctionEnv scope env.globals (capt env scope.names []) [] env.qual none .none (some env)) Q E s := by
  simp only [newFunctionEnv, Option.isSome_some, if_true]
  refine wpAny_bind (wpAny_alloc ?_)
  refine wpAny_bind (wpAny_layCells _ (fun name kind cells => by cases hkc : kind == NameKind.cell <;> simp) _ _ _ _ ?_)
  have fr : (pushCells (s.heap.push { cls := .type "dict", data := .dict #[] }) scope.names).get? s.heap.objs.size = some { cls := .type "dict", data := .dict #[] } := pushCells_keeps _ _ _ _ (Heap.get?_push_size _ rfl)
  have hz : ({ s with heap := s.heap.push { cls := .type "dict", data := .dict #[] } } : Shared).heap.objs.size = s.heap.objs.size + 1 := Heap.size_push ..
  rw [hz]
  have kp : ∀ b o, s.heap.get? b = some o → (pushCells (s.heap.push { cls := .type "dict", data := .dict #[] }) scope.names).get? b = some o := fun b o e => pushCells_keeps _ _ b o (Heap.get?_push_of_some _ e)
  -- the cells, seen apart from those that are caught
  have look : ∀ (names : List (Str × NameKind)) (hp : Heap) (acc : List (Str × Addr)) (lo : Nat), lo ≤ hp.objs.size → (∀ y c, (y, c) ∈ acc → (lo ≤ c ∧ hp.get? c = some cellO ∧ (y, NameKind.cell) ∈ scope.names) ∨ (y, c) ∈ capt env scope.names []) → (∀ p ∈ names, p ∈ scope.names) →
      ∀ y c, (y, c) ∈ cellsFrom hp.objs.size names acc → (lo ≤ c ∧ (pushCells hp names).get? c = some cellO ∧ (y, NameKind.cell) ∈ scope.names) ∨ (y, c) ∈ capt env scope.names [] := by
    intro names
    induction names with
    | nil => intro hp acc lo _ ha _ y c hm; exact ha y c hm
    | cons p r ih =>
      obtain ⟨n, k⟩ := p
      intro hp acc lo hlo ha hs y c hm
      unfold cellsFrom at hm
      unfold pushCells
      by_cases e : (k == .cell) = true
      · rw [if_pos e] at hm ⊢
        have hk : k = .cell := by simpa using e
        have := ih (hp.push cellO) ((n, hp.objs.size) :: acc) lo (by rw [Heap.size_push]; omega) (fun y c hm => ?_) (fun p hp => hs p (List.mem_cons_of_mem _ hp)) y c (by rw [Heap.size_push]; exact hm)
        · exact this
        · rcases List.mem_cons.mp hm with q | q
          · cases q; exact .inl ⟨hlo, Heap.get?_push_size _ rfl, by rw [← hk]; exact hs _ (List.mem_cons_self ..)⟩
          · exact (ha y c q).imp (fun z => ⟨z.1, Heap.get?_push_of_some _ z.2.1, z.2.2⟩) id
      · rw [if_neg e] at hm ⊢
        exact ih hp acc lo hlo ha (fun p hp => hs p (List.mem_cons_of_mem _ hp)) y c hm
  have at' := look scope.names (s.heap.push { cls := .type "dict", data := .dict #[] }) (capt env scope.names []) (s.heap.objs.size + 1) (by rw [Heap.size_push]; exact Nat.le_refl _) (fun y c hm => .inr hm) (fun _ h => h)
  rw [Heap.size_push] at at'
  have sub : ∀ (names : List (Str × NameKind)) (n : Nat) (acc : List (Str × Addr)) (p : Str × Addr), p ∈ acc → p ∈ cellsFrom n names acc := by
    intro names
    induction names with
    | nil => intro n acc p hp; exact hp
    | cons q r ih =>
      obtain ⟨n', k⟩ := q
      intro n acc p hp
      unfold cellsFrom
      split
      · exact ih _ _ _ (List.mem_cons_of_mem _ hp)
      · exact ih _ _ _ hp
  refine wpAny_pure (h _ _ rfl rfl rfl (fun y c hy hc => ?_) (fun β C => CxH.keeps' C kp) (Kh.of kp) ⟨_, _, _, fr, rfl, fun _ he => by simp at he, fun _ => rfl⟩ ⟨_, fr, rfl⟩ fun hx => ?_)
  · refine lookup_of_mem_all ?_ fun u hu => ?_
    · obtain ⟨u, hu⟩ := capt_has (c := c) (acc := []) (.inl ⟨hy, hc⟩)
      exact ⟨u, sub _ _ _ _ hu⟩
    · rcases at' y u hu with ⟨_, _, z⟩ | z
      · have a1 := K.cel (y, .cell) z rfl
        have a2 := K.fre (y, .free) hy rfl
        exact (a2.2.2.2 a1.2).elim
      · rcases capt_mem z with ⟨_, q⟩ | q
        · rw [hc] at q; exact (Option.some.inj q).symm
        · cases q
  · have q := cellsFrom_some scope.names (s.heap.objs.size + 1) (capt env scope.names []) (x := x) (.inl hx)
    obtain ⟨c, hc⟩ := Option.isSome_iff_exists.mp q
    rcases at' x c (mem_of_lookup hc) with ⟨z1, z2, _⟩ | z
    · exact ⟨c, hc, none_of_ge (Nat.le_of_lt z1), Nat.ne_of_gt z1, z2⟩
    · rcases capt_mem z with ⟨z, _⟩ | z
      · exact ((K.fre (x, .free) z rfl).2.2.2 rfl).elim
      · cases z
noncomputable def Tvs (w : World) (β : Pm) (n : Nat) (sc : Scope) (ρ : PVs) : List Expr → Bool → Prop
  | [], b => b = true
  | [c], b => Tv w β n sc ρ c b
  | _, _ => False
theorem tests_run {prog : Pr} {w : World} {A : Around} {β : Pm} {n : Nat} {sc : Scope} {ρ : PVs} {M : List Addr} {env : Env} {s : Shared} {E : Value → Shared → Prop} {ifs : List Expr} {b : Bool} {Q : Bool → Shared → Prop}
    (T : Tvs w β n sc ρ ifs b) (hA : Ok A n) (C : Cx w β s) (L : Ld M env sc s.heap ρ) (h : ∀ s', Cx w β s' → Kp s s' → Q b s') :
    wpAny (model prog.p w) A (forIn ifs true fun c r => if r = true then do let ok ← isTrue c env (eval c env); pure (ForInStep.yield ok) else pure (ForInStep.yield r)) Q E s := by
  cases ifs with
  | nil => cases T; exact wpAny_tests_nil (h s C (kp_refl s))
  | cons c r =>
    cases r with
    | nil => exact wpAny_tests_one (Wp.any (T hA C L h))
    | cons _ _ => exact T.elim
section
variable {prog : Pr} {w : World} {A : Around} {β : Pm} {n : Nat} {sc : Scope} {ρ : PVs} {M : List Addr} {env : Env} {s : Shared} {E : Value → Shared → Prop}
theorem comp_core {α : Type} {elt iter : Expr} {x : Str} {px : Pos} {ifs : List Expr} {scope : Scope} {pos : Pos} {pi : PV} {xs : List α} {emb : α → PV} {p : α → Bool} {f : α → PV} {RR : Value → Addr → Result → Shared → Prop} {v : Value}
    (hA : Ok A n) (C : Cx w β s) (L : Ld M env sc s.heap ρ) (hv : Rep M s.heap v pi) (hx : pi.items = some (xs.map emb)) (hn : xs.length ≤ sizeLine) (K : COk' sc ρ scope x)
    (ht : ∀ (i : Nat) y, xs[i]? = some y → Tvs w β n scope ((x, emb y) :: ρ) ifs (p y))
    (he : ∀ (i : Nat) y, xs[i]? = some y → p y = true → Ev w β n scope ((x, emb y) :: ρ) elt (f y))
    (hf : ∀ p ∈ scope.names, p.2 = .free → ∃ c, env.cells.lookup p.1 = some c)
    (hRR : ∀ D Cc s' m, Cx w β s' → Kp s s' → s.heap.get? Cc = none → NN s'.heap Cc → s'.heap.Ns Cc m → Rep (Cc :: M) s'.heap (.ref D) (.list ((xs.filter p).map f)) → D ≠ Cc → RR (.ref D) Cc (.ok .next) s') :
    wpAny (model prog.p w) A (pyIter v) (fun it s₂ => wpAny (model prog.p w) A (newList []) (fun acc s₃ => wpAny (model prog.p w) A (newFunctionEnv scope env.globals (capt env scope.names []) [] env.qual none .none (some env)) (fun cenv s₄ =>
      codeAny (model prog.p w) A (.compStart (.ListComp elt [⟨.Name x px, iter, ifs, 0⟩] scope pos) 0 it acc { cenv with scope := relabel scope env }) (RR acc cenv.locals) s₄) E s₃) E s₂) E s := by
  refine it_walks hA.h C hv hx (by rw [List.length_map]; exact hn) fun I s₂ fp P St W st0 C₂ K₂ hI hfp hIf _ hSI hP => ?_
  rw [List.length_map] at W
  have up : ∀ {s' : Shared} {a : Addr}, Kp s s' → s'.heap.get? a = none → s.heap.get? a = none := fun {s' a} k e => Kh.none k e
  refine wpAny_newObj_type ?_
  have hD0 : s₂.heap.get? s₂.heap.objs.size = none := none_of_ge (Nat.le_refl _)
  have kD : Kp s₂ { s₂ with heap := s₂.heap.push { cls := .type "list", dict := none, data := .seq ([] : List Value).toArray } } := kp_push s₂ _
  generalize hDe : s₂.heap.objs.size = Dd at hD0 ⊢
  have hDs : s.heap.get? Dd = none := up K₂ hD0
  have hDI : Dd ∉ fp := fun h => by obtain ⟨o, e⟩ := hfp _ h; rw [hD0] at e; cases e
  have pD : SeqAt (s₂.heap.push { cls := .type "list", dict := none, data := .seq ([] : List Value).toArray }) "list" Dd #[] := ⟨0, by rw [← hDe]; exact Heap.get?_push_size _ rfl⟩
  have C₃ := C₂.push { cls := .type "list", dict := none, data := .seq ([] : List Value).toArray }
  generalize hs₃ : ({ s₂ with heap := s₂.heap.push { cls := .type "list", dict := none, data := .seq ([] : List Value).toArray } } : Shared) = s₃ at C₃ kD ⊢
  have pD : SeqAt s₃.heap "list" Dd #[] := by rw [← hs₃]; exact pD
  have st3 : St 0 s₃.heap := W.frame _ _ _ st0 fun b hb o e => ((hSI _ _ st0).2 b hb).at kD o e
  have K₃ := kp_trans K₂ kD
  refine comp_env (sc := sc) (ρ := ρ) (x := x) K hf fun cenv s₄ el eg eb ec c34 k34 nsC clC celC => ?_
  generalize hce : ({ cenv with scope := relabel scope env } : Env) = ce
  have hC3 : s₃.heap.get? s₃.heap.objs.size = none := none_of_ge (Nat.le_refl _)
  generalize s₃.heap.objs.size = Cc at el nsC clC celC hC3
  rw [el]
  have hCD : Cc ≠ Dd := fun e => by obtain ⟨n, q⟩ := pD; rw [← e, hC3] at q; cases q
  have hCfp : Cc ∉ fp := fun h => by obtain ⟨o, e⟩ := hfp _ h; obtain ⟨o', e'⟩ := kD.x _ _ e; rw [e'] at hC3; cases hC3
  have hCs : s.heap.get? Cc = none := up K₃ hC3
  have hCI : Cc ≠ I := fun e => hCfp (e ▸ hIf)
  have hDI' : Dd ≠ I := fun e => hDI (e ▸ hIf)
  -- the cell of the loop's name, where it has one
  obtain ⟨cc, hcx, hcc⟩ : ∃ cc : Option Addr, (scope.names.lookup x = some .cell → ∃ c, cc = some c ∧ cenv.cells.lookup x = some c) ∧ (∀ c, cc = some c → s₃.heap.get? c = none ∧ c ≠ Cc ∧ s₄.heap.get? c = some cellO) := by
    by_cases hc : scope.names.lookup x = some .cell
    · obtain ⟨c, a, b, d, e⟩ := celC hc
      exact ⟨some c, fun _ => ⟨c, rfl, a⟩, fun c' h => by cases h; exact ⟨b, d, e⟩⟩
    · exact ⟨none, fun h => (hc h).elim, fun c h => (nomatch h)⟩
  have cN : ∀ c, cc = some c → s.heap.get? c = none ∧ c ∉ fp ∧ c ≠ Dd ∧ c ≠ Cc ∧ c ≠ I := fun c h => by
    obtain ⟨a, b, _⟩ := hcc c h
    have hfc : c ∉ fp := fun h => by obtain ⟨o, e⟩ := hfp _ h; obtain ⟨o', e'⟩ := kD.x _ _ e; rw [e'] at a; cases a
    exact ⟨up K₃ a, hfc, (fun e => by obtain ⟨n, q⟩ := pD; rw [← e, a] at q; cases q), b, (fun e => hfc (e ▸ hIf))⟩
  have ce1 : ce.scope = relabel scope env := by rw [← hce]
  have ce2 : ce.globals = env.globals := by rw [← hce]; exact eg
  have ce3 : ce.builtins = env.builtins := by rw [← hce]; exact eb
  have ce4 : ce.cells = cenv.cells := by rw [← hce]
  have ce5 : ce.locals = Cc := by rw [← hce]; exact el
  have cek : ce.scope.kind = .function := by rw [ce1]; exact K.kind
  -- what the loop turns
  obtain ⟨M', hM'⟩ : ∃ M' : List Addr, M' = I :: Dd :: Cc :: (cc.toList ++ M) := ⟨_, rfl⟩
  have mN : ∀ a ∈ M', a ∈ M ∨ s.heap.get? a = none := fun a ha => by
    rw [hM'] at ha
    rcases mcs ha with rfl | ha
    · exact .inr hI
    rcases mcs ha with rfl | ha
    · exact .inr hDs
    rcases mcs ha with rfl | ha
    · exact .inr hCs
    rcases List.mem_append.mp ha with ha | ha
    · exact .inr (cN a (by simpa using ha)).1
    · exact .inl ha
  have mM : ∀ a ∈ M, a ∈ M' := fun a ha => by rw [hM']; simp [ha]
  have mI : I ∈ M' := by rw [hM']; simp
  have mD : Dd ∈ M' := by rw [hM']; simp
  have mC : Cc ∈ M' := by rw [hM']; simp
  have mc : ∀ c, cc = some c → c ∈ M' := fun c h => by rw [hM', h]; simp
  have nH : ∀ {a : Addr}, s.heap.get? a = none → β.H.get? a = none := fun e => C.new e
  have hcells : ∀ y c, (y, NameKind.free) ∈ scope.names → env.cells.lookup y = some c → ce.cells.lookup y = some c := fun y c a b => by rw [ce4]; exact ec y c a b
  -- a state of the loop
  let Inv (i : Nat) (ys : Array Value) (s' : Shared) : Prop := Cx w β s' ∧ Kp s s' ∧ St i s'.heap ∧ SeqAt s'.heap "list" Dd ys ∧ (∃ m, s'.heap.Ns Cc m) ∧ NN s'.heap Cc ∧ (∀ c, cc = some c → NN s'.heap c ∧ ∃ v₀, s'.heap.IsCell c v₀)
  have inv_mx : ∀ {i ys s'}, Inv i ys s' → ∀ a ∈ M', NN s'.heap a := fun {i ys s'} h a ha => by
    obtain ⟨_, k, st, ⟨n, e⟩, _, eC, ecc⟩ := h
    rw [hM'] at ha
    rcases mcs ha with rfl | ha
    · exact (hSI _ _ st).2 _ hIf
    rcases mcs ha with rfl | ha
    · exact ⟨_, e, by simp⟩
    rcases mcs ha with rfl | ha
    · exact eC
    rcases List.mem_append.mp ha with ha | ha
    · exact (ecc a (by simpa using ha)).1
    · exact (L.mx a ha).kh k
  have inv_ld : ∀ {i ys s'}, Inv i ys s' → Ld M' env sc s'.heap ρ := fun {i ys s'} h => by
    have L' := L.kp h.2.1
    refine { L' with mx := inv_mx h, val := fun y q a b => ?_ }
    obtain ⟨u, l, r⟩ := L.val y q a b
    exact ⟨u, l.kh h.2.1, (r.more mN).mono (D.of_kp h.2.1)⟩
  have inv_kp : ∀ {i ys s' s''}, Inv i ys s' → Cx w β s'' → Kp s' s'' → Inv i ys s'' := fun {i ys s' s''} h c k => by
    obtain ⟨_, k', st, ⟨n, e⟩, ⟨m, ns⟩, eC, ecc⟩ := h
    exact ⟨c, kp_trans k' k, W.frame _ _ _ st fun b hb o e => ((hSI _ _ st).2 b hb).at k o e, ⟨n, k.k _ _ e (by simp)⟩, ⟨m, ns.at' (eC.at k)⟩, eC.kh k, fun c h => let ⟨nn, v, o, x, y⟩ := ecc c h; ⟨nn.kh k, v, o, nn.at k o x, y⟩⟩
  -- the name is stored
  have bind : ∀ {i ys s' v E'} {Q : Unit → Shared → Prop}, Inv i ys s' → (∀ s'', Inv i ys s'' → D M' s'.heap s''.heap → ((scope.names.lookup x = some .local ∧ NN s''.heap ce.locals ∧ ∃ m, s''.heap.Ns ce.locals m ∧ m x = some v) ∨ (scope.names.lookup x = some .cell ∧ ∃ c, ce.cells.lookup x = some c ∧ NN s''.heap c ∧ s''.heap.IsCell c (some v))) → Q () s'') →
      wpAny (model prog.p w) A (assign (.Name x px) ce v) Q E' s' := fun {i ys s' v E' Q} h hq => by
    obtain ⟨c', k', st, pd, ⟨m, ns⟩, eC, ecc⟩ := id h
    refine wpAny_assign_Name ?_
    have keep : ∀ {a : Addr} {h' : Heap}, s.heap.get? a = none → Heap.SameBut a s'.heap h' → Kh s.heap h' := fun {a h'} ha hs =>
      ⟨fun b o e n => (hs.2 b fun z => by rw [z, ha] at e; cases e).trans (k'.k b o e n), fun b o e => by
        obtain ⟨o', e'⟩ := k'.x b o e
        exact ⟨o', (hs.2 b fun z => by rw [z, ha] at e; cases e).trans e'⟩⟩
    rcases K.kx with hl | hl
    · have kl : ce.kindOf x = some .local := by show ce.scope.names.lookup x = _; rw [ce1, lookup_relabel hl]; rfl
      rw [storeName_local kl (by rw [cek]; rfl), ce5]
      refine nsSet_cls ns fun h' ns' hs hcl => ?_
      have nC : NN h' Cc := by
        obtain ⟨o, e, n⟩ := eC
        obtain ⟨o', e', c⟩ := hcl o e
        exact ⟨o', e', by rw [c]; exact n⟩
      refine hq _ ⟨CxH.step c' (C.new hCs) hs, keep hCs hs, W.frame _ _ _ st fun b hb o e => (hs.2 b fun z => hCfp (z ▸ hb)).trans e, ?_, ⟨_, ns'⟩, nC, fun c hc => ?_⟩ (D.but fun b o hb e => (hs.2 b fun z => hb (z ▸ mC)).trans e) (.inl ⟨hl, by rw [ce5]; exact nC, _, by rw [ce5]; exact ns', by simp⟩)
      · obtain ⟨n, e⟩ := pd; exact ⟨n, (hs.2 _ (Ne.symm hCD)).trans e⟩
      · obtain ⟨⟨on, en, nn⟩, v₀, o, e, r⟩ := ecc c hc
        exact ⟨⟨on, (hs.2 _ (cN c hc).2.2.2.1).trans en, nn⟩, v₀, o, (hs.2 _ (cN c hc).2.2.2.1).trans e, r⟩
    · obtain ⟨c, hc, hcl⟩ := hcx hl
      obtain ⟨⟨on, en, nn⟩, v₀, o₀, eo₀, do₀⟩ := ecc c hc
      rw [en] at eo₀; cases eo₀
      have kl : ce.kindOf x = some .cell := by show ce.scope.names.lookup x = _; rw [ce1, lookup_relabel hl]; rfl
      unfold storeName
      simp only [kl, cek]
      refine wpAny_bind (wpAny_cellOf (by rw [ce4]; exact hcl) ?_)
      unfold cellSet
      refine wpAny_bind (wpAny_load en ?_)
      rw [do₀]
      refine wpAny_update en ?_
      have hs : Heap.SameBut c s'.heap (s'.heap.update c fun o => { o with data := .cell (some v) }) := Heap.SameBut.update ..
      have self : (s'.heap.update c fun o => { o with data := .cell (some v) }).get? c = some { on with data := .cell (some v) } := Heap.get?_update_self _ en rfl
      obtain ⟨n1, n2, n3, n4, n5⟩ := cN c hc
      refine hq _ ⟨CxH.step c' (C.new n1) hs, keep n1 hs, W.frame _ _ _ st fun b hb o e => (hs.2 b fun z => n2 (z ▸ hb)).trans e, ?_, ⟨m, ns.sameBut hs (Ne.symm n4)⟩, ?_, fun c' hc' => ?_⟩ (D.but fun b o hb e => (hs.2 b fun z => hb (z ▸ mc c hc)).trans e) (.inr ⟨hl, c, by rw [ce4]; exact hcl, ⟨_, self, nn⟩, _, self, rfl⟩)
      · obtain ⟨n, e⟩ := pd; exact ⟨n, (hs.2 _ (Ne.symm n3)).trans e⟩
      · obtain ⟨o, e, q⟩ := eC; exact ⟨o, (hs.2 _ (Ne.symm n4)).trans e, q⟩
      · rw [hc] at hc'; cases hc'; exact ⟨⟨_, self, nn⟩, _, _, self, rfl⟩
  have st4 : St 0 s₄.heap := W.frame _ _ _ st3 fun b hb o e => ((hSI _ _ st3).2 b hb).at k34 o e
  have C₄ : Cx w β s₄ := c34 β C₃
  have inv0 : Inv 0 #[] s₄ := ⟨C₄, kp_trans K₃ k34, st4, by obtain ⟨n, e⟩ := pD; exact ⟨n, k34.k _ _ e (by simp)⟩, ⟨_, nsC⟩, by obtain ⟨o, e, c⟩ := clC; exact ⟨o, e, by rw [c]; simp⟩, fun c h => ⟨⟨_, (hcc c h).2.2, by simp⟩, none, _, (hcc c h).2.2, rfl⟩⟩
  have loop : codeAny (model prog.p w) A (.compLoop (.ListComp elt [⟨.Name x px, iter, ifs, 0⟩] scope pos) 0 (.ref I) (.ref Dd) ce) (RR (.ref Dd) Cc) s₄ := by
    refine codeAny_compLoop_tests (fun k s' => ∃ i ys, Inv i ys s' ∧ i ≤ xs.length ∧ k = xs.length + 1 - i ∧ RepL M' s'.heap ys.toList (((xs.take i).filter p).map f)) ?_ (xs.length + 1)
      ⟨0, #[], inv0, Nat.zero_le _, rfl, by simpa using RepL.nil⟩
    rintro k s' ⟨i, ys, iv, hi, rfl, R'⟩
    by_cases hlt : i < xs.length
    · refine W.item i s' _ _ hlt iv.2.2.1 fun v h₁ tk₁ hPv st₁ k₁ => ?_
      obtain ⟨y, hy, ry⟩ : ∃ y, xs[i]? = some y ∧ Rep M s.heap v (emb y) := by
        obtain ⟨z, hz, rz⟩ := hP i v hPv
        rw [List.getElem?_map] at hz
        cases q : xs[i]? with
        | none => rw [q] at hz; cases hz
        | some y => rw [q] at hz; cases hz; exact ⟨y, rfl, rz⟩
      have k₁' : ∀ b o, b ≠ I → s'.heap.get? b = some o → h₁.get? b = some o := fun b o hb e => k₁ b o (by simpa using hb) e
      obtain ⟨c', k', st, ⟨nD, eD⟩, ⟨m, ns⟩, ⟨oC, eC, nC⟩, ecc⟩ := id iv
      have iv₁ : Inv (i + 1) ys { s' with heap := h₁, toks := tk₁ } := by
        refine ⟨CxH.but c' (wr := [I]) (fun b hb => by cases List.mem_singleton.mp hb; exact nH hI) (fun b o hb e => k₁ b o hb e), ?_, st₁, ⟨nD, k₁' _ _ hDI' eD⟩, ⟨m, ns.at' fun o e => k₁' _ o hCI e⟩, ⟨oC, k₁' _ _ hCI eC, nC⟩, fun c hc => ?_⟩
        · exact ⟨fun b o e n => k₁' b o (fun z => by rw [z, hI] at e; cases e) (k'.k b o e n), fun b o e => by
            obtain ⟨o', e'⟩ := k'.x b o e
            exact ⟨o', k₁' b o' (fun z => by rw [z, hI] at e; cases e) e'⟩⟩
        · obtain ⟨⟨on, en, nn⟩, v₀, o, e, r⟩ := ecc c hc; exact ⟨⟨on, k₁' _ _ (cN c hc).2.2.2.2 en, nn⟩, v₀, o, k₁' _ _ (cN c hc).2.2.2.2 e, r⟩
      have d₁ : D M' s'.heap h₁ := D.but fun b o hb e => k₁' b o (fun z => hb (z ▸ mI)) e
      refine bind iv₁ fun s₂' iv₂ d₂ bx => ?_
      have d02 : D M' s'.heap s₂'.heap := d₁.trans d₂
      have ry' : Rep M' s₂'.heap v (emb y) := (ry.more mN).mono (D.of_kp iv₂.2.1)
      have L₂ : Ld M' ce scope s₂'.heap ((x, emb y) :: ρ) := comp_ld (inv_ld iv₂) K ce1 ce2 ce3 hcells bx ry'
      refine tests_run (ht i y hy) hA iv₂.1 L₂ fun s₃' c₃ k₃ => ?_
      have iv₃ := inv_kp iv₂ c₃ k₃
      have take : xs.take (i + 1) = xs.take i ++ [y] := by rw [List.take_add_one, hy]; rfl
      cases hp : p y with
      | false =>
        simp only [Bool.false_eq_true, if_false]
        refine ⟨xs.length + 1 - (i + 1), dec1 hlt, i + 1, ys, iv₃, hlt, rfl, ?_⟩
        rw [take, List.filter_append]
        simp only [hp, List.filter_cons, List.filter_nil, Bool.false_eq_true, if_false, List.append_nil]
        exact R'.mono (d02.trans (D.of_kp k₃))
      | true =>
        simp only [if_true]
        refine Wp.any (he i y hy hp hA c₃ (L₂.kp k₃) fun u s₄' c₄ k₄ ru => Wp.any (prog := prog) (w := w) ?_)
        have iv₄ := inv_kp iv₃ c₄ k₄
        obtain ⟨c5, k5, st5, ⟨nD5, eD5⟩, ⟨m5, ns5⟩, ⟨oC5, eC5, nC5⟩, ecc5⟩ := id iv₄
        have R4 : RepL M' s₄'.heap ys.toList (((xs.take i).filter p).map f) := R'.mono (d02.trans ((D.of_kp k₃).trans (D.of_kp k₄)))
        have hsz : ys.size ≤ sizeLine := by
          have a1 := R4.at.1
          rw [Array.length_toList, List.length_map] at a1
          have a2 := List.length_filter_le p (xs.take i)
          rw [List.length_take] at a2
          omega
        refine wpAny_list_append_plain (hsz := hsz) ⟨nD5, eD5⟩ fun h₅ ⟨nD6, eD6⟩ hs => ?_
        have d45 : D M' s₄'.heap h₅ := D.but fun b o hb e => (hs.2 b fun z => hb (z ▸ mD)).trans e
        refine ⟨xs.length + 1 - (i + 1), dec1 hlt, i + 1, ys.push u, ⟨CxH.step c5 (nH hDs) hs, ?_, W.frame _ _ _ st5 fun b hb o e => (hs.2 b fun z => hDI (z ▸ hb)).trans e, ⟨nD6, eD6⟩, ⟨m5, ns5.sameBut hs hCD⟩, ⟨oC5, (hs.2 _ hCD).trans eC5, nC5⟩, fun c hc => ?_⟩, hlt, rfl, ?_⟩
        · exact ⟨fun b o e n => (hs.2 b fun z => by rw [z, hDs] at e; cases e).trans (k5.k b o e n), fun b o e => by
            obtain ⟨o', e'⟩ := k5.x b o e
            exact ⟨o', (hs.2 b fun z => by rw [z, hDs] at e; cases e).trans e'⟩⟩
        · obtain ⟨⟨on, en, nn⟩, v₀, o, e, r⟩ := ecc5 c hc; exact ⟨⟨on, (hs.2 _ (cN c hc).2.2.1).trans en, nn⟩, v₀, o, (hs.2 _ (cN c hc).2.2.1).trans e, r⟩
        · rw [take, List.filter_append, Array.toList_push]
          simp only [hp, List.filter_cons, List.filter_nil, if_true, List.map_append, List.map_cons, List.map_nil]
          exact (R4.mono d45).snoc (ru.mono d45)
    · have hin : i = xs.length := Nat.le_antisymm hi (Nat.not_lt.mp hlt)
      subst hin
      refine W.done s' _ _ iv.2.2.1 fun h₁ tk₁ k₁ => ?_
      have k₁' : ∀ b o, b ≠ I → s'.heap.get? b = some o → h₁.get? b = some o := fun b o hb e => k₁ b o (by simpa using hb) e
      obtain ⟨c', k', st, ⟨nD, eD⟩, ⟨m, ns⟩, ⟨oC, eC, nC⟩, ecc⟩ := id iv
      rw [List.take_length] at R'
      have d₁ : D M' s'.heap h₁ := D.but fun b o hb e => k₁' b o (fun z => hb (z ▸ mI)) e
      refine hRR Dd Cc _ m (CxH.but c' (wr := [I]) (fun b hb => by cases List.mem_singleton.mp hb; exact nH hI) (fun b o hb e => k₁ b o hb e)) ?_ hCs ⟨oC, k₁' _ _ hCI eC, nC⟩ (ns.at' fun o e => k₁' _ o hCI e) ?_ (Ne.symm hCD)
      · exact ⟨fun b o e n => k₁' b o (fun z => by rw [z, hI] at e; cases e) (k'.k b o e n), fun b o e => by
          obtain ⟨o', e'⟩ := k'.x b o e
          exact ⟨o', k₁' b o' (fun z => by rw [z, hI] at e; cases e) e'⟩⟩
      · have := R'.mono d₁
        refine Rep.of_list (fun h => ?_) ⟨nD, k₁' _ _ hDI' eD⟩ (RepL.of this.at.1 fun j v z e e' => (this.at.2 j v z e e').more fun a ha => .inl ?_)
        · rcases List.mem_cons.mp h with h | h
          · exact hCD h.symm
          · obtain ⟨o, e, _⟩ := L.mx _ h; rw [hDs] at e; cases e
        · rcases mcs ha with rfl | ha
          · exact mC
          · exact mM a ha
  exact codeAny_compStart_list loop (W.self 0 _ _ _ st4 loop)
theorem comp_hf {sc scope : Scope} {ρ : PVs} {x : Str} {h : Heap} (K : COk' sc ρ scope x) (L : Ld M env sc h ρ) : ∀ p ∈ scope.names, p.2 = .free → ∃ c, env.cells.lookup p.1 = some c := fun p hp e => by
  obtain ⟨f1, ⟨q, hq⟩, _⟩ := K.fre p hp e
  obtain ⟨u, l, _⟩ := L.val p.1 q (by rcases f1 with z | z <;> rw [z] <;> rfl) hq
  rcases l with ⟨z, _⟩ | ⟨_, c, z, _⟩
  · exact (L.nl p.1 f1 z).elim
  · exact ⟨c, z⟩
theorem comp_nm {sc scope : Scope} {ρ : PVs} {x : Str} (K : COk' sc ρ scope x) : ∀ y ∈ scope.names, y.2 = .local → scope.names.lookup y.1 = some .local := fun y hy e => (K.loc y hy e).1
end
section
variable {w : World} {β : Pm} {n : Nat} {sc : Scope} {ρ : PVs}
theorem Ev.comp {α : Type} {elt iter : Expr} {x : Str} {px : Pos} {ifs : List Expr} {scope : Scope} {pos : Pos} {pi : PV} (xs : List α) (emb : α → PV) (p : α → Bool) (f : α → PV) (ck : compOk sc ρ scope x = true)
    (hi : Ev w β n sc ρ iter pi) (hx : pi.items = some (xs.map emb)) (hn : xs.length ≤ sizeLine)
    (ht : ∀ (i : Nat) y, xs[i]? = some y → Tvs w β n scope ((x, emb y) :: ρ) ifs (p y))
    (he : ∀ (i : Nat) y, xs[i]? = some y → p y = true → Ev w β n scope ((x, emb y) :: ρ) elt (f y))
    (hs : ∀ env x, foldedSetIterable iter env x = pure x := by intro _ _; rfl) :
    Ev w β n sc ρ (.ListComp elt [⟨.Name x px, iter, ifs, 0⟩] scope pos) (.list ((xs.filter p).map f)) := by
  intro prog A env s M Q hA C L h
  have K := COk'.of ck
  show wpAny _ _ _ _ _ _
  rw [eval_ListComp]
  refine wpAny_comprehension_free (use := none) rfl (hs env) (clo_eq (comp_hf K L)) K.kind (comp_nm K) (hi hA C L fun v s₁ C₁ K₁ r₁ => ?_)
  refine comp_core (RR := fun acc C => compPost (model prog.p w) A noE none Q acc C) hA C₁ (L.kp K₁) r₁ hx hn K ht he (comp_hf K L) fun D Cc s' m c' k' hC _ ns r hd => ?_
  refine ⟨m, ns, fun h' hs' => ?_⟩
  have hCs : s.heap.get? Cc = none := Kh.none K₁ hC
  refine h _ _ (CxH.step c' (C.new hCs) hs') ?_ ?_
  · have kk := kp_trans K₁ k'
    exact ⟨fun b o e n => (hs'.2 b fun z => by rw [z, hCs] at e; cases e).trans (kk.k b o e n), fun b o e => by
      obtain ⟨o', e'⟩ := kk.x b o e
      exact ⟨o', (hs'.2 b fun z => by rw [z, hCs] at e; cases e).trans e'⟩⟩
  · exact (r.mono (EJ.D.but fun b o hb e => (hs'.2 b fun z => hb (z ▸ List.mem_cons_self ..)).trans e)).more fun a ha => .inl (List.mem_cons_of_mem _ ha)
end
noncomputable def Mx (M : List Addr) (h : Heap) : Prop := ∀ a ∈ M, NN h a
theorem Mx.off {M : List Addr} {h : Heap} (m : Mx M h) {a : Addr} (e : h.get? a = none) : a ∉ M := fun x => by obtain ⟨o, q, _⟩ := m a x; rw [e] at q; cases q
theorem Mx.offN {M : List Addr} {h : Heap} (m : Mx M h) : h.objs.size ∉ M := m.off (none_of_ge (Nat.le_refl _))
theorem Mx.kp {M : List Addr} {s s' : Shared} (m : Mx M s.heap) (k : Kp s s') : Mx M s'.heap := fun a h => (m a h).kh k
noncomputable def Cl (w : World) (β : Pm) (n : Nat) (f : Value) (ps : List PV) (r : PV) : Prop :=
  ∀ ⦃prog : Pr⦄ ⦃A : Around⦄ ⦃s : Shared⦄ ⦃M : List Addr⦄ ⦃vs : List Value⦄ ⦃Q : Value → Shared → Prop⦄, Ok A n → Cx w β s → Mx M s.heap → RepL M s.heap vs ps →
    (∀ v s', Cx w β s' → Kp s s' → Rep M s'.heap v r → Q v s') → Wp prog w A (call f vs) Q s
noncomputable def Evs (w : World) (β : Pm) (n : Nat) (sc : Scope) (ρ : PVs) : List Expr → List PV → Prop
  | [], [] => True
  | e :: es, p :: ps => (∀ env rest, starEach (e :: rest) env = (false, eval e env) :: starEach rest env) ∧ Ev w β n sc ρ e p ∧ Evs w β n sc ρ es ps
  | _, _ => False
section
variable {w : World} {β : Pm} {n : Nat} {sc : Scope} {ρ : PVs} {pos : Pos}
theorem evs_run : ∀ {es : List Expr} {ps : List PV} {prog : Pr} {A : Around} {env : Env} {s : Shared} {M : List Addr} {Q : List Value → Shared → Prop}, Evs w β n sc ρ es ps → Ok A n → Cx w β s → Ld M env sc s.heap ρ →
    (∀ vs s', Cx w β s' → Kp s s' → RepL M s'.heap vs ps → Q vs s') → Wp prog w A (spliced (backTo pos (starEach es env))) Q s
  | [], [], _, _, _, s, _, _, _, _, C, _, h => wpAny_items_nil (h [] s C (kp_refl s) .nil)
  | e :: es, p :: ps, prog, A, env, s, M, Q, ⟨he, h1, h2⟩, hA, C, L, h => by
    refine spliced_more ?_ (he env es)
    refine h1 hA C L fun v s₁ C₁ K₁ r₁ => ?_
    exact evs_run h2 hA C₁ (L.kp K₁) fun vs s₂ C₂ K₂ r₂ => h (v :: vs) s₂ C₂ (kp_trans K₁ K₂) (.cons (r₁.kp K₂) r₂)
  | [], _ :: _, _, _, _, _, _, _, h, _, _, _, _ => h.elim
  | _ :: _, [], _, _, _, _, _, _, h, _, _, _, _ => h.elim
theorem evs_plain : ∀ {es : List Expr} {ps : List PV} {env : Env}, Evs w β n sc ρ es ps → (backTo pos (starEach es env)).any (·.1) = false
  | [], [], env, _ => rfl
  | e :: es, p :: ps, env, ⟨he, _, h2⟩ => by
    rw [he env es]
    show (false || (backTo pos (starEach es env)).any (·.1)) = false
    rw [evs_plain h2]; rfl
  | [], _ :: _, _, h => h.elim
  | _ :: _, [], _, h => h.elim
theorem Ev.name {x : Str} {p : PV} (hk : isVar (sc.names.lookup x) = true) (hv : ρ.lookup x = some p) (hd : (x == ("__debug__" : Str)) = false) : Ev w β n sc ρ (.Name x pos) p := by
  intro prog A env s M Q hA C L h
  exact ev_var L hk hv hd fun v r => h v s C (kp_refl s) r
theorem Ev.glob {x : Str} {v : Value} (hk : sc.names.lookup x = some .globalImplicit) (hv : nsIn (Kf w.params) mainGlobals x = some (some v)) (hd : (x == ("__debug__" : Str)) = false) : Ev w β n sc ρ (.Name x pos) (.raw v) := by
  intro prog A env s M Q hA C L h
  exact ev_glob C L hk hv hd (h v s C (kp_refl s) (.raw v))
theorem Ev.bi {x : Str} {v : Value} (hk : sc.names.lookup x = some .globalImplicit) (hv : nsIn (Kf w.params) mainGlobals x = some none) (hb : bootBuiltins x = some v) (hn : x ≠ "__name__") (hd : (x == ("__debug__" : Str)) = false) : Ev w β n sc ρ (.Name x pos) (.raw v) := by
  intro prog A env s M Q hA C L h
  exact ev_bi C L hk hv hb hn hd (h v s C (kp_refl s) (.raw v))
theorem Ev.int {i : Int} {k : Nat} : Ev w β n sc ρ (.Constant (.int i) k pos) (.int i) := by
  intro prog A env s M Q hA C L h
  exact wpAny_Constant_int (h _ _ C (kp_tok s _) (.int _ _))
theorem Ev.str {x : Str} {k : Nat} : Ev w β n sc ρ (.Constant (.str x) k pos) (.str x) := by
  intro prog A env s M Q hA C L h
  exact wpAny_Constant_str (h _ _ C (kp_tok s _) (.str _ _))
theorem Ev.bool {b : Bool} {k : Nat} : Ev w β n sc ρ (.Constant (.bool b) k pos) (.bool b) := by
  intro prog A env s M Q hA C L h
  exact wpAny_Constant_bool (h _ _ C (kp_refl s) (.bool _))
theorem Ev.none {k : Nat} : Ev w β n sc ρ (.Constant .none k pos) (.raw .none) := by
  intro prog A env s M Q hA C L h
  exact wpAny_Constant_none (h _ _ C (kp_refl s) (.raw _))
theorem Ev.bin {l r : Expr} {op : Operator} {a b c : PV} (h1 : Ev w β n sc ρ l a) (h2 : Ev w β n sc ρ r b)
    (ho : ∀ {prog : Pr} {A : Around} {s : Shared} {M : List Addr} {x y : Value} {Q : Value → Shared → Prop}, Ok A n → Cx w β s → Mx M s.heap → Rep M s.heap x a → Rep M s.heap y b → (∀ v s', Cx w β s' → Kp s s' → Rep M s'.heap v c → Q v s') → Wp prog w A (binaryOp op x y) Q s) :
    Ev w β n sc ρ (.BinOp l op r pos) c := by
  intro prog A env s M Q hA C L h
  refine wpAny_BinOp (h1 hA C L fun x s₁ C₁ K₁ r₁ => h2 hA C₁ (L.kp K₁) fun y s₂ C₂ K₂ r₂ => ?_)
  exact ho hA C₂ ((L.kp (kp_trans K₁ K₂)).mx) (r₁.kp K₂) r₂ fun v s' C' K' r' => h v s' C' (kp_trans K₁ (kp_trans K₂ K')) r'
theorem Ev.add {l r : Expr} {a b : Int} (h1 : Ev w β n sc ρ l (.int a)) (h2 : Ev w β n sc ρ r (.int b)) : Ev w β n sc ρ (.BinOp l .Add r pos) (.int (a + b)) :=
  Ev.bin h1 h2 fun _ C _ x y h => by
    obtain ⟨t, rfl⟩ := x.inv_int; obtain ⟨u, rfl⟩ := y.inv_int
    exact P.add_int (h _ _ C (kp_tok _ _) (.int _ _))
theorem Ev.sub {l r : Expr} {a b : Int} (h1 : Ev w β n sc ρ l (.int a)) (h2 : Ev w β n sc ρ r (.int b)) : Ev w β n sc ρ (.BinOp l .Sub r pos) (.int (a - b)) :=
  Ev.bin h1 h2 fun _ C _ x y h => by
    obtain ⟨t, rfl⟩ := x.inv_int; obtain ⟨u, rfl⟩ := y.inv_int
    exact P.sub_int (h _ _ C (kp_tok _ _) (.int _ _))
theorem Ev.mul {l r : Expr} {a b : Int} (hm : IntMulOk a b) (h1 : Ev w β n sc ρ l (.int a)) (h2 : Ev w β n sc ρ r (.int b)) : Ev w β n sc ρ (.BinOp l .Mult r pos) (.int (a * b)) :=
  Ev.bin h1 h2 fun _ C _ x y h => by
    obtain ⟨t, rfl⟩ := x.inv_int; obtain ⟨u, rfl⟩ := y.inv_int
    exact P.mul_int (h _ _ C (kp_tok _ _) (.int _ _)) hm
theorem Ev.fdiv {l r : Expr} {a b : Int} (hb : b ≠ 0) (hp : Builtin.divisionGoesByPylong a b = false) (h1 : Ev w β n sc ρ l (.int a)) (h2 : Ev w β n sc ρ r (.int b)) : Ev w β n sc ρ (.BinOp l .FloorDiv r pos) (.int (a.fdiv b)) :=
  Ev.bin h1 h2 fun _ C _ x y h => by
    obtain ⟨t, rfl⟩ := x.inv_int; obtain ⟨u, rfl⟩ := y.inv_int
    exact PyProof.Rows.floordiv_int hb (h _ _ C (kp_tok _ _) (.int _ _)) (Or.inl hp)
theorem Ev.mod {l r : Expr} {a b : Int} (hb : b ≠ 0) (h1 : Ev w β n sc ρ l (.int a)) (h2 : Ev w β n sc ρ r (.int b)) : Ev w β n sc ρ (.BinOp l .Mod r pos) (.int (a.fmod b)) :=
  Ev.bin h1 h2 fun _ C _ x y h => by
    obtain ⟨t, rfl⟩ := x.inv_int; obtain ⟨u, rfl⟩ := y.inv_int
    exact PyProof.Rows.mod_int hb (h _ _ C (kp_tok _ _) (.int _ _))
theorem Ev.cat {l r : Expr} {a b : List PV} (hn : a.length + b.length ≤ sizeLine) (h1 : Ev w β n sc ρ l (.list a)) (h2 : Ev w β n sc ρ r (.list b)) : Ev w β n sc ρ (.BinOp l .Add r pos) (.list (a ++ b)) :=
  Ev.bin h1 h2 fun _ C mx x y h => by
    obtain ⟨la, its, rfl, _, ⟨k1, e1⟩, r1⟩ := x.inv_list; obtain ⟨lb, its2, rfl, _, ⟨k2, e2⟩, r2⟩ := y.inv_list
    refine P.add_list e1 e2 ?_ (by have := r1.at.1; have := r2.at.1; simp only [Array.length_toList] at *; omega)
    refine h _ _ (C.push _) (kp_push _ _) (Rep.of_list mx.offN ⟨_, Heap.get?_push_size _ rfl⟩ ?_)
    rw [Array.toList_append]
    exact (r1.append r2).mono (D.of fun _ _ e => Heap.get?_push_of_some _ e)
theorem Ev.disp {es : List Expr} {ps : List PV} (hn : ps.length ≤ sizeLine) (he : Evs w β n sc ρ es ps) : Ev w β n sc ρ (.List es pos) (.list ps) := by
  intro prog A env s M Q hA C L h
  refine wpAny_List (evs_run he hA C L fun vs s' C' K' r' => ⟨by rw [r'.at.1]; exact hn, ?_⟩)
  refine h _ _ (C'.push _) (kp_trans K' (kp_push _ _)) (Rep.of_list (Mx.offN (L.kp K').mx) ⟨_, Heap.get?_push_size _ rfl⟩ ?_)
  exact r'.mono (D.of fun _ _ e => Heap.get?_push_of_some _ e)
theorem Ev.tup {es : List Expr} {ps : List PV} {k : Nat} (hn : ps.length ≤ sizeLine) (he : Evs w β n sc ρ es ps) : Ev w β n sc ρ (.Tuple es k pos) (.tup ps) := by
  intro prog A env s M Q hA C L h
  refine wpAny_Tuple (evs_run he hA C L fun vs s' C' K' r' => ⟨by rw [r'.at.1]; exact hn, ?_⟩)
  refine h _ _ (C'.push _) (kp_trans K' (kp_push _ _)) (Rep.of_tup (Mx.offN (L.kp K').mx) ⟨_, Heap.get?_push_size _ rfl⟩ ?_)
  exact r'.mono (D.of fun _ _ e => Heap.get?_push_of_some _ e)
theorem Ev.callR {x : Str} {np : Pos} {f : Value} {es : List Expr} {ps : List PV} {r : PV} (hk : keepIn (Kf w.params) f = true) (hf : Ev w β n sc ρ (.Name x np) (.raw f)) (he : Evs w β n sc ρ es ps) (hc : Cl w β n f ps r) :
    Ev w β n sc ρ (.Call (.Name x np) es [] pos) r := by
  intro prog A env s M Q hA C L h
  refine wpAny_Call_NameR (hf hA C L fun v s₁ C₁ K₁ r₁ => ?_)
  cases r₁.inv_raw
  refine callWith_of (P := fun h => (Kf w.params).In h) (by simp [evs_plain he]) (fun h X => keeps_K hk h X) ?_
  have fin : ∀ vs s', Cx w β s' → Kp s s' → RepL M s'.heap vs ps → (Kf w.params).In s'.heap ∧ Wp prog w A (call f ([] ++ vs)) Q s' := fun vs s' C' K' r' =>
    ⟨C'.K, hc hA C' (L.kp K').mx r' fun v s'' C'' K'' r'' => h v s'' C'' (kp_trans K' K'') r''⟩
  cases es with
  | nil =>
    cases ps with
    | nil => exact PyProof.Rows.evalArgs_nil3 (fin [] _ C₁ K₁ .nil)
    | cons _ _ => exact he.elim
  | cons e rest =>
    have q : starEach (e :: rest) env = (false, eval e env) :: starEach rest env := by
      cases ps with
      | nil => exact he.elim
      | cons _ _ => exact he.1 env rest
    have run := evs_run (pos := pos) (prog := prog) (Q := fun vs s' => (Kf w.params).In s'.heap ∧ Wp prog w A (call f ([] ++ vs)) Q s') he hA C₁ (L.kp K₁) fun vs s' C' K' r' => fin vs s' C' (kp_trans K₁ K') r'
    rw [q] at run ⊢
    exact Calls.evalArgs_plain run
theorem Ev.callB {x : Str} {np : Pos} {f : String} {es : List Expr} {ps : List PV} {r : PV} (hf : Ev w β n sc ρ (.Name x np) (.raw (.builtin f))) (he : Evs w β n sc ρ es ps) (hne : es ≠ []) (hc : Cl w β n (.builtin f) ps r) :
    Ev w β n sc ρ (.Call (.Name x np) es [] pos) r := by
  intro prog A env s M Q hA C L h
  refine wpAny_Call_NameR (hf hA C L fun v s₁ C₁ K₁ r₁ => ?_)
  cases r₁.inv_raw
  refine Calls.callWith_builtin (evs_plain he) ?_
  cases es with
  | nil => exact (hne rfl).elim
  | cons e rest =>
    have q : starEach (e :: rest) env = (false, eval e env) :: starEach rest env := by
      cases ps with
      | nil => exact he.elim
      | cons _ _ => exact he.1 env rest
    have run := evs_run (pos := pos) (prog := prog) (Q := fun vs s' => Wp prog w A (call (.builtin f) ([] ++ vs)) Q s') he hA C₁ (L.kp K₁) fun vs s' C' K' r' => hc hA C' (L.kp (kp_trans K₁ K')).mx r' fun v s'' C'' K'' r'' => h v s'' C'' (kp_trans K₁ (kp_trans K' K'')) r''
    rw [q] at run ⊢
    exact Calls.evalArgs_plain run
theorem Ev.callT {x : Str} {np : Pos} {f : String} {es : List Expr} {ps : List PV} {r : PV} (hf : Ev w β n sc ρ (.Name x np) (.raw (.type f))) (he : Evs w β n sc ρ es ps) (hne : es ≠ []) (hc : Cl w β n (.type f) ps r) :
    Ev w β n sc ρ (.Call (.Name x np) es [] pos) r := by
  intro prog A env s M Q hA C L h
  refine wpAny_Call_NameR (hf hA C L fun v s₁ C₁ K₁ r₁ => ?_)
  cases r₁.inv_raw
  refine PyProof.Rows.callWith_type (evs_plain he) ?_
  cases es with
  | nil => exact (hne rfl).elim
  | cons e rest =>
    have q : starEach (e :: rest) env = (false, eval e env) :: starEach rest env := by
      cases ps with
      | nil => exact he.elim
      | cons _ _ => exact he.1 env rest
    have run := evs_run (pos := pos) (prog := prog) (Q := fun vs s' => Wp prog w A (call (.type f) ([] ++ vs)) Q s') he hA C₁ (L.kp K₁) fun vs s' C' K' r' => hc hA C' (L.kp (kp_trans K₁ K')).mx r' fun v s'' C'' K'' r'' => h v s'' C'' (kp_trans K₁ (kp_trans K' K'')) r''
    rw [q] at run ⊢
    exact Calls.evalArgs_plain run
end
noncomputable abbrev iL (ns : List Int) : List PV := ns.map .int
theorem RepL.toInts {M : List Addr} {h : Heap} : ∀ {vs : List Value} {ns : List Int}, RepL M h vs (iL ns) → IntsAre vs ns
  | [], [], _ => .nil
  | v :: vs, n :: ns, r => by
    cases r with
    | cons a b => obtain ⟨t, rfl⟩ := a.inv_int; exact .cons n t (RepL.toInts b)
  | [], _ :: _, r => by cases r
  | _ :: _, [], r => by cases r
theorem RepL.of_ints {M : List Addr} {h : Heap} {vs : List Value} {ns : List Int} (i : IntsAre vs ns) : RepL M h vs (iL ns) := by
  induction i with
  | nil => exact .nil
  | cons n t _ ih => exact .cons (.int n t) ih
section
variable {w : World} {β : Pm} {n : Nat} {sc : Scope} {ρ : PVs} {pos : Pos}
theorem RepL.one {M : List Addr} {h : Heap} {vs : List Value} {p : PV} (r : RepL M h vs [p]) : ∃ v, vs = [v] ∧ Rep M h v p := by
  cases r with
  | cons a b => cases b; exact ⟨_, rfl, a⟩
theorem RepL.two {M : List Addr} {h : Heap} {vs : List Value} {p q : PV} (r : RepL M h vs [p, q]) : ∃ v u, vs = [v, u] ∧ Rep M h v p ∧ Rep M h u q := by
  cases r with
  | cons a b => obtain ⟨u, rfl, c⟩ := b.one; exact ⟨_, u, rfl, a, c⟩
theorem cl_len {xs : List PV} (hn : xs.length < 2 ^ 62) : Cl w β n (.builtin "len") [.list xs] (.int xs.length) := by
  intro prog A s M vs Q hA C mx r h
  obtain ⟨v, rfl, r₁⟩ := r.one
  obtain ⟨a, its, rfl, _, hl, rl⟩ := r₁.inv_list
  have hz : its.size = xs.length := by rw [← rl.at.1, Array.length_toList]
  refine Calls.call_len_list hl.isList (by rw [hz]; omega) ?_
  rw [hz]
  exact h _ _ C (kp_tok s _) (.int _ _)
theorem cl_abs {a : Int} : Cl w β n (.builtin "abs") [.int a] (.int a.natAbs) := by
  intro prog A s M vs Q hA C mx r h
  obtain ⟨v, rfl, r₁⟩ := r.one
  obtain ⟨t, rfl⟩ := r₁.inv_int
  refine call_abs_int fun u tk => ?_
  rw [show (if a < 0 then -a else a) = (a.natAbs : Int) by split <;> omega]
  exact h _ _ C (kp_tok s _) (.int _ _)
theorem rng_rep {M : List Addr} {h : Heap} {a b : Int} {k : Nat} {t u v : Tok} (hm : Mx M h) (hk : (b - a).toNat = k) (ha : -1000000 ≤ a ∧ a ≤ 1000000) (hb : -1000000 ≤ b ∧ b ≤ 1000000) :
    Rep M (h.push { cls := .type "range", data := .fields #[.int a t, .int b u, .int 1 v] }) (.ref h.objs.size) (.rng a k) := by
  have sz : Builtin.Range.rangeSize a b 1 = (k : Int) := by
    unfold Builtin.Range.rangeSize
    rw [if_pos (by decide)]
    split
    · simp only [Int.ediv_one]; omega
    · omega
  refine .rng hm.offN (Heap.get?_push_size _ rfl) ?_ sz
  unfold Builtin.Range.small
  rw [sz]
  unfold Builtin.Range.rangeFitsLong
  have e1 : (1 : Int) > 0 := by decide
  simp only [Bool.and_eq_true, Bool.or_eq_true, beq_iff_eq, if_pos e1, decide_eq_true_eq]
  refine ⟨⟨⟨⟨?_, ?_⟩, ?_⟩, ?_⟩, .inr ?_⟩ <;> omega
theorem cl_range1 {b : Int} {k : Nat} (hk : b.toNat = k) (hb : -1000000 ≤ b ∧ b ≤ 1000000) : Cl w β n (.type "range") [.int b] (.rng 0 k) := by
  intro prog A s M vs Q hA C mx r h
  obtain ⟨v, rfl, r₁⟩ := r.one
  obtain ⟨t, rfl⟩ := r₁.inv_int
  exact call_range_1 (h _ _ (C.kp fun _ _ e => Heap.get?_push_of_some _ e) (kp_mk fun _ _ e => Heap.get?_push_of_some _ e) (rng_rep mx (by omega) (by omega) hb))
theorem cl_range2 {a b : Int} {k : Nat} (hk : (b - a).toNat = k) (ha : -1000000 ≤ a ∧ a ≤ 1000000) (hb : -1000000 ≤ b ∧ b ≤ 1000000) : Cl w β n (.type "range") [.int a, .int b] (.rng a k) := by
  intro prog A s M vs Q hA C mx r h
  obtain ⟨v, u, rfl, r₁, r'⟩ := r.two
  obtain ⟨t, rfl⟩ := r₁.inv_int
  obtain ⟨t', rfl⟩ := r'.inv_int
  exact call_range_2 (h _ _ (C.kp fun _ _ e => Heap.get?_push_of_some _ e) (kp_mk fun _ _ e => Heap.get?_push_of_some _ e) (rng_rep mx hk ha hb))
theorem kp_iter {s s₂ : Shared} {I : Addr} {h' : Heap} {tk : Nat} (K : Kp s s₂) (hI : s.heap.get? I = none) (k : ∀ b o, b ∉ [I] → s₂.heap.get? b = some o → h'.get? b = some o) : Kp s { s₂ with heap := h', toks := tk } :=
  ⟨fun b o e n => k b o (fun z => by rw [List.mem_singleton.mp z, hI] at e; cases e) (K.k b o e n), fun b o e => by
    obtain ⟨o', e'⟩ := K.x b o e
    exact ⟨o', k b o' (fun z => by rw [List.mem_singleton.mp z, hI] at e; cases e) e'⟩⟩
theorem cl_sum {ns : List Int} (hn : ns.length ≤ 1000) (hb : ∀ x ∈ ns, 0 ≤ x ∧ x ≤ 1000000) : Cl w β n (.builtin "sum") [.list (iL ns)] (.int ns.sum) := by
  intro prog A s M vs Q hA C mx r h
  obtain ⟨v, rfl, r₁⟩ := r.one
  have hA1 : A.in1.handled = none := hA.h
  have hv : ∀ i v x, (iL ns)[i]? = some x → Rep M s.heap v x → ∃ t, v = .int (ns.getD i 0) t := fun i v x hx rx => by
    rw [List.getElem?_map] at hx
    cases q : ns[i]? with
    | none => rw [q] at hx; cases hx
    | some m => rw [q] at hx; cases hx; obtain ⟨t, rfl⟩ := rx.inv_int; exact ⟨t, by rw [List.getD_eq_getElem?_getD, q]; rfl⟩
  have bound : ∀ j, 0 ≤ (ns.take j).sum ∧ (ns.take j).sum ≤ 1000000 * j := by
    intro j
    induction j with
    | zero => simp
    | succ j ih =>
      rw [List.take_add_one]
      cases q : ns[j]? with
      | none => simp only [Option.toList_none, List.append_nil]; omega
      | some m =>
        simp only [Option.toList_some, List.sum_append, List.sum_cons, List.sum_nil]
        have := hb m (List.mem_of_getElem? q)
        omega
  refine call_sum_walk (it_walks hA1 C r₁ (xs := iL ns) rfl (by simp [iL]; exact Nat.le_trans hn (by decide)) fun I s' fp P St W st C' K' hI hfp hIf _ _ hP => ?_)
  have hl : (iL ns).length = ns.length := by simp
  refine ⟨I, fp, [I], _, P, St, fun i => ns.getD i 0, rfl, W, st, fun b hb => by obtain ⟨o, e⟩ := hfp b hb; exact Heap.lt_size e, fun i v p => ?_, fun j hj => ?_, fun h' tk t' k => ?_⟩
  · obtain ⟨x, hx, rx⟩ := hP i v p
    exact hv i v x hx rx
  · rw [hl] at hj
    have e : ns.getD j 0 = ns[j] := by rw [List.getD_eq_getElem?_getD, List.getElem?_eq_getElem hj]; rfl
    have b1 := hb ns[j] (List.getElem_mem hj)
    have b2 := bound (j + 1)
    rw [preSum_getD]
    show InLong (ns.getD j 0) ∧ _
    rw [e]
    exact ⟨⟨by omega, by omega⟩, ⟨by omega, by omega⟩⟩
  · rw [preSum_getD, hl, List.take_length]
    exact h _ _ (CxH.but C' (wr := [I]) (fun b hb => by cases List.mem_singleton.mp hb; exact C.new hI) k) (kp_iter K' hI k) (.int _ _)
theorem cl_max {ns : List Int} {m : Int} (hn : ns.length ≤ 1000) (hm : m ∈ ns) (hb : ∀ x ∈ ns, x ≤ m) : Cl w β n (.builtin "max") [.list (iL ns)] (.int m) := by
  intro prog A s M vs Q hA C mx r h
  obtain ⟨v, rfl, r₁⟩ := r.one
  have hA1 : A.in1.handled = none := hA.h
  have hl : (iL ns).length = ns.length := by simp
  have hpos : 0 < ns.length := List.length_pos_of_mem hm
  have hv : ∀ i v x, (iL ns)[i]? = some x → Rep M s.heap v x → i < ns.length ∧ ∃ t, v = .int (ns.getD i 0) t := fun i v x hx rx => by
    rw [List.getElem?_map] at hx
    cases q : ns[i]? with
    | none => rw [q] at hx; cases hx
    | some m => rw [q] at hx; cases hx; obtain ⟨t, rfl⟩ := rx.inv_int; exact ⟨(List.getElem?_eq_some_iff.mp q).1, t, by rw [List.getD_eq_getElem?_getD, q]; rfl⟩
  refine call_max_walk (it_walks hA1 C r₁ (xs := iL ns) rfl (by simp [iL]; exact Nat.le_trans hn (by decide)) fun I s' fp P St W st C' K' hI hfp hIf _ _ hP => ?_)
  have hP' : ∀ i v, P i v → i < ns.length ∧ ∃ t, v = .int (ns.getD i 0) t := fun i v p => by
    obtain ⟨x, hx, rx⟩ := hP i v p
    exact hv i v x hx rx
  refine ⟨I, fp, [I], _, P, St, _, rfl, W, st, fun b hb => by obtain ⟨o, e⟩ := hfp b hb; exact Heap.lt_size e, by rw [hl]; exact hpos, CmpOf.ints_gt (fun i => ns.getD i 0) (fun i v p => (hP' i v p).2), fun v h' tk p k => ?_⟩
  obtain ⟨hi, t, rfl⟩ := hP' _ _ p
  have key := (argBest_gt (fun i => ns.getD i 0) ((iL ns).length - 1)).2
  have e : ns.getD (argBest (fun i j => decide (ns.getD i 0 > ns.getD j 0)) ((iL ns).length - 1)) 0 = m := by
    obtain ⟨j, hj, hjm⟩ := List.getElem_of_mem hm
    have a1 := key j (by rw [hl]; omega)
    have a2 : ns.getD j 0 = m := by rw [List.getD_eq_getElem?_getD, List.getElem?_eq_getElem hj, hjm]; rfl
    have a3 := hb _ (List.getElem_mem hi)
    have a4 : ns.getD (argBest (fun i j => decide (ns.getD i 0 > ns.getD j 0)) ((iL ns).length - 1)) 0 = ns[argBest (fun i j => decide (ns.getD i 0 > ns.getD j 0)) ((iL ns).length - 1)] := by
      rw [List.getD_eq_getElem?_getD, List.getElem?_eq_getElem hi]; rfl
    omega
  rw [e]
  exact h _ _ (CxH.but C' (wr := [I]) (fun b hb => by cases List.mem_singleton.mp hb; exact C.new hI) k) (kp_iter K' hI k) (.int _ _)
theorem sortedAll_keeps {h : Heap} {vs : List Value} {out : Array Value} : (∀ b o, h.get? b = some o → (sortedAll h vs out).get? b = some o) ∧ ∃ k, (sortedAll h vs out).get? (h.objs.size + 1) = some (seqObj "list" out k) := by
  unfold sortedAll sortedHeap
  generalize hg : (h.push (seqObj "list" #[] 0)).update h.objs.size (Obj.mapSeq (· ++ vs.toArray)) = g
  have gs : g.objs.size = h.objs.size + 1 := by rw [← hg, Heap.size_update, size_push']
  have gk : ∀ b o, h.get? b = some o → g.get? b = some o := fun b o e => by
    rw [← hg]
    have hb := Heap.lt_size e
    exact ((Heap.SameBut.update (h := h.push (seqObj "list" #[] 0)) ..).2 b (Nat.ne_of_lt hb)).trans (Heap.get?_push_of_some _ e)
  have e1 : (g.push (seqObj "list" vs.toArray 0)).get? (h.objs.size + 1) = some (seqObj "list" vs.toArray 0) := by rw [← gs]; exact Heap.get?_push_size _ rfl
  generalize hg2 : g.push (seqObj "list" vs.toArray 0) = g2 at e1 ⊢
  have g2k : ∀ b o, h.get? b = some o → g2.get? b = some o := fun b o e => by rw [← hg2]; exact Heap.get?_push_of_some _ (gk b o e)
  have e3 : ∀ b o, b ≠ h.objs.size + 1 → g2.get? b = some o → (((g2.update (h.objs.size + 1) (Obj.mapSeq fun _ => #[])).push (seqObj "tuple" vs.toArray 0)).push (seqObj "list" #[] 0)).get? b = some o := fun b o hb e =>
    Heap.get?_push_of_some _ (Heap.get?_push_of_some _ (((Heap.SameBut.update ..).2 b hb).trans e))
  obtain ⟨k4, e4⟩ : ∃ k, (((g2.update (h.objs.size + 1) (Obj.mapSeq fun _ => #[])).push (seqObj "tuple" vs.toArray 0)).push (seqObj "list" #[] 0)).get? (h.objs.size + 1) = some (seqObj "list" #[] k) :=
    ⟨_, Heap.get?_push_of_some _ (Heap.get?_push_of_some _ (get?_update_seq e1 _))⟩
  refine ⟨fun b o e => ?_, ⟨_, get?_update_seq e4 _⟩⟩
  have hb := Heap.lt_size e
  have hb' : b ≠ h.objs.size + 1 := Nat.ne_of_lt (Nat.lt_succ_of_lt hb)
  exact ((Heap.SameBut.update ..).2 b hb').trans (e3 b o hb' (g2k b o e))
theorem cl_sorted {ns ms : List Int} (hn : ns.length < 64) (hp : ms.Perm ns) (hs : ms.Pairwise (· ≤ ·)) : Cl w β n (.builtin "sorted") [.list (iL ns)] (.list (iL ms)) := by
  intro prog A s M vs Q hA C mx r h
  obtain ⟨v, rfl, r₁⟩ := r.one
  obtain ⟨a, its, rfl, _, hl, rl⟩ := r₁.inv_list
  have hi := rl.toInts
  refine PyProof.Rows.sorted_ints (vs := its.toList) (by rw [Array.toArray_toList]; exact hl.isList) hi (by rw [hi.length]; exact hn) fun out ns' ho hp' hs' => ?_
  have e : ns' = ms := List.Perm.eq_of_pairwise (fun a b _ _ x y => by omega) hs' hs (hp'.trans hp.symm)
  subst e
  obtain ⟨k, j, e⟩ := sortedAll_keeps (h := s.heap) (vs := its.toList) (out := out)
  refine h _ _ (C.kp k) (kp_mk k) (Rep.of_list (mx.off (none_of_ge (Nat.le_succ _))) ⟨j, e⟩ (RepL.of_ints ho))
end
noncomputable def Co (w : World) (β : Pm) (n : Nat) (op : CmpOp) (a b : PV) (c : Bool) : Prop :=
  ∀ ⦃prog : Pr⦄ ⦃A : Around⦄ ⦃s : Shared⦄ ⦃M : List Addr⦄ ⦃x y : Value⦄ ⦃Q : Value → Shared → Prop⦄, Ok A n → Cx w β s → Mx M s.heap → Rep M s.heap x a → Rep M s.heap y b → (∀ s', Cx w β s' → Kp s s' → Q (.bool c) s') → Wp prog w A (compareOp op x y) Q s
section
variable {w : World} {β : Pm} {n : Nat} {sc : Scope} {ρ : PVs} {pos : Pos}
theorem co_eq {a b : Int} {c : Bool} (h : decide (a = b) = c) : Co w β n .Eq (.int a) (.int b) c := fun _ _ _ _ _ _ _ _ C _ x y h' => by
  obtain ⟨t, rfl⟩ := x.inv_int; obtain ⟨u, rfl⟩ := y.inv_int
  refine P.eq_int ?_
  rw [show (a == b) = c from h]; exact h' _ C (kp_refl _)
theorem co_ne {a b : Int} {c : Bool} (h : decide (a ≠ b) = c) : Co w β n .NotEq (.int a) (.int b) c := fun _ _ _ _ _ _ _ _ C _ x y h' => by
  obtain ⟨t, rfl⟩ := x.inv_int; obtain ⟨u, rfl⟩ := y.inv_int
  refine P.ne_int ?_
  rw [show (a != b) = c by rw [← h, decide_not]; rfl]; exact h' _ C (kp_refl _)
theorem co_lt {a b : Int} {c : Bool} (h : decide (a < b) = c) : Co w β n .Lt (.int a) (.int b) c := fun _ _ _ _ _ _ _ _ C _ x y h' => by
  obtain ⟨t, rfl⟩ := x.inv_int; obtain ⟨u, rfl⟩ := y.inv_int
  refine P.lt_int ?_
  rw [h]; exact h' _ C (kp_refl _)
theorem co_le {a b : Int} {c : Bool} (h : decide (a ≤ b) = c) : Co w β n .LtE (.int a) (.int b) c := fun _ _ _ _ _ _ _ _ C _ x y h' => by
  obtain ⟨t, rfl⟩ := x.inv_int; obtain ⟨u, rfl⟩ := y.inv_int
  refine P.le_int ?_
  rw [h]; exact h' _ C (kp_refl _)
theorem co_gt {a b : Int} {c : Bool} (h : decide (b < a) = c) : Co w β n .Gt (.int a) (.int b) c := fun _ _ _ _ _ _ _ _ C _ x y h' => by
  obtain ⟨t, rfl⟩ := x.inv_int; obtain ⟨u, rfl⟩ := y.inv_int
  refine P.gt_int ?_
  rw [show decide (a > b) = c from h]; exact h' _ C (kp_refl _)
theorem co_ge {a b : Int} {c : Bool} (h : decide (b ≤ a) = c) : Co w β n .GtE (.int a) (.int b) c := fun _ _ _ _ _ _ _ _ C _ x y h' => by
  obtain ⟨t, rfl⟩ := x.inv_int; obtain ⟨u, rfl⟩ := y.inv_int
  refine P.ge_int ?_
  rw [show decide (a ≥ b) = c from h]; exact h' _ C (kp_refl _)
theorem co_in {a : Int} {ns : List Int} {c : Bool} (h : decide (a ∈ ns) = c) : Co w β n .In (.int a) (.list (iL ns)) c := fun _ _ _ _ _ _ _ _ C _ x y h' => by
  obtain ⟨t, rfl⟩ := x.inv_int; obtain ⟨l, its, rfl, _, hl, rl⟩ := y.inv_list
  refine PyProof.Rows.in_list_ints (vs := its.toList) (by rw [Array.toArray_toList]; exact hl.isList) rl.toInts ?_
  rw [show (ns.any fun x => x == a) = c by rw [← h, Bool.eq_iff_iff]; simp]; exact h' _ C (kp_refl _)
theorem co_notin {a : Int} {ns : List Int} {c : Bool} (h : decide (a ∉ ns) = c) : Co w β n .NotIn (.int a) (.list (iL ns)) c := fun _ _ _ _ _ _ _ _ C _ x y h' => by
  obtain ⟨t, rfl⟩ := x.inv_int; obtain ⟨l, its, rfl, _, hl, rl⟩ := y.inv_list
  refine PyProof.Rows.notin_list_ints (vs := its.toList) (by rw [Array.toArray_toList]; exact hl.isList) rl.toInts ?_
  rw [show (!(ns.any fun x => x == a)) = c by rw [← h, decide_not, show (ns.any fun x => x == a) = decide (a ∈ ns) by rw [Bool.eq_iff_iff]; simp]]; exact h' _ C (kp_refl _)
theorem all_eq {as bs : List Int} (h : as.length = bs.length) : (List.range as.length).all (fun j => as.getD j 0 == bs.getD j 0) = decide (as = bs) := by
  rw [Bool.eq_iff_iff]
  simp only [List.all_eq_true, List.mem_range, beq_iff_eq, decide_eq_true_eq]
  constructor
  · intro k
    refine List.ext_getElem h fun i h1 h2 => ?_
    have := k i h1
    rwa [List.getD_eq_getElem?_getD, List.getD_eq_getElem?_getD, List.getElem?_eq_getElem h1, List.getElem?_eq_getElem h2] at this
  · rintro rfl _ _; rfl
theorem list_facts {M : List Addr} {h : Heap} {its : Array Value} {ns : List Int} (r : RepL M h its.toList (iL ns)) : its.size = ns.length ∧ ∀ j (h1 : j < its.size), ∃ t, its[j] = .int (ns.getD j 0) t := by
  have e1 : its.size = ns.length := by have := r.at.1; simpa using this
  refine ⟨e1, fun j h1 => ?_⟩
  have := r.at.2 j its[j] (.int (ns.getD j 0)) (by simp [h1]) (by rw [List.getElem?_map, List.getElem?_eq_getElem (e1 ▸ h1), List.getD_eq_getElem?_getD, List.getElem?_eq_getElem (e1 ▸ h1)]; rfl)
  exact this.inv_int
theorem co_eql {as bs : List Int} {c : Bool} (h : decide (as = bs) = c) : Co w β n .Eq (.list (iL as)) (.list (iL bs)) c := fun _ _ _ _ _ _ _ hA C _ x y h' => by
  obtain ⟨l, its, rfl, _, hl, rl⟩ := x.inv_list; obtain ⟨l', its', rfl, _, hl', rl'⟩ := y.inv_list
  obtain ⟨a1, a2⟩ := list_facts rl
  obtain ⟨b1, b2⟩ := list_facts rl'
  by_cases hz : as.length = bs.length
  · refine PySem.SeqAt.eq_listAt (e := fun j => as.getD j 0 == bs.getD j 0) hl.isList hl'.isList (by rw [a1, b1, hz]) hA.cl (fun j h1 h2 => ?_) ?_
    · obtain ⟨t, e⟩ := a2 j h1; obtain ⟨u, e'⟩ := b2 j h2
      rw [e, e']; exact PySem.SeqAt.EqAt.int_int _ _ _ _
    · rw [a1, all_eq hz, h]; exact h' _ C (kp_refl _)
  · refine PySem.SeqAt.eq_list_lengthsAt hl.isList hl'.isList (by rw [a1, b1]; simpa using hz) hA.cl ?_
    rw [show c = false by rw [← h]; exact decide_eq_false fun e => hz (by rw [e])] at h'
    exact h' _ C (kp_refl _)
theorem co_nel {as bs : List Int} {c : Bool} (h : decide (as ≠ bs) = c) : Co w β n .NotEq (.list (iL as)) (.list (iL bs)) c := fun _ _ _ _ _ _ _ hA C _ x y h' => by
  obtain ⟨l, its, rfl, _, hl, rl⟩ := x.inv_list; obtain ⟨l', its', rfl, _, hl', rl'⟩ := y.inv_list
  obtain ⟨a1, a2⟩ := list_facts rl
  obtain ⟨b1, b2⟩ := list_facts rl'
  by_cases hz : as.length = bs.length
  · refine PySem.EqBoolInt.of_rcne (PySem.SeqAt.RcNeAt.lists (e := fun j => as.getD j 0 == bs.getD j 0) hl.isList hl'.isList (by rw [a1, b1, hz]) hA.cl (fun j h1 h2 => ?_)) ?_
    · obtain ⟨t, e⟩ := a2 j h1; obtain ⟨u, e'⟩ := b2 j h2
      rw [e, e']; exact PySem.SeqAt.EqAt.int_int _ _ _ _
    · rw [a1, all_eq hz, show (!decide (as = bs)) = c by rw [← h, decide_not]]; exact h' _ C (kp_refl _)
  · refine PySem.EqBoolInt.of_rcne (PySem.SeqAt.RcNeAt.lists_lengths hl.isList hl'.isList (by rw [a1, b1]; simpa using hz) hA.cl) ?_
    rw [show c = true by rw [← h]; exact decide_eq_true fun e => hz (by rw [e])] at h'
    exact h' _ C (kp_refl _)
theorem co_nel_none {xs : List PV} : Co w β n .NotEq (.list xs) (.raw .none) true := fun _ _ _ _ _ _ _ hA C _ x y h' => by
  obtain ⟨l, its, rfl, _, hl, rl⟩ := x.inv_list; cases y.inv_raw
  exact PySem.EqBoolInt.of_rcne (PySem.SeqAt.RcNeAt.list_none hl.isList hA.cl) (h' _ C (kp_refl _))
theorem co_neb {a b : Bool} {c : Bool} (h : (a != b) = c) : Co w β n .NotEq (.bool a) (.bool b) c := fun _ _ _ _ _ _ _ hA C _ x y h' => by
  cases x.inv_bool; cases y.inv_bool
  refine PySem.EqBoolInt.of_rcne (PySem.SeqAt.RcNeAt.bool_bool a b) ?_
  rw [show (!(a == b)) = c from h]; exact h' _ C (kp_refl _)
theorem co_eqs {a b : Str} {c : Bool} (h : (a == b) = c) : Co w β n .Eq (.str a) (.str b) c := fun _ _ _ _ _ _ _ hA C _ x y h' => by
  obtain ⟨t, rfl⟩ := x.inv_str; obtain ⟨u, rfl⟩ := y.inv_str
  refine PyProof.Rows.eq_str ?_
  rw [h]; exact h' _ C (kp_refl _)
theorem co_is_none {p : PV} {c : Bool} (h : ∀ M h v, Rep M h v p → (v == .none) = c) : Co w β n .Is p (.raw .none) c := fun _ _ _ _ _ _ _ hA C _ x y h' => by
  cases y.inv_raw
  refine is_none ?_
  rw [h _ _ _ x]; exact h' _ C (kp_refl _)
theorem Ev.cmp {l r : Expr} {op : CmpOp} {a b : PV} {c : Bool} (h1 : Ev w β n sc ρ l a) (h2 : Ev w β n sc ρ r b) (ho : Co w β n op a b c) (hm : behindInMarks op r = false := by with_unfolding_all rfl) : Ev w β n sc ρ (.Compare l [op] [r] pos) (.bool c) := by
  intro prog A env s M Q hA C L h
  refine wpAny_Compare1 (h1 hA C L fun x s₁ C₁ K₁ r₁ => h2 hA C₁ (L.kp K₁) fun y s₂ C₂ K₂ r₂ => ?_) hm
  exact ho hA C₂ (L.kp (kp_trans K₁ K₂)).mx (r₁.kp K₂) r₂ fun s' C' K' => h _ s' C' (kp_trans K₁ (kp_trans K₂ K')) (.bool c)
theorem Tv.cmp {l r : Expr} {op : CmpOp} {a b : PV} {c : Bool} (h1 : Ev w β n sc ρ l a) (h2 : Ev w β n sc ρ r b) (ho : Co w β n op a b c) (hm : behindInMarks op r = false := by with_unfolding_all rfl) : Tv w β n sc ρ (.Compare l [op] [r] pos) c := by
  intro prog A env s M Q hA C L h
  refine wpAny_isTrue_Compare1 (h1 hA C L fun x s₁ C₁ K₁ r₁ => h2 hA C₁ (L.kp K₁) fun y s₂ C₂ K₂ r₂ => ?_) hm
  exact ho hA C₂ (L.kp (kp_trans K₁ K₂)).mx (r₁.kp K₂) r₂ fun s' C' K' => wpAny_truthy_bool (h s' C' (kp_trans K₁ (kp_trans K₂ K')))
theorem Tv.bool {e : Expr} {c : Bool} (h1 : Ev w β n sc ρ e (.bool c)) (he : ∀ env whole, isTrue e env whole = (do let v ← whole; standAt e.pos; holding [v] (truthy v)) := by intro _ _; rfl) : Tv w β n sc ρ e c := by
  intro prog A env s M Q hA C L h
  refine wpAny_isTrue_value (h1 hA C L fun x s₁ C₁ K₁ r₁ => ?_) (he _ _)
  cases r₁.inv_bool
  exact wpAny_truthy_bool (h s₁ C₁ K₁)
theorem Tv.not {e : Expr} {c : Bool} (h1 : Tv w β n sc ρ e c) : Tv w β n sc ρ (.UnaryOp .Not e pos) (!c) := by
  intro prog A env s M Q hA C L h
  exact wpAny_isTrue_Not (h1 hA C L h)
theorem Tv.and {e f : Expr} {a b : Bool} (h1 : Tv w β n sc ρ e a) (h2 : a = true → Tv w β n sc ρ f b) : Tv w β n sc ρ (.BoolOp .And [e, f] pos) (a && b) := by
  intro prog A env s M Q hA C L h
  refine wpAny_isTrue_BoolOp (wpAny_allTrue_And_cons (h1 hA C L fun s₁ C₁ K₁ => ?_))
  cases a with
  | false => simp only [Bool.false_eq_true, if_false]; exact h s₁ C₁ K₁
  | true =>
    simp only [if_true]
    refine wpAny_allTrue_And_cons (h2 rfl hA C₁ (L.kp K₁) fun s₂ C₂ K₂ => ?_)
    cases b with
    | false => simp only [Bool.false_eq_true, if_false]; exact h s₂ C₂ (kp_trans K₁ K₂)
    | true => simp only [if_true]; exact wpAny_allTrue_And_nil (h s₂ C₂ (kp_trans K₁ K₂))
theorem Tv.or {e f : Expr} {a b : Bool} (h1 : Tv w β n sc ρ e a) (h2 : a = false → Tv w β n sc ρ f b) : Tv w β n sc ρ (.BoolOp .Or [e, f] pos) (a || b) := by
  intro prog A env s M Q hA C L h
  refine wpAny_isTrue_BoolOp (wpAny_allTrue_Or_cons (h1 hA C L fun s₁ C₁ K₁ => ?_))
  cases a with
  | true => simp only [if_true]; exact h s₁ C₁ K₁
  | false =>
    simp only [Bool.false_eq_true, if_false]
    refine wpAny_allTrue_Or_cons (h2 rfl hA C₁ (L.kp K₁) fun s₂ C₂ K₂ => ?_)
    cases b with
    | true => simp only [if_true]; exact h s₂ C₂ (kp_trans K₁ K₂)
    | false => simp only [Bool.false_eq_true, if_false]; exact wpAny_allTrue_Or_nil (h s₂ C₂ (kp_trans K₁ K₂))
theorem Tv.chain {l m r : Expr} {op op' : CmpOp} {a b c : PV} {u v : Bool} (h1 : Ev w β n sc ρ l a) (h2 : Ev w β n sc ρ m b) (h3 : Ev w β n sc ρ r c) (ho : Co w β n op a b u) (ho' : Co w β n op' b c v)
    (hm : ∀ env, markedEach [op, op'] [m, r] (evalEach [m, r] env) = [eval m env, eval r env] := by intro _; rfl) : Tv w β n sc ρ (.Compare l [op, op'] [m, r] pos) (u && v) := by
  intro prog A env s M Q hA C L h
  rw [arm_isTrue_Compare, hm]
  refine wpAny_bind (h1 hA C L fun x s₁ C₁ K₁ r₁ => ?_)
  refine PyProof.Rows.test_link (h2 hA C₁ (L.kp K₁) fun y s₂ C₂ K₂ r₂ => ?_)
  have K2 := kp_trans K₁ K₂
  refine ho hA C₂ (L.kp K2).mx (r₁.kp K₂) r₂ fun s₃ C₃ K₃ => wpAny_truthy_bool ?_
  have K3 := kp_trans K2 K₃
  cases u with
  | false => simp only [Bool.false_eq_true, if_false]; exact h s₃ C₃ K3
  | true =>
    simp only [if_true]
    refine PyProof.Rows.test_last (h3 hA C₃ (L.kp K3) fun z s₄ C₄ K₄ r₄ => ?_)
    exact ho' hA C₄ (L.kp (kp_trans K3 K₄)).mx ((r₂.kp K₃).kp K₄) r₄ fun s₅ C₅ K₅ => wpAny_truthy_bool (h s₅ C₅ (kp_trans K3 (kp_trans K₄ K₅)))
theorem sub_tail {prog : Pr} {A : Around} {E : Value → Shared → Prop} {s : Shared} {value slice : Expr} {o i : Value} {ops : List Value} {T id : String} {Q : Value → Shared → Prop} (hT : s.TypeIs o T)
    (hl : typeLookup (.type T) "__getitem__" = pure (some (.builtin id))) (h : wpAny (model prog.p w) A (getItem o i) Q E s)
    (hs : subscripted slice false o i = operate ops (getItem o i)) : wpAny (model prog.p w) A (subscriptTail value slice o i) Q E s := by
  unfold subscriptTail
  refine wpAny_bind ?_
  rw [getitemInPython_of_ne hT.not_modules]
  refine wpAny_bind (wpAny_specialOf hT hl ?_)
  have fin : wpAny (model prog.p w) A (subscripted slice false o i) (fun r s₃ => wpAny (model prog.p w) A (letTemporaryGo value o r >>= fun _ => pure r) Q E s₃) E s := by
    rw [hs]
    exact wpAny_operating (wpAny_mono h (fun r s₃ h₃ => wpAny_bind (wpAny_letTemporaryGo (wpAny_pure h₃))) fun _ _ x => x)
  first
    | exact wpAny_pure (wpAny_bind fin)
    | exact wpAny_bind (wpAny_pure (wpAny_bind fin))
    | exact wpAny_bind fin
theorem Ev.at {l i : Expr} {xs : List PV} {k : Nat} {x : PV} (hx : xs[k]? = some x) (hn : k < 2 ^ 60) (h1 : Ev w β n sc ρ l (.list xs)) (h2 : Ev w β n sc ρ i (.int k)) (hs : ∀ o j, subscripted i false o j = operate [o, j] (getItem o j) := by intro _ _; with_unfolding_all rfl) :
    Ev w β n sc ρ (.Subscript l i pos) x := by
  intro prog A env s M Q hA C L h
  refine PyProof.Rows.Subscript_ (h1 hA C L fun v s₁ C₁ K₁ r₁ => h2 hA C₁ (L.kp K₁) fun u s₂ C₂ K₂ r₂ => ?_)
  obtain ⟨a, its, rfl, _, hl, rl⟩ := (r₁.kp K₂).inv_list
  obtain ⟨t, rfl⟩ := r₂.inv_int
  have hk : k < its.size := by have := rl.at.1; rw [Array.length_toList] at this; rw [this]; exact (List.getElem?_eq_some_iff.mp hx).1
  refine sub_tail hl.isList.typeIs list_getitem_lookup (wpAny_getItem_list hl.isList (by omega) (by omega) (x := its[k]) (by simp [hk]) ?_) (hs _ _)
  exact h _ s₂ C₂ (kp_trans K₁ K₂) (rl.at.2 k _ _ (by simp [hk]) hx)
theorem Ev.atT {l i : Expr} {xs : List PV} {k : Nat} {x : PV} (hx : xs[k]? = some x) (hn : k < 2 ^ 60) (h1 : Ev w β n sc ρ l (.tup xs)) (h2 : Ev w β n sc ρ i (.int k)) (hs : ∀ o j, subscripted i false o j = operate [o, j] (getItem o j) := by intro _ _; with_unfolding_all rfl) :
    Ev w β n sc ρ (.Subscript l i pos) x := by
  intro prog A env s M Q hA C L h
  refine PyProof.Rows.Subscript_ (h1 hA C L fun v s₁ C₁ K₁ r₁ => h2 hA C₁ (L.kp K₁) fun u s₂ C₂ K₂ r₂ => ?_)
  obtain ⟨a, its, rfl, _, ⟨m, hl⟩, rl⟩ := (r₁.kp K₂).inv_tup
  obtain ⟨t, rfl⟩ := r₂.inv_int
  have hk : k < its.size := by have := rl.at.1; rw [Array.length_toList] at this; rw [this]; exact (List.getElem?_eq_some_iff.mp hx).1
  have ht : IsTup s₂.heap a its := ⟨_, hl, rfl, _, rfl⟩
  refine sub_tail ht.typeIs slot_tuple_getitem.lookup (PyProof.Rows.getItem_tuple ht (by omega) (by omega) (j := k) (x := its[k]) ?_ (by simp [hk]) ?_) (hs _ _)
  · unfold seqIndex?
    simp only [show ¬ ((k : Int) < 0) by omega, if_false]
    simp [hk]
  · exact h _ s₂ C₂ (kp_trans K₁ K₂) (rl.at.2 k _ _ (by simp [hk]) hx)
end
noncomputable def FP (M : List Addr) (B : Heap) (env : Env) (sc : Scope) (H h : Heap) (ρ : PVs) : Prop := Mx M h ∧ ∃ ρv, Fm env sc B H h ρv ∧ RepE M h ρv ρ
noncomputable def PSub : PVs → PVs → Prop
  | [], _ => True
  | (x, p) :: r, ρ => ρ.lookup x = some p ∧ PSub r ρ
theorem PSub.pair {M : List Addr} {h : Heap} {ρv : Vars} {ρ : PVs} (R : RepE M h ρv ρ) : ∀ {ρ' : PVs}, PSub ρ' ρ → ∃ ρv', RepE M h ρv' ρ' ∧ ∀ x u, ρv'.lookup x = some u → ρv.lookup x = some u
  | [], _ => ⟨[], .nil, fun x u e => by cases e⟩
  | (x, p) :: r, ⟨a, b⟩ => by
    obtain ⟨v, hv, rv⟩ := R.lookup a
    obtain ⟨ρv', h1, h2⟩ := PSub.pair R b
    refine ⟨(x, v) :: ρv', .cons rv h1, fun y u e => ?_⟩
    rw [lk_cons] at e
    by_cases hy : y = x
    · rw [if_pos hy] at e; cases e; rw [hy]; exact hv
    · rw [if_neg hy] at e; exact h2 y u e
section
variable {w : World} {β : Pm} {n : Nat} {sc : Scope} {ρ ρ' : PVs} {M : List Addr} {env : Env} {H h : Heap} {s s' : Shared} {B : Heap}
theorem FP.ld (F : FP M B env sc H h ρ) : Ld M env sc h ρ := let ⟨m, _, f, r⟩ := F; f.ld r m
theorem FP.kp (F : FP M B env sc H s.heap ρ) (k : Kp s s') : FP M B env sc H s'.heap ρ := let ⟨m, v, f, r⟩ := F; ⟨m.kp k, v, f.kp k, r.mono (D.of_kp k)⟩
theorem FP.sub (F : FP M B env sc H h ρ) (k : PSub ρ' ρ) : FP M B env sc H h ρ' :=
  let ⟨m, v, f, r⟩ := F
  let ⟨v', r', l⟩ := PSub.pair r k
  ⟨m, v', f.sub l, r'⟩
theorem FP.kept (F : FP M B env sc H h ρ) : Kh H h := let ⟨_, _, f, _⟩ := F; f.kept
theorem FP.kind (F : FP M B env sc H h ρ) (x : Str) : env.kindOf x = sc.names.lookup x := by
  obtain ⟨_, _, f, _⟩ := F
  show env.scope.names.lookup x = _; rw [f.scope]
theorem FP.blk (F : FP M B env sc H h ρ) : env.scope.kind = .function := by
  obtain ⟨_, _, f, _⟩ := F
  rw [f.scope]; exact f.kind
theorem Kb.nn {env : Env} {sc : Scope} {B H h h' : Heap} {ρ : Vars} (F : Fm env sc B H h' ρ) (k : Kb env h h') {a : Addr} (n : NN h a) : NN h' a := by
  obtain ⟨o, e, c⟩ := n
  by_cases z : a = env.locals
  · obtain ⟨o', e', c'⟩ := F.fcls; exact ⟨o', z ▸ e', by rw [c']; simp⟩
  · by_cases z' : ∃ x c, env.cells.lookup x = some c ∧ a = c
    · obtain ⟨x, c', l, rfl⟩ := z'
      obtain ⟨o', e', _, q⟩ := F.cex x _ l
      exact ⟨o', e', q⟩
    · exact ⟨o, k.k a o e c z fun x c' l q => z' ⟨x, c', l, q⟩, c⟩
theorem store_p {prog : Pr} {A : Around} {x : Str} {v : Value} {p : PV} {Q : Unit → Shared → Prop} (C : Cx w β s) (F : FP M β.H env sc H s.heap ρ) (r : Rep M s.heap v p) (hk : sc.names.lookup x = some .local ∨ sc.names.lookup x = some .cell)
    (h : ∀ s', Cx w β s' → FP M β.H env sc H s'.heap ((x, p) :: ρ) → Kb env s.heap s'.heap → Q () s') : Wp prog w A (storeName env x v) Q s := by
  obtain ⟨m, ρv, f, e⟩ := F
  refine store C f hk fun s' C' F' D' => ?_
  have mx : Mx M s'.heap := fun a ha => D'.nn F' (m a ha)
  exact h s' C' ⟨mx, _, F', .cons (r.mono (D'.d f)) (e.mono (D'.d f))⟩ D'
theorem FP.d (F : FP M B env sc H h ρ) {h' : Heap} (k : Kb env h h') : D M h h' := let ⟨_, _, f, _⟩ := F; k.d f
noncomputable def Res (M : List Addr) (B : Heap) (env : Env) (sc : Scope) (H h : Heap) (fl : Flow) : PVs ⊕ PV → Prop
  | .inl ρ' => fl = .next ∧ FP M B env sc H h ρ'
  | .inr p => ∃ v, fl = .ret v ∧ Rep M h v p ∧ Kh H h
noncomputable def Sv (w : World) (β : Pm) (n : Nat) (sc : Scope) (ρ : PVs) (sts : List Stmt) (r : PVs ⊕ PV) : Prop :=
  ∀ ⦃prog : Pr⦄ ⦃A : Around⦄ ⦃env : Env⦄ ⦃s : Shared⦄ ⦃H : Heap⦄ ⦃M : List Addr⦄ ⦃Q : Flow → Shared → Prop⦄, Ok A n → Cx w β s → FP M β.H env sc H s.heap ρ →
    (∀ fl s', Cx w β s' → Kb env s.heap s'.heap → Res M β.H env sc H s'.heap fl r → Q fl s') → Wp prog w A (execs sts env) Q s
noncomputable def S1 (w : World) (β : Pm) (n : Nat) (sc : Scope) (ρ : PVs) (st : Stmt) (r : PVs ⊕ PV) : Prop :=
  ∀ ⦃prog : Pr⦄ ⦃A : Around⦄ ⦃env : Env⦄ ⦃s : Shared⦄ ⦃H : Heap⦄ ⦃M : List Addr⦄ ⦃Q : Flow → Shared → Prop⦄, Ok A n → Cx w β s → FP M β.H env sc H s.heap ρ →
    (∀ fl s', Cx w β s' → Kb env s.heap s'.heap → Res M β.H env sc H s'.heap fl r → Q fl s') → Wp prog w A (exec st env) Q s
theorem Sv.nil : Sv w β n sc ρ [] (.inl ρ) := by
  intro prog A env s H M Q hA C F h
  exact wpAny_execs_nil (h .next s C (Kb.refl _ _) ⟨rfl, F⟩)
theorem Sv.cons {st : Stmt} {rest : List Stmt} {ρ₁ : PVs} {r : PVs ⊕ PV} (h1 : S1 w β n sc ρ st (.inl ρ₁)) (h2 : Sv w β n sc ρ₁ rest r) : Sv w β n sc ρ (st :: rest) r := by
  intro prog A env s H M Q hA C F h
  refine wpAny_execs_cons (h1 hA C F fun fl s₁ C₁ D₁ R₁ => ?_)
  obtain ⟨rfl, F₁⟩ := R₁
  exact h2 hA C₁ F₁ fun fl s₂ C₂ D₂ R₂ => h fl s₂ C₂ (D₁.trans D₂) R₂
theorem Sv.last {st : Stmt} {rest : List Stmt} {p : PV} (h1 : S1 w β n sc ρ st (.inr p)) : Sv w β n sc ρ (st :: rest) (.inr p) := by
  intro prog A env s H M Q hA C F h
  refine wpAny_execs_cons (h1 hA C F fun fl s₁ C₁ D₁ R₁ => ?_)
  have := h fl s₁ C₁ D₁ R₁
  obtain ⟨v, rfl, _⟩ := R₁
  exact this
theorem Sv.sub {sts : List Stmt} {ρ₁ ρ₂ : PVs} (h1 : Sv w β n sc ρ sts (.inl ρ₁)) (k : PSub ρ₂ ρ₁) : Sv w β n sc ρ sts (.inl ρ₂) := by
  intro prog A env s H M Q hA C F h
  refine h1 hA C F fun fl s' C' D' R' => ?_
  obtain ⟨rfl, F'⟩ := R'
  exact h _ s' C' D' ⟨rfl, F'.sub k⟩
theorem S1.sub {st : Stmt} {ρ₁ ρ₂ : PVs} (h1 : S1 w β n sc ρ st (.inl ρ₁)) (k : PSub ρ₂ ρ₁) : S1 w β n sc ρ st (.inl ρ₂) := by
  intro prog A env s H M Q hA C F h
  refine h1 hA C F fun fl s' C' D' R' => ?_
  obtain ⟨rfl, F'⟩ := R'
  exact h _ s' C' D' ⟨rfl, F'.sub k⟩
theorem S1.ret {e : Expr} {pos : Pos} {p : PV} (h1 : Ev w β n sc ρ e p) : S1 w β n sc ρ (.Return (some e) pos) (.inr p) := by
  intro prog A env s H M Q hA C F h
  exact wpAny_Return_some (h1 hA C F.ld fun v s' C' K' r => h _ s' C' (Kb.of_kp K') ⟨v, rfl, r, (F.kp K').kept⟩)
theorem S1.assign {x : Str} {xp pos : Pos} {e : Expr} {p : PV} (hk : sc.names.lookup x = some .local ∨ sc.names.lookup x = some .cell) (h1 : Ev w β n sc ρ e p)
    (hs : ∀ env : Env, env.kindOf x = sc.names.lookup x → swapsWith e (some (.Name x xp)) pos.line env = pure false := by intro _ _; rfl) : S1 w β n sc ρ (.Assign [.Name x xp] e pos) (.inl ((x, p) :: ρ)) := by
  intro prog A env s H M Q hA C F h
  refine wpAny_Assign_Name (h1 hA C F.ld fun v s₁ C₁ K₁ r => ?_) (hs env (F.kind x))
  exact store_p C₁ (F.kp K₁) r hk fun s₂ C₂ F₂ D₂ => h _ s₂ C₂ ((Kb.of_kp K₁).trans D₂) ⟨rfl, F₂⟩
theorem S1.if {test : Expr} {body orelse : List Stmt} {pos : Pos} {c : Bool} {r : PVs ⊕ PV} (h1 : Tv w β n sc ρ test c) (h2 : c = true → Sv w β n sc ρ body r) (h3 : c = false → Sv w β n sc ρ orelse r) : S1 w β n sc ρ (.If test body orelse pos) r := by
  intro prog A env s H M Q hA C F h
  refine wpAny_If (h1 hA C F.ld fun s₁ C₁ K₁ => ?_)
  have go : ∀ {b : List Stmt}, Sv w β n sc ρ b r → Wp prog w A (execs b env) Q s₁ := fun hb => hb hA C₁ (F.kp K₁) fun fl s₂ C₂ D₂ R₂ => h fl s₂ C₂ ((Kb.of_kp K₁).trans D₂) R₂
  cases c with
  | true => simp only [if_true]; exact go (h2 rfl)
  | false => simp only [Bool.false_eq_true, if_false]; exact go (h3 rfl)
theorem S1.assign2 {x y : Str} {xp yp tp pos : Pos} {k : Nat} {e : Expr} {a b : PV} (hx : sc.names.lookup x = some .local ∨ sc.names.lookup x = some .cell) (hy : sc.names.lookup y = some .local ∨ sc.names.lookup y = some .cell) (hxy : (y == x) = false)
    (h1 : Ev w β n sc ρ e (.tup [a, b]))
    (hw : ∀ env : Env, env.scope.kind = .function → env.kindOf x = sc.names.lookup x → env.kindOf y = sc.names.lookup y → swappedStores [.Tuple [.Name x xp, .Name y yp] k tp] e env = pure none ∨ swappedStores [.Tuple [.Name x xp, .Name y yp] k tp] e env = pure (some [x, y]))
    (hs : ∀ env, swapsWithSole [.Tuple [.Name x xp, .Name y yp] k tp] e pos.line env = pure false := by intro _; rfl) :
    S1 w β n sc ρ (.Assign [.Tuple [.Name x xp, .Name y yp] k tp] e pos) (.inl ((x, a) :: (y, b) :: ρ)) := by
  intro prog A env s H M Q hA C F h
  have two : ∀ {v : Value} {h : Heap}, Rep M h v (.tup [a, b]) → ∃ t its v1 v2, v = .ref t ∧ IsTup h t its ∧ its.toList = [v1, v2] ∧ its.size = 2 ∧ Rep M h v1 a ∧ Rep M h v2 b := fun r => by
    obtain ⟨t, its, rfl, _, ⟨m, hl⟩, rl⟩ := r.inv_tup
    obtain ⟨v1, v2, e1, r1, r2⟩ := rl.two
    exact ⟨t, its, v1, v2, rfl, ⟨_, hl, rfl, _, rfl⟩, e1, by rw [← Array.length_toList, e1]; rfl, r1, r2⟩
  have kpf : ∀ {s₁ : Shared} {h' : Heap}, Heap.ExtBut s₁.heap.objs.size s₁.heap h' → ∀ b o, s₁.heap.get? b = some o → h'.get? b = some o := fun hx b o e => hx b o (Nat.ne_of_lt (Heap.lt_size e)) e
  have kpx : ∀ {s₁ : Shared} {h' : Heap}, Heap.ExtBut s₁.heap.objs.size s₁.heap h' → Kp s₁ { s₁ with heap := h' } := fun hx => Kh.of (kpf hx)
  have hyx : ¬ x = y := fun z => by rw [z] at hxy; simp at hxy
  rcases hw env F.blk (F.kind x) (F.kind y) with hw | hw
  · refine PyProof.Rows.Assign_Tuple (h1 hA C F.ld fun v s₁ C₁ K₁ r => ?_) (hs env) hw
    obtain ⟨t, its, v1, v2, rfl, ht, e1, e2, r1, r2⟩ := two r
    refine PyProof.Rows.assign_Tuple_tuple hA.h ht (by rw [e2]; rfl) (by rfl) fun h' hx' => ?_
    rw [e1]
    have K₂ := kpx hx'
    refine wpAny_assignInOrder_more (wpAny_assign_Name (store_p (C₁.kp (kpf hx')) ((F.kp K₁).kp K₂) (r1.kp K₂) hx fun s₃ C₃ F₃ D₃ => ?_))
    refine wpAny_assignInOrder_more (wpAny_assign_Name (store_p C₃ F₃ ((r2.kp K₂).mono (((F.kp K₁).kp K₂).d D₃)) hy fun s₄ C₄ F₄ D₄ => wpAny_assignInOrder_none ?_))
    refine h _ s₄ C₄ ((Kb.of_kp K₁).trans ((Kb.of_kp K₂).trans (D₃.trans D₄))) ⟨rfl, ?_⟩
    obtain ⟨m, ρv, f, q⟩ := F₄
    cases q with
    | cons q1 q2 =>
      cases q2 with
      | cons q3 q4 =>
        refine ⟨m, (x, _) :: (y, _) :: _, f.sub fun z u e => ?_, .cons q3 (.cons q1 q4)⟩
        rw [lk_cons, lk_cons] at e ⊢
        by_cases z1 : z = x
        · rw [if_pos z1] at e; rw [if_neg (fun z2 => hyx (z1.symm.trans z2)), if_pos z1]; exact e
        · rw [if_neg z1] at e; rw [if_neg z1]; exact e
  · refine PyProof.Rows.Assign_Tuple_swapped (names := [x, y]) (h1 hA C F.ld fun v s₁ C₁ K₁ r => ?_) (hs env) hw
    obtain ⟨t, its, v1, v2, rfl, ht, e1, e2, r1, r2⟩ := two r
    show wpAny _ _ (unpackItems (.ref t) 2 none) _ _ _
    rw [← e2]
    refine unpackItems_tuple hA.h ht fun h' hx' => ?_
    rw [e1]
    have K₂ := kpx hx'
    refine wpAny_assignInOrder_more (wpAny_bindName (store_p (C₁.kp (kpf hx')) ((F.kp K₁).kp K₂) (r2.kp K₂) hy fun s₃ C₃ F₃ D₃ => ?_))
    refine wpAny_assignInOrder_more (wpAny_bindName (store_p C₃ F₃ ((r1.kp K₂).mono (((F.kp K₁).kp K₂).d D₃)) hx fun s₄ C₄ F₄ D₄ => wpAny_assignInOrder_none ?_))
    exact h _ s₄ C₄ ((Kb.of_kp K₁).trans ((Kb.of_kp K₂).trans (D₃.trans D₄))) ⟨rfl, F₄⟩
theorem S1.for {x : Str} {px pos : Pos} {iter : Expr} {body : List Stmt} {pi : PV} {xs : List PV} {r : PVs ⊕ PV} (ρs : Nat → PVs) (b : Nat → Option PV) (hk : sc.names.lookup x = some .local ∨ sc.names.lookup x = some .cell)
    (h1 : Ev w β n sc ρ iter pi) (hx : pi.items = some xs) (hn : xs.length ≤ sizeLine) (h0 : PSub (ρs 0) ρ)
    (hb : ∀ (i : Nat) y, xs[i]? = some y → (∀ j < i, b j = none) → Sv w β n sc ((x, y) :: ρs i) body (match b i with | none => .inl (ρs (i + 1)) | some p => .inr p))
    (hr : (∀ i < xs.length, b i = none) → r = .inl (ρs xs.length)) (hr' : ∀ i < xs.length, ∀ p, (∀ j < i, b j = none) → b i = some p → r = .inr p)
    (hs : ∀ env x, foldedSetIterable iter env x = pure x := by intro _ _; rfl) : S1 w β n sc ρ (.For (.Name x px) iter body [] pos) r := by
  intro prog A env s H M Q hA C F h
  refine wpAny_For (h1 hA C F.ld fun v s₁ C₁ K₁ r₁ => ?_) (hs env)
  refine it_walks hA.h C₁ r₁ hx hn fun I s₂ fp P St W st0 C₂ K₂ hI hfp hIf hfq hSI hP => ?_
  have K02 := kp_trans K₁ K₂
  have F₂ := (F.kp K02).sub h0
  have hIs : s.heap.get? I = none := Kh.none K₁ hI
  -- the iterator is nobody's
  have hIH : β.H.get? I = none := C.new hIs
  have Fo : ∀ b ∈ [I], b ≠ env.locals ∧ (∀ x c, env.cells.lookup x = some c → c ≠ b) ∧ H.get? b = none := fun b hb => by
    cases List.mem_singleton.mp hb
    obtain ⟨_, ρv, f, _⟩ := F
    refine ⟨fun z => ?_, fun x c e z => ?_, ?_⟩
    · obtain ⟨o, e, _⟩ := f.fcls; rw [← z, hIs] at e; cases e
    · obtain ⟨o, q, _⟩ := f.cex x c e; rw [z, hIs] at q; cases q
    · exact Kh.none f.kept hIs
  have hfpo : ∀ c ∈ fp, c ≠ env.locals ∧ ∀ x c', env.cells.lookup x = some c' → c ≠ c' := fun c hc => by
    rcases hfq c hc with rfl | ⟨o, e, q⟩
    · exact ⟨(Fo _ (List.mem_singleton.mpr rfl)).1, fun x c' l => Ne.symm ((Fo _ (List.mem_singleton.mpr rfl)).2.1 x c' l)⟩
    · obtain ⟨_, ρv, f, _⟩ := F.kp K₁
      refine ⟨fun z => ?_, fun x c' l z => ?_⟩
      · obtain ⟨o', e', k⟩ := f.fcls; rw [z, e'] at e; cases e; simp [stay, k] at q
      · obtain ⟨o', e', k, _⟩ := f.cex x c' l; rw [z, e'] at e; cases e; rw [k] at q; cases q
  have bnext : ∀ {i : Nat} {s' : Shared} {h₁ : Heap} {tk : Nat} {q : PVs}, Cx w β s' → FP M β.H env sc H s'.heap q → St i s'.heap → (∀ b o, b ∉ [I] → s'.heap.get? b = some o → h₁.get? b = some o) →
      Cx w β { s' with heap := h₁, toks := tk } ∧ FP M β.H env sc H h₁ q ∧ D M s'.heap h₁ := fun {i s' h₁ tk q} C' F' st k => by
    have d : D M s'.heap h₁ := fun b o e q _ => k b o (fun z => by
      obtain ⟨o', e', c⟩ := (hSI _ _ st).1
      rw [List.mem_singleton.mp z, e'] at e; cases e; rw [c] at q; cases q) e
    obtain ⟨m, v, f, r⟩ := F'
    refine ⟨CxH.but C' (wr := [I]) (fun b hb => by cases List.mem_singleton.mp hb; exact hIH) k, ⟨fun a ha => ?_, v, f.but Fo k, r.mono d⟩, d⟩
    obtain ⟨o, e, n⟩ := m a ha
    exact ⟨o, k _ _ (fun z => by
      obtain ⟨o', e', _⟩ := F.1 a ha
      rw [List.mem_singleton.mp z, hIs] at e'; cases e') e, n⟩
  have kBack : ∀ {s' : Shared} {h₁ : Heap} {tk : Nat}, Kb env s.heap s'.heap → (∀ b o, b ∉ [I] → s'.heap.get? b = some o → h₁.get? b = some o) → Kb env s.heap h₁ := fun x k => ⟨fun b o e n p q => k b o (fun z => by
    rw [List.mem_singleton.mp z, hIs] at e; cases e) (x.k b o e n p q), fun b o e => by
    obtain ⟨o', e'⟩ := x.x b o e
    exact ⟨o', k b o' (fun z => by rw [List.mem_singleton.mp z, hIs] at e; cases e) e'⟩⟩
  refine codeAny_forLoop_any (fun k s' => ∃ i, Cx w β s' ∧ Kb env s.heap s'.heap ∧ D M s₁.heap s'.heap ∧ St i s'.heap ∧ FP M β.H env sc H s'.heap (ρs i) ∧ i ≤ xs.length ∧ k = xs.length + 1 - i ∧ (∀ j < i, b j = none)) ?_ (xs.length + 1)
    ⟨0, C₂, Kb.of_kp K02, D.of_kp K₂, st0, F₂, Nat.zero_le _, rfl, fun j hj => absurd hj (Nat.not_lt_zero _)⟩
  rintro k s' ⟨i, C', D', E', st', F', hi, rfl, hbi⟩
  by_cases hlt : i < xs.length
  · refine W.item i s' _ _ hlt st' fun v h₁ tk₁ hPv st₁ k₁ => ?_
    obtain ⟨y, hy, ry⟩ := hP i v hPv
    obtain ⟨C₃, F₃, D₃⟩ := bnext (tk := tk₁) C' F' st' k₁
    refine wpAny_pure ?_
    refine wpAny_assign_Name (Wp.any (store_p C₃ F₃ (ry.mono (E'.trans D₃)) hk fun s₄ C₄ F₄ D₄ => Wp.any (prog := prog) (w := w) ?_))
    have st₄ : St (i + 1) s₄.heap := W.frame _ _ _ st₁ fun c hc o e => D₄.k c o e (by obtain ⟨o', e', n⟩ := (hSI _ _ st₁).2 c hc; rw [e'] at e; cases e; exact n) (fun z => ?_) fun x c' l z => ?_
    · refine hb i y hy hbi hA C₄ F₄ fun fl s₅ C₅ D₅ R₅ => ?_
      have D05 : Kb env s.heap s₅.heap := (kBack (tk := tk₁) D' k₁).trans (D₄.trans D₅)
      cases hbx : b i with
      | some p =>
        rw [hbx] at R₅
        obtain ⟨v', rfl, q⟩ := id R₅
        exact h _ s₅ C₅ D05 (by rw [hr' i hlt p hbi hbx]; exact R₅)
      | none =>
        rw [hbx] at R₅
        obtain ⟨rfl, F₅⟩ := R₅
        refine ⟨xs.length + 1 - (i + 1), dec1 hlt, i + 1, C₅, D05, (E'.trans D₃).trans ((F₃.d D₄).trans (F₄.d D₅)), ?_, F₅, hlt, rfl, fun j hj => ?_⟩
        · exact W.frame _ _ _ st₄ fun c hc o e => D₅.k c o e (by obtain ⟨o', e', n⟩ := (hSI _ _ st₄).2 c hc; rw [e'] at e; cases e; exact n) (fun z => (hfpo c hc).1 z) fun x c' l z => (hfpo c hc).2 x c' l z
        · rcases Nat.lt_succ_iff_lt_or_eq.mp hj with z | rfl
          · exact hbi j z
          · exact hbx
    · exact (hfpo c hc).1 z
    · exact (hfpo c hc).2 x c' l z
  · have hin : i = xs.length := Nat.le_antisymm hi (Nat.not_lt.mp hlt)
    subst hin
    refine W.done s' _ _ st' fun h₁ tk₁ k₁ => ?_
    obtain ⟨C₃, F₃, D₃⟩ := bnext (tk := tk₁) C' F' st' k₁
    refine wpAny_execs_nil ?_
    exact h _ _ C₃ (kBack (tk := tk₁) D' k₁) (by rw [hr hbi]; exact ⟨rfl, F₃⟩)
end
section
variable {w : World} {β : Pm} {n : Nat} {sc : Scope} {ρ ρ' : PVs} {M : List Addr} {env : Env} {H h : Heap} {s s' : Shared} {B : Heap} {pos : Pos}
theorem S1.while {test : Expr} {body : List Stmt} {pos : Pos} (ρs : Nat → PVs) (k : Nat) (h0 : PSub (ρs 0) ρ) (ht : ∀ i < k, Tv w β n sc (ρs i) test true) (hb : ∀ i < k, Sv w β n sc (ρs i) body (.inl (ρs (i + 1)))) (hf : Tv w β n sc (ρs k) test false) :
    S1 w β n sc ρ (.While test body [] pos) (.inl (ρs k)) := by
  intro prog A env s H M Q hA C F h
  refine wpAny_While (codeAny_whileLoop (fun m s' => ∃ i, Cx w β s' ∧ Kb env s.heap s'.heap ∧ FP M β.H env sc H s'.heap (ρs i) ∧ i ≤ k ∧ m = k - i) ?_ k
    ⟨0, C, Kb.refl _ _, F.sub h0, Nat.zero_le _, rfl⟩)
  rintro m s' ⟨i, C', D', F', hi, rfl⟩
  by_cases hlt : i < k
  · refine Wp.any (ht i hlt hA C' F'.ld fun s₁ C₁ K₁ => ?_)
    simp only [if_true]
    refine Wp.any (prog := prog) (w := w) (hb i hlt hA C₁ (F'.kp K₁) fun fl s₂ C₂ D₂ R₂ => ?_)
    obtain ⟨rfl, F₂⟩ := R₂
    exact ⟨k - (i + 1), by omega, i + 1, C₂, D'.trans ((Kb.of_kp K₁).trans D₂), F₂, hlt, rfl⟩
  · have : i = k := by omega
    subst this
    refine Wp.any (hf hA C' F'.ld fun s₁ C₁ K₁ => ?_)
    simp only [Bool.false_eq_true, if_false]
    exact wpAny_execs_nil (h _ s₁ C₁ (D'.trans (Kb.of_kp K₁)) ⟨rfl, F'.kp K₁⟩)
theorem RepL.zip {M : List Addr} {h : Heap} : ∀ {names : List Str} {vs : List Value} {ps : List PV}, RepL M h vs ps → RepE M h (names.zip vs) (names.zip ps)
  | [], _, _, _ => .nil
  | x :: xs, [], [], _ => .nil
  | x :: xs, v :: vs, p :: ps, .cons a b => .cons a (RepL.zip b)
theorem RepE.rev {M : List Addr} {h : Heap} {r : Vars} {q : PVs} (e : RepE M h r q) : RepE M h r.reverse q.reverse := by
  induction e with
  | nil => exact .nil
  | cons a _ ih => rw [List.reverse_cons, List.reverse_cons]; exact ih.append (.cons a .nil)
theorem cl_fn {f : Addr} {st : Stmt} {nm qual : Str} {dV pm cdv : Value} {ps : List PV} {r : PV} (o : Obj) (names : List Str)
    (ho : (Kf w.params).lookup f = some o) (hd : o.data = .func (fnX nm qual (fdA st) (fdB st) (fdS st) [] dV .none .none pm none cdv .none)) (hcd : codeIn (Kf w.params) cdv qual = true)
    (hb : ∀ s vs, vs.length = names.length → BindsTo s (fnX nm qual (fdA st) (fdB st) (fdS st) [] dV .none .none pm none cdv .none) ⟨vs, []⟩ (names.zip vs))
    (hk : names.all (fun y => (fdS st).names.lookup y == some .local || (fdS st).names.lookup y == some .cell) = true)
    (hsc : ((fdS st).isCoroutine == false && (fdS st).isGenerator == false) = true) (hkf : (fdS st).kind = .function) (hn : ps.length = names.length)
    (h : Sv w β n (fdS st) (names.zip ps).reverse (fdB st) (.inr r)) : Cl w β (n + 1) (.ref f) ps r := by
  intro prog A s M vs Q hA C mx rl hq
  have hl : vs.length = names.length := by rw [rl.at.1, hn]
  refine call_def (binds := names.zip vs) o C hA.lt ho hd hcd (hb s vs hl) ?_ hsc hkf (fun _ h => (nomatch h)) rfl .nil fun env s' _ _ _ _ C' F' => ?_
  · unfold kindOk
    rw [List.all_eq_true] at hk ⊢
    intro y hy
    exact hk y.1 (List.of_mem_zip hy).1
  · refine h (M := M) hA.deeper C' ⟨fun a ha => (mx a ha).kh F'.kept, _, F', ((RepL.zip rl).rev).mono (D.of_kh F'.kept)⟩ fun fl s'' C'' D'' R'' => ?_
    obtain ⟨v, rfl, rv, k⟩ := R''
    exact hq v _ C'' k rv
noncomputable def EvO (w : World) (β : Pm) (n : Nat) (sc : Scope) (ρ : PVs) : Option Expr → Option Nat → Prop
  | none, none => True
  | some e, some i => Ev w β n sc ρ e (.int i)
  | _, _ => False
theorem evo_run {e : Option Expr} {i : Option Nat} {prog : Pr} {A : Around} {Q : Value → Shared → Prop} (h1 : EvO w β n sc ρ e i) (hA : Ok A n) (C : Cx w β s) (L : Ld M env sc s.heap ρ)
    (h : ∀ v s', Cx w β s' → Kp s s' → IsPart v (i.map Int.ofNat) → Q v s') : Wp prog w A (evalPart e env) Q s := by
  cases e with
  | none =>
    cases i with
    | none => exact wpAny_evalPart_none (h _ s C (kp_refl s) .none)
    | some _ => exact h1.elim
  | some e =>
    cases i with
    | none => exact h1.elim
    | some i => exact wpAny_evalPart_some (h1 hA C L fun v s' C' K' r => by obtain ⟨t, rfl⟩ := r.inv_int; exact h _ s' C' K' (.int _ _))
theorem RepL.drop {h : Heap} : ∀ {vs : List Value} {ps : List PV} (k : Nat), RepL M h vs ps → RepL M h (vs.drop k) (ps.drop k)
  | _, _, 0, r => r
  | [], [], k + 1, _ => .nil
  | v :: vs, p :: ps, k + 1, .cons a b => RepL.drop k b
theorem RepL.take {h : Heap} : ∀ {vs : List Value} {ps : List PV} (k : Nat), RepL M h vs ps → RepL M h (vs.take k) (ps.take k)
  | _, _, 0, _ => .nil
  | [], [], k + 1, _ => .nil
  | v :: vs, p :: ps, k + 1, .cons a b => .cons a (RepL.take k b)
theorem Ev.slice {l : Expr} {lo hi : Option Expr} {p : Pos} {xs : List PV} {a b : Option Nat} (hn : xs.length ≤ sizeLine) (h1 : Ev w β n sc ρ l (.list xs)) (h2 : EvO w β n sc ρ lo a) (h3 : EvO w β n sc ρ hi b) :
    Ev w β n sc ρ (.Subscript l (.Slice lo hi Option.none p) pos) (.list ((xs.drop (a.elim 0 (min · xs.length))).take (b.elim xs.length (min · xs.length) - a.elim 0 (min · xs.length)))) := by
  intro prog A env s M Q hA C L h
  refine PyProof.Rows.Subscript_ (h1 hA C L fun v s₁ C₁ K₁ r₁ => wpAny_Slice (evo_run h2 hA C₁ (L.kp K₁) fun vl s₂ C₂ K₂ pl => evo_run h3 hA C₂ (L.kp (kp_trans K₁ K₂)) fun vu s₃ C₃ K₃ pu => wpAny_evalPart_none ?_))
  have K13 := kp_trans K₂ K₃
  obtain ⟨ad, its, rfl, _, hl, rl⟩ := (r₁.kp K13).inv_list
  have hz : its.size = xs.length := by rw [← rl.at.1, Array.length_toList]
  obtain ⟨m, hl'⟩ := hl
  have hl4 : SeqAt (s₃.heap.push { cls := .type "slice", data := .fields #[vl, vu, .none] }) "list" ad its := ⟨m, Heap.get?_push_of_some _ hl'⟩
  have K4 := kp_trans (kp_trans K₁ K13) (kp_push s₃ { cls := .type "slice", data := .fields #[vl, vu, .none] })
  have C4 := C₃.push { cls := .type "slice", data := .fields #[vl, vu, .none] }
  have hs : (s₃.heap.push { cls := .type "slice", data := .fields #[vl, vu, .none] }).get? s₃.heap.objs.size = some { cls := .type "slice", data := .fields #[vl, vu, .none] } := Heap.get?_push_size _ rfl
  have rl4 : RepL M (s₃.heap.push { cls := .type "slice", data := .fields #[vl, vu, .none] }) its.toList xs := rl.mono (D.of fun _ _ e => Heap.get?_push_of_some _ e)
  generalize hg : s₃.heap.push { cls := .type "slice", data := .fields #[vl, vu, .none] } = g at hl4 K4 C4 hs rl4 ⊢
  refine sub_tail (s := { s₃ with heap := g }) hl4.isList.typeIs list_getitem_lookup (wpAny_getItem_list_slice (lo := a.map Int.ofNat) (hi := b.map Int.ofNat) (st := Option.none) hl4.isList ⟨_, hs, rfl, rfl⟩ pl pu .none (by simp) ?_ (by rw [hz]; exact hn)) (by rfl)
  refine h _ _ (C4.push _) (kp_trans K4 (kp_push _ _)) (Rep.of_list (Mx.offN (L.kp K4).mx) ⟨0, Heap.get?_push_size _ rfl⟩ ?_)
  rw [slicePick_plain]
  have e1 : (a.map Int.ofNat).elim 0 (clipAt its.size) = a.elim 0 (min · xs.length) := by
    cases a with
    | none => rfl
    | some a => show clipAt its.size (a : Int) = _; rw [clipAt_nat, hz]; rfl
  have e2 : (b.map Int.ofNat).elim its.size (clipAt its.size) = b.elim xs.length (min · xs.length) := by
    cases b with
    | none => exact hz
    | some b => show clipAt its.size (b : Int) = _; rw [clipAt_nat, hz]; rfl
  rw [e1, e2]
  exact ((rl4.drop _).take _).mono (D.of fun _ _ e => Heap.get?_push_of_some _ e)
theorem S1.assignComp {α : Type} {elt iter : Expr} {x y : Str} {px py : Pos} {ifs : List Expr} {scope : Scope} {pos spos : Pos} {pi : PV} (xs : List α) (emb : α → PV) (p : α → Bool) (f : α → PV) (ck : compOk sc ρ scope x = true)
    (hy : sc.names.lookup y = some .local)
    (hsw : ∀ env : Env, env.scope.kind = .function → env.kindOf y = some .local → swapsWith (.ListComp elt [⟨.Name x px, iter, ifs, 0⟩] scope pos) (some (.Name y py)) spos.line env = pure true)
    (hi : Ev w β n sc ρ iter pi) (hx : pi.items = some (xs.map emb)) (hn : xs.length ≤ sizeLine)
    (ht : ∀ (i : Nat) y, xs[i]? = some y → Tvs w β n scope ((x, emb y) :: ρ) ifs (p y))
    (he : ∀ (i : Nat) y, xs[i]? = some y → p y = true → Ev w β n scope ((x, emb y) :: ρ) elt (f y))
    (hs : ∀ env x, foldedSetIterable iter env x = pure x := by intro _ _; rfl) :
    S1 w β n sc ρ (.Assign [.Name y py] (.ListComp elt [⟨.Name x px, iter, ifs, 0⟩] scope pos) spos) (.inl ((y, .list ((xs.filter p).map f)) :: ρ)) := by
  intro prog A env s H M Q hA C F h
  have K := COk'.of ck
  have L := F.ld
  show wpAny _ _ _ _ _ _
  rw [exec_Assign_Name_used _ _ _ _ (hsw env F.blk ((F.kind y).trans hy))]
  refine wpAny_bind (wpAny_standAt (wpAny_bind ?_))
  show wpAny _ A (do let _ ← comprehension (.ListComp elt [⟨.Name x px, iter, ifs, 0⟩] scope pos) scope env _ (newList []) false (eval iter env) (some (PySem.assign (.Name y py) env))) _ _ s
  refine wpAny_bind (wpAny_mono (wpAny_comprehension_free (use := some (PySem.assign (.Name y py) env)) (Q := fun _ s' => Q .next s') rfl (hs env) (clo_eq (comp_hf K L)) K.kind (comp_nm K)
    (hi hA C L fun v s₁ C₁ K₁ r₁ => ?_)) (fun _ s' hq => wpAny_pure (wpAny_pure hq)) fun _ _ e => e)
  refine comp_core (RR := fun acc C => compPost (model prog.p w) A noE (some (PySem.assign (.Name y py) env)) (fun _ s' => Q .next s') acc C) hA C₁ (L.kp K₁) r₁ hx hn K ht he (comp_hf K L) fun D Cc s' m c' k' hC nC ns r hd => ?_
  have hCs : s.heap.get? Cc = none := Kh.none K₁ hC
  have K2 := kp_trans K₁ k'
  have Fo : ∀ b ∈ [Cc], b ≠ env.locals ∧ (∀ x c, env.cells.lookup x = some c → c ≠ b) ∧ H.get? b = none := fun b hb => by
    cases List.mem_singleton.mp hb
    obtain ⟨_, ρv, f, _⟩ := F
    refine ⟨fun z => ?_, fun x c e z => ?_, ?_⟩
    · obtain ⟨o, e, _⟩ := f.fcls; rw [← z, hCs] at e; cases e
    · obtain ⟨o, q, _⟩ := f.cex x c e; rw [z, hCs] at q; cases q
    · exact Kh.none f.kept hCs
  show wpAny _ A (PySem.assign (.Name y py) env (.ref D)) _ _ _
  -- the store is done with the list outside; what the letting-go of the frame turns is the frame alone
  obtain ⟨mx0, ρv, fm0, re0⟩ := id F
  have fm := fm0.kp K2
  refine wpAny_assign_Name (store c' fm (.inl hy) fun s₂ C₂ F₂ D₂ => ?_)
  have hCl := (Fo Cc (List.mem_singleton.mpr rfl)).1
  have ns₂ : s₂.heap.Ns Cc m := ns.at' fun o e => D₂.k _ _ e (by obtain ⟨o', e', n⟩ := nC; rw [e'] at e; cases e; exact n) hCl fun x c l => Ne.symm ((Fo Cc (List.mem_singleton.mpr rfl)).2.1 x c l)
  refine ⟨m, ns₂, fun h' hs' => ?_⟩
  have kb : ∀ b o, b ∉ [Cc] → s₂.heap.get? b = some o → h'.get? b = some o := fun b o hb e => (hs'.2 b (by simpa using hb)).trans e
  have hne : ∀ {b o}, s.heap.get? b = some o → b ∉ [Cc] := fun {b o} e z => by rw [List.mem_singleton.mp z, hCs] at e; cases e
  have kd : Kb env s.heap h' := ⟨fun b o e n p q => kb b o (hne e) (D₂.k b o (K2.k _ _ e n) n p q), fun b o e => by
    obtain ⟨o1, e1⟩ := K2.x b o e
    obtain ⟨o2, e2⟩ := D₂.x b o1 e1
    exact ⟨o2, kb b o2 (hne e) e2⟩⟩
  have stable : ∀ b o, b ≠ Cc → s'.heap.get? b = some o → stay o = true → h'.get? b = some o := fun b o hb e q => by
    refine kb b o (by simpa using hb) (D₂.k b o e (stay_ne q) (fun z => ?_) fun x c l z => ?_)
    · obtain ⟨o', e', k⟩ := fm.fcls; rw [z, e'] at e; cases e; simp [stay, k] at q
    · obtain ⟨o', e', k, _⟩ := fm.cex x c l; rw [z, e'] at e; cases e; rw [k] at q; cases q
  refine h _ _ (CxH.step C₂ (C.new hCs) hs') kd ⟨rfl, fun a ha => kd.nn (F₂.but Fo kb) (F.1 a ha), _, F₂.but Fo kb, .cons ?_ ?_⟩
  · exact (r.mono fun b o e q nb => stable b o (fun z => nb (z ▸ List.mem_cons_self ..)) e q).more fun a ha => .inl (List.mem_cons_of_mem _ ha)
  · exact re0.mono (kd.d fm0)
end
section
variable {w : World} {β : Pm} {n : Nat} {sc : Scope} {ρ ρ' : PVs} {pos : Pos}
theorem gl_law_draws : nsIn (Kf w.params) mainGlobals (S "_law_draws") = some (some (.ref 585)) := by kernel_rfl
theorem Ev.g_law_draws (hk : sc.names.lookup (S "_law_draws") = some .globalImplicit) : Ev w β n sc ρ (.Name (S "_law_draws") pos) (.raw (.ref 585)) := Ev.glob hk gl_law_draws (by kernel_rfl)
theorem kg_law_draws : keepIn (Kf w.params) (.ref 585) = true := by kernel_rfl
theorem gl_law_ballots : nsIn (Kf w.params) mainGlobals (S "_law_ballots") = some (some (.ref 590)) := by kernel_rfl
theorem Ev.g_law_ballots (hk : sc.names.lookup (S "_law_ballots") = some .globalImplicit) : Ev w β n sc ρ (.Name (S "_law_ballots") pos) (.raw (.ref 590)) := Ev.glob hk gl_law_ballots (by kernel_rfl)
theorem kg_law_ballots : keepIn (Kf w.params) (.ref 590) = true := by kernel_rfl
theorem gl_law_within : nsIn (Kf w.params) mainGlobals (S "_law_within") = some (some (.ref 595)) := by kernel_rfl
theorem Ev.g_law_within (hk : sc.names.lookup (S "_law_within") = some .globalImplicit) : Ev w β n sc ρ (.Name (S "_law_within") pos) (.raw (.ref 595)) := Ev.glob hk gl_law_within (by kernel_rfl)
theorem kg_law_within : keepIn (Kf w.params) (.ref 595) = true := by kernel_rfl
theorem gl_law_score : nsIn (Kf w.params) mainGlobals (S "_law_score") = some (some (.ref 600)) := by kernel_rfl
theorem Ev.g_law_score (hk : sc.names.lookup (S "_law_score") = some .globalImplicit) : Ev w β n sc ρ (.Name (S "_law_score") pos) (.raw (.ref 600)) := Ev.glob hk gl_law_score (by kernel_rfl)
theorem kg_law_score : keepIn (Kf w.params) (.ref 600) = true := by kernel_rfl
theorem gl_law_gives : nsIn (Kf w.params) mainGlobals (S "_law_gives") = some (some (.ref 605)) := by kernel_rfl
theorem Ev.g_law_gives (hk : sc.names.lookup (S "_law_gives") = some .globalImplicit) : Ev w β n sc ρ (.Name (S "_law_gives") pos) (.raw (.ref 605)) := Ev.glob hk gl_law_gives (by kernel_rfl)
theorem kg_law_gives : keepIn (Kf w.params) (.ref 605) = true := by kernel_rfl
theorem gl_law_neighbours : nsIn (Kf w.params) mainGlobals (S "_law_neighbours") = some (some (.ref 610)) := by kernel_rfl
theorem Ev.g_law_neighbours (hk : sc.names.lookup (S "_law_neighbours") = some .globalImplicit) : Ev w β n sc ρ (.Name (S "_law_neighbours") pos) (.raw (.ref 610)) := Ev.glob hk gl_law_neighbours (by kernel_rfl)
theorem kg_law_neighbours : keepIn (Kf w.params) (.ref 610) = true := by kernel_rfl
theorem gl_law_lifted : nsIn (Kf w.params) mainGlobals (S "_law_lifted") = some (some (.ref 617)) := by kernel_rfl
theorem Ev.g_law_lifted (hk : sc.names.lookup (S "_law_lifted") = some .globalImplicit) : Ev w β n sc ρ (.Name (S "_law_lifted") pos) (.raw (.ref 617)) := Ev.glob hk gl_law_lifted (by kernel_rfl)
theorem kg_law_lifted : keepIn (Kf w.params) (.ref 617) = true := by kernel_rfl
theorem glthiele_score : nsIn (Kf w.params) mainGlobals (S "thiele_score") = some (some (.ref 531)) := by kernel_rfl
theorem Ev.gthiele_score (hk : sc.names.lookup (S "thiele_score") = some .globalImplicit) : Ev w β n sc ρ (.Name (S "thiele_score") pos) (.raw (.ref 531)) := Ev.glob hk glthiele_score (by kernel_rfl)
theorem kgthiele_score : keepIn (Kf w.params) (.ref 531) = true := by kernel_rfl
theorem glcheck_EJR : nsIn (Kf w.params) mainGlobals (S "check_EJR") = some (some (.ref 310)) := by kernel_rfl
theorem Ev.gcheck_EJR (hk : sc.names.lookup (S "check_EJR") = some .globalImplicit) : Ev w β n sc ρ (.Name (S "check_EJR") pos) (.raw (.ref 310)) := Ev.glob hk glcheck_EJR (by kernel_rfl)
theorem kgcheck_EJR : keepIn (Kf w.params) (.ref 310) = true := by kernel_rfl
theorem gl_check_EJR_brute_force : nsIn (Kf w.params) mainGlobals (S "_check_EJR_brute_force") = some (some (.ref 317)) := by kernel_rfl
theorem Ev.g_check_EJR_brute_force (hk : sc.names.lookup (S "_check_EJR_brute_force") = some .globalImplicit) : Ev w β n sc ρ (.Name (S "_check_EJR_brute_force") pos) (.raw (.ref 317)) := Ev.glob hk gl_check_EJR_brute_force (by kernel_rfl)
theorem kg_check_EJR_brute_force : keepIn (Kf w.params) (.ref 317) = true := by kernel_rfl
theorem glget_marginal_scorefct : nsIn (Kf w.params) mainGlobals (S "get_marginal_scorefct") = some (some (.ref 524)) := by kernel_rfl
theorem Ev.gget_marginal_scorefct (hk : sc.names.lookup (S "get_marginal_scorefct") = some .globalImplicit) : Ev w β n sc ρ (.Name (S "get_marginal_scorefct") pos) (.raw (.ref 524)) := Ev.glob hk glget_marginal_scorefct (by kernel_rfl)
theorem kgget_marginal_scorefct : keepIn (Kf w.params) (.ref 524) = true := by kernel_rfl
theorem glpav_score_fct : nsIn (Kf w.params) mainGlobals (S "pav_score_fct") = some (some (.ref 545)) := by kernel_rfl
theorem Ev.gpav_score_fct (hk : sc.names.lookup (S "pav_score_fct") = some .globalImplicit) : Ev w β n sc ρ (.Name (S "pav_score_fct") pos) (.raw (.ref 545)) := Ev.glob hk glpav_score_fct (by kernel_rfl)
theorem kgpav_score_fct : keepIn (Kf w.params) (.ref 545) = true := by kernel_rfl
theorem glfraction_parts : nsIn (Kf w.params) mainGlobals (S "fraction_parts") = some (some (.ref 154)) := by kernel_rfl
theorem Ev.gfraction_parts (hk : sc.names.lookup (S "fraction_parts") = some .globalImplicit) : Ev w β n sc ρ (.Name (S "fraction_parts") pos) (.raw (.ref 154)) := Ev.glob hk glfraction_parts (by kernel_rfl)
theorem kgfraction_parts : keepIn (Kf w.params) (.ref 154) = true := by kernel_rfl
theorem gl_is_int : nsIn (Kf w.params) mainGlobals (S "_is_int") = some (some (.ref 93)) := by kernel_rfl
theorem Ev.g_is_int (hk : sc.names.lookup (S "_is_int") = some .globalImplicit) : Ev w β n sc ρ (.Name (S "_is_int") pos) (.raw (.ref 93)) := Ev.glob hk gl_is_int (by kernel_rfl)
theorem gl_whole : nsIn (Kf w.params) mainGlobals (S "_whole") = some (some (.ref 100)) := by kernel_rfl
theorem Ev.g_whole (hk : sc.names.lookup (S "_whole") = some .globalImplicit) : Ev w β n sc ρ (.Name (S "_whole") pos) (.raw (.ref 100)) := Ev.glob hk gl_whole (by kernel_rfl)
theorem kg_whole : keepIn (Kf w.params) (.ref 100) = true := by kernel_rfl
theorem gl_picked : nsIn (Kf w.params) mainGlobals (S "_picked") = some (some (.ref 107)) := by kernel_rfl
theorem Ev.g_picked (hk : sc.names.lookup (S "_picked") = some .globalImplicit) : Ev w β n sc ρ (.Name (S "_picked") pos) (.raw (.ref 107)) := Ev.glob hk gl_picked (by kernel_rfl)
theorem kg_picked : keepIn (Kf w.params) (.ref 107) = true := by kernel_rfl
theorem glProfile : nsIn (Kf w.params) mainGlobals (S "Profile") = some (some (.ref 453)) := by kernel_rfl
theorem Ev.gProfile (hk : sc.names.lookup (S "Profile") = some .globalImplicit) : Ev w β n sc ρ (.Name (S "Profile") pos) (.raw (.ref 453)) := Ev.glob hk glProfile (by kernel_rfl)
theorem kgProfile : keepIn (Kf w.params) (.ref 453) = true := by kernel_rfl
theorem glVoter : nsIn (Kf w.params) mainGlobals (S "Voter") = some (some (.ref 490)) := by kernel_rfl
theorem Ev.gVoter (hk : sc.names.lookup (S "Voter") = some .globalImplicit) : Ev w β n sc ρ (.Name (S "Voter") pos) (.raw (.ref 490)) := Ev.glob hk glVoter (by kernel_rfl)
theorem kgVoter : keepIn (Kf w.params) (.ref 490) = true := by kernel_rfl
theorem glCandidateSet : nsIn (Kf w.params) mainGlobals (S "CandidateSet") = some (some (.ref 75)) := by kernel_rfl
theorem Ev.gCandidateSet (hk : sc.names.lookup (S "CandidateSet") = some .globalImplicit) : Ev w β n sc ρ (.Name (S "CandidateSet") pos) (.raw (.ref 75)) := Ev.glob hk glCandidateSet (by kernel_rfl)
theorem kgCandidateSet : keepIn (Kf w.params) (.ref 75) = true := by kernel_rfl
theorem glFraction : nsIn (Kf w.params) mainGlobals (S "Fraction") = some (some (.ref 298)) := by kernel_rfl
theorem Ev.gFraction (hk : sc.names.lookup (S "Fraction") = some .globalImplicit) : Ev w β n sc ρ (.Name (S "Fraction") pos) (.raw (.ref 298)) := Ev.glob hk glFraction (by kernel_rfl)
theorem kgFraction : keepIn (Kf w.params) (.ref 298) = true := by kernel_rfl
theorem glcombinations : nsIn (Kf w.params) mainGlobals (S "combinations") = some (some (.ref 140)) := by kernel_rfl
theorem Ev.gcombinations (hk : sc.names.lookup (S "combinations") = some .globalImplicit) : Ev w β n sc ρ (.Name (S "combinations") pos) (.raw (.ref 140)) := Ev.glob hk glcombinations (by kernel_rfl)
theorem kgcombinations : keepIn (Kf w.params) (.ref 140) = true := by kernel_rfl
theorem bn_sum : nsIn (Kf w.params) mainGlobals (S "sum") = some none := by kernel_rfl
theorem bi_sum : bootBuiltins (S "sum") = some (.builtin "sum") := by kernel_rfl
theorem Ev.b_sum (hk : sc.names.lookup (S "sum") = some .globalImplicit) : Ev w β n sc ρ (.Name (S "sum") pos) (.raw (.builtin "sum")) := Ev.bi hk bn_sum bi_sum (by decide +kernel) (by kernel_rfl)
theorem bn_len : nsIn (Kf w.params) mainGlobals (S "len") = some none := by kernel_rfl
theorem bi_len : bootBuiltins (S "len") = some (.builtin "len") := by kernel_rfl
theorem Ev.b_len (hk : sc.names.lookup (S "len") = some .globalImplicit) : Ev w β n sc ρ (.Name (S "len") pos) (.raw (.builtin "len")) := Ev.bi hk bn_len bi_len (by decide +kernel) (by kernel_rfl)
theorem bn_abs : nsIn (Kf w.params) mainGlobals (S "abs") = some none := by kernel_rfl
theorem bi_abs : bootBuiltins (S "abs") = some (.builtin "abs") := by kernel_rfl
theorem Ev.b_abs (hk : sc.names.lookup (S "abs") = some .globalImplicit) : Ev w β n sc ρ (.Name (S "abs") pos) (.raw (.builtin "abs")) := Ev.bi hk bn_abs bi_abs (by decide +kernel) (by kernel_rfl)
theorem bn_max : nsIn (Kf w.params) mainGlobals (S "max") = some none := by kernel_rfl
theorem bi_max : bootBuiltins (S "max") = some (.builtin "max") := by kernel_rfl
theorem Ev.b_max (hk : sc.names.lookup (S "max") = some .globalImplicit) : Ev w β n sc ρ (.Name (S "max") pos) (.raw (.builtin "max")) := Ev.bi hk bn_max bi_max (by decide +kernel) (by kernel_rfl)
theorem bn_sorted : nsIn (Kf w.params) mainGlobals (S "sorted") = some none := by kernel_rfl
theorem bi_sorted : bootBuiltins (S "sorted") = some (.builtin "sorted") := by kernel_rfl
theorem Ev.b_sorted (hk : sc.names.lookup (S "sorted") = some .globalImplicit) : Ev w β n sc ρ (.Name (S "sorted") pos) (.raw (.builtin "sorted")) := Ev.bi hk bn_sorted bi_sorted (by decide +kernel) (by kernel_rfl)
theorem bn_range : nsIn (Kf w.params) mainGlobals (S "range") = some none := by kernel_rfl
theorem bi_range : bootBuiltins (S "range") = some (.type "range") := by kernel_rfl
theorem Ev.b_range (hk : sc.names.lookup (S "range") = some .globalImplicit) : Ev w β n sc ρ (.Name (S "range") pos) (.raw (.type "range")) := Ev.bi hk bn_range bi_range (by decide +kernel) (by kernel_rfl)
theorem bn_isinstance : nsIn (Kf w.params) mainGlobals (S "isinstance") = some none := by kernel_rfl
theorem bi_isinstance : bootBuiltins (S "isinstance") = some (.builtin "isinstance") := by kernel_rfl
theorem Ev.b_isinstance (hk : sc.names.lookup (S "isinstance") = some .globalImplicit) : Ev w β n sc ρ (.Name (S "isinstance") pos) (.raw (.builtin "isinstance")) := Ev.bi hk bn_isinstance bi_isinstance (by decide +kernel) (by kernel_rfl)
theorem bn_int : nsIn (Kf w.params) mainGlobals (S "int") = some none := by kernel_rfl
theorem bi_int : bootBuiltins (S "int") = some (.type "int") := by kernel_rfl
theorem Ev.b_int (hk : sc.names.lookup (S "int") = some .globalImplicit) : Ev w β n sc ρ (.Name (S "int") pos) (.raw (.type "int")) := Ev.bi hk bn_int bi_int (by decide +kernel) (by kernel_rfl)
theorem bn_bool : nsIn (Kf w.params) mainGlobals (S "bool") = some none := by kernel_rfl
theorem bi_bool : bootBuiltins (S "bool") = some (.type "bool") := by kernel_rfl
theorem Ev.b_bool (hk : sc.names.lookup (S "bool") = some .globalImplicit) : Ev w β n sc ρ (.Name (S "bool") pos) (.raw (.type "bool")) := Ev.bi hk bn_bool bi_bool (by decide +kernel) (by kernel_rfl)
theorem bn_type : nsIn (Kf w.params) mainGlobals (S "type") = some none := by kernel_rfl
theorem bi_type : bootBuiltins (S "type") = some (.type "type") := by kernel_rfl
theorem Ev.b_type (hk : sc.names.lookup (S "type") = some .globalImplicit) : Ev w β n sc ρ (.Name (S "type") pos) (.raw (.type "type")) := Ev.bi hk bn_type bi_type (by decide +kernel) (by kernel_rfl)
theorem bn_tuple : nsIn (Kf w.params) mainGlobals (S "tuple") = some none := by kernel_rfl
theorem bi_tuple : bootBuiltins (S "tuple") = some (.type "tuple") := by kernel_rfl
theorem Ev.b_tuple (hk : sc.names.lookup (S "tuple") = some .globalImplicit) : Ev w β n sc ρ (.Name (S "tuple") pos) (.raw (.type "tuple")) := Ev.bi hk bn_tuple bi_tuple (by decide +kernel) (by kernel_rfl)
theorem bn_list : nsIn (Kf w.params) mainGlobals (S "list") = some none := by kernel_rfl
theorem bi_list : bootBuiltins (S "list") = some (.type "list") := by kernel_rfl
theorem Ev.b_list (hk : sc.names.lookup (S "list") = some .globalImplicit) : Ev w β n sc ρ (.Name (S "list") pos) (.raw (.type "list")) := Ev.bi hk bn_list bi_list (by decide +kernel) (by kernel_rfl)
theorem bn_set : nsIn (Kf w.params) mainGlobals (S "set") = some none := by kernel_rfl
theorem bi_set : bootBuiltins (S "set") = some (.type "set") := by kernel_rfl
theorem Ev.b_set (hk : sc.names.lookup (S "set") = some .globalImplicit) : Ev w β n sc ρ (.Name (S "set") pos) (.raw (.type "set")) := Ev.bi hk bn_set bi_set (by decide +kernel) (by kernel_rfl)
theorem bn_all : nsIn (Kf w.params) mainGlobals (S "all") = some none := by kernel_rfl
theorem bi_all : bootBuiltins (S "all") = some (.builtin "all") := by kernel_rfl
theorem Ev.b_all (hk : sc.names.lookup (S "all") = some .globalImplicit) : Ev w β n sc ρ (.Name (S "all") pos) (.raw (.builtin "all")) := Ev.bi hk bn_all bi_all (by decide +kernel) (by kernel_rfl)
theorem bn_any : nsIn (Kf w.params) mainGlobals (S "any") = some none := by kernel_rfl
theorem bi_any : bootBuiltins (S "any") = some (.builtin "any") := by kernel_rfl
theorem Ev.b_any (hk : sc.names.lookup (S "any") = some .globalImplicit) : Ev w β n sc ρ (.Name (S "any") pos) (.raw (.builtin "any")) := Ev.bi hk bn_any bi_any (by decide +kernel) (by kernel_rfl)
theorem bn_iter : nsIn (Kf w.params) mainGlobals (S "iter") = some none := by kernel_rfl
theorem bi_iter : bootBuiltins (S "iter") = some (.builtin "iter") := by kernel_rfl
theorem Ev.b_iter (hk : sc.names.lookup (S "iter") = some .globalImplicit) : Ev w β n sc ρ (.Name (S "iter") pos) (.raw (.builtin "iter")) := Ev.bi hk bn_iter bi_iter (by decide +kernel) (by kernel_rfl)
theorem bn_enumerate : nsIn (Kf w.params) mainGlobals (S "enumerate") = some none := by kernel_rfl
theorem bi_enumerate : bootBuiltins (S "enumerate") = some (.type "enumerate") := by kernel_rfl
theorem Ev.b_enumerate (hk : sc.names.lookup (S "enumerate") = some .globalImplicit) : Ev w β n sc ρ (.Name (S "enumerate") pos) (.raw (.type "enumerate")) := Ev.bi hk bn_enumerate bi_enumerate (by decide +kernel) (by kernel_rfl)
theorem bn_str : nsIn (Kf w.params) mainGlobals (S "str") = some none := by kernel_rfl
theorem bi_str : bootBuiltins (S "str") = some (.type "str") := by kernel_rfl
theorem Ev.b_str (hk : sc.names.lookup (S "str") = some .globalImplicit) : Ev w β n sc ρ (.Name (S "str") pos) (.raw (.type "str")) := Ev.bi hk bn_str bi_str (by decide +kernel) (by kernel_rfl)
theorem Evs.nil : Evs w β n sc ρ [] [] := trivial
noncomputable def plainE : Expr → Bool
  | .Starred .. => false
  | _ => true
theorem plainE_star {e : Expr} (h : plainE e = true) (env : Env) (rest : List Expr) : starEach (e :: rest) env = (false, eval e env) :: starEach rest env := by
  cases e <;> first | rfl | cases h
theorem Evs.cons {e : Expr} {es : List Expr} {p : PV} {ps : List PV} (hs : plainE e = true) (h : Ev w β n sc ρ e p) (t : Evs w β n sc ρ es ps) : Evs w β n sc ρ (e :: es) (p :: ps) := ⟨plainE_star hs, h, t⟩
theorem Ev.conv {e : Expr} {p p' : PV} (h : Ev w β n sc ρ e p) (q : p = p') : Ev w β n sc ρ e p' := q ▸ h
theorem Ev.compE {α : Type} {elt iter : Expr} {x : Str} {px : Pos} {ifs : List Expr} {scope : Scope} {pi r : PV} (xs : List α) (emb : α → PV) (p : α → Bool) (f : α → PV) (ck : compOk sc ρ scope x = true)
    (hi : Ev w β n sc ρ iter pi) (hx : pi.items = some (xs.map emb)) (hn : xs.length ≤ 1000000)
    (ht : ∀ (i : Nat) y, xs[i]? = some y → Tvs w β n scope ((x, emb y) :: ρ) ifs (p y))
    (he : ∀ (i : Nat) y, xs[i]? = some y → p y = true → Ev w β n scope ((x, emb y) :: ρ) elt (f y))
    (hr : PV.list ((xs.filter p).map f) = r)
    (hs : ∀ env x, foldedSetIterable iter env x = pure x := by intro _ _; rfl) :
    Ev w β n sc ρ (.ListComp elt [⟨.Name x px, iter, ifs, 0⟩] scope pos) r := Ev.conv (Ev.comp xs emb p f ck hi hx (Nat.le_trans hn (by decide)) ht he hs) hr
end
section
local macro_rules | `(tactic| walk_at "lk") => `(tactic| first | with_reducible exact lk_here | (refine lk_next (by kernel_rfl) ?_; walk_at "lk"))
local macro_rules | `(tactic| walk_at "e") => `(tactic| with_reducible first
  | exact Ev.int | exact Ev.bool | exact Ev.none | exact Ev.str
  | ((first | apply Ev.b_sum | apply Ev.b_len | apply Ev.b_abs | apply Ev.b_max | apply Ev.b_sorted | apply Ev.b_range | apply Ev.g_law_draws | apply Ev.gFraction | apply Ev.gfraction_parts | apply Ev.gCandidateSet | apply Ev.gVoter | apply Ev.gProfile | apply Ev.gcombinations | apply Ev.g_picked | apply Ev.g_whole | apply Ev.g_is_int | apply Ev.gget_marginal_scorefct | apply Ev.gpav_score_fct | apply Ev.g_check_EJR_brute_force | apply Ev.b_isinstance | apply Ev.b_int | apply Ev.b_type | apply Ev.b_tuple | apply Ev.b_list | apply Ev.b_set | apply Ev.b_iter | apply Ev.b_enumerate | apply Ev.b_all | apply Ev.b_any | apply Ev.b_str | apply Ev.g_law_ballots | apply Ev.g_law_within | apply Ev.g_law_score | apply Ev.g_law_gives | apply Ev.g_law_neighbours | apply Ev.g_law_lifted | apply Ev.gthiele_score | apply Ev.gcheck_EJR); kernel_rfl)
  | exact Ev.name (by kernel_rfl) (by walk_at "lk") (by kernel_rfl))
local macro_rules | `(tactic| walk_at "es") => `(tactic| first
  | with_reducible exact Evs.nil
  | (refine Evs.cons (by kernel_rfl) ?_ ?_; · walk_at "e"
     · walk_at "es"))
noncomputable abbrev lI (b : List Int) : PV := .list (iL b)
noncomputable def sc4 : List Int := [0, 6, 9, 11]
noncomputable def score (bs : List (List Int)) (com : List Int) : Int := (bs.map fun b => sc4.getD (b.filter (· ∈ com)).length 0).sum
section
variable {w : World} {β : Pm} {n : Nat} {sc : Scope} {ρ ρ' : PVs}
theorem ftrue {α : Type} (l : List α) : l.filter (fun _ => true) = l := List.filter_eq_self.mpr (by simp)
theorem sc4_at : ∀ k, k ≤ 3 → [PV.int 0, .int 6, .int 9, .int 11][k]? = some (.int (sc4.getD k 0))
  | 0, _ | 1, _ | 2, _ | 3, _ => rfl
  | k + 4, h => by omega
theorem sc4_le : ∀ k, 0 ≤ sc4.getD k 0 ∧ sc4.getD k 0 ≤ 1000000
  | 0 | 1 | 2 | 3 => by decide +kernel
  | k + 4 => by simp [sc4]
theorem Cl.conv {f : Value} {ps : List PV} {p p' : PV} (h : Cl w β n f ps p) (q : p = p') : Cl w β n f ps p' := q ▸ h
theorem cl_score {bs : List (List Int)} {com : List Int} (h1 : bs.length ≤ 1000) (h2 : ∀ b ∈ bs, b.length ≤ 1000 ∧ (b.filter (· ∈ com)).length ≤ 3) :
    Cl w β (n + 1) (.ref 600) [.list (bs.map lI), lI com] (.int (score bs com)) := by
  refine cl_fn o600 [S "ballots", S "committee"] (by kernel_rfl) rfl (by kernel_rfl) ?_ (by kernel_rfl) (by kernel_rfl) (by kernel_rfl) rfl ?_
  · intro s vs h
    obtain ⟨a, b, rfl⟩ := len2 h
    exact BindsTo.of_eq (by with_unfolding_all rfl)
  show Sv _ _ _ _ [(S "committee", lI com), (S "ballots", .list (bs.map lI))] _ _
  with_unfolding_all refine Sv.last ?_
  refine S1.ret ?_
  refine Ev.callB (f := "sum") (ps := [.list (iL (bs.map fun b => sc4.getD (b.filter (· ∈ com)).length 0))]) (by walk_at "e") (Evs.cons (by kernel_rfl) ?_ Evs.nil) (by simp) (cl_sum (by simpa using h1) ?_)
  · refine Ev.compE bs lI (fun _ => true) (fun b => .int (sc4.getD (b.filter (· ∈ com)).length 0)) (by kernel_rfl) (pi := .list (bs.map lI)) (by walk_at "e") rfl (by omega) (fun _ _ _ => rfl) ?_ ?_
    · intro i y hy _
      have hb := h2 y (List.mem_of_getElem? hy)
      refine Ev.atT (xs := [.int 0, .int 6, .int 9, .int 11]) (k := (y.filter (· ∈ com)).length) ?_ (by omega) (Ev.tup (by decide) (by walk_at "es")) ?_
      · exact sc4_at _ hb.2
      · refine Ev.callB (f := "len") (ps := [lI (y.filter (· ∈ com))]) (by walk_at "e") (Evs.cons (by kernel_rfl) ?_ Evs.nil) (by simp) (Cl.conv (cl_len (by simp [iL]; omega)) (by simp [iL]))
        refine Ev.compE y .int (fun c => decide (c ∈ com)) .int (by kernel_rfl) (pi := lI y) (by walk_at "e") rfl (by omega) ?_ ?_ rfl
        · intro i c hc
          exact Tv.cmp (by walk_at "e") (by walk_at "e") (co_in rfl)
        · intro i c hc _
          walk_at "e"
    · rw [ftrue]; simp [iL, Function.comp_def]
  · intro x hx
    obtain ⟨b, hb, rfl⟩ := List.mem_map.mp hx
    exact sc4_le _
noncomputable def bal (m : Nat) (d : Int) : List Int := ((List.range m).filter fun c => decide ((d.fdiv (2 ^ c)).fmod 2 = 1)).map fun (c : Nat) => (c : Int)
theorem pw_at : ∀ k : Nat, k ≤ 5 → [PV.int 1, .int 2, .int 4, .int 8, .int 16, .int 32][k]? = some (.int (2 ^ k))
  | 0, _ | 1, _ | 2, _ | 3, _ | 4, _ | 5, _ => rfl
  | k + 6, h => by omega
theorem small_div {a b : Int} (h : b.natAbs < 1073741824) : Builtin.divisionGoesByPylong a b = false := PyProof.noPylong_small h
theorem cl_ballots {ds : List Int} {m : Nat} (h1 : ds.length ≤ 1000) (hm : m ≤ 5) : Cl w β (n + 1) (.ref 590) [lI ds, .int m] (.list ((ds.map (bal m)).map lI)) := by
  refine cl_fn o590 [S "draws", S "m"] (by kernel_rfl) rfl (by kernel_rfl) ?_ (by kernel_rfl) (by kernel_rfl) (by kernel_rfl) rfl ?_
  · intro s vs h
    obtain ⟨a, b, rfl⟩ := len2 h
    exact BindsTo.of_eq (by with_unfolding_all rfl)
  show Sv _ _ _ _ [(S "m", .int m), (S "draws", lI ds)] _ _
  with_unfolding_all refine Sv.last ?_
  refine S1.ret ?_
  refine Ev.compE ds .int (fun _ => true) (fun d => lI (bal m d)) (by kernel_rfl) (pi := lI ds) (by walk_at "e") rfl (by omega) (fun _ _ _ => rfl) ?_ (by rw [ftrue, List.map_map]; rfl)
  intro i d _ _
  refine Ev.compE (List.range m) (fun (c : Nat) => .int c) (fun c => decide ((d.fdiv (2 ^ c)).fmod 2 = 1)) (fun c => .int c) (by kernel_rfl) (pi := .rng 0 m) ?_ (by simp [PV.items]) (by simp; omega) ?_ ?_ (by simp [bal, iL])
  · exact Ev.callT (f := "range") (ps := [.int m]) (by walk_at "e") (by walk_at "es") (by simp) (cl_range1 (by simp) (by omega))
  · intro j c hc
    have hc5 : c < m := by have := List.mem_of_getElem? hc; simpa using this
    refine Tv.cmp (a := .int ((d.fdiv (2 ^ c)).fmod 2)) (Ev.mod (by decide) (Ev.fdiv ?_ ?_ (by walk_at "e") (Ev.atT (xs := [.int 1, .int 2, .int 4, .int 8, .int 16, .int 32]) (pw_at c (by omega)) (by omega) (Ev.tup (by decide) (by walk_at "es")) (by walk_at "e"))) (by walk_at "e")) (by walk_at "e") (co_eq rfl)
    · have : (0 : Int) < 2 ^ c := Int.pow_pos (by decide)
      omega
    · refine small_div ?_
      have : c ≤ 5 := by omega
      have h6 : ∀ k : Nat, k ≤ 5 → ((2 : Int) ^ k).natAbs < 1073741824
        | 0, _ | 1, _ | 2, _ | 3, _ | 4, _ | 5, _ => by decide
        | k + 6, h => by omega
      exact h6 c this
  · intro j c hc _
    walk_at "e"
end
section
variable {w : World} {β : Pm} {n : Nat} {sc : Scope} {ρ ρ' : PVs}
theorem Sv.asg {x : Str} {xp pos : Pos} {e : Expr} {rest : List Stmt} {r : PVs ⊕ PV} (p : PV) (hk : sc.names.lookup x = some .local ∨ sc.names.lookup x = some .cell) (h1 : Ev w β n sc ρ e p) (h2 : Sv w β n sc ((x, p) :: ρ) rest r)
    (hs : ∀ env : Env, env.kindOf x = sc.names.lookup x → swapsWith e (some (.Name x xp)) pos.line env = pure false := by intro _ _; rfl) : Sv w β n sc ρ (.Assign [.Name x xp] e pos :: rest) r :=
  Sv.cons (S1.assign hk h1 hs) h2
theorem snoc_ind {α : Type} {P : List α → Prop} (h0 : P []) (h1 : ∀ cs c, P cs → P (cs ++ [c])) : ∀ l, P l := by
  intro l
  rw [← List.reverse_reverse l]
  induction l.reverse with
  | nil => exact h0
  | cons c cs ih => rw [List.reverse_cons]; exact h1 _ _ ih
noncomputable def rws (sc : List Int) : List Int := sc.map (fun x => (x.natAbs : Int)) ++ [5]
noncomputable def drw (sc : List Int) (k : Nat) : Int := (((rws sc).getD (k % (rws sc).length) 0).fdiv (1 + (k / (rws sc).length : Nat))).fmod 1000003 + 11 * k
noncomputable def drws (sc : List Int) (many : Nat) : List Int := (List.range many).map (drw sc)
theorem rws_len (sc : List Int) : (rws sc).length = sc.length + 1 := by simp [rws]
theorem cl_draws {xs : List Int} {many : Nat} (h1 : xs.length ≤ 1000) (hm : many ≤ 100) : Cl w β (n + 1) (.ref 585) [lI xs, .int many] (lI (drws xs many)) := by
  refine cl_fn o585 [S "script", S "many"] (by kernel_rfl) rfl (by kernel_rfl) ?_ (by kernel_rfl) (by kernel_rfl) (by kernel_rfl) rfl ?_
  · intro s vs h
    obtain ⟨a, b, rfl⟩ := len2 h
    exact BindsTo.of_eq (by with_unfolding_all rfl)
  show Sv _ _ _ _ [(S "many", .int many), (S "script", lI xs)] _ _
  with_unfolding_all refine Sv.asg (lI (rws xs)) (.inr (by kernel_rfl)) ?_ ?_
  · refine Ev.conv (Ev.cat (a := xs.map fun x => .int x.natAbs) (b := [.int 5]) (by simp [sizeLine]; omega) ?_ (Ev.disp (by decide) (by walk_at "es"))) (by simp [rws, iL, Function.comp_def])
    refine Ev.compE xs .int (fun _ => true) (fun x => .int x.natAbs) (by kernel_rfl) (pi := lI xs) (by walk_at "e") rfl (by omega) (fun _ _ _ => rfl) ?_ (by rw [ftrue])
    intro i x _ _
    exact Ev.callB (f := "abs") (ps := [.int x]) (by walk_at "e") (by walk_at "es") (by simp) cl_abs
  have hl := rws_len xs
  have hlen : ∀ {x : PV}, Cl w β n (.builtin "len") [lI (rws xs)] (.int ((rws xs).length : Nat)) := fun {_} => Cl.conv (cl_len (by simp [iL]; omega)) (by simp [iL])
  refine Sv.last (S1.ret ?_)
  refine Ev.compE (List.range many) (fun (k : Nat) => .int k) (fun _ => true) (fun k => .int (drw xs k)) (by kernel_rfl) (pi := .rng 0 many) ?_ (by simp [PV.items]) (by simp; omega) (fun _ _ _ => rfl) ?_ (by rw [ftrue]; simp [drws, iL, Function.comp_def])
  · exact Ev.callT (f := "range") (ps := [.int many]) (by walk_at "e") (by walk_at "es") (by simp) (cl_range1 (by simp) (by omega))
  · intro i k hk _
    have hk' : k < many := by have := List.mem_of_getElem? hk; simpa using this
    have call : ∀ {sc' : Scope} {ρ' : PVs} {p1 p2 p3 : Pos}, Ev w β n sc' ρ' (.Name (S "len") p1) (.raw (.builtin "len")) → Ev w β n sc' ρ' (.Name (S "rows") p2) (lI (rws xs)) → Ev w β n sc' ρ' (.Call (.Name (S "len") p1) [.Name (S "rows") p2] [] p3) (.int ((rws xs).length : Nat)) :=
      fun a b => Ev.callB (f := "len") a (Evs.cons (by kernel_rfl) b Evs.nil) (by simp) (hlen (x := .int 0))
    refine Ev.add (a := (((rws xs).getD (k % (rws xs).length) 0).fdiv (1 + (k / (rws xs).length : Nat))).fmod 1000003) (b := 11 * k) (Ev.mod (by decide) (Ev.fdiv ?_ ?_ ?_ ?_) (by walk_at "e")) (Ev.mul (IntMulOk.of_left (by decide +kernel)) (by walk_at "e") (by walk_at "e"))
    · have := Int.natCast_nonneg (k / (rws xs).length)
      generalize ((k / (rws xs).length : Nat) : Int) = q at this ⊢
      omega
    · refine small_div ?_
      have : k / (rws xs).length ≤ k := Nat.div_le_self _ _
      generalize k / (rws xs).length = q at this ⊢
      omega
    · refine Ev.at (xs := iL (rws xs)) (k := k % (rws xs).length) ?_ ?_ (by walk_at "e") (Ev.conv (Ev.mod (a := k) (b := (rws xs).length) (by omega) (by walk_at "e") (call (by walk_at "e") (by walk_at "e"))) (by rw [← Int.ofNat_fmod]))
      · have := Nat.mod_lt k (show 0 < (rws xs).length by omega)
        rw [List.getElem?_map, List.getElem?_eq_getElem this, List.getD_eq_getElem?_getD, List.getElem?_eq_getElem this]; rfl
      · have := Nat.mod_lt k (show 0 < (rws xs).length by omega)
        omega
    · refine Ev.add (by walk_at "e") (Ev.conv (Ev.fdiv (a := k) (b := (rws xs).length) (by omega) (small_div (by omega)) (by walk_at "e") (call (by walk_at "e") (by walk_at "e"))) (by rw [← Int.ofNat_fdiv]))
noncomputable def wi (cs : List Int) : List (List Int) := cs.foldl (fun F c => F ++ F.map (· ++ [c])) [[]]
theorem wi_snoc (cs : List Int) (c : Int) : wi (cs ++ [c]) = wi cs ++ (wi cs).map (· ++ [c]) := by simp [wi]
theorem wi_len : ∀ cs : List Int, (wi cs).length = 2 ^ cs.length := by
  refine snoc_ind rfl fun cs c ih => ?_
  rw [wi_snoc, List.length_append, List.length_map, ih, List.length_append, List.length_singleton, Nat.pow_succ]; omega
theorem wi_each : ∀ (cs : List Int), ∀ g ∈ wi cs, g.length ≤ cs.length ∧ ∀ x ∈ g, x ∈ cs := by
  refine snoc_ind (fun g hg => by simp [wi] at hg; subst hg; simp) fun cs c ih => ?_
  · intro g hg
    rw [wi_snoc] at hg
    rcases List.mem_append.mp hg with h | h
    · exact ⟨by simp; have := (ih g h).1; omega, fun x hx => List.mem_append_left _ ((ih g h).2 x hx)⟩
    · obtain ⟨f, hf, rfl⟩ := List.mem_map.mp h
      refine ⟨by simp; exact (ih f hf).1, fun x hx => ?_⟩
      rcases List.mem_append.mp hx with hx | hx
      · exact List.mem_append_left _ ((ih f hf).2 x hx)
      · exact List.mem_append_right _ hx
noncomputable def upto (k : Nat) : List Int := (List.range k).map fun (i : Nat) => (i : Int)
theorem cl_within {k : Nat} (hk : k ≤ 6) : Cl w β (n + 1) (.ref 595) [.rng 0 k] (.list ((wi (upto k)).map lI)) := by
  refine cl_fn o595 [S "rows"] (by kernel_rfl) rfl (by kernel_rfl) ?_ (by kernel_rfl) (by kernel_rfl) (by kernel_rfl) rfl ?_
  · intro s vs h
    obtain ⟨a, rfl⟩ := len1 h
    exact BindsTo.of_eq (by with_unfolding_all rfl)
  show Sv _ _ _ _ [(S "rows", .rng 0 k)] _ _
  with_unfolding_all refine Sv.asg (.list ((wi ((upto k).take 0)).map lI)) (.inl (by kernel_rfl)) ?_ ?_
  · exact Ev.conv (p := .list [.list []]) (Ev.disp (by decide) (Evs.cons (by kernel_rfl) (Ev.disp (by decide) Evs.nil) Evs.nil)) rfl
  have hlu : (upto k).length = k := by simp [upto]
  refine Sv.cons (ρ₁ := [(S "found", .list ((wi (upto k)).map lI)), (S "rows", .rng 0 k)]) ?_ (Sv.last (S1.ret (by walk_at "e")))
  refine S1.for (xs := (upto k).map .int) (fun i => [(S "found", .list ((wi ((upto k).take i)).map lI)), (S "rows", .rng 0 k)]) (fun _ => none) (.inr (by kernel_rfl)) (pi := .rng 0 k) (by walk_at "e") (by simp [PV.items, upto, Function.comp_def]) (by simp [hlu, sizeLine]; omega) ⟨by walk_at "lk", by walk_at "lk", trivial⟩ ?_ ?_ ?_
  · intro i y hy _
    rw [List.getElem?_map] at hy
    obtain ⟨c, hc, rfl⟩ := Option.map_eq_some_iff.mp hy
    have hi : i < k := by have := (List.getElem?_eq_some_iff.mp hc).1; omega
    have take : (upto k).take (i + 1) = (upto k).take i ++ [c] := by rw [List.take_add_one, hc]; rfl
    have sz : (wi ((upto k).take i)).length ≤ 64 := by
      rw [wi_len, List.length_take]
      exact Nat.le_trans (Nat.pow_le_pow_right (by decide) (show min i (upto k).length ≤ 6 by omega)) (by decide)
    refine Sv.sub (ρ₁ := (S "found", .list ((wi ((upto k).take (i + 1))).map lI)) :: (S "c", .int c) :: [(S "found", .list ((wi ((upto k).take i)).map lI)), (S "rows", .rng 0 k)]) (Sv.cons (S1.assign (.inl (by kernel_rfl)) ?_) Sv.nil) ⟨by walk_at "lk", by walk_at "lk", trivial⟩
    rw [take, wi_snoc, List.map_append]
    refine Ev.cat (by simp [sizeLine]; omega) (by walk_at "e") ?_
    refine Ev.compE (wi ((upto k).take i)) lI (fun _ => true) (fun g => lI (g ++ [c])) (by kernel_rfl) (pi := .list ((wi ((upto k).take i)).map lI)) (by walk_at "e") rfl (by omega) (fun _ _ _ => rfl) ?_ (by rw [ftrue, List.map_map]; rfl)
    intro j g hg _
    have hgl := (wi_each _ g (List.mem_of_getElem? hg)).1
    rw [List.length_take] at hgl
    refine Ev.conv (Ev.cat (a := iL g) (b := [.int c]) (by simp [iL, sizeLine]; omega) (by walk_at "e") (Ev.disp (by simp [sizeLine]) (by walk_at "es"))) (by simp [iL])
  · intro _
    rw [List.length_map, hlu, show (upto k).take k = upto k from List.take_of_length_le (by omega)]
  · intro i _ p _ h; cases h
end
section
variable {w : World} {β : Pm} {n : Nat} {sc : Scope} {ρ ρ' : PVs}
noncomputable def ins (x : Int) : List Int → List Int
  | [] => [x]
  | y :: r => if x ≤ y then x :: y :: r else y :: ins x r
noncomputable def srt : List Int → List Int
  | [] => []
  | x :: r => ins x (srt r)
theorem ins_perm (x : Int) : ∀ l, (ins x l).Perm (x :: l)
  | [] => .refl _
  | y :: r => by
    unfold ins; split
    · exact .refl _
    · exact ((ins_perm x r).cons y).trans (.swap _ _ _)
theorem srt_perm : ∀ l, (srt l).Perm l
  | [] => .refl _
  | x :: r => (ins_perm x (srt r)).trans ((srt_perm r).cons x)
theorem ins_pw (x : Int) : ∀ l : List Int, l.Pairwise (· ≤ ·) → (ins x l).Pairwise (· ≤ ·)
  | [], _ => by simp [ins]
  | y :: r, h => by
    unfold ins; split
    · rename_i hxy
      rw [List.pairwise_cons] at h ⊢
      refine ⟨fun z hz => ?_, List.pairwise_cons.mpr h⟩
      rcases mcs hz with rfl | hz
      · exact hxy
      · exact Int.le_trans hxy (h.1 z hz)
    · rename_i hxy
      rw [List.pairwise_cons] at h ⊢
      refine ⟨fun z hz => ?_, ins_pw x r h.2⟩
      rcases List.mem_cons.mp ((ins_perm x r).mem_iff.mp hz) with rfl | hz
      · omega
      · exact h.1 z hz
theorem srt_pw : ∀ l, (srt l).Pairwise (· ≤ ·)
  | [] => .nil
  | x :: r => ins_pw x _ (srt_pw r)
noncomputable def nb1 (com : List Int) (m : Nat) (old : Int) : List (List Int) := ((upto m).filter fun c => decide (c ∉ com)).map fun new => srt (com.filter (fun c => decide (c ≠ old)) ++ [new])
noncomputable def nbr (com : List Int) (m : Nat) : List (List Int) := com.flatMap (nb1 com m)
theorem upto_len (m : Nat) : (upto m).length = m := by simp [upto]
theorem rng_items (m : Nat) : (PV.rng 0 m).items = some ((upto m).map .int) := by simp [PV.items, upto, Function.comp_def]
theorem nb1_len (com : List Int) (m : Nat) (old : Int) : (nb1 com m old).length ≤ m := by
  unfold nb1
  rw [List.length_map]
  exact Nat.le_trans (List.length_filter_le _ _) (Nat.le_of_eq (upto_len m))
theorem nbr_len (cs com : List Int) (m : Nat) : (cs.flatMap (nb1 com m)).length ≤ cs.length * m := by
  induction cs with
  | nil => simp
  | cons c cs ih => rw [List.flatMap_cons, List.length_append, List.length_cons, Nat.succ_mul]; have := nb1_len com m c; omega
theorem cl_neighbours {com : List Int} {m : Nat} (h1 : com.length ≤ 10) (hm : m ≤ 10) : Cl w β (n + 1) (.ref 610) [lI com, .int m] (.list ((nbr com m).map lI)) := by
  refine cl_fn o610 [S "committee", S "m"] (by kernel_rfl) rfl (by kernel_rfl) ?_ (by kernel_rfl) (by kernel_rfl) (by kernel_rfl) rfl ?_
  · intro s vs h
    obtain ⟨a, b, rfl⟩ := len2 h
    exact BindsTo.of_eq (by with_unfolding_all rfl)
  show Sv _ _ _ _ [(S "m", .int m), (S "committee", lI com)] _ _
  with_unfolding_all refine Sv.asg (.list (((com.take 0).flatMap (nb1 com m)).map lI)) (.inl (by kernel_rfl)) ?_ ?_
  · exact Ev.conv (p := .list []) (Ev.disp (by decide) Evs.nil) rfl
  refine Sv.cons (ρ₁ := [(S "found", .list ((nbr com m).map lI)), (S "m", .int m), (S "committee", lI com)]) ?_ (Sv.last (S1.ret (by walk_at "e")))
  refine S1.for (xs := iL com) (fun i => [(S "found", .list (((com.take i).flatMap (nb1 com m)).map lI)), (S "m", .int m), (S "committee", lI com)]) (fun _ => none) (.inr (by kernel_rfl)) (pi := lI com) (by walk_at "e") rfl (by simp [iL, sizeLine]; omega) ⟨by walk_at "lk", by walk_at "lk", by walk_at "lk", trivial⟩ ?_ ?_ ?_
  · intro i y hy _
    rw [List.getElem?_map] at hy
    obtain ⟨c, hc, rfl⟩ := Option.map_eq_some_iff.mp hy
    have hi : i < com.length := (List.getElem?_eq_some_iff.mp hc).1
    have take : com.take (i + 1) = com.take i ++ [c] := by rw [List.take_add_one, hc]; rfl
    have sz : ((com.take i).flatMap (nb1 com m)).length ≤ 100 := by
      refine Nat.le_trans (nbr_len _ _ _) ?_
      have : (com.take i).length ≤ 10 := by rw [List.length_take]; omega
      exact Nat.mul_le_mul this hm
    refine Sv.sub (ρ₁ := (S "found", .list (((com.take (i + 1)).flatMap (nb1 com m)).map lI)) :: (S "old", .int c) :: [(S "found", .list (((com.take i).flatMap (nb1 com m)).map lI)), (S "m", .int m), (S "committee", lI com)]) (Sv.asg _ (.inl (by kernel_rfl)) ?_ Sv.nil) ⟨by walk_at "lk", by walk_at "lk", by walk_at "lk", trivial⟩
    rw [take, List.flatMap_append, List.map_append]
    have n1 := nb1_len com m c
    refine Ev.cat (b := (([c] : List Int).flatMap (nb1 com m)).map lI) (by simp [sizeLine] at sz ⊢; omega) (by walk_at "e") ?_
    rw [List.flatMap_singleton]
    refine Ev.compE (upto m) .int (fun x => decide (x ∉ com)) (fun new => lI (srt (com.filter (fun x => decide (x ≠ c)) ++ [new]))) (by kernel_rfl) (pi := .rng 0 m) ?_ (rng_items m) (by rw [upto_len]; omega) ?_ ?_ (by rw [nb1, List.map_map]; rfl)
    · exact Ev.callT (f := "range") (ps := [.int m]) (by walk_at "e") (by walk_at "es") (by simp) (cl_range1 (by simp) (by omega))
    · intro j x _
      exact Tv.cmp (by walk_at "e") (by walk_at "e") (co_notin rfl)
    · intro j x _ _
      have hf : (com.filter (fun x => decide (x ≠ c))).length ≤ com.length := List.length_filter_le _ _
      refine Ev.callB (f := "sorted") (ps := [lI (com.filter (fun x => decide (x ≠ c)) ++ [x])]) (by walk_at "e") (Evs.cons (by kernel_rfl) ?_ Evs.nil) (by simp) (cl_sorted (by rw [List.length_append]; simp only [List.length_singleton]; omega) (srt_perm _) (srt_pw _))
      refine Ev.conv (Ev.cat (a := iL (com.filter (fun x => decide (x ≠ c)))) (b := [.int x]) (by simp only [iL, List.length_map, List.length_singleton, sizeLine]; omega) ?_ (Ev.disp (by simp [sizeLine]) (by walk_at "es"))) (by simp [iL])
      refine Ev.compE com .int (fun x => decide (x ≠ c)) .int (by kernel_rfl) (pi := lI com) (by walk_at "e") rfl (by omega) ?_ ?_ rfl
      · intro j' x' _
        exact Tv.cmp (by walk_at "e") (by walk_at "e") (co_ne rfl)
      · intro j' x' _ _
        walk_at "e"
  · intro _
    simp only [iL, List.length_map]
    rw [show com.take com.length = com from List.take_length ..]
    rfl
  · intro i _ p _ h; cases h
noncomputable def better (bs : List (List Int)) (com : List Int) (s : List Int × Int) (o : List Int) : List Int × Int :=
  if 6 * (bs.length : Int) ≤ (score bs o - score bs com) * com.length * com.length ∧ s.2 < score bs o - score bs com then (o, score bs o - score bs com) else s
noncomputable def lifted (bs : List (List Int)) (m : Nat) (com : List Int) : List Int := ((nbr com m).foldl (better bs com) (com, 0)).1
end
noncomputable def e0 (sc : Scope) : Env := { scope := sc, locals := 0, globals := 0, cells := [] }
theorem sw_same {env env' : Env} {x y : Str} {xp yp tp : Pos} {k : Nat} {v : Expr} (hk : env.blockKind = env'.blockKind) (hx : env.kindOf x = env'.kindOf x) (hy : env.kindOf y = env'.kindOf y) :
    swappedStores [.Tuple [.Name x xp, .Name y yp] k tp] v env = swappedStores [.Tuple [.Name x xp, .Name y yp] k tp] v env' := by
  cases v <;> first
    | rfl
    | (unfold swappedStores; simp only [List.filterMap_cons, List.filterMap_nil, hk, hx, hy]; rfl)
section
variable {w : World} {β : Pm} {n : Nat} {sc : Scope} {ρ ρ' : PVs}
theorem S1.asg2 {x y : Str} {xp yp tp pos : Pos} {k : Nat} {e : Expr} (a b : PV) (hx : sc.names.lookup x = some .local ∨ sc.names.lookup x = some .cell) (hy : sc.names.lookup y = some .local ∨ sc.names.lookup y = some .cell) (hxy : (y == x) = false) (hsc : sc.kind = .function)
    (hw : swappedStores [.Tuple [.Name x xp, .Name y yp] k tp] e (e0 sc) = pure none ∨ swappedStores [.Tuple [.Name x xp, .Name y yp] k tp] e (e0 sc) = pure (some [x, y]))
    (h1 : Ev w β n sc ρ e (.tup [a, b]))
    (hs : ∀ env, swapsWithSole [.Tuple [.Name x xp, .Name y yp] k tp] e pos.line env = pure false := by intro _; rfl) :
    S1 w β n sc ρ (.Assign [.Tuple [.Name x xp, .Name y yp] k tp] e pos) (.inl ((x, a) :: (y, b) :: ρ)) :=
  S1.assign2 hx hy hxy h1 (fun env hk hx' hy' => by
    have : swappedStores [.Tuple [.Name x xp, .Name y yp] k tp] e env = swappedStores [.Tuple [.Name x xp, .Name y yp] k tp] e (e0 sc) := sw_same (by unfold Env.blockKind; rw [hk, show (e0 sc).scope.kind = .function from hsc]) hx' hy'
    rw [this]; exact hw) hs
theorem score_sc {bs : List (List Int)} {com : List Int} : 0 ≤ score bs com ∧ score bs com ≤ 11 * bs.length := by
  unfold score
  induction bs with
  | nil => simp
  | cons b bs ih =>
    have h : ∀ k, 0 ≤ sc4.getD k 0 ∧ sc4.getD k 0 ≤ 11
      | 0 | 1 | 2 | 3 => by decide +kernel
      | k + 4 => by simp [sc4]
    have := h (b.filter (· ∈ com)).length
    simp only [List.map_cons, List.sum_cons, List.length_cons]
    omega
structure BOk (bs : List (List Int)) (m : Nat) : Prop where
  n : bs.length ≤ 4
  m : m ≤ 4
  b : ∀ b ∈ bs, b.length ≤ 4
theorem cl_score' {bs : List (List Int)} {com : List Int} (B : BOk bs m) (h : com.length ≤ 3) (hd : ∀ b ∈ bs, (b.filter (· ∈ com)).length ≤ 3) : Cl w β (n + 1) (.ref 600) [.list (bs.map lI), lI com] (.int (score bs com)) :=
  cl_score (by have := B.n; omega) fun b hb => ⟨by have := B.b b hb; omega, hd b hb⟩
theorem cl_lifted {bs : List (List Int)} {m : Nat} {com : List Int} (B : BOk bs m) (hc : com.length ≤ 3) (hd : ∀ b ∈ bs, ∀ c ∈ com :: nbr com m, (b.filter (· ∈ c)).length ≤ 3) (hn : ∀ c ∈ nbr com m, c.length ≤ 3) :
    Cl w β (n + 2) (.ref 617) [.list (bs.map lI), .int m, lI com] (lI (lifted bs m com)) := by
  refine cl_fn o617 [S "ballots", S "m", S "committee"] (by kernel_rfl) rfl (by kernel_rfl) ?_ (by kernel_rfl) (by kernel_rfl) (by kernel_rfl) rfl ?_
  · intro s vs h
    obtain ⟨a, b, c, rfl⟩ := len3 h
    exact BindsTo.of_eq (by with_unfolding_all rfl)
  show Sv _ _ _ _ [(S "committee", lI com), (S "m", .int m), (S "ballots", .list (bs.map lI))] _ _
  have hbn := B.n
  have hm := B.m
  have st : ∀ i, (((nbr com m).take i).foldl (better bs com) (com, 0)).1.length ≤ 3 := by
    intro i
    have key : ∀ (l : List (List Int)) (s : List Int × Int), (∀ c ∈ l, c.length ≤ 3) → s.1.length ≤ 3 → (l.foldl (better bs com) s).1.length ≤ 3 := by
      intro l
      induction l with
      | nil => intro s _ h; exact h
      | cons o l ih =>
        intro s h1 h2
        refine ih _ (fun c hc => h1 c (List.mem_cons_of_mem _ hc)) ?_
        unfold better; split
        · exact h1 o (List.mem_cons_self ..)
        · exact h2
    exact key _ _ (fun c hc => hn c (List.mem_of_mem_take hc)) hc
  let F (i : Nat) : List Int × Int := ((nbr com m).take i).foldl (better bs com) (com, 0)
  with_unfolding_all refine Sv.cons (ρ₁ := (S "best", lI (F 0).1) :: (S "gain", .int (F 0).2) :: [(S "committee", lI com), (S "m", .int m), (S "ballots", .list (bs.map lI))]) ?_ ?_
  · exact S1.asg2 (lI com) (.int 0) (.inl (by kernel_rfl)) (.inl (by kernel_rfl)) (by kernel_rfl) (by kernel_rfl) (.inr (by kernel_rfl)) (Ev.tup (by simp [sizeLine]) (by walk_at "es"))
  refine Sv.cons (ρ₁ := (S "best", lI (F (nbr com m).length).1) :: (S "gain", .int (F (nbr com m).length).2) :: [(S "committee", lI com), (S "m", .int m), (S "ballots", .list (bs.map lI))]) ?_ ?_
  rotate_left 1
  · refine Sv.last (S1.ret (Ev.conv (p := lI (F (nbr com m).length).1) (by walk_at "e") ?_))
    show lI (((nbr com m).take (nbr com m).length).foldl (better bs com) (com, 0)).1 = _
    rw [List.take_length]; rfl
  refine S1.for (xs := (nbr com m).map lI) (fun i => (S "best", lI (F i).1) :: (S "gain", .int (F i).2) :: [(S "committee", lI com), (S "m", .int m), (S "ballots", .list (bs.map lI))]) (fun _ => none) (.inl (by kernel_rfl)) (pi := .list ((nbr com m).map lI)) ?_ rfl ?_ ⟨by walk_at "lk", by walk_at "lk", by walk_at "lk", by walk_at "lk", by walk_at "lk", trivial⟩ ?_ ?_ ?_
  · exact Ev.callR (f := .ref 610) kg_law_neighbours (by walk_at "e") (by walk_at "es") (cl_neighbours (by omega) (by omega))
  · rw [List.length_map]
    refine Nat.le_trans (nbr_len _ _ _) (Nat.le_trans (Nat.mul_le_mul hc hm) (by decide))
  · intro i y hy _
    rw [List.getElem?_map] at hy
    obtain ⟨o, ho, rfl⟩ := Option.map_eq_some_iff.mp hy
    have hom := List.mem_of_getElem? ho
    have take : F (i + 1) = better bs com (F i) o := by
      show ((nbr com m).take (i + 1)).foldl _ _ = _
      rw [List.take_add_one, ho, List.foldl_append]; rfl
    have s1 : ∀ {ρ'}, Ev w β (n + 1) (fdS (st1 37)) ρ' (.Name (S "ballots") default) (.int 0) → True := fun _ => trivial
    have so := score_sc (bs := bs) (com := o)
    have sk := score_sc (bs := bs) (com := com)
    refine Sv.asg (.int (score bs o - score bs com)) (.inl (by kernel_rfl)) (Ev.sub ?_ ?_) ?_
    · exact Ev.callR (f := .ref 600) kg_law_score (by walk_at "e") (by walk_at "es") (cl_score' B (hn o hom) fun b hb => hd b hb o (List.mem_cons_of_mem _ hom))
    · exact Ev.callR (f := .ref 600) kg_law_score (by walk_at "e") (by walk_at "es") (cl_score' B hc fun b hb => hd b hb com (List.mem_cons_self ..))
    have hlen : ∀ {xs : List PV}, xs.length ≤ 10 → Cl w β (n + 1) (.builtin "len") [.list xs] (.int (xs.length : Nat)) := fun h => cl_len (by omega)
    refine Sv.cons (ρ₁ := (S "best", lI (F (i + 1)).1) :: (S "gain", .int (F (i + 1)).2) :: [(S "committee", lI com), (S "m", .int m), (S "ballots", .list (bs.map lI))]) ?_ Sv.nil
    have ebnd : ((score bs o - score bs com) * com.length).natAbs ≤ 1000 := by
      have h44 : (score bs o - score bs com).natAbs ≤ 44 := by omega
      rw [Int.natAbs_mul, Int.natAbs_natCast]
      exact Nat.le_trans (Nat.mul_le_mul h44 hc) (by decide)
    refine S1.if (c := decide (6 * (bs.length : Int) ≤ (score bs o - score bs com) * com.length * com.length) && decide ((F i).2 < score bs o - score bs com)) (Tv.and ?_ fun _ => ?_) (fun hb => ?_) fun hb => ?_
    · refine Tv.cmp (a := .int ((score bs o - score bs com) * com.length * com.length)) (b := .int (6 * (bs.length : Int))) (Ev.mul ?_ (Ev.mul ?_ (by walk_at "e") ?_) ?_) (Ev.mul (IntMulOk.of_left (by decide +kernel)) (by walk_at "e") ?_) (co_ge rfl)
      · exact IntMulOk.of_right (intBits_le_64 (by omega) (by omega))
      · exact IntMulOk.of_right (intBits_le_64 (by omega) (by omega))
      · exact Ev.conv (Ev.callB (f := "len") (ps := [lI com]) (by walk_at "e") (by walk_at "es") (by simp) (hlen (by simp [iL]; omega))) (by simp [iL])
      · exact Ev.conv (Ev.callB (f := "len") (ps := [lI com]) (by walk_at "e") (by walk_at "es") (by simp) (hlen (by simp [iL]; omega))) (by simp [iL])
      · exact Ev.conv (Ev.callB (f := "len") (ps := [.list (bs.map lI)]) (by walk_at "e") (by walk_at "es") (by simp) (hlen (by simp; omega))) (by simp)
    · exact Tv.cmp (by walk_at "e") (by walk_at "e") (co_gt rfl)
    · rw [Bool.and_eq_true, decide_eq_true_eq, decide_eq_true_eq] at hb
      rw [take, better, if_pos hb]
      refine Sv.sub (Sv.cons (S1.asg2 (lI o) (.int (score bs o - score bs com)) (.inl (by kernel_rfl)) (.inl (by kernel_rfl)) (by kernel_rfl) (by kernel_rfl) (.inr (by kernel_rfl)) (Ev.tup (by simp [sizeLine]) (by walk_at "es"))) Sv.nil) ⟨by walk_at "lk", by walk_at "lk", by walk_at "lk", by walk_at "lk", by walk_at "lk", trivial⟩
    · have hb' : ¬ (6 * (bs.length : Int) ≤ (score bs o - score bs com) * com.length * com.length ∧ (F i).2 < score bs o - score bs com) := fun z => by
        rw [← decide_eq_true_eq (p := 6 * (bs.length : Int) ≤ (score bs o - score bs com) * com.length * com.length), ← decide_eq_true_eq (p := (F i).2 < score bs o - score bs com), ← Bool.and_eq_true] at z
        rw [hb] at z; cases z
      rw [take, better, if_neg hb']
      exact Sv.sub Sv.nil ⟨by walk_at "lk", by walk_at "lk", by walk_at "lk", by walk_at "lk", by walk_at "lk", trivial⟩
  · intro _
    rw [List.length_map]
  · intro i _ p _ h; cases h
end
noncomputable def at' (bs : List (List Int)) (v : Int) : List Int := bs.getD v.toNat []
noncomputable def shr (bs : List (List Int)) (m : Nat) (g : List Int) : List Int := (upto m).filter fun c => decide ((g.filter fun v => decide (c ∉ at' bs v)) = [])
noncomputable def cnt (bs : List (List Int)) (com : List Int) (v : Int) : Int := ((at' bs v).filter fun c => decide (c ∈ com)).length
noncomputable def maxI (l : List Int) : Int := l.foldl max 0
noncomputable def sts (bs : List (List Int)) (com g : List Int) : Int := maxI (g.map (cnt bs com))
noncomputable def upto1 (k : Nat) : List Int := (List.range k).map fun (i : Nat) => 1 + (i : Int)
noncomputable def bads (bs : List (List Int)) (m : Nat) (com g : List Int) : List Int :=
  (upto1 com.length).filter fun most => decide (most * bs.length ≤ (g.length : Int) * com.length) && (decide (most ≤ ((shr bs m g).length : Int)) && decide (sts bs com g < most))
noncomputable def gives (bs : List (List Int)) (m : Nat) (com : List Int) : Bool := ((wi (upto bs.length)).drop 1).all fun g => decide (bads bs m com g = [])
theorem maxI_spec {l : List Int} (h : l ≠ []) (h0 : ∀ x ∈ l, 0 ≤ x) : maxI l ∈ l ∧ ∀ x ∈ l, x ≤ maxI l := by
  have key : ∀ (l : List Int) (a : Int), (l.foldl max a = a ∨ l.foldl max a ∈ l) ∧ a ≤ l.foldl max a ∧ ∀ x ∈ l, x ≤ l.foldl max a := by
    intro l
    induction l with
    | nil => intro a; exact ⟨.inl rfl, Int.le_refl _, fun x hx => by cases hx⟩
    | cons y l ih =>
      intro a
      obtain ⟨i1, i2, i3⟩ := ih (max a y)
      rw [List.foldl_cons]
      refine ⟨?_, by omega, fun x hx => ?_⟩
      · rcases i1 with e | e
        · rw [e]
          rcases Int.le_total a y with z | z
          · rw [Int.max_eq_right z]; exact .inr (List.mem_cons_self ..)
          · rw [Int.max_eq_left z]; exact .inl rfl
        · exact .inr (List.mem_cons_of_mem _ e)
      · rcases mcs hx with rfl | hx
        · omega
        · exact i3 x hx
  obtain ⟨i1, i2, i3⟩ := key l 0
  refine ⟨?_, i3⟩
  rcases i1 with e | e
  · cases l with
    | nil => exact absurd rfl h
    | cons y l =>
      have a1 := i3 y (List.mem_cons_self ..)
      have a2 := h0 y (List.mem_cons_self ..)
      have : maxI (y :: l) = y := by show (y :: l).foldl max 0 = y; omega
      rw [this]; exact List.mem_cons_self ..
  · exact e
theorem wi_first : ∀ cs : List Int, ∃ t, wi cs = [] :: t ∧ ∀ g ∈ t, g ≠ [] := by
  refine snoc_ind ⟨[], rfl, fun g h => by cases h⟩ fun cs c ih => ?_
  obtain ⟨t, e, h⟩ := ih
  refine ⟨t ++ (wi cs).map (· ++ [c]), by rw [wi_snoc, e]; rfl, fun g hg => ?_⟩
  rcases List.mem_append.mp hg with hg | hg
  · exact h g hg
  · obtain ⟨f, _, rfl⟩ := List.mem_map.mp hg
    simp
theorem swaps_cell {elt : Expr} {gens : List Comprehension} {scope : Scope} {pos : Pos} {x : Str} {xp : Pos} {line : Nat} {env : Env} (h : env.kindOf x = some .cell) : swapsWith (.ListComp elt gens scope pos) (some (.Name x xp)) line env = pure false := by
  have e : (NameKind.cell == NameKind.local) = false := rfl
  unfold swapsWith
  simp [h, e]
section
variable {w : World} {β : Pm} {n : Nat} {sc : Scope} {ρ ρ' : PVs}
theorem rng1_items (k : Nat) : (PV.rng 1 k).items = some ((upto1 k).map .int) := by simp [PV.items, upto1, Function.comp_def]
theorem len_ev {sc : Scope} {ρ : PVs} {p1 p2 : Pos} {e : Expr} {xs : List PV} {k : Int} (hs : plainE e = true) (h1 : Ev w β n sc ρ (.Name (S "len") p1) (.raw (.builtin "len"))) (h2 : Ev w β n sc ρ e (.list xs)) (hx : xs.length ≤ 1000) (hk : (xs.length : Int) = k) :
    Ev w β n sc ρ (.Call (.Name (S "len") p1) [e] [] p2) (.int k) :=
  Ev.callB (f := "len") h1 (Evs.cons hs h2 Evs.nil) (by simp) (hk ▸ cl_len (by omega))
noncomputable def After (w : World) (β : Pm) (n : Nat) (sc : Scope) (rest : List Stmt) (r : PVs ⊕ PV) : PVs ⊕ PV → Prop
  | .inl ρ₁ => Sv w β n sc ρ₁ rest r
  | .inr p => r = .inr p
theorem Sv.cons' {st : Stmt} {rest : List Stmt} {r₁ r : PVs ⊕ PV} (h1 : S1 w β n sc ρ st r₁) (h2 : After w β n sc rest r r₁) : Sv w β n sc ρ (st :: rest) r := by
  cases r₁ with
  | inl ρ₁ => exact Sv.cons h1 h2
  | inr p =>
    have : r = .inr p := h2
    subst this; exact Sv.last h1
theorem EvO.some' {e : Expr} {i : Nat} (h : Ev w β n sc ρ e (.int i)) : EvO w β n sc ρ (some e) (some i) := h
theorem EvO.none' : EvO w β n sc ρ none none := trivial
theorem Sv.for {x : Str} {px pos : Pos} {iter : Expr} {body rest : List Stmt} {pi : PV} {xs : List PV} {r : PVs ⊕ PV} (ρs : Nat → PVs) (b : Nat → Option PV) (hk : sc.names.lookup x = some .local ∨ sc.names.lookup x = some .cell)
    (h1 : Ev w β n sc ρ iter pi) (hx : pi.items = some xs) (hn : xs.length ≤ sizeLine) (h0 : PSub (ρs 0) ρ)
    (hb : ∀ (i : Nat) y, xs[i]? = some y → (∀ j < i, b j = none) → Sv w β n sc ((x, y) :: ρs i) body (match b i with | none => .inl (ρs (i + 1)) | some p => .inr p))
    (hr : (∀ i < xs.length, b i = none) → Sv w β n sc (ρs xs.length) rest r) (hr' : ∀ i < xs.length, ∀ p, (∀ j < i, b j = none) → b i = some p → r = .inr p)
    (hs : ∀ env x, foldedSetIterable iter env x = pure x := by intro _ _; rfl) : Sv w β n sc ρ (.For (.Name x px) iter body [] pos :: rest) r := by
  by_cases hall : ∀ i < xs.length, b i = none
  · exact Sv.cons (S1.for ρs b hk h1 hx hn h0 hb (fun _ => rfl) (fun i hi p _ e => by rw [hall i hi] at e; cases e) hs) (hr hall)
  · obtain ⟨i, hi, p, hp, hj⟩ : ∃ i, i < xs.length ∧ ∃ p, b i = some p ∧ ∀ j < i, b j = none := by
      have ex : ∃ i, i < xs.length ∧ b i ≠ none := by
        refine Classical.byContradiction fun h => hall fun i hi => Classical.byContradiction fun h' => h ⟨i, hi, h'⟩
      obtain ⟨i, hi⟩ := ex
      have : ∀ i, (i < xs.length ∧ b i ≠ none) → ∃ i, i < xs.length ∧ ∃ p, b i = some p ∧ ∀ j < i, b j = none := by
        intro i
        induction i using Nat.strongRecOn with
        | _ i ih =>
          rintro ⟨hi, hb⟩
          by_cases h : ∃ j, j < i ∧ b j ≠ none
          · obtain ⟨j, hj, hbj⟩ := h
            exact ih j hj ⟨Nat.lt_trans hj hi, hbj⟩
          · obtain ⟨p, hp⟩ := Option.ne_none_iff_exists'.mp hb
            exact ⟨i, hi, p, hp, fun j hj => Classical.byContradiction fun h' => h ⟨j, hj, h'⟩⟩
      exact this i hi
    have e := hr' i hi p hj hp
    subst e
    refine Sv.last (S1.for ρs b hk h1 hx hn h0 hb (fun h => absurd h hall) (fun i' hi' p' hj' hp' => ?_) hs)
    have := hr' i' hi' p' hj' hp'
    exact this
theorem cl_gives {bs : List (List Int)} {m : Nat} {com : List Int} (B : BOk bs m) (hc : com.length ≤ 3) : Cl w β (n + 2) (.ref 605) [.list (bs.map lI), .int m, lI com] (.bool (gives bs m com)) := by
  refine cl_fn o605 [S "ballots", S "m", S "committee"] (by kernel_rfl) rfl (by kernel_rfl) ?_ (by kernel_rfl) (by kernel_rfl) (by kernel_rfl) rfl ?_
  · intro s vs h
    obtain ⟨a, b, c, rfl⟩ := len3 h
    exact BindsTo.of_eq (by with_unfolding_all rfl)
  show Sv _ _ _ _ [(S "committee", lI com), (S "m", .int m), (S "ballots", .list (bs.map lI))] _ _
  have hbn := B.n
  have hm := B.m
  obtain ⟨t, et, ht⟩ := wi_first (upto bs.length)
  have hwl : (wi (upto bs.length)).length ≤ 16 := by
    rw [wi_len, upto_len]; exact Nat.le_trans (Nat.pow_le_pow_right (by decide) hbn) (by decide)
  have ed : (wi (upto bs.length)).drop 1 = t := by rw [et]; rfl
  have hg : ∀ g ∈ t, g ≠ [] ∧ g.length ≤ 4 ∧ ∀ x ∈ g, ∃ j : Nat, x = (j : Int) ∧ j < bs.length := fun g hg => by
    have := wi_each (upto bs.length) g (by rw [et]; exact List.mem_cons_of_mem _ hg)
    rw [upto_len] at this
    refine ⟨ht g hg, by omega, fun x hx => ?_⟩
    have hx' := this.2 x hx
    obtain ⟨j, hj, rfl⟩ := List.mem_map.mp hx'
    exact ⟨j, rfl, by simpa using hj⟩
  let ρ0 : PVs := (S "k", .int (com.length : Nat)) :: (S "n", .int (bs.length : Nat)) :: [(S "committee", lI com), (S "m", .int m), (S "ballots", .list (bs.map lI))]
  with_unfolding_all refine Sv.cons (ρ₁ := ρ0) ?_ ?_
  · refine S1.asg2 (.int (com.length : Nat)) (.int (bs.length : Nat)) (.inr (by kernel_rfl)) (.inr (by kernel_rfl)) (by kernel_rfl) (by kernel_rfl) (.inl (by kernel_rfl)) (Ev.tup (by simp [sizeLine]) (Evs.cons (by kernel_rfl) ?_ (Evs.cons (by kernel_rfl) ?_ Evs.nil)))
    · exact len_ev (by kernel_rfl) (by walk_at "e") (by walk_at "e") (by simp [iL]; omega) (by simp [iL])
    · exact len_ev (by kernel_rfl) (by walk_at "e") (by walk_at "e") (by simp; omega) (by simp)
  refine Sv.for (xs := t.map lI) (fun _ => ρ0) (fun i => if bads bs m com (t.getD i []) = [] then none else some (.bool false)) (.inr (by kernel_rfl)) (pi := .list (t.map lI)) ?_ rfl ?_ ⟨by walk_at "lk", by walk_at "lk", by walk_at "lk", by walk_at "lk", by walk_at "lk", trivial⟩ ?_ ?_ ?_
  · refine Ev.conv (Ev.slice (xs := (wi (upto bs.length)).map lI) (a := some 1) (b := none) (by simp [sizeLine]; omega) (Ev.callR (f := .ref 595) kg_law_within (by walk_at "e") (Evs.cons (by kernel_rfl) ?_ Evs.nil) (cl_within (by omega))) (EvO.some' (Ev.conv Ev.int rfl)) EvO.none') ?_
    · exact Ev.callT (f := "range") (ps := [.int (bs.length : Nat)]) (by walk_at "e") (by walk_at "es") (by simp) (cl_range1 (by simp) (by omega))
    · rw [← ed, List.map_drop]
      have h1 : 1 ≤ ((wi (upto bs.length)).map lI).length := by rw [List.length_map, et]; simp
      show PV.list ((((wi (upto bs.length)).map lI).drop (min 1 _)).take _) = _
      rw [Nat.min_eq_left h1]
      show PV.list ((((wi (upto bs.length)).map lI).drop 1).take (((wi (upto bs.length)).map lI).length - min 1 ((wi (upto bs.length)).map lI).length)) = _
      rw [Nat.min_eq_left h1, ← List.length_drop, List.take_length]
  · have : t.length ≤ 16 := by rw [et] at hwl; simp at hwl; omega
    simp [sizeLine]; omega
  · intro i y hy _
    rw [List.getElem?_map] at hy
    obtain ⟨g, hgi, rfl⟩ := Option.map_eq_some_iff.mp hy
    obtain ⟨hne, hgl, hgx⟩ := hg g (List.mem_of_getElem? hgi)
    have eg : t.getD i [] = g := by rw [List.getD_eq_getElem?_getD, hgi]; rfl
    simp only [eg]
    have hat : ∀ j : Nat, j < bs.length → (bs.map lI)[j]? = some (lI (at' bs j)) := fun j hj => by
      rw [List.getElem?_map, List.getElem?_eq_getElem hj]
      show some (lI bs[j]) = some (lI (bs.getD (j : Int).toNat []))
      rw [Int.toNat_natCast, List.getD_eq_getElem?_getD, List.getElem?_eq_getElem hj]; rfl
    have hal : ∀ x ∈ g, (at' bs x).length ≤ 4 := fun x hx => by
      obtain ⟨j, rfl, hj⟩ := hgx x hx
      have : at' bs (j : Int) = bs[j] := by
        show bs.getD (j : Int).toNat [] = _
        rw [Int.toNat_natCast, List.getD_eq_getElem?_getD, List.getElem?_eq_getElem hj]; rfl
      rw [this]; exact B.b _ (List.getElem_mem hj)
    have hrg : ∀ {sc' : Scope} {ρ' : PVs} {p1 p2 p3 : Pos}, Ev w β (n + 1) sc' ρ' (.Name (S "range") p1) (.raw (.type "range")) → Ev w β (n + 1) sc' ρ' (.Name (S "m") p2) (.int m) → Ev w β (n + 1) sc' ρ' (.Call (.Name (S "range") p1) [.Name (S "m") p2] [] p3) (.rng 0 m) :=
      fun a b => Ev.callT (f := "range") (ps := [.int m]) a (Evs.cons (by kernel_rfl) b Evs.nil) (by simp) (cl_range1 (by simp) (by omega))
    refine Sv.asg (lI (shr bs m g)) (.inr (by kernel_rfl)) ?_ (Sv.asg (.int (sts bs com g)) (.inr (by kernel_rfl)) ?_ ?_) ?_
    · refine Ev.compE (upto m) .int (fun c => decide ((g.filter fun v => decide (c ∉ at' bs v)) = [])) .int (by kernel_rfl) (pi := .rng 0 m) (hrg (by walk_at "e") (by walk_at "e")) (rng_items m) (by rw [upto_len]; omega) ?_ ?_ rfl
      · intro j c _
        refine Tv.cmp (a := lI (g.filter fun v => decide (c ∉ at' bs v))) (b := lI []) ?_ (Ev.conv (Ev.disp (by decide) Evs.nil) rfl) (co_eql rfl)
        refine Ev.compE g .int (fun v => decide (c ∉ at' bs v)) .int (by kernel_rfl) (pi := lI g) (by walk_at "e") rfl (by omega) ?_ ?_ rfl
        · intro j' v hv
          obtain ⟨jv, rfl, hjv⟩ := hgx v (List.mem_of_getElem? hv)
          exact Tv.cmp (by walk_at "e") (Ev.at (hat jv hjv) (by omega) (by walk_at "e") (by walk_at "e")) (co_notin rfl)
        · intro j' v _ _
          walk_at "e"
      · intro j c _ _
        walk_at "e"
    · have hmx := maxI_spec (l := g.map (cnt bs com)) (by simpa using hne) (fun x hx => by
        obtain ⟨v, _, rfl⟩ := List.mem_map.mp hx
        exact Int.natCast_nonneg _)
      refine Ev.callB (f := "max") (ps := [lI (g.map (cnt bs com))]) (by walk_at "e") (Evs.cons (by kernel_rfl) ?_ Evs.nil) (by simp) (cl_max (by rw [List.length_map]; omega) hmx.1 hmx.2)
      refine Ev.compE g .int (fun _ => true) (fun v => .int (cnt bs com v)) (by kernel_rfl) (pi := lI g) (by walk_at "e") rfl (by omega) (fun _ _ _ => rfl) ?_ (by rw [ftrue]; simp [iL, Function.comp_def])
      intro j v hv _
      obtain ⟨jv, rfl, hjv⟩ := hgx v (List.mem_of_getElem? hv)
      have hl4 := hal _ (List.mem_of_getElem? hv)
      have hlf : ((at' bs (jv : Int)).filter fun c => decide (c ∈ com)).length ≤ (at' bs (jv : Int)).length := List.length_filter_le _ _
      refine len_ev (xs := iL ((at' bs (jv : Int)).filter fun c => decide (c ∈ com))) (by kernel_rfl) (by walk_at "e") ?_ (by simp only [iL, List.length_map]; omega) (by simp [cnt, iL])
      refine Ev.compE (at' bs (jv : Int)) .int (fun c => decide (c ∈ com)) .int (by kernel_rfl) (pi := lI (at' bs (jv : Int))) (Ev.at (hat jv hjv) (by omega) (by walk_at "e") (by walk_at "e")) rfl (by omega) ?_ ?_ rfl
      · intro j' c _
        exact Tv.cmp (by walk_at "e") (by walk_at "e") (co_in rfl)
      · intro j' c _ _
        walk_at "e"
    · refine Sv.cons' (r₁ := if bads bs m com g = [] then .inl ((S "seats", .int (sts bs com g)) :: (S "shared", lI (shr bs m g)) :: (S "group", lI g) :: ρ0) else .inr (.bool false)) ?_ ?_
      · refine S1.if (c := decide (bads bs m com g ≠ [])) ?_ (fun hb => ?_) fun hb => ?_
        · refine Tv.cmp (a := lI (bads bs m com g)) (b := lI []) ?_ (Ev.conv (Ev.disp (by decide) Evs.nil) rfl) (co_nel rfl)
          refine Ev.compE (upto1 com.length) .int (fun most => decide (most * bs.length ≤ (g.length : Int) * com.length) && (decide (most ≤ ((shr bs m g).length : Int)) && decide (sts bs com g < most))) .int (by kernel_rfl) (pi := .rng 1 com.length) ?_ (rng1_items _) (by simp [upto1]; omega) ?_ ?_ rfl
          · refine Ev.callT (f := "range") (ps := [.int 1, .int ((com.length : Nat) + 1)]) (by walk_at "e") (Evs.cons (by kernel_rfl) (by walk_at "e") (Evs.cons (by kernel_rfl) (Ev.add (by walk_at "e") (by walk_at "e")) Evs.nil)) (by simp) (cl_range2 (by omega) (by omega) (by omega))
          · intro j most hmo
            have hmost : 1 ≤ most ∧ most ≤ 3 := by
              have := List.mem_of_getElem? hmo
              obtain ⟨q, hq, rfl⟩ := List.mem_map.mp this
              have : q < com.length := by simpa using hq
              omega
            have hshl : (shr bs m g).length ≤ 4 := by
              refine Nat.le_trans (List.length_filter_le _ _) ?_
              rw [upto_len]; exact hm
            refine Tv.and (Tv.cmp (a := .int ((g.length : Nat) * (com.length : Nat))) (b := .int (most * (bs.length : Nat))) (Ev.mul (IntMulOk.of_left (intBits_le_64 (by omega) (by omega))) ?_ (by walk_at "e")) (Ev.mul (IntMulOk.of_left (intBits_le_64 (by omega) (by omega))) (by walk_at "e") (by walk_at "e")) (co_ge rfl)) fun _ => ?_
            · exact len_ev (by kernel_rfl) (by walk_at "e") (by walk_at "e") (by simp [iL]; omega) (by simp [iL])
            · refine Tv.chain (a := .int (((shr bs m g).length : Nat) : Int)) ?_ (by walk_at "e") (by walk_at "e") (co_ge rfl) (co_gt rfl)
              exact len_ev (by kernel_rfl) (by walk_at "e") (by walk_at "e") (by simp [iL]; omega) (by simp [iL])
          · intro j most _ _
            walk_at "e"
        · rw [if_neg (by simpa using hb)]
          exact Sv.last (S1.ret (by walk_at "e"))
        · rw [if_pos (by simpa using hb)]
          exact Sv.nil
      · by_cases z : bads bs m com g = []
        · rw [if_pos z, if_pos z]
          show Sv _ _ _ _ _ [] (.inl ρ0)
          exact Sv.sub Sv.nil ⟨by walk_at "lk", by walk_at "lk", by walk_at "lk", by walk_at "lk", by walk_at "lk", trivial⟩
        · rw [if_neg z, if_neg z]; exact (rfl : (Sum.inr (PV.bool false) : PVs ⊕ PV) = _)
    · exact fun env h => swaps_cell (h.trans (by kernel_rfl))
  · intro hall
    refine Sv.last (S1.ret (Ev.conv (p := .bool true) (by walk_at "e") ?_))
    have : gives bs m com = true := by
      unfold gives
      rw [ed, List.all_eq_true]
      intro g hg
      obtain ⟨i, hi, rfl⟩ := List.getElem_of_mem hg
      have := hall i (by rw [List.length_map]; exact hi)
      rw [List.getD_eq_getElem?_getD, List.getElem?_eq_getElem hi] at this
      by_cases z : bads bs m com t[i] = []
      · exact decide_eq_true z
      · have e : (if bads bs m com ((some t[i]).getD []) = [] then none else some (PV.bool false)) = some (PV.bool false) := if_neg z
        rw [e] at this; cases this
    rw [this]
  · intro i hi p hj hp
    rw [List.length_map] at hi
    have : gives bs m com = false := by
      unfold gives
      rw [ed, List.all_eq_false]
      refine ⟨t[i], List.getElem_mem hi, ?_⟩
      rw [List.getD_eq_getElem?_getD, List.getElem?_eq_getElem hi] at hp
      intro z
      have e : (if bads bs m com ((some t[i]).getD []) = [] then none else some (PV.bool false)) = none := if_pos (of_decide_eq_true z)
      rw [e] at hp; cases hp
    rw [this]
    by_cases z : bads bs m com (t.getD i []) = []
    · rw [if_pos z] at hp; cases hp
    · rw [if_neg z] at hp; cases hp; rfl
end
noncomputable def put (m : Str → Option Value) (name : Str) (v : Value) : Str → Option Value := fun x => if x = name then some v else m x
noncomputable def DictN (h : Heap) (a : Addr) (m : Str → Option Value) (k : Nat) : Prop := ∃ es ep, h.get? a = some { cls := .type "dict", data := .dict es ep } ∧ StrKeys es ∧ (∀ name, nsFind es name = m name) ∧ es.size ≤ k
theorem DictN.at {h : Heap} {a : Addr} {m : Str → Option Value} {k : Nat} (x : DictN h a m k) : DictAt h a m := let ⟨es, ep, e, a, b, _⟩ := x; ⟨es, ep, e, a, b⟩
theorem DictN.to {h h' : Heap} {a : Addr} {m : Str → Option Value} {k : Nat} (x : DictN h a m k) (q : ∀ o, h.get? a = some o → h'.get? a = some o) : DictN h' a m k := let ⟨es, ep, e, r⟩ := x; ⟨es, ep, q _ e, r⟩
theorem look_dict {h : Heap} {a : Addr} {m : Str → Option Value} (x : DictAt h a m) : ∃ o, h.get? a = some o ∧ ∀ name, lookIn name o = some (m name) := by
  obtain ⟨es, ep, e, sk, f⟩ := x
  refine ⟨_, e, fun name => ?_⟩
  have f' := f name
  unfold nsFind findBy at f'
  unfold lookIn
  dsimp only
  rw [Array.find?_toList]
  cases q : es.find? (·.key.isStr name) with
  | some en => rw [q] at f'; simp only [Option.map_some] at f'; rw [← f']
  | none =>
    rw [q] at f'
    simp only [Option.map_none] at f'
    rw [← f']
    have : es.toList.any (·.refKey) = false := by
      rw [List.any_eq_false]
      intro en he
      obtain ⟨n, t, hk⟩ := sk en (by simpa using he)
      simp [DictEntry.refKey, hk]
    simp only [this, Bool.false_eq_true, if_false]
theorem nsSet_dict {M : Model} {A : Around} {E : Value → Shared → Prop} {s : Shared} {a : Addr} {m : Str → Option Value} {k : Nat} {name : Str} {v : Value} {Q : Unit → Shared → Prop} (hn : DictN s.heap a m k)
    (h : ∀ h', DictN h' a (put m name v) (k + 1) → Heap.SameBut a s.heap h' → Q () { s with heap := h', toks := s.toks + 1 }) :
    wpAny M A (nsSet a name v) Q E s := fun Γ p _ => by
  obtain ⟨es, ep, ho, hk, hm, hz⟩ := hn
  simp only [nsSet, strHash, Sem.wp_bind', Sem.wp_cmd_ask, Sem.wp_pure', Sem.wp_cmd_mkText]
  rw [Sem.wp_loadPart_of M Γ _ p { s with toks := s.toks + 1 } (o := { cls := .type "dict", data := .dict es ep }) _ ho]
  have hany : es.any (·.refKey) = false := by
    rw [Array.any_eq_false']; intro e he; obtain ⟨n, t, h⟩ := hk e he; simp [DictEntry.refKey, h]
  simp only [aRefKeyMayBeTheName_eq, aRefKeyMayBeTheNameByArray, hany, Bool.and_false, Bool.false_eq_true, if_false, Sem.wp_cmd_updatePart]
  have self : ∀ (x : Int) (y : Value), (s.heap.update a (Obj.putName name x y v)).get? a = some (Obj.putName name x y v { cls := .type "dict", data := .dict es ep }) := fun x y =>
    Heap.get?_update_self _ ho (by simp only [Obj.putName_eq, Obj.putNameByArray]; cases es.findIdx? (·.key.isStr name) <;> rfl)
  refine ⟨by rw [ho]; rfl, h _ ?_ (Heap.SameBut.update ..)⟩
  cases hi : es.findIdx? (·.key.isStr name) with
  | some i =>
    refine ⟨_, ep, (self _ _).trans (by simp only [Obj.putName_eq, Obj.putNameByArray, hi]; rfl), hk.modify _ _, fun x => ?_, by rw [Array.size_modify]; omega⟩
    show _ = if x = name then some v else m x
    rw [← hm]; exact findBy_modify (fun n v => v.isStr n) Value.isStr_inj es name x v i hi
  | none =>
    refine ⟨_, ep + 1, (self _ _).trans (by simp only [Obj.putName_eq, Obj.putNameByArray, hi]; rfl), hk.push _ _ _ _, fun x => ?_, by rw [Array.size_push]; omega⟩
    show _ = if x = name then some v else m x
    rw [← hm]
    exact findBy_push (fun n v => v.isStr n) es name x _ _ v (fun y => by
      show (name == y) = decide (y = name)
      by_cases h : y = name
      · subst h; simp
      · have : ¬ name = y := fun e => h e.symm
        simp [h, this]) hi
section
variable {prog : Pr} {w : World} {A : Around} {β : Pm} {s : Shared} {C x dx : Addr} {m : Str → Option Value} {k : Nat} {name : Str} {v : Value}
theorem inst_at {h : Heap} (hx : h.get? x = some (inst C dx)) {o : Obj} (hd : h.get? dx = some o) : InstAt h x (inst C dx) C (some o) := ⟨hx, rfl, rfl, hd⟩
structure ClsOk (P : Params) (C : Addr) : Prop where
  po : plainOver (Kf P) C = true
  sa : findIn (Kf P) (.ref C) "__setattr__" = some (some (.builtin "object.__setattr__"))
  hd : (clsIn (Kf P) C).any (·.hasDict) = true
  ga : findIn (Kf P) (.ref C) "__getattribute__" = some (some (.builtin "object.__getattribute__"))
  gn : findIn (Kf P) (.ref C) "__getattr__" = some none
theorem set_attr {Q : Unit → Shared → Prop} (C' : Cx w β s) (O : ClsOk w.params C) (ht : takerIn (Kf w.params) C name = some none) (hx : s.heap.get? x = some (inst C dx)) (hd : DictN s.heap dx m k) (hk : k ≤ 1000)
    (h : ∀ h' tk, Heap.SameBut dx s.heap h' → DictN h' dx (put m name v) (k + 1) → Q () { s with heap := h', toks := tk }) : Wp prog w A (setAttr (.ref x) name v) Q s := by
  obtain ⟨od, eo, lk⟩ := look_dict hd.at
  have I := inst_at hx eo
  refine set_plain C'.K I O.sa ?_
  refine osa_open (s := { s with toks := s.toks + 1 }) C'.K I O.po ht fun b => ?_
  obtain ⟨cd, hc, hd'⟩ := any_some O.hd
  obtain ⟨hx', hcl, hn, -⟩ := I
  refine wpAny_bind (wpAny_pure (wpAny_bind (wpAny_bind (wpAny_loadPart hx (wpAny_bind (Looks.here (s := { s with toks := s.toks + 1 }) (looks_clsIn C'.K hc) ?_))))))
  rw [hd']
  refine wpAny_pure (a := some dx) (wpAny_bind (wpAny_pure (wpAny_bind ?_)))
  refine nsSet_dict (s := { s with toks := s.toks + 1 }) hd fun h' hd'' hs => ?_
  obtain ⟨es, ep, e, _, _, hz⟩ := id hd''
  refine wpAny_bind (wpAny_lookBehind e (pastItsLine_dict (by rw [sizeLine_eq]; omega)) ?_)
  exact wpAny_pure (h h' _ hs hd'')
theorem get_attr {expr : Bool} {Q : Value → Shared → Prop} (C' : Cx w β s) (O : ClsOk w.params C) (hf : ∀ o, lookIn name o = some (some v) → findObj (Kf w.params) C (some o) name = some (.value v)) (hh : handedIn v = true)
    (hx : s.heap.get? x = some (inst C dx)) (hd : DictAt s.heap dx m) (hv : m name = some v) (h : Q v { s with toks := s.toks + 1 }) : Wp prog w A (getAttr (.ref x) name expr) Q s := by
  obtain ⟨od, eo, lk⟩ := look_dict hd
  exact get_value C'.K (inst_at hx eo) O.ga (hf od (by rw [lk, hv])) hh h
end
theorem code_def {prog : Pr} {w : World} {A : Around} {β : Pm} {s : Shared} {f : Addr} {st : Stmt} {nm qual : Str} {cl : List (Str × Addr)} {dV pm cdv ct : Value} {pos : List Value} {kw : List (Str × Value)} {binds : List (Str × Value)} {R : Result → Shared → Prop} (o : Obj)
    (C : Cx w β s) (hR : A.depth < recursionLimit)
    (ho : (Kf w.params).lookup f = some o) (hd : o.data = .func (fnX nm qual (fdA st) (fdB st) (fdS st) cl dV .none .none pm none cdv ct)) (hcd : codeIn (Kf w.params) cdv qual = true)
    (hb : BindsTo s (fnX nm qual (fdA st) (fdB st) (fdS st) cl dV .none .none pm none cdv ct) ⟨pos, kw⟩ binds) (hk : kindOk (fdS st) binds = true)
    (hsc : ((fdS st).isCoroutine == false && (fdS st).isGenerator == false) = true) (hkf : (fdS st).kind = .function)
    (hcl : ∀ p ∈ cl, ∃ o, s.heap.get? p.2 = some o ∧ stay o = false ∧ o.cls ≠ .none) (hcn : cl.all (fun p => (fdS st).names.lookup p.1 != some .cell) = true) (hcp : cl.Pairwise fun x y => x.2 ≠ y.2)
    (h : ∀ env s', env.code = cdv → env.frame = some env.locals → env.func = some f → (∀ x c, cl.lookup x = some c → (fdS st).names.all (fun p => p.1 != x || p.2 != .cell) = true → env.cells.lookup x = some c) → Cx w β s' → Fm env (fdS st) β.H s.heap s'.heap binds.reverse →
      Wp prog w (A.deeper env) (execs (fdB st) env) (fun fl s'' => R (.ok (.ret (match fl with | .ret v => v | _ => .none))) s'') s') :
    codeAny (model prog.p w) A (.call (.ref f) ⟨pos, kw⟩) R s := by
  simp only [Bool.and_eq_true, beq_iff_eq] at hsc
  refine codeAny_call_function hR (C.K _ _ ho) hd hsc.1 hsc.2 rfl (codeRec_of C.K hcd) (hb _ _ _ _ ?_)
  refine Wp.any (new_env C hkf hk hcl hcn hcp fun env s' e1 e2 e3 e4 e5 e6 C' F' => ⟨C'.lim, codeAny_func ?_⟩)
  exact wpAny_mono (h env s' e2 e3 e4 e6 C' F') (fun _ _ q => q) fun _ _ e => e.elim
theorem Ok.made {A : Around} {n : Nat} {C : Addr} {rest : List Value} {kw : List (Str × Value)} (k : Ok A (n + 1)) : Ok (A.under (.builtin "type.__call__" ⟨.ref C :: rest, kw⟩)) n := by
  have e1 : (Code.builtin "type.__call__" ⟨.ref C :: rest, kw⟩).weight = 1 := by kernel_rfl
  have e2 : (Code.builtin "type.__call__" ⟨.ref C :: rest, kw⟩).cUnits ≤ 20 := of_decide_eq_true (by kernel_rfl)
  refine ⟨k.h, ?_, ?_⟩
  · show A.depth + (Code.builtin "type.__call__" ⟨.ref C :: rest, kw⟩).weight + n < 900
    have := k.d; omega
  · show A.units + (Code.builtin "type.__call__" ⟨.ref C :: rest, kw⟩).cUnits + 40 * n < 9000
    have := k.u; omega
theorem make_cls {prog : Pr} {w : World} {A : Around} {β : Pm} {s : Shared} {C fI : Addr} {n : Nat} {pos : List Value} {kw : List (Str × Value)} {Q : Value → Shared → Prop} (C' : Cx w β s) (hA : Ok A (n + 1)) (hm : makesIn (Kf w.params) C = true)
    (hi : findIn (Kf w.params) (.ref C) "__init__" = some (some (.ref fI))) (hf : typeIn (Kf w.params) (.ref fI) = some (.type "function"))
    (h : ∀ x dx s' A', Ok A' n → Cx w β s' → Kp s s' → s.heap.get? x = none → s.heap.get? dx = none → x ≠ dx → s'.heap.get? x = some (inst C dx) → DictN s'.heap dx (fun _ => none) 0 →
      codeAny (model prog.p w) A' (.call (.ref fI) ⟨.ref x :: pos, kw⟩) (fun r s'' => r = .ok (.ret .none) ∧ Q (.ref x) s'') s') : Wp prog w A (call (.ref C) pos kw) Q s := by
  obtain ⟨hh, g, d, t, os⟩ := s
  refine wpAny_call (make_core (makes_of C'.K hm) (looks_findIn C'.K hi) (fun self => bind_fn C'.K self hf) (.inl rfl) ?_)
  have n1 : hh.get? hh.objs.size = none := none_of_ge (Nat.le_refl _)
  have n2 : hh.get? (hh.objs.size + 1) = none := none_of_ge (Nat.le_succ _)
  have k : ∀ b o, hh.get? b = some o → ((hh.push emptyDict).push (instObj C hh.objs.size)).get? b = some o := fun b o e => Heap.get?_push_of_some _ (Heap.get?_push_of_some _ e)
  have e1 : ((hh.push emptyDict).push (instObj C hh.objs.size)).get? (hh.objs.size + 1) = some (inst C hh.objs.size) := by
    have := Heap.get?_push_size (hh.push emptyDict) (o := instObj C hh.objs.size) rfl
    rwa [Heap.size_push] at this
  have e2 : ((hh.push emptyDict).push (instObj C hh.objs.size)).get? hh.objs.size = some emptyDict := Heap.get?_push_of_some _ (Heap.get?_push_size _ rfl)
  have := h (hh.objs.size + 1) hh.objs.size ⟨(hh.push emptyDict).push (instObj C hh.objs.size), g, d, t, os⟩ _ (hA.made (C := C) (rest := pos) (kw := kw)) (CxH.keeps' C' k) (Kh.of k) n2 n1 (by exact Nat.succ_ne_self _) e1 ⟨#[], _, e2, fun _ h => by simp at h, fun _ => rfl, Nat.le_refl _⟩
  refine codeAny_mono this fun r s'' z => ?_
  obtain ⟨rfl, z⟩ := z
  exact ⟨rfl, z⟩
section
variable {w : World} {β : Pm} {n : Nat} {sc : Scope} {ρ ρ' : PVs} {pos : Pos}
theorem clsF : ClsOk w.params 298 := ⟨by kernel_rfl, by kernel_rfl, by kernel_rfl, by kernel_rfl, by kernel_rfl⟩
theorem Tv.int {e : Expr} {a : Int} {c : Bool} (h1 : Ev w β n sc ρ e (.int a)) (hc : decide (a ≠ 0) = c) (he : ∀ env whole, isTrue e env whole = (do let v ← whole; standAt e.pos; holding [v] (truthy v)) := by intro _ _; rfl) : Tv w β n sc ρ e c := by
  intro prog A env s M Q hA C L h
  refine wpAny_isTrue_value (h1 hA C L fun x s₁ C₁ K₁ r₁ => ?_) (he _ _)
  obtain ⟨t, rfl⟩ := r₁.inv_int
  refine P.truthy_int ?_
  rw [show (a != 0) = c by rw [← hc, decide_not]; rfl]
  exact h s₁ C₁ K₁
theorem Rep.inv_frac {M : List Addr} {h : Heap} {v : Value} {a b : Int} (r : Rep M h v (.frac a b)) : ∃ x dx m t u, v = .ref x ∧ h.get? x = some (inst 298 dx) ∧ DictAt h dx m ∧ m (S "numerator") = some (.int a t) ∧ m (S "denominator") = some (.int b u) := by
  cases r with
  | frac hm hm' hx hd h1 h2 h3 => exact ⟨_, _, _, _, _, rfl, hx, hd, h1, h2⟩
theorem Rep.inv_frac3 {M : List Addr} {h : Heap} {v : Value} {a b : Int} (r : Rep M h v (.frac a b)) : ∃ x dx m, v = .ref x ∧ h.get? x = some (inst 298 dx) ∧ DictAt h dx m ∧ ∀ y v, m y = some v → y = S "numerator" ∨ y = S "denominator" := by
  cases r with
  | frac hm hm' hx hd h1 h2 h3 => exact ⟨_, _, _, rfl, hx, hd, h3⟩
theorem fo_num (P : Params) (o : Obj) (v : Value) (h : lookIn (S "numerator") o = some (some v)) : findObj (Kf P) 298 (some o) (S "numerator") = some (.value v) := by
  have e : ∀ x, lookIn (S "numerator") o = x → findObj (Kf P) 298 (some o) (S "numerator") = (x.bind fun own => match own with | some v => some (.value v) | none => some .missing) := by
    intro x hx; rw [← hx]; kernel_rfl
  rw [e _ h]; rfl
theorem fo_den (P : Params) (o : Obj) (v : Value) (h : lookIn (S "denominator") o = some (some v)) : findObj (Kf P) 298 (some o) (S "denominator") = some (.value v) := by
  have e : ∀ x, lookIn (S "denominator") o = x → findObj (Kf P) 298 (some o) (S "denominator") = (x.bind fun own => match own with | some v => some (.value v) | none => some .missing) := by
    intro x hx; rw [← hx]; kernel_rfl
  rw [e _ h]; rfl
theorem Ev.num {x : Str} {np : Pos} {a b : Int} (h1 : Ev w β n sc ρ (.Name x np) (.frac a b)) : Ev w β n sc ρ (.Attribute (.Name x np) (S "numerator") pos) (.int a) := by
  intro prog A env s M Q hA C L h
  refine Attribute_any_ (h1 hA C L fun v s₁ C₁ K₁ r₁ => ?_)
  obtain ⟨x, dx, m, t, u, rfl, hx, hd, e1, e2⟩ := r₁.inv_frac
  exact get_attr C₁ clsF (fun o ho => fo_num _ o _ ho) rfl hx hd e1 (h _ _ C₁ (kp_trans K₁ (kp_tok _ _)) (.int _ _))
theorem Ev.den {x : Str} {np : Pos} {a b : Int} (h1 : Ev w β n sc ρ (.Name x np) (.frac a b)) : Ev w β n sc ρ (.Attribute (.Name x np) (S "denominator") pos) (.int b) := by
  intro prog A env s M Q hA C L h
  refine Attribute_any_ (h1 hA C L fun v s₁ C₁ K₁ r₁ => ?_)
  obtain ⟨x, dx, m, t, u, rfl, hx, hd, e1, e2⟩ := r₁.inv_frac
  exact get_attr C₁ clsF (fun o ho => fo_den _ o _ ho) rfl hx hd e2 (h _ _ C₁ (kp_trans K₁ (kp_tok _ _)) (.int _ _))
theorem inst_type {M : Model} {h : Heap} {x dx C : Addr} (hx : h.get? x = some (inst C dx)) : Looks M h (typeOf (.ref x)) (.ref C) := (Looks.ld hx).andThen .now
theorem cl_isF {a b : Int} : Cl w β n (.builtin "isinstance") [.frac a b, .raw (.ref 298)] (.bool true) := by
  intro prog A s M vs Q hA C mx r h
  obtain ⟨v, u, rfl, r₁, r'⟩ := r.two
  cases r'.inv_raw
  obtain ⟨x, dx, m, t, u, rfl, hx, hd, e1, e2⟩ := r₁.inv_frac
  exact isi_call C.K (fun M => inst_type hx) (by kernel_rfl) (by simp) (h _ s C (kp_refl s) (.bool true))
theorem cl_isF_int {a : Int} : Cl w β n (.builtin "isinstance") [.int a, .raw (.ref 298)] (.bool false) := by
  intro prog A s M vs Q hA C mx r h
  obtain ⟨v, u, rfl, r₁, r'⟩ := r.two
  cases r'.inv_raw
  obtain ⟨t, rfl⟩ := r₁.inv_int
  exact isn_call (P := fun _ => True) C.K (fun M => Looks.of_pure rfl) (by kernel_rfl) (by simp) trivial int_cls (h _ _ C (kp_tok s _) (.bool false))
theorem cl_is_int {a : Int} : Cl w β n (.builtin "isinstance") [.int a, .raw (.type "int")] (.bool true) := by
  intro prog A s M vs Q hA C mx r h
  obtain ⟨v, u, rfl, r₁, r'⟩ := r.two
  cases r'.inv_raw
  obtain ⟨t, rfl⟩ := r₁.inv_int
  exact call_isinstance_yes (typeIs_int s a t) PyProof.Rows.meta_int PyProof.Rows.sub_int_int (h _ s C (kp_refl s) (.bool true))
theorem cl_parts_frac {a b : Int} : Cl w β (n + 1) (.ref 154) [.frac a b] (.tup [.int a, .int b]) := by
  refine cl_fn o154 [S "number"] (by kernel_rfl) rfl (by kernel_rfl) ?_ (by kernel_rfl) (by kernel_rfl) (by kernel_rfl) rfl ?_
  · intro s vs h
    obtain ⟨a, rfl⟩ := len1 h
    exact BindsTo.of_eq (by with_unfolding_all rfl)
  show Sv _ _ _ _ [(S "number", .frac a b)] _ _
  with_unfolding_all refine Sv.last ?_
  refine S1.if (c := true) (Tv.bool (Ev.callB (f := "isinstance") (by walk_at "e") (by walk_at "es") (by simp) cl_isF)) (fun _ => Sv.last (S1.ret (Ev.tup (by simp [sizeLine]) (Evs.cons (by kernel_rfl) (Ev.num (by walk_at "e")) (Evs.cons (by kernel_rfl) (Ev.den (by walk_at "e")) Evs.nil))))) (fun h => by cases h)
theorem cl_parts_int {a : Int} : Cl w β (n + 1) (.ref 154) [.int a] (.tup [.int a, .int 1]) := by
  refine cl_fn o154 [S "number"] (by kernel_rfl) rfl (by kernel_rfl) ?_ (by kernel_rfl) (by kernel_rfl) (by kernel_rfl) rfl ?_
  · intro s vs h
    obtain ⟨a, rfl⟩ := len1 h
    exact BindsTo.of_eq (by with_unfolding_all rfl)
  show Sv _ _ _ _ [(S "number", .int a)] _ _
  with_unfolding_all refine Sv.cons (ρ₁ := [(S "number", .int a)]) ?_ ?_
  · exact S1.if (c := false) (Tv.bool (Ev.callB (f := "isinstance") (by walk_at "e") (by walk_at "es") (by simp) cl_isF_int)) (fun h => by cases h) (fun _ => Sv.nil)
  refine Sv.last ?_
  exact S1.if (c := true) (Tv.bool (Ev.callB (f := "isinstance") (by walk_at "e") (by walk_at "es") (by simp) cl_is_int)) (fun _ => Sv.last (S1.ret (Ev.tup (by simp [sizeLine]) (by walk_at "es")))) (fun h => by cases h)
end
noncomputable def eu : Nat × Nat → Nat → Nat × Nat
  | p, 0 => p
  | p, i + 1 => let q := eu p i; (q.2, q.1 % q.2)
theorem eu_front (p : Nat × Nat) : ∀ i, eu p (i + 1) = eu (p.2, p.1 % p.2) i
  | 0 => rfl
  | i + 1 => by
    show (let q := eu p (i + 1); (q.2, q.1 % q.2)) = _
    rw [eu_front p i]; rfl
theorem euclid : ∀ (m : Nat) (p : Nat × Nat), p.2 ≤ m → ∃ k, (∀ i < k, (eu p i).2 ≠ 0) ∧ (eu p k).2 = 0 ∧ (eu p k).1 = Nat.gcd p.2 p.1
  | m, (d, 0), _ => ⟨0, fun i h => absurd h (Nat.not_lt_zero _), rfl, by simp [eu]⟩
  | 0, (d, r + 1), h => absurd h (by simp)
  | m + 1, (d, r + 1), h => by
    have lt : d % (r + 1) < r + 1 := Nat.mod_lt _ (Nat.succ_pos _)
    obtain ⟨k, h1, h2, h3⟩ := euclid m (r + 1, d % (r + 1)) (by simp only at h ⊢; omega)
    refine ⟨k + 1, fun i hi => ?_, by rw [eu_front]; exact h2, by rw [eu_front, h3]; simp only; rw [← Nat.gcd_rec]⟩
    cases i with
    | zero => simp [eu]
    | succ i => rw [eu_front]; exact h1 i (by omega)
noncomputable def NumP (p : PV) (a b : Nat) : Prop := (p = .int a ∧ b = 1) ∨ p = .frac a b
section
variable {w : World} {β : Pm} {n : Nat} {sc : Scope} {ρ ρ' : PVs} {pos : Pos}
theorem cl_parts {p : PV} {a b : Nat} (h : NumP p a b) : Cl w β (n + 1) (.ref 154) [p] (.tup [.int a, .int b]) := by
  rcases h with ⟨rfl, rfl⟩ | rfl
  · exact cl_parts_int
  · exact cl_parts_frac
theorem Fm.base {env : Env} {sc : Scope} {B H H₀ h : Heap} {ρ : Vars} (k : Kh H₀ H) (F : Fm env sc B H h ρ) : Fm env sc B H₀ h ρ :=
  { F with lo := ⟨F.lo.1, k.none F.lo.2⟩, cel := fun x e => let ⟨c, v, a, b, r⟩ := F.cel x e; ⟨c, v, a, ⟨b.1, k.none b.2.1, b.2.2⟩, r⟩, kept := k.trans F.kept }
theorem S1.step {st : Stmt} {rest : List Stmt} {ρ₁ : PVs} {prog : Pr} {A : Around} {env : Env} {s : Shared} {H : Heap} {M : List Addr} {Q : Flow → Shared → Prop} (h1 : S1 w β n sc ρ st (.inl ρ₁)) (hA : Ok A n) (C : Cx w β s) (F : FP M β.H env sc H s.heap ρ)
    (k : ∀ s₁, Cx w β s₁ → FP M β.H env sc H s₁.heap ρ₁ → Kb env s.heap s₁.heap → Wp prog w A (execs rest env) Q s₁) : Wp prog w A (execs (st :: rest) env) Q s := by
  refine wpAny_execs_cons (h1 hA C F fun fl s₁ C₁ D₁ R₁ => ?_)
  obtain ⟨rfl, F₁⟩ := R₁
  exact k s₁ C₁ F₁ D₁
theorem FP.stay {M : List Addr} {B : Heap} {env : Env} {H h h' : Heap} (F : FP M B env sc H h ρ) (k : Kb env h h') {a : Addr} {o : Obj} (e : h.get? a = some o) (q : stay o = true) : h'.get? a = some o := by
  obtain ⟨_, _, f, _⟩ := F
  refine k.k a o e (stay_ne q) (fun z => ?_) fun x c l z => ?_
  · obtain ⟨o', e', c⟩ := f.fcls; rw [z, e'] at e; cases e; simp [EJ.stay, c] at q
  · obtain ⟨o', e', c', _⟩ := f.cex x c l; rw [z, e'] at e; cases e; rw [c'] at q; cases q
theorem FP.stayD {M : List Addr} {B : Heap} {env : Env} {H h h' : Heap} (F : FP M B env sc H h ρ) (k : Kb env h h') {a : Addr} {m : Str → Option Value} {j : Nat} (e : DictN h a m j) : DictN h' a m j :=
  e.to fun o q => by
    obtain ⟨es, ep, e', _⟩ := e
    rw [e'] at q; cases q
    exact F.stay k e' rfl
theorem FP.off {M : List Addr} {B : Heap} {env : Env} {H h : Heap} (F : FP M B env sc H h ρ) {a : Addr} {o : Obj} (e : h.get? a = some o) (q : EJ.stay o = true) (n : H.get? a = none) : ∀ b ∈ [a], b ≠ env.locals ∧ (∀ x c, env.cells.lookup x = some c → c ≠ b) ∧ H.get? b = none := fun b hb => by
  cases List.mem_singleton.mp hb
  obtain ⟨_, _, f, _⟩ := F
  refine ⟨fun z => ?_, fun x c l z => ?_, n⟩
  · obtain ⟨o', e', c⟩ := f.fcls; rw [z, e'] at e; cases e; simp [EJ.stay, c] at q
  · obtain ⟨o', e', c', _⟩ := f.cex x c l; rw [← z, e'] at e; cases e; rw [c'] at q; cases q
theorem FP.turn {M : List Addr} {B : Heap} {env : Env} {H h h' : Heap} (F : FP M B env sc H h ρ) {a : Addr} (ha : a ∈ M) (ho : ∀ b ∈ [a], b ≠ env.locals ∧ (∀ x c, env.cells.lookup x = some c → c ≠ b) ∧ H.get? b = none) (hs : Heap.SameBut a h h') (hn : NN h' a) : FP M B env sc H h' ρ := by
  obtain ⟨m, ρv, f, r⟩ := F
  have k : ∀ b o, b ∉ [a] → h.get? b = some o → h'.get? b = some o := fun b o hb e => (hs.2 b (by simpa using hb)).trans e
  refine ⟨fun b hb => ?_, ρv, f.but ho k, r.mono (D.but fun b o hb e => k b o (fun z => hb (List.mem_singleton.mp z ▸ ha)) e)⟩
  by_cases z : b = a
  · rw [z]; exact hn
  · obtain ⟨o, e, c⟩ := m b hb; exact ⟨o, (hs.2 b z).trans e, c⟩
theorem intmul {a b : Nat} (h : b ≤ 1000000) : IntMulOk (a : Int) (b : Int) := IntMulOk.of_right (intBits_le_64 (by omega) (by omega))
theorem attr_step {x dx C : Addr} {name : Str} {np ap pos : Pos} {value : Expr} {v : PV} {rest : List Stmt} {m : Str → Option Value} {j : Nat} {M : List Addr} {prog : Pr} {A : Around} {env : Env} {s : Shared} {H : Heap} {Q : Flow → Shared → Prop} {self : Str}
    (O : ClsOk w.params C) (ht : takerIn (Kf w.params) C name = some Option.none) (hA : Ok A n) (C' : Cx w β s) (F : FP M β.H env sc H s.heap ρ) (hx : s.heap.get? x = some (inst C dx)) (hd : DictN s.heap dx m j) (hj : j ≤ 1000) (hM : dx ∈ M) (hH : H.get? dx = Option.none) (hB : β.H.get? dx = Option.none)
    (hv : Ev w β n sc ρ value v) (hs : Ev w β n sc ρ (.Name self np) (.raw (.ref x)))
    (k : ∀ s₁ val, Cx w β s₁ → FP M β.H env sc H s₁.heap ρ → Rep M s₁.heap val v → s₁.heap.get? x = some (inst C dx) → DictN s₁.heap dx (put m name val) (j + 1) → (∀ b o, b ≠ dx → s.heap.get? b = some o → o.cls ≠ .none → s₁.heap.get? b = some o) → (∀ b o, s.heap.get? b = some o → ∃ o', s₁.heap.get? b = some o') → Wp prog w A (execs rest env) Q s₁)
    (hsw : ∀ env, swapsWith value (some (.Attribute (.Name self np) name ap)) pos.line env = pure false := by intro _; rfl) :
    Wp prog w A (execs (.Assign [.Attribute (.Name self np) name ap] value pos :: rest) env) Q s := by
  refine wpAny_execs_cons (plainObj_wpAny_Assign_Attribute (hv hA C' F.ld fun val s₁ C₁ K₁ r₁ => hs hA C₁ (F.kp K₁).ld fun sv s₂ C₂ K₂ r₂ => ?_) (hsw env))
  cases r₂.inv_raw
  have K := kp_trans K₁ K₂
  have hx₂ : s₂.heap.get? x = some (inst C dx) := K.k _ _ hx (by simp)
  have hd₂ : DictN s₂.heap dx m j := hd.to fun o e => K.k _ _ e (by obtain ⟨es, ep, e', _⟩ := hd; rw [e'] at e; cases e; simp)
  have hne : x ≠ dx := fun z => by obtain ⟨es, ep, e', _⟩ := hd₂; rw [← z, hx₂] at e'; cases e'
  have F₂ := F.kp K
  refine set_attr C₂ O ht hx₂ hd₂ hj fun h' tk hs' hd' => ?_
  have F₃ : FP M β.H env sc H h' ρ := F₂.turn hM (by obtain ⟨es, ep, e', _⟩ := hd₂; exact F₂.off e' rfl hH) hs' (by obtain ⟨es, ep, e', _⟩ := hd'; exact ⟨_, e', by simp⟩)
  refine k _ val (CxH.step C₂ hB hs') F₃ ((r₁.kp K₂).mono (D.but fun b o hb e => (hs'.2 b fun z => hb (z ▸ hM)).trans e)) ((hs'.2 x hne).trans hx₂) hd' (fun b o hb e q => (hs'.2 b hb).trans (K.k b o e q)) fun b o e => ?_
  obtain ⟨o', e'⟩ := K.x b o e
  by_cases z : b = dx
  · obtain ⟨es, ep, q, _⟩ := hd'; exact ⟨_, z ▸ q⟩
  · exact ⟨o', (hs'.2 b z).trans e'⟩
theorem frac_core {p q : PV} {a b c d : Nat} (hp : NumP p a b) (hq : NumP q c d) (hb : a * d ≤ 1000000 ∧ c * b ≤ 1000000 ∧ 0 < c * b) (hs : d ≤ 1000000 ∧ b ≤ 1000000) {x dx : Addr} {M : List Addr} {prog : Pr} {A : Around} {env : Env} {s : Shared} {H : Heap} {Q : Flow → Shared → Prop}
    (hA : Ok A (n + 1)) (C : Cx w β s) (F : FP M β.H env (fdS (st2 12 0)) H s.heap [(S "denominator", q), (S "numerator", p), (S "self", .raw (.ref x))]) (hx : s.heap.get? x = some (inst 298 dx)) (hd : DictN s.heap dx (fun _ => Option.none) 0) (hM : dx ∈ M) (hH : H.get? dx = Option.none) (hB : β.H.get? dx = Option.none)
    (h : ∀ s' m t1 t2, Cx w β s' → Kh H s'.heap → s'.heap.get? x = some (inst 298 dx) → DictN s'.heap dx m 2 → m (S "numerator") = some (.int ((a * d / Nat.gcd (a * d) (c * b) : Nat) : Int) t1) → m (S "denominator") = some (.int ((c * b / Nat.gcd (a * d) (c * b) : Nat) : Int) t2) → (∀ y v, m y = some v → y = S "numerator" ∨ y = S "denominator") → Q .next s') :
    Wp prog w A (execs (fdB (st2 12 0)) env) Q s := by
  with_unfolding_all refine S1.step (ρ₁ := (S "upper", .int a) :: (S "below", .int b) :: [(S "denominator", q), (S "numerator", p), (S "self", .raw (.ref x))]) ?_ hA C F fun s₁ C₁ F₁ D₁ => ?_
  · exact S1.asg2 (.int a) (.int b) (.inl (by kernel_rfl)) (.inl (by kernel_rfl)) (by kernel_rfl) (by kernel_rfl) (.inl (by kernel_rfl)) (Ev.callR (f := .ref 154) kgfraction_parts (by walk_at "e") (by walk_at "es") (cl_parts hp))
  refine S1.step (ρ₁ := (S "lower", .int c) :: (S "above", .int d) :: (S "upper", .int a) :: (S "below", .int b) :: [(S "denominator", q), (S "numerator", p), (S "self", .raw (.ref x))]) ?_ hA C₁ F₁ fun s₂ C₂ F₂ D₂ => ?_
  · exact S1.asg2 (.int c) (.int d) (.inl (by kernel_rfl)) (.inl (by kernel_rfl)) (by kernel_rfl) (by kernel_rfl) (.inl (by kernel_rfl)) (Ev.callR (f := .ref 154) kgfraction_parts (by walk_at "e") (by walk_at "es") (cl_parts hq))
  have hpos := hb.2.2
  let base : PVs := [(S "denominator", q), (S "numerator", p), (S "self", .raw (.ref x))]
  refine S1.step (ρ₁ := (S "upper", .int ((a * d : Nat) : Int)) :: (S "lower", .int ((c * b : Nat) : Int)) :: base) ?_ hA C₂ F₂ fun s₃ C₃ F₃ D₃ => ?_
  · refine S1.sub (S1.asg2 (.int ((a * d : Nat) : Int)) (.int ((c * b : Nat) : Int)) (.inl (by kernel_rfl)) (.inl (by kernel_rfl)) (by kernel_rfl) (by kernel_rfl) (.inr (by kernel_rfl)) (Ev.tup (by simp [sizeLine]) (Evs.cons (by kernel_rfl) ?_ (Evs.cons (by kernel_rfl) ?_ Evs.nil)))) ⟨by walk_at "lk", by walk_at "lk", by walk_at "lk", by walk_at "lk", by walk_at "lk", trivial⟩
    · exact Ev.conv (Ev.mul (a := (a : Int)) (b := (d : Int)) (intmul hs.1) (by walk_at "e") (by walk_at "e")) (by rw [Int.natCast_mul])
    · exact Ev.conv (Ev.mul (a := (c : Int)) (b := (b : Int)) (intmul hs.2) (by walk_at "e") (by walk_at "e")) (by rw [Int.natCast_mul])
  refine S1.step (ρ₁ := (S "upper", .int ((a * d : Nat) : Int)) :: (S "lower", .int ((c * b : Nat) : Int)) :: base) ?_ hA C₃ F₃ fun s₄ C₄ F₄ D₄ => ?_
  · exact S1.if (c := false) (Tv.cmp (by walk_at "e") (by walk_at "e") (co_eq (decide_eq_false fun z => absurd (Int.natCast_eq_zero.mp z) (Nat.ne_of_gt hpos)))) (fun h => by cases h) (fun _ => Sv.nil)
  generalize hU : a * d = U at *
  generalize hL : c * b = L at *
  let P0 : Nat × Nat := (L, U % L)
  refine S1.step (ρ₁ := (S "divisor", .int ((eu P0 0).1 : Nat)) :: (S "rest", .int ((eu P0 0).2 : Nat)) :: (S "upper", .int (U : Nat)) :: (S "lower", .int (L : Nat)) :: base) ?_ hA C₄ F₄ fun s₅ C₅ F₅ D₅ => ?_
  · refine S1.asg2 (.int ((eu P0 0).1 : Nat)) (.int ((eu P0 0).2 : Nat)) (.inl (by kernel_rfl)) (.inl (by kernel_rfl)) (by kernel_rfl) (by kernel_rfl) (.inr (by kernel_rfl)) (Ev.tup (by simp [sizeLine]) (Evs.cons (by kernel_rfl) ?_ (Evs.cons (by kernel_rfl) ?_ Evs.nil)))
    · exact Ev.conv (p := .int (L : Nat)) (by walk_at "e") rfl
    · exact Ev.conv (Ev.mod (a := (U : Nat)) (b := (L : Nat)) (by omega) (by walk_at "e") (by walk_at "e")) (by rw [← Int.ofNat_fmod]; rfl)
  obtain ⟨k, hk1, hk2, hk3⟩ := euclid _ P0 (Nat.le_refl _)
  have hg : (eu P0 k).1 = Nat.gcd U L := by
    rw [hk3]; show Nat.gcd (U % L) L = _
    rw [← Nat.gcd_rec L U, Nat.gcd_comm]
  refine S1.step (ρ₁ := (S "divisor", .int ((eu P0 k).1 : Nat)) :: (S "rest", .int ((eu P0 k).2 : Nat)) :: (S "upper", .int (U : Nat)) :: (S "lower", .int (L : Nat)) :: base) ?_ hA C₅ F₅ fun s₆ C₆ F₆ D₆ => ?_
  · refine S1.while (fun i => (S "divisor", .int ((eu P0 i).1 : Nat)) :: (S "rest", .int ((eu P0 i).2 : Nat)) :: (S "upper", .int (U : Nat)) :: (S "lower", .int (L : Nat)) :: base) k ⟨by walk_at "lk", by walk_at "lk", by walk_at "lk", by walk_at "lk", by walk_at "lk", by walk_at "lk", by walk_at "lk", trivial⟩ (fun i hi => ?_) (fun i hi => ?_) ?_
    · exact Tv.int (a := ((eu P0 i).2 : Nat)) (by walk_at "e") (by have := hk1 i hi; simp; omega)
    · refine Sv.sub (Sv.cons (S1.asg2 (.int ((eu P0 (i + 1)).1 : Nat)) (.int ((eu P0 (i + 1)).2 : Nat)) (.inl (by kernel_rfl)) (.inl (by kernel_rfl)) (by kernel_rfl) (by kernel_rfl) (.inr (by kernel_rfl)) (Ev.tup (by simp [sizeLine]) (Evs.cons (by kernel_rfl) ?_ (Evs.cons (by kernel_rfl) ?_ Evs.nil)))) Sv.nil) ⟨by walk_at "lk", by walk_at "lk", by walk_at "lk", by walk_at "lk", by walk_at "lk", by walk_at "lk", by walk_at "lk", trivial⟩
      · exact Ev.conv (p := .int ((eu P0 i).2 : Nat)) (by walk_at "e") rfl
      · exact Ev.conv (Ev.mod (a := ((eu P0 i).1 : Nat)) (b := ((eu P0 i).2 : Nat)) (by have := hk1 i hi; omega) (by walk_at "e") (by walk_at "e")) (by rw [← Int.ofNat_fmod]; rfl)
    · exact Tv.int (a := ((eu P0 k).2 : Nat)) (by walk_at "e") (by rw [hk2]; rfl)
  have hgp : 0 < (eu P0 k).1 := by rw [hg]; exact Nat.gcd_pos_of_pos_right _ hpos
  have hgl : (eu P0 k).1 ≤ L := by rw [hg]; exact Nat.le_of_dvd hpos (Nat.gcd_dvd_right _ _)
  have Dt : Kb env s.heap s₆.heap := D₁.trans (D₂.trans (D₃.trans (D₄.trans (D₅.trans D₆))))
  have hx₆ := F.stay Dt hx rfl
  have hd₆ := F.stayD Dt hd
  have div : ∀ {V : Nat} {x : Str} {ep : Pos} {np dp : Pos}, Ev w β (n + 1) (fdS (st2 12 0)) ((S "divisor", .int ((eu P0 k).1 : Nat)) :: (S "rest", .int ((eu P0 k).2 : Nat)) :: (S "upper", .int (U : Nat)) :: (S "lower", .int (L : Nat)) :: base) (.Name x np) (.int (V : Nat)) →
      Ev w β (n + 1) (fdS (st2 12 0)) ((S "divisor", .int ((eu P0 k).1 : Nat)) :: (S "rest", .int ((eu P0 k).2 : Nat)) :: (S "upper", .int (U : Nat)) :: (S "lower", .int (L : Nat)) :: base) (.BinOp (.Name x np) .FloorDiv (.Name (S "divisor") dp) ep) (.int ((V / Nat.gcd U L : Nat) : Int)) := fun hv =>
    Ev.conv (Ev.fdiv (b := ((eu P0 k).1 : Nat)) (by omega) (small_div (by omega)) hv (by walk_at "e")) (by rw [← Int.ofNat_fdiv, hg])
  refine attr_step (j := 0) clsF (by kernel_rfl) hA C₆ F₆ hx₆ hd₆ (by omega) hM hH hB (div (V := U) (by walk_at "e")) (by walk_at "e") fun s₇ v7 C₇ F₇ r7 hx₇ hd₇ k7 x7 => ?_
  refine attr_step (j := 1) clsF (by kernel_rfl) hA C₇ F₇ hx₇ hd₇ (by omega) hM hH hB (div (V := L) (by walk_at "e")) (by walk_at "e") fun s₈ v8 C₈ F₈ r8 hx₈ hd₈ k8 x8 => ?_
  obtain ⟨t7, rfl⟩ := r7.inv_int
  obtain ⟨t8, rfl⟩ := r8.inv_int
  refine wpAny_execs_nil (h s₈ _ t7 t8 C₈ F₈.kept hx₈ hd₈ ?_ ?_ fun y v e => ?_)
  · unfold put
    rw [if_neg (by decide +kernel), if_pos rfl]
  · unfold put
    rw [if_pos rfl]
  · unfold put at e
    by_cases z : y = S "denominator"
    · exact .inr z
    · rw [if_neg z] at e
      by_cases z' : y = S "numerator"
      · exact .inl z'
      · rw [if_neg z'] at e; cases e
theorem frac_call {p q : PV} {a b c d : Nat} (hp : NumP p a b) (hq : NumP q c d) (hb : a * d ≤ 1000000 ∧ c * b ≤ 1000000 ∧ 0 < c * b) (hs : d ≤ 1000000 ∧ b ≤ 1000000) {prog : Pr} {A' : Around} {s s' : Shared} {M : List Addr} {Q : Value → Shared → Prop} {x dx : Addr} {v u : Value} {args : List Value}
    (mx : Mx M s.heap) (rp : Rep M s.heap v p) (rq : Rep M s.heap u q) (hA' : Ok A' (n + 2)) (C' : Cx w β s') (C : Cx w β s) (K' : Kp s s') (n1 : s.heap.get? x = none) (n2 : s.heap.get? dx = none) (hne : x ≠ dx) (hx : s'.heap.get? x = some (inst 298 dx)) (hd : DictN s'.heap dx (fun _ => none) 0)
    (hbind : BindsTo s' (fnX (S "__init__") (S "Fraction.__init__") (fdA (st2 12 0)) (fdB (st2 12 0)) (fdS (st2 12 0)) [] (Value.ref 162) Value.none Value.none (Value.str (S "abcvoting.misc") 441) none (Value.ref 168) Value.none) ⟨.ref x :: args, []⟩ [(S "self", .ref x), (S "numerator", v), (S "denominator", u)])
    (h : ∀ v s', Cx w β s' → Kp s s' → Rep M s'.heap v (.frac ((a * d / Nat.gcd (a * d) (c * b) : Nat) : Int) ((c * b / Nat.gcd (a * d) (c * b) : Nat) : Int)) → Q v s') :
    codeAny (model prog.p w) A' (.call (.ref 169) ⟨.ref x :: args, []⟩) (fun r s'' => r = .ok (.ret .none) ∧ Q (.ref x) s'') s' := by
  refine code_def (binds := [(S "self", .ref x), (S "numerator", v), (S "denominator", u)]) o169 C' hA'.lt (by kernel_rfl) rfl (by kernel_rfl) hbind (by kernel_rfl) (by kernel_rfl) (by kernel_rfl) (fun _ h => (nomatch h)) rfl .nil fun env s₁ _ _ _ _ C₁ F₁ => ?_
  have mN : ∀ y ∈ dx :: x :: M, y ∈ M ∨ s.heap.get? y = none := fun y hy => by
    rcases mcs hy with rfl | hy
    · exact .inr n2
    rcases mcs hy with rfl | hy
    · exact .inr n1
    · exact .inl hy
  have hx₁ : s₁.heap.get? x = some (inst 298 dx) := F₁.kept.k _ _ hx (by simp)
  have hd₁ : DictN s₁.heap dx (fun _ => none) 0 := hd.to fun o e => F₁.kept.k _ _ e (by obtain ⟨es, ep, e', _⟩ := hd; rw [e'] at e; cases e; simp)
  have nx : NN s₁.heap x := ⟨_, hx₁, by simp⟩
  have nd : NN s₁.heap dx := by obtain ⟨es, ep, e', _⟩ := hd₁; exact ⟨_, e', by simp⟩
  have K₁ : Kh s.heap s₁.heap := K'.trans F₁.kept
  have F : FP (dx :: x :: M) β.H env (fdS (st2 12 0)) s.heap s₁.heap [(S "denominator", q), (S "numerator", p), (S "self", .raw (.ref x))] := by
    refine ⟨fun y hy => ?_, _, F₁.base K', .cons ((rq.more mN).mono (D.of_kh K₁)) (.cons ((rp.more mN).mono (D.of_kh K₁)) (.cons (.raw _) .nil))⟩
    rcases mcs hy with rfl | hy
    · exact nd
    rcases mcs hy with rfl | hy
    · exact nx
    · exact (mx y hy).kh K₁
  refine frac_core hp hq hb hs (hA'.deeper (env := env)) C₁ F hx₁ hd₁ (List.mem_cons_self ..) n2 (C.new n2) fun s' m t1 t2 C'' K'' hx' hd' m1 m2 m3 => ⟨rfl, h _ _ C'' K'' (.frac (mx.off n1) (mx.off n2) hx' hd'.at m1 m2 m3)⟩
theorem cl_Frac2 {p q : PV} {a b c d : Nat} (hp : NumP p a b) (hq : NumP q c d) (hb : a * d ≤ 1000000 ∧ c * b ≤ 1000000 ∧ 0 < c * b) (hs : d ≤ 1000000 ∧ b ≤ 1000000) :
    Cl w β (n + 3) (.ref 298) [p, q] (.frac ((a * d / Nat.gcd (a * d) (c * b) : Nat) : Int) ((c * b / Nat.gcd (a * d) (c * b) : Nat) : Int)) := by
  intro prog A s M vs Q hA C mx r h
  obtain ⟨v, u, rfl, rp, rq⟩ := r.two
  refine make_cls C hA (fI := 169) (by kernel_rfl) (by kernel_rfl) (by kernel_rfl) fun x dx s' A' hA' C' K' n1 n2 hne hx hd => ?_
  exact frac_call hp hq hb hs mx rp rq hA' C' C K' n1 n2 hne hx hd (BindsTo.of_defaults rfl (C'.K 162 _ (by kernel_rfl)) (o := o162) rfl rfl rfl) h
theorem cl_Frac1 {p : PV} {a b : Nat} (hp : NumP p a b) (hb : a ≤ 1000000 ∧ b ≤ 1000000 ∧ 0 < b) :
    Cl w β (n + 3) (.ref 298) [p] (.frac ((a / Nat.gcd a b : Nat) : Int) ((b / Nat.gcd a b : Nat) : Int)) := by
  intro prog A s M vs Q hA C mx r h
  obtain ⟨v, rfl, rp⟩ := r.one
  refine make_cls C hA (fI := 169) (by kernel_rfl) (by kernel_rfl) (by kernel_rfl) fun x dx s' A' hA' C' K' n1 n2 hne hx hd => ?_
  have := frac_call (w := w) (β := β) (n := n) (prog := prog) (A' := A') (args := [v]) (Q := Q) hp (q := .int 1) (c := 1) (d := 1) (.inl ⟨rfl, rfl⟩) (by omega) (by omega) mx rp (.int 1 463) hA' C' C K' n1 n2 hne hx hd (BindsTo.of_defaults rfl (C'.K 162 _ (by kernel_rfl)) (o := o162) rfl rfl rfl) (by simpa using h)
  exact this
end
noncomputable def fracOf (U L : Nat) : PV := .frac ((U / Nat.gcd U L : Nat) : Int) ((L / Nat.gcd U L : Nat) : Int)
section
variable {w : World} {β : Pm} {n : Nat} {sc : Scope} {ρ ρ' : PVs} {pos : Pos}
theorem cl_Frac_ints {U L : Nat} (h : U ≤ 1000000 ∧ L ≤ 1000000 ∧ 0 < L) : Cl w β (n + 3) (.ref 298) [.int U, .int L] (fracOf U L) := by
  have := cl_Frac2 (w := w) (β := β) (n := n) (p := .int U) (q := .int L) (a := U) (b := 1) (c := L) (d := 1) (.inl ⟨rfl, rfl⟩) (.inl ⟨rfl, rfl⟩) (by omega) (by omega)
  simp only [Nat.mul_one] at this
  exact this
theorem Ev.neg {e : Expr} {a : Int} (h1 : Ev w β n sc ρ e (.int a)) : Ev w β n sc ρ (.UnaryOp .USub e pos) (.int (-a)) := by
  intro prog A env s M Q hA C L h
  refine wpAny_UnaryOp (h1 hA C L fun v s₁ C₁ K₁ r₁ => ?_)
  obtain ⟨t, rfl⟩ := r₁.inv_int
  exact P.neg_int (h _ _ C₁ (kp_trans K₁ (kp_tok _ _)) (.int _ _))
theorem cl_add {q : PV} {a b c d : Nat} (hq : NumP q c d) (hb : a * d + c * b ≤ 1000000 ∧ b * d ≤ 1000000 ∧ 0 < b * d) (hs : b ≤ 1000000 ∧ d ≤ 1000000) : Cl w β (n + 4) (.ref 211) [.frac a b, q] (fracOf (a * d + c * b) (b * d)) := by
  refine cl_fn o211 [S "self", S "other"] (by kernel_rfl) rfl (by kernel_rfl) ?_ (by kernel_rfl) (by kernel_rfl) (by kernel_rfl) rfl ?_
  · intro s vs h
    obtain ⟨a, b, rfl⟩ := len2 h
    exact BindsTo.of_eq (by with_unfolding_all rfl)
  show Sv _ _ _ _ [(S "other", q), (S "self", .frac a b)] _ _
  with_unfolding_all refine Sv.cons (ρ₁ := (S "upper", .int c) :: (S "lower", .int d) :: [(S "other", q), (S "self", .frac a b)]) ?_ ?_
  · exact S1.asg2 (.int c) (.int d) (.inl (by kernel_rfl)) (.inl (by kernel_rfl)) (by kernel_rfl) (by kernel_rfl) (.inl (by kernel_rfl)) (Ev.callR (f := .ref 154) kgfraction_parts (by walk_at "e") (by walk_at "es") (cl_parts hq))
  refine Sv.last (S1.ret (Ev.callR (f := .ref 298) (ps := [.int ((a * d + c * b : Nat) : Int), .int ((b * d : Nat) : Int)]) kgFraction (by walk_at "e") (Evs.cons (by kernel_rfl) ?_ (Evs.cons (by kernel_rfl) ?_ Evs.nil)) (cl_Frac_ints hb)))
  · exact Ev.conv (Ev.add (Ev.mul (a := (a : Int)) (b := (d : Int)) (intmul hs.2) (Ev.num (by walk_at "e")) (by walk_at "e")) (Ev.mul (a := (c : Int)) (b := (b : Int)) (intmul hs.1) (by walk_at "e") (Ev.den (by walk_at "e")))) (by simp)
  · exact Ev.conv (Ev.mul (a := (b : Int)) (b := (d : Int)) (intmul hs.2) (Ev.den (by walk_at "e")) (by walk_at "e")) (by simp)
theorem cl_mul {q : PV} {a b c d : Nat} (hq : NumP q c d) (hb : a * c ≤ 1000000 ∧ b * d ≤ 1000000 ∧ 0 < b * d) (hs : c ≤ 1000000 ∧ d ≤ 1000000) : Cl w β (n + 4) (.ref 239) [.frac a b, q] (fracOf (a * c) (b * d)) := by
  refine cl_fn o239 [S "self", S "other"] (by kernel_rfl) rfl (by kernel_rfl) ?_ (by kernel_rfl) (by kernel_rfl) (by kernel_rfl) rfl ?_
  · intro s vs h
    obtain ⟨a, b, rfl⟩ := len2 h
    exact BindsTo.of_eq (by with_unfolding_all rfl)
  show Sv _ _ _ _ [(S "other", q), (S "self", .frac a b)] _ _
  with_unfolding_all refine Sv.cons (ρ₁ := (S "upper", .int c) :: (S "lower", .int d) :: [(S "other", q), (S "self", .frac a b)]) ?_ ?_
  · exact S1.asg2 (.int c) (.int d) (.inl (by kernel_rfl)) (.inl (by kernel_rfl)) (by kernel_rfl) (by kernel_rfl) (.inl (by kernel_rfl)) (Ev.callR (f := .ref 154) kgfraction_parts (by walk_at "e") (by walk_at "es") (cl_parts hq))
  refine Sv.last (S1.ret (Ev.callR (f := .ref 298) (ps := [.int ((a * c : Nat) : Int), .int ((b * d : Nat) : Int)]) kgFraction (by walk_at "e") (Evs.cons (by kernel_rfl) ?_ (Evs.cons (by kernel_rfl) ?_ Evs.nil)) (cl_Frac_ints hb)))
  · exact Ev.conv (Ev.mul (a := (a : Int)) (b := (c : Int)) (intmul hs.1) (Ev.num (by walk_at "e")) (by walk_at "e")) (by simp)
  · exact Ev.conv (Ev.mul (a := (b : Int)) (b := (d : Int)) (intmul hs.2) (Ev.den (by walk_at "e")) (by walk_at "e")) (by simp)
theorem cl_floor {a b : Nat} (hb : 0 < b ∧ b ≤ 1000000) : Cl w β (n + 1) (.ref 190) [.frac a b] (.int ((a / b : Nat) : Int)) := by
  refine cl_fn o190 [S "self"] (by kernel_rfl) rfl (by kernel_rfl) ?_ (by kernel_rfl) (by kernel_rfl) (by kernel_rfl) rfl ?_
  · intro s vs h
    obtain ⟨a, rfl⟩ := len1 h
    exact BindsTo.of_eq (by with_unfolding_all rfl)
  show Sv _ _ _ _ [(S "self", .frac a b)] _ _
  with_unfolding_all refine Sv.last (S1.ret ?_)
  exact Ev.conv (Ev.fdiv (a := (a : Int)) (b := (b : Int)) (by omega) (small_div (by omega)) (Ev.num (by walk_at "e")) (Ev.den (by walk_at "e"))) (by rw [← Int.ofNat_fdiv])
theorem cl_ceil {a b : Nat} (hb : 0 < b ∧ b ≤ 1000000) : Cl w β (n + 1) (.ref 197) [.frac a b] (.int (-((-(a : Int)).fdiv (b : Int)))) := by
  refine cl_fn o197 [S "self"] (by kernel_rfl) rfl (by kernel_rfl) ?_ (by kernel_rfl) (by kernel_rfl) (by kernel_rfl) rfl ?_
  · intro s vs h
    obtain ⟨a, rfl⟩ := len1 h
    exact BindsTo.of_eq (by with_unfolding_all rfl)
  show Sv _ _ _ _ [(S "self", .frac a b)] _ _
  with_unfolding_all refine Sv.last (S1.ret ?_)
  exact Ev.neg (Ev.fdiv (a := -(a : Int)) (b := (b : Int)) (by omega) (small_div (by omega)) (Ev.neg (Ev.num (by walk_at "e"))) (Ev.den (by walk_at "e")))
theorem cl_pav {i : Nat} (hi : 0 < i ∧ i ≤ 1000) : Cl w β (n + 4) (.ref 545) [.int i] (fracOf 1 i) := by
  refine cl_fn o545 [S "i"] (by kernel_rfl) rfl (by kernel_rfl) ?_ (by kernel_rfl) (by kernel_rfl) (by kernel_rfl) rfl ?_
  · intro s vs h
    obtain ⟨a, rfl⟩ := len1 h
    exact BindsTo.of_eq (by with_unfolding_all rfl)
  show Sv _ _ _ _ [(S "i", .int i)] _ _
  with_unfolding_all refine Sv.cons (ρ₁ := [(S "i", .int i)]) ?_ ?_
  · exact S1.if (c := false) (Tv.cmp (by walk_at "e") (by walk_at "e") (co_eq (decide_eq_false (by omega)))) (fun h => by cases h) (fun _ => Sv.nil)
  refine Sv.last (S1.ret (Ev.callR (f := .ref 298) (ps := [.int ((1 : Nat) : Int), .int (i : Nat)]) kgFraction (by walk_at "e") (Evs.cons (by kernel_rfl) (Ev.conv Ev.int rfl) (Evs.cons (by kernel_rfl) (by walk_at "e") Evs.nil)) (cl_Frac_ints (by omega))))
theorem cl_fnC {f : Addr} {st : Stmt} {nm qual : Str} {dV pm cdv : Value} {ps : List PV} {r : PV} (o : Obj) (names : List Str)
    (ho : (Kf w.params).lookup f = some o) (hd : o.data = .func (fnX nm qual (fdA st) (fdB st) (fdS st) [] dV .none .none pm none cdv .none)) (hcd : codeIn (Kf w.params) cdv qual = true)
    (hb : ∀ s vs, Cx w β s → vs.length = names.length → BindsTo s (fnX nm qual (fdA st) (fdB st) (fdS st) [] dV .none .none pm none cdv .none) ⟨vs, []⟩ (names.zip vs))
    (hk : names.all (fun y => (fdS st).names.lookup y == some .local || (fdS st).names.lookup y == some .cell) = true)
    (hsc : ((fdS st).isCoroutine == false && (fdS st).isGenerator == false) = true) (hkf : (fdS st).kind = .function) (hn : ps.length = names.length)
    (h : Sv w β n (fdS st) (names.zip ps).reverse (fdB st) (.inr r)) : Cl w β (n + 1) (.ref f) ps r := by
  intro prog A s M vs Q hA C mx rl hq
  have hl : vs.length = names.length := by rw [rl.at.1, hn]
  refine call_def (binds := names.zip vs) o C hA.lt ho hd hcd (hb s vs C hl) ?_ hsc hkf (fun _ h => (nomatch h)) rfl .nil fun env s' _ _ _ _ C' F' => ?_
  · unfold kindOk
    rw [List.all_eq_true] at hk ⊢
    intro y hy
    exact hk y.1 (List.of_mem_zip hy).1
  · refine h (M := M) hA.deeper C' ⟨fun a ha => (mx a ha).kh F'.kept, _, F', ((RepL.zip rl).rev).mono (D.of_kh F'.kept)⟩ fun fl s'' C'' D'' R'' => ?_
    obtain ⟨v, rfl, rv, k⟩ := R''
    exact hq v _ C'' k rv
theorem cl_marginal {k : PV} : Cl w β (n + 1) (.ref 524) [.str (S "pav"), k] (.raw (.ref 545)) := by
  refine cl_fnC o524 [S "scorefct_id", S "committeesize"] (by kernel_rfl) rfl (by kernel_rfl) ?_ (by kernel_rfl) (by kernel_rfl) (by kernel_rfl) rfl ?_
  · intro s vs C h
    obtain ⟨a, b, rfl⟩ := len2 h
    exact BindsTo.of_defaults rfl (C.K 517 _ (by kernel_rfl)) (o := o517) rfl rfl rfl
  show Sv _ _ _ _ [(S "committeesize", k), (S "scorefct_id", .str (S "pav"))] _ _
  with_unfolding_all refine Sv.last ?_
  exact S1.if (c := true) (Tv.cmp (by walk_at "e") (by walk_at "e") (co_eqs (by kernel_rfl))) (fun _ => Sv.last (S1.ret (by walk_at "e"))) (fun h => by cases h)
end
section
variable {prog : Pr} {w : World} {A : Around} {β : Pm} {s : Shared} {x dx C f : Addr} {b : Value} {nm : String}
theorem try_own {Q : Option Value → Shared → Prop} {name : Str} (X : (Kf w.params).In s.heap) (hx : s.heap.get? x = some (inst C dx)) (hd : ∃ od, s.heap.get? dx = some od) (hs : findIn (Kf w.params) (.ref C) name = some (some (.ref f))) (hf : typeIn (Kf w.params) (.ref f) = some (.type "function"))
    (h : Wp prog w A (call (.ref f) [.ref x, b]) (fun v s' => v ≠ .notImplemented ∧ Q (some v) s') s) : Wp prog w A (tryMethod (.ref x) name b) Q s := by
  obtain ⟨od, ed⟩ := hd
  unfold tryMethod
  refine wpAny_bind (special_fn X (inst_at hx ed) hs hf (wpAny_mono h (fun v s' hv => ?_) fun _ _ e => e))
  cases v <;> first | exact absurd rfl hv.1 | exact wpAny_pure hv.2
theorem asInt_inst {Q : Option Int → Shared → Prop} (hx : s.heap.get? x = some (inst C dx)) (h : Q none s) : Wp prog w A (asInt? (.ref x)) Q s := by
  unfold asInt?
  refine wpAny_bind (wpAny_load hx ?_)
  exact wpAny_pure h
theorem add_dec {a : Int} {t : Tok} {Q : Value → Shared → Prop} (hx : s.heap.get? x = some (inst C dx)) (h : Q .notImplemented s) : Wp prog w A (call (.builtin "int.__add__") [.int a t, .ref x]) Q s := by
  refine wpAny_call_entry slot_int_add (typeIs_int s a t) entry_int_add ?_ (args_int_add _ _)
  show wpAny _ _ (asInt? (.ref x) >>= _) _ _ _
  refine wpAny_bind (asInt_inst (prog := prog) (w := w) hx ?_)
  exact wpAny_bind (wpAny_rule (wpAny_pure ⟨_, rfl, h⟩))
theorem mul_dec {a : Int} {t : Tok} {Q : Value → Shared → Prop} (hx : s.heap.get? x = some (inst C dx)) (h : Q .notImplemented s) : Wp prog w A (call (.builtin "int.__mul__") [.int a t, .ref x]) Q s := by
  refine wpAny_call_entry F.slot_int_mul (typeIs_int s a t) F.entry_int_mul ?_ (F.args_int_mul_2 _ _)
  show wpAny _ _ (asInt? (.ref x) >>= _) _ _ _
  refine wpAny_bind (asInt_inst (prog := prog) (w := w) hx ?_)
  exact wpAny_bind (wpAny_rule (wpAny_pure ⟨_, rfl, h⟩))
theorem fill_own {h : Heap} {f : Addr} (X : (Kf w.params).In h) (hc : selfFirst (Kf w.params) C = true) (hs : findIn (Kf w.params) (.ref C) (PySem.dunder nm) = some (some (.ref f))) : Looks (model prog.p w) h (fillsNumberSlot (.ref C) nm) true := by
  obtain ⟨cd, rest, hcd, hm⟩ := ksp_first hc
  exact fills_K X hcd hm hs
theorem bin1_same {a b ta : Value} {Q : Option Value → Shared → Prop} (L1 : Looks (model prog.p w) s.heap (typeOf a) ta) (L2 : Looks (model prog.p w) s.heap (typeOf b) ta) (L3 : Looks (model prog.p w) s.heap (fillsNumberSlot ta nm) true)
    (h : Wp prog w A (tryMethod a (PySem.dunder nm) b) (fun r s' => ∃ v, r = some v ∧ Q (some v) s') s) : Wp prog w A (binaryOp1 nm a b) Q s := by
  unfold binaryOp1
  refine wpAny_bind (L1.at (wpAny_bind (L2.at (wpAny_bind (L3.at ?_)))))
  refine wpAny_ite_true (by simp) (wpAny_bind (wpAny_pure ?_))
  refine wpAny_ite_false rfl (wpAny_ite_false rfl (wpAny_ite_false rfl (wpAny_bind (wpAny_pure ?_))))
  refine wpAny_ite_false rfl (wpAny_ite_true rfl (wpAny_bind (Wp.mono h fun r s' z => ?_)))
  obtain ⟨v, rfl, q⟩ := z
  exact wpAny_pure q
theorem bin1_diff {a b ta tb : Value} {sub lip : Bool} {ro : Option Value} {Q : Option Value → Shared → Prop} (L1 : Looks (model prog.p w) s.heap (typeOf a) ta) (L2 : Looks (model prog.p w) s.heap (typeOf b) tb) (hne : (ta == tb) = false) (L3 : Looks (model prog.p w) s.heap (fillsNumberSlot ta nm) true) (L4 : Looks (model prog.p w) s.heap (fillsNumberSlot tb nm) true)
    (L5 : Looks (model prog.p w) s.heap (isSubtype tb ta) sub) (h5 : sub = true → ∀ {Q : Bool → Shared → Prop}, Q false s → Wp prog w A (reflectedDiffers ta tb nm) Q s) (L6 : Looks (model prog.p w) s.heap (numberSlotInPython ta nm) lip)
    (h6 : lip = true → Looks (model prog.p w) s.heap (numberSlotInPython tb nm) false ∧ Looks (model prog.p w) s.heap (typeLookup tb (dunderR nm)) ro)
    (h : Wp prog w A (tryMethod a (PySem.dunder nm) b) (fun r s' => (∃ v, r = some v ∧ Q (some v) s') ∨ r = none ∧ lip = false ∧ Wp prog w A (tryMethod b (dunderR nm) a) (fun r s'' => ∃ v, r = some v ∧ Q (some v) s'') s') s) : Wp prog w A (binaryOp1 nm a b) Q s := by
  unfold binaryOp1
  refine wpAny_bind (L1.at (wpAny_bind (L2.at (wpAny_bind (L3.at ?_)))))
  refine wpAny_ite_false (by rw [hne]; rfl) (wpAny_bind (L4.at ?_))
  refine wpAny_ite_true rfl (wpAny_bind (L5.at ?_))
  cases sub
  · refine wpAny_ite_false rfl (wpAny_ite_false rfl (wpAny_ite_true rfl (wpAny_bind (L6.at ?_))))
    cases lip
    · refine wpAny_ite_false rfl (wpAny_ite_true rfl (wpAny_bind (Wp.mono h fun r s' z => ?_)))
      rcases z with ⟨v, rfl, q⟩ | ⟨rfl, z⟩
      · exact wpAny_pure q
      refine wpAny_ite_false rfl (wpAny_ite_true rfl (wpAny_bind (Wp.mono z.2 fun r s' y => ?_)))
      obtain ⟨v, rfl, q⟩ := y
      exact wpAny_bind (wpAny_rule (wpAny_pure q))
    · refine wpAny_ite_true rfl (wpAny_bind ((h6 rfl).1.at (wpAny_ite_true rfl (wpAny_bind ((h6 rfl).2.at ?_)))))
      refine wpAny_ite_true rfl (wpAny_bind (Wp.mono h fun r s' z => ?_))
      rcases z with ⟨v, rfl, q⟩ | ⟨_, z, _⟩
      · exact wpAny_pure q
      · cases z
  · refine wpAny_ite_true rfl (wpAny_bind (h5 rfl ?_))
    refine wpAny_ite_false rfl (wpAny_ite_true rfl (wpAny_bind (L6.at ?_)))
    cases lip
    · refine wpAny_ite_false rfl (wpAny_ite_true rfl (wpAny_bind (Wp.mono h fun r s' z => ?_)))
      rcases z with ⟨v, rfl, q⟩ | ⟨rfl, z⟩
      · exact wpAny_pure q
      refine wpAny_ite_false rfl (wpAny_ite_true rfl (wpAny_bind (Wp.mono z.2 fun r s' y => ?_)))
      obtain ⟨v, rfl, q⟩ := y
      exact wpAny_bind (wpAny_rule (wpAny_pure q))
    · refine wpAny_ite_true rfl (wpAny_bind ((h6 rfl).1.at (wpAny_ite_true rfl (wpAny_bind ((h6 rfl).2.at ?_)))))
      refine wpAny_ite_true rfl (wpAny_bind (Wp.mono h fun r s' z => ?_))
      rcases z with ⟨v, rfl, q⟩ | ⟨_, z, _⟩
      · exact wpAny_pure q
      · cases z
theorem bin1_own {y dy : Addr} {Q : Option Value → Shared → Prop} (X : (Kf w.params).In s.heap) (hc : selfFirst (Kf w.params) C = true) (hx : s.heap.get? x = some (inst C dx)) (hd : ∃ od, s.heap.get? dx = some od) (hy : s.heap.get? y = some (inst C dy))
    (hs : findIn (Kf w.params) (.ref C) (PySem.dunder nm) = some (some (.ref f))) (hf : typeIn (Kf w.params) (.ref f) = some (.type "function"))
    (h : Wp prog w A (call (.ref f) [.ref x, .ref y]) (fun v s' => v ≠ .notImplemented ∧ Q (some v) s') s) : Wp prog w A (binaryOp1 nm (.ref x) (.ref y)) Q s :=
  bin1_same (inst_type hx) (inst_type hy) (fill_own X hc hs) (try_own X hx hd hs hf (h.mono fun v s' z => ⟨z.1, v, rfl, z.2⟩))
theorem bin1_int {a : Int} {t : Tok} {id : String} {Q : Option Value → Shared → Prop} (X : (Kf w.params).In s.heap) (hc : selfFirst (Kf w.params) C = true) (hx : s.heap.get? x = some (inst C dx)) (hd : ∃ od, s.heap.get? dx = some od)
    (hl : findIn (Kf w.params) (.ref C) (PySem.dunder nm) = some (some (.ref f))) {fr : Addr} (hs : findIn (Kf w.params) (.ref C) (dunderR nm) = some (some (.ref fr))) (hf : typeIn (Kf w.params) (.ref fr) = some (.type "function"))
    (hsub : subIn (Kf w.params) (.ref C) (.type "int") = some false) (fi : fillsNumberSlot (.type "int") nm = pure true) (sl : Slot "int" (PySem.dunder nm) id)
    (hdec : ∀ {Q : Value → Shared → Prop}, Q .notImplemented s → Wp prog w A (call (.builtin id) [.int a t, .ref x]) Q s)
    (h : Wp prog w A (call (.ref fr) [.ref x, .int a t]) (fun v s' => v ≠ .notImplemented ∧ Q (some v) s') s) : Wp prog w A (binaryOp1 nm (.int a t) (.ref x)) Q s :=
  bin1_diff (ro := none) (Looks.of_pure rfl) (inst_type hx) (Bool.eq_false_iff.mpr fun q => by cases beq_iff_eq.mp q) (Looks.of_pure fi) (fill_own X hc hl) (looks_subIn X hsub) (fun z => nomatch z) (Looks.of_pure rfl) (fun z => nomatch z)
    (wpAny_tryMethod_declines (typeIs_int s a t) sl (hdec ⟨rfl, .inr ⟨rfl, rfl, try_own X hx hd hs hf (h.mono fun v s' z => ⟨z.1, v, rfl, z.2⟩)⟩⟩))
theorem bin1_own_int {a : Int} {t : Tok} {ro : Option Value} {Q : Option Value → Shared → Prop} (X : (Kf w.params).In s.heap) (hc : selfFirst (Kf w.params) C = true) (hx : s.heap.get? x = some (inst C dx)) (hd : ∃ od, s.heap.get? dx = some od)
    (hs : findIn (Kf w.params) (.ref C) (PySem.dunder nm) = some (some (.ref f))) (hf : typeIn (Kf w.params) (.ref f) = some (.type "function")) {rc : Option Value} (hr : findIn (Kf w.params) (.ref C) (dunderR nm) = some rc) (hp : rc = none ∨ ∃ g : Addr, rc = some (.ref g))
    (fi : fillsNumberSlot (.type "int") nm = pure true) (hro : findIn (Kf w.params) (.type "int") (dunderR nm) = some ro) (hsub : subIn (Kf w.params) (.type "int") (.ref C) = some false)
    (h : Wp prog w A (call (.ref f) [.ref x, .int a t]) (fun v s' => v ≠ .notImplemented ∧ Q (some v) s') s) : Wp prog w A (binaryOp1 nm (.ref x) (.int a t)) Q s :=
  bin1_diff (inst_type hx) (Looks.of_pure rfl) (Bool.eq_false_iff.mpr fun q => by cases beq_iff_eq.mp q) (fill_own X hc hs) (Looks.of_pure fi) (looks_subIn X hsub) (fun z => nomatch z) (ksp_inPy X hs hr hp) (fun _ => ⟨Looks.of_pure rfl, looks_findIn X hro⟩)
    (try_own X hx hd hs hf (h.mono fun v s' z => ⟨z.1, .inl ⟨v, rfl, z.2⟩⟩))
theorem bin_of {op : Operator} {a b : Value} {Q : Value → Shared → Prop} (h : Wp prog w A (binaryOp1 op.info.2 a b) (fun r s' => ∃ v, r = some v ∧ Q v s') s) : Wp prog w A (binaryOp op a b) Q s := by
  rcases hi : op.info with ⟨sym, nm'⟩
  rw [hi] at h
  simp only [binaryOp, hi]
  refine wpAny_holding (wpAny_bind (Wp.mono h fun r s' z => ?_))
  obtain ⟨v, rfl, q⟩ := z
  exact wpAny_pure q
theorem inp_of {op : Operator} {a b : Value} {t : Value} {Q : Value → Shared → Prop} (ht : Looks (model prog.p w) s.heap (typeOf a) t) (hi : Looks (model prog.p w) s.heap (fillsInplaceSlot t op.info.2 (op == .Add)) false) (h : Wp prog w A (binaryOp1 op.info.2 a b) (fun r s' => ∃ v, r = some v ∧ Q v s') s) : Wp prog w A (inplaceOp op a b) Q s := by
  obtain ⟨hh, g, d, tt, os⟩ := s
  unfold inplaceOp
  refine wpAny_holding ?_
  refine wpAny_bind (ht.at (wpAny_bind (hi.at ?_)))
  simp only [Bool.false_eq_true, if_false]
  refine wpAny_bind (Wp.mono h fun r s' z => ?_)
  obtain ⟨v, rfl, q⟩ := z
  exact wpAny_pure q
end
noncomputable def B1 (w : World) (β : Pm) (n : Nat) (nm : String) (a b c : PV) : Prop :=
  ∀ ⦃prog : Pr⦄ ⦃A : Around⦄ ⦃s : Shared⦄ ⦃M : List Addr⦄ ⦃x y : Value⦄ ⦃Q : Value → Shared → Prop⦄, Ok A n → Cx w β s → Mx M s.heap → Rep M s.heap x a → Rep M s.heap y b →
    (∀ v s', Cx w β s' → Kp s s' → Rep M s'.heap v c → Q v s') → Wp prog w A (binaryOp1 nm x y) (fun r s' => ∃ v, r = some v ∧ Q v s') s
noncomputable def Ip (w : World) (β : Pm) (n : Nat) (op : Operator) (a b c : PV) : Prop :=
  ∀ ⦃prog : Pr⦄ ⦃A : Around⦄ ⦃s : Shared⦄ ⦃M : List Addr⦄ ⦃x y : Value⦄ ⦃Q : Value → Shared → Prop⦄, Ok A n → Cx w β s → Mx M s.heap → Rep M s.heap x a → Rep M s.heap y b →
    (∀ v s', Cx w β s' → Kp s s' → Rep M s'.heap v c → Q v s') → Wp prog w A (inplaceOp op x y) Q s
section
variable {w : World} {β : Pm} {n : Nat} {sc : Scope} {ρ ρ' : PVs} {pos : Pos}
theorem frac_ref {M : List Addr} {h : Heap} {v : Value} {a b : Int} (r : Rep M h v (.frac a b)) : v ≠ .notImplemented := by
  obtain ⟨x, dx, m, t, u, rfl, _⟩ := r.inv_frac
  simp
theorem dict_there {h : Heap} {a : Addr} {m : Str → Option Value} (x : DictAt h a m) : ∃ o, h.get? a = some o := let ⟨_, _, e, _⟩ := x; ⟨_, e⟩
theorem b1_ff {nm : String} {f : Addr} {a b c d e g : Int} (hs : findIn (Kf w.params) (.ref 298) (PySem.dunder nm) = some (some (.ref f))) (hf : typeIn (Kf w.params) (.ref f) = some (.type "function"))
    (hc : Cl w β n (.ref f) [.frac a b, .frac c d] (.frac e g)) : B1 w β n nm (.frac a b) (.frac c d) (.frac e g) := by
  intro prog A s M x y Q hA C mx rx ry h
  obtain ⟨x, dx, m, t, u, rfl, hx, hd, -, -⟩ := id rx.inv_frac
  obtain ⟨y, dy, m', t', u', rfl, hy, hd', -, -⟩ := id ry.inv_frac
  refine bin1_own C.K (by kernel_rfl) hx (dict_there hd) hy hs hf (hc hA C mx (.cons rx (.cons ry .nil)) fun v s' C' K' r' => ⟨frac_ref r', v, rfl, h v s' C' K' r'⟩)
theorem b1_fi {nm : String} {f : Addr} {rc ro : Option Value} {a b c e g : Int} (hs : findIn (Kf w.params) (.ref 298) (PySem.dunder nm) = some (some (.ref f))) (hf : typeIn (Kf w.params) (.ref f) = some (.type "function"))
    (hr : findIn (Kf w.params) (.ref 298) (dunderR nm) = some rc) (hp : rc = none ∨ ∃ g : Addr, rc = some (.ref g)) (fi : fillsNumberSlot (.type "int") nm = pure true) (hro : findIn (Kf w.params) (.type "int") (dunderR nm) = some ro)
    (hc : Cl w β n (.ref f) [.frac a b, .int c] (.frac e g)) : B1 w β n nm (.frac a b) (.int c) (.frac e g) := by
  intro prog A s M x y Q hA C mx rx ry h
  obtain ⟨x, dx, m, t, u, rfl, hx, hd, -, -⟩ := id rx.inv_frac
  obtain ⟨t', rfl⟩ := ry.inv_int
  exact bin1_own_int C.K (by kernel_rfl) hx (dict_there hd) hs hf hr hp fi hro (by kernel_rfl) (hc hA C mx (.cons rx (.cons ry .nil)) fun v s' C' K' r' => ⟨frac_ref r', v, rfl, h v s' C' K' r'⟩)
theorem b1_if {nm id' : String} {f fr : Addr} {a b c e g : Int} (hl : findIn (Kf w.params) (.ref 298) (PySem.dunder nm) = some (some (.ref f))) (hs : findIn (Kf w.params) (.ref 298) (dunderR nm) = some (some (.ref fr))) (hf : typeIn (Kf w.params) (.ref fr) = some (.type "function"))
    (fi : fillsNumberSlot (.type "int") nm = pure true) (sl : Slot "int" (PySem.dunder nm) id')
    (hdec : ∀ {prog : Pr} {A : Around} {s : Shared} {t : Tok} {x dx C : Addr} {Q : Value → Shared → Prop}, s.heap.get? x = some (inst C dx) → Q .notImplemented s → Wp prog w A (call (.builtin id') [.int c t, .ref x]) Q s)
    (hc : Cl w β n (.ref fr) [.frac a b, .int c] (.frac e g)) : B1 w β n nm (.int c) (.frac a b) (.frac e g) := by
  intro prog A s M x y Q hA C mx rx ry h
  obtain ⟨x, dx, m, t, u, rfl, hx, hd, -, -⟩ := id ry.inv_frac
  obtain ⟨t', rfl⟩ := rx.inv_int
  exact bin1_int C.K (by kernel_rfl) hx (dict_there hd) hl hs hf (by kernel_rfl) fi sl (fun q => hdec hx q) (hc hA C mx (.cons ry (.cons rx .nil)) fun v s' C' K' r' => ⟨frac_ref r', v, rfl, h v s' C' K' r'⟩)
theorem Ev.bop {l r : Expr} {op : Operator} {a b c : PV} (h1 : Ev w β n sc ρ l a) (h2 : Ev w β n sc ρ r b) (ho : B1 w β n op.info.2 a b c) : Ev w β n sc ρ (.BinOp l op r pos) c :=
  Ev.bin h1 h2 fun hA C mx x y h => bin_of (ho hA C mx x y h)
theorem b1_add {a b c d : Nat} (hb : a * d + c * b ≤ 1000000 ∧ b * d ≤ 1000000 ∧ 0 < b * d) (hs : b ≤ 1000000 ∧ d ≤ 1000000) : B1 w β (n + 4) "add" (.frac a b) (.frac c d) (fracOf (a * d + c * b) (b * d)) :=
  b1_ff (f := 211) (by kernel_rfl) (by kernel_rfl) (cl_add (.inr rfl) hb hs)
theorem b1_addi {a b c : Nat} (hb : a * 1 + c * b ≤ 1000000 ∧ b * 1 ≤ 1000000 ∧ 0 < b * 1) : B1 w β (n + 4) "add" (.frac a b) (.int c) (fracOf (a * 1 + c * b) (b * 1)) :=
  b1_fi (f := 211) (rc := some (.ref 218)) (ro := some (.builtin "int.__radd__")) (by kernel_rfl) (by kernel_rfl) (by kernel_rfl) (.inr ⟨_, rfl⟩) F.fills_int_add (by kernel_rfl) (cl_add (.inl ⟨rfl, rfl⟩) hb (by omega))
theorem b1_muli {a b c : Nat} (hb : a * c ≤ 1000000 ∧ b * 1 ≤ 1000000 ∧ 0 < b * 1) (hc : c ≤ 1000000) : B1 w β (n + 4) "mul" (.frac a b) (.int c) (fracOf (a * c) (b * 1)) :=
  b1_fi (f := 239) (rc := some (.ref 246)) (ro := some (.builtin "int.__rmul__")) (by kernel_rfl) (by kernel_rfl) (by kernel_rfl) (.inr ⟨_, rfl⟩) F.fills_int_mul (by kernel_rfl) (cl_mul (.inl ⟨rfl, rfl⟩) hb (by omega))
theorem cl_radd {a b c : Nat} (hb : a * 1 + c * b ≤ 1000000 ∧ b * 1 ≤ 1000000 ∧ 0 < b * 1) : Cl w β (n + 5) (.ref 218) [.frac a b, .int c] (fracOf (a * 1 + c * b) (b * 1)) := by
  refine cl_fn o218 [S "self", S "other"] (by kernel_rfl) rfl (by kernel_rfl) ?_ (by kernel_rfl) (by kernel_rfl) (by kernel_rfl) rfl ?_
  · intro s vs h
    obtain ⟨a, b, rfl⟩ := len2 h
    exact BindsTo.of_eq (by with_unfolding_all rfl)
  show Sv _ _ _ _ [(S "other", .int c), (S "self", .frac a b)] _ _
  with_unfolding_all refine Sv.last (S1.ret ?_)
  exact Ev.bop (by walk_at "e") (by walk_at "e") (b1_addi hb)
theorem cl_rmul {a b c : Nat} (hb : a * c ≤ 1000000 ∧ b * 1 ≤ 1000000 ∧ 0 < b * 1) (hc : c ≤ 1000000) : Cl w β (n + 5) (.ref 246) [.frac a b, .int c] (fracOf (a * c) (b * 1)) := by
  refine cl_fn o246 [S "self", S "other"] (by kernel_rfl) rfl (by kernel_rfl) ?_ (by kernel_rfl) (by kernel_rfl) (by kernel_rfl) rfl ?_
  · intro s vs h
    obtain ⟨a, b, rfl⟩ := len2 h
    exact BindsTo.of_eq (by with_unfolding_all rfl)
  show Sv _ _ _ _ [(S "other", .int c), (S "self", .frac a b)] _ _
  with_unfolding_all refine Sv.last (S1.ret ?_)
  exact Ev.bop (by walk_at "e") (by walk_at "e") (b1_muli hb hc)
theorem b1_iadd {a b c : Nat} (hb : a * 1 + c * b ≤ 1000000 ∧ b * 1 ≤ 1000000 ∧ 0 < b * 1) : B1 w β (n + 5) "add" (.int c) (.frac a b) (fracOf (a * 1 + c * b) (b * 1)) :=
  b1_if (f := 211) (fr := 218) (by kernel_rfl) (by kernel_rfl) (by kernel_rfl) F.fills_int_add F.slot_int_add (fun hx q => add_dec hx q) (cl_radd hb)
theorem b1_imul {a b c : Nat} (hb : a * c ≤ 1000000 ∧ b * 1 ≤ 1000000 ∧ 0 < b * 1) (hc : c ≤ 1000000) : B1 w β (n + 5) "mul" (.int c) (.frac a b) (fracOf (a * c) (b * 1)) :=
  b1_if (f := 239) (fr := 246) (by kernel_rfl) (by kernel_rfl) (by kernel_rfl) F.fills_int_mul F.slot_int_mul (fun hx q => mul_dec hx q) (cl_rmul hb hc)
theorem noI_int {h : Heap} {M : Model} : Looks M h (fillsInplaceSlot (.type "int") "add" true) false := by
  refine Looks.of_pure ?_
  show (typeLookup (.type "int") (dunderI "add") >>= fun fi => pure (fi.isSome && !isSeqSlot fi)) = pure false
  rw [no_int_iadd]; rfl
theorem noI_F {h : Heap} {M : Model} (X : (Kf w.params).In h) : Looks M h (fillsInplaceSlot (.ref 298) "add" true) false := by
  intro A Q E s k q
  have X' := X.keeps k
  obtain ⟨hh, g, d, tt, os⟩ := s
  obtain ⟨cd, hcd, hm⟩ := any_some (show (clsIn (Kf w.params) 298).any (fun cd => cd.mro == [.ref 298, .type "object"]) = true by kernel_rfl)
  have Lm : Looks M hh (mroOf (.ref 298)) [.ref 298, .type "object"] := by
    rw [← beq_iff_eq.mp hm]
    exact (looks_clsIn X' hcd).andThen (f := fun cd => pure cd.mro) .now
  have L1 : Looks M hh (typeLookup (.ref 298) (dunderI "add")) none := looks_findIn X' (by kernel_rfl)
  have L2 : Looks M hh (typeLookup (.type "object") (dunderI "add")) none := looks_findIn X' (by kernel_rfl)
  unfold fillsInplaceSlot
  refine wpAny_bind (Lm.at ?_)
  rw [List.anyM_cons]
  refine wpAny_bind ?_
  refine wpAny_bind (L1.at (wpAny_pure ?_))
  simp only [Bool.false_eq_true, if_false]
  rw [List.anyM_cons]
  refine wpAny_bind ?_
  refine wpAny_bind (L2.at (wpAny_pure ?_))
  simp only [Bool.false_eq_true, if_false]
  exact wpAny_pure q
theorem ip_ff {a b c d e g : Int} (hb : B1 w β n "add" (.frac a b) (.frac c d) (.frac e g)) : Ip w β n .Add (.frac a b) (.frac c d) (.frac e g) := by
  intro prog A s M x y Q hA C mx rx ry h
  obtain ⟨x, dx, m, t, u, rfl, hx, hd, -, -⟩ := id rx.inv_frac
  exact inp_of (inst_type hx) (noI_F C.K) (hb hA C mx rx ry h)
theorem ip_if {a b c e g : Int} (hb : B1 w β n "add" (.int c) (.frac a b) (.frac e g)) : Ip w β n .Add (.int c) (.frac a b) (.frac e g) := by
  intro prog A s M x y Q hA C mx rx ry h
  obtain ⟨t', rfl⟩ := rx.inv_int
  exact inp_of (Looks.of_pure rfl) noI_int (hb hA C mx rx ry h)
theorem ip_ii {a b : Int} : Ip w β n .Add (.int a) (.int b) (.int (a + b)) := by
  intro prog A s M x y Q hA C mx rx ry h
  obtain ⟨t, rfl⟩ := rx.inv_int
  obtain ⟨t', rfl⟩ := ry.inv_int
  exact P.iadd_int (h _ _ C (kp_tok _ _) (.int _ _))
theorem ld_var {prog : Pr} {A : Around} {s : Shared} {env : Env} {x : Str} {p : PV} {Q : Value → Shared → Prop} {M : List Addr} (L : Ld M env sc s.heap ρ) (hk : isVar (sc.names.lookup x) = true) (hv : ρ.lookup x = some p) (h : ∀ v, Rep M s.heap v p → Q v s) :
    Wp prog w A (loadName env x) Q s := by
  obtain ⟨v, l, r⟩ := L.val x p hk hv
  rcases l with ⟨a, _, m, b, c⟩ | ⟨a | ⟨a, a'⟩, c, b, _, d⟩
  · exact wpAny_loadName_local L.kind a b c (h v r)
  · exact wpAny_loadName_cell L.kind a b d (h v r)
  · exact wpAny_loadName_free L.kind a b d (h v r) a'
theorem S1.aug {x : Str} {np pos : Pos} {op : Operator} {e : Expr} {a b c : PV} (hk : sc.names.lookup x = some .local ∨ sc.names.lookup x = some .cell) (hv : ρ.lookup x = some a) (h1 : Ev w β n sc ρ e b) (ho : Ip w β n op a b c) : S1 w β n sc ρ (.AugAssign (.Name x np) op e pos) (.inl ((x, c) :: ρ)) := by
  intro prog A env s H M Q hA C F h
  refine wpAny_AugAssign_Name (ld_var F.ld (by rcases hk with q | q <;> rw [q] <;> rfl) hv fun v r => ?_)
  refine h1 hA C F.ld fun y s₁ C₁ K₁ r₁ => ?_
  refine ho hA C₁ (F.kp K₁).1 (r.kp K₁) r₁ fun z s₂ C₂ K₂ r₂ => ?_
  exact store_p C₂ ((F.kp K₁).kp K₂) r₂ hk fun s₃ C₃ F₃ D₃ => h _ s₃ C₃ ((Kb.of_kp (kp_trans K₁ K₂)).trans D₃) ⟨rfl, F₃⟩
end
section
variable {prog : Program} {w : World} {A : Around} {E : Value → Shared → Prop}
theorem isi_nested_tuple {P : Shared → Prop} (hP : ∀ s tk, P s → P { s with toks := tk }) {x : Value} {Tx : String} {tp : Addr} {cs : List Value} {vs : List Bool} {tk : Tok} {s : Shared} {n : Nat} {Q : Fin → Shared → Prop}
    (hx : s.TypeIs x Tx) (htp : s.heap.get? tp = some { cls := .type "tuple", data := .seq cs.toArray n }) (ha : AnswersAll P x cs vs) (hs : P s)
    (hq : ∀ tk', Q (.done (.ret (.bool (vs.any id)))) { s with toks := tk' }) : wpAny (model prog w) A (Builtin.«isinstance.nested» ⟨[x, .ref tp, .int 0 tk], []⟩) Q E s := by
  obtain ⟨h, g, d, t, os⟩ := s
  have hT2 : (⟨h, g, d, t, os⟩ : Shared).TypeIs (.ref tp) "tuple" := ⟨_, htp, rfl⟩
  have f1 := F.isi_sub_tuple
  repeat (any_goals (first | assumption | wp_step))
  refine wpAny_arrayLoop ?_
  simp only [Option.getD_some, List.toList_toArray]
  refine isinstance_items (dep := 0) hP cs vs _ _ ha hs fun tk' => ?_
  cases hv : vs.any id with
  | true =>
    simp only [if_true]
    repeat (any_goals (first | assumption | wp_step))
    exact hv ▸ hq tk'
  | false =>
    simp only [Bool.false_eq_true, if_false]
    repeat (any_goals (first | assumption | wp_step))
    exact hv ▸ hq tk'
end
section
variable {w : World} {β : Pm} {n : Nat} {sc : Scope} {ρ ρ' : PVs} {pos : Pos}
theorem cl_isIF {c : Int} : Cl w β n (.builtin "isinstance") [.int c, .tup [.raw (.type "int"), .raw (.ref 298)]] (.bool true) := by
  intro prog A s M vs Q hA C mx r h
  obtain ⟨v, u, rfl, r₁, r'⟩ := r.two
  obtain ⟨t, rfl⟩ := r₁.inv_int
  obtain ⟨tp, its, rfl, _, ⟨k, hl⟩, rl⟩ := r'.inv_tup
  obtain ⟨v1, v2, e1, q1, q2⟩ := rl.two
  cases q1.inv_raw
  cases q2.inv_raw
  have ei : its = [Value.type "int", Value.ref 298].toArray := by rw [← e1]
  subst ei
  have a1 : Answers (fun s' => (Kf w.params).In s'.heap ∧ s'.TypeIs (.int c t) "int") (.int c t) (.type "int") true := fun dep tk _ _ _ _ s hs => Answers.of_true PyProof.Rows.meta_int PyProof.Rows.sub_int_int dep tk _ _ _ _ s ⟨hs.1.2, hs.2⟩
  have a2 : Answers (fun s' => (Kf w.params).In s'.heap ∧ s'.TypeIs (.int c t) "int") (.int c t) (.ref 298) false := fun dep tk prog' w' A' R' s' hs' => isn_nested (P := fun _ => True) hs'.1.1 (Looks.of_pure rfl) (by kernel_rfl) trivial int_cls (hs'.2 _)
  refine call_isinstance (S := fun _ R s' => s' = s ∧ ∀ tk, R (.ok (.ret (.bool true))) { s' with toks := tk }) (fun _ _ A' R' s' hs => ?_) ⟨rfl, fun tk => h _ _ C (kp_tok _ _) (.bool true)⟩
  obtain ⟨e, hs⟩ := hs
  subst e
  exact isinstance_outer (isi_nested_tuple (P := fun s' => (Kf w.params).In s'.heap ∧ s'.TypeIs (.int c t) "int") (vs := [true, false]) (Tx := "int") (fun s tk p => ⟨p.1, p.2.toks tk⟩) (typeIs_int s' c t) hl ⟨a1, a2, trivial⟩ ⟨C.K, typeIs_int _ c t⟩ hs) (Shared.TypeIs.not_mainsLoader (typeIs_int s' c t))
theorem Ev.and {e f : Expr} {b : Bool} (h1 : Ev w β n sc ρ e (.bool true)) (h2 : Ev w β n sc ρ f (.bool b)) : Ev w β n sc ρ (.BoolOp .And [e, f] pos) (.bool b) := by
  intro prog A env s M Q hA C L h
  refine PyProof.Rows.BoolOp_and (h1 hA C L fun v s₁ C₁ K₁ r₁ => ?_)
  cases r₁.inv_bool
  refine wpAny_truthy_bool ?_
  simp only [if_true]
  exact h2 hA C₁ (L.kp K₁) fun v s₂ C₂ K₂ r₂ => h v s₂ C₂ (kp_trans K₁ K₂) r₂
theorem co_eqt {a b c d : Int} {e : Bool} (h : decide (a = c ∧ b = d) = e) : Co w β n .Eq (.tup [.int a, .int b]) (.tup [.int c, .int d]) e := by
  intro prog A s M x y Q hA C mx rx ry h'
  obtain ⟨l, its, rfl, _, hl, rl⟩ := rx.inv_tup
  obtain ⟨l', its', rfl, _, hl', rl'⟩ := ry.inv_tup
  obtain ⟨v1, v2, e1, q1, q2⟩ := rl.two
  obtain ⟨v1', v2', e1', q1', q2'⟩ := rl'.two
  obtain ⟨t1, rfl⟩ := q1.inv_int
  obtain ⟨t2, rfl⟩ := q2.inv_int
  obtain ⟨t3, rfl⟩ := q1'.inv_int
  obtain ⟨t4, rfl⟩ := q2'.inv_int
  have ei : its = [Value.int a t1, Value.int b t2].toArray := by rw [← e1]
  have ei' : its' = [Value.int c t3, Value.int d t4].toArray := by rw [← e1']
  subst ei ei'
  obtain ⟨k, hl⟩ := hl
  obtain ⟨k', hl'⟩ := hl'
  refine PySem.SeqAt.eq_tupleAt (e := fun j => if j = 0 then a == c else b == d) ⟨_, hl, rfl, _, rfl⟩ ⟨_, hl', rfl, _, rfl⟩ hA.cl (fun j h1 h2 => ?_) ?_
  · match j, h1 with
    | 0, _ => exact PySem.SeqAt.EqAt.int_int _ _ _ _
    | 1, _ => exact PySem.SeqAt.EqAt.int_int _ _ _ _
  · have : ((List.range (min [Value.int a t1, Value.int b t2].toArray.size [Value.int c t3, Value.int d t4].toArray.size)).all (fun j => if j = 0 then a == c else b == d) && [Value.int a t1, Value.int b t2].toArray.size == [Value.int c t3, Value.int d t4].toArray.size) = e := by
      rw [← h]
      show ((a == c) && ((b == d) && true) && true) = _
      rw [Bool.and_true, Bool.and_true, Bool.eq_iff_iff]
      simp
    rw [this]
    exact h' _ C (kp_refl _)
theorem cl_feq {a b : Nat} {c : Nat} : Cl w β (n + 2) (.ref 267) [.frac a b, .int c] (.bool (decide ((a : Int) = c ∧ (b : Int) = 1))) := by
  refine cl_fn o267 [S "self", S "other"] (by kernel_rfl) rfl (by kernel_rfl) ?_ (by kernel_rfl) (by kernel_rfl) (by kernel_rfl) rfl ?_
  · intro s vs h
    obtain ⟨a, b, rfl⟩ := len2 h
    exact BindsTo.of_eq (by with_unfolding_all rfl)
  show Sv _ _ _ _ [(S "other", .int c), (S "self", .frac a b)] _ _
  with_unfolding_all refine Sv.last (S1.ret ?_)
  refine Ev.and (Ev.callB (f := "isinstance") (ps := [.int c, .tup [.raw (.type "int"), .raw (.ref 298)]]) (by walk_at "e") (Evs.cons (by kernel_rfl) (by walk_at "e") (Evs.cons (by kernel_rfl) (Ev.tup (by simp [sizeLine]) (by walk_at "es")) Evs.nil)) (by simp) cl_isIF) ?_
  exact Ev.cmp (Ev.callR (f := .ref 154) kgfraction_parts (by walk_at "e") (by walk_at "es") (cl_parts (.inr rfl))) (Ev.callR (f := .ref 154) kgfraction_parts (by walk_at "e") (by walk_at "es") (cl_parts (.inl ⟨rfl, rfl⟩))) (co_eqt rfl)
theorem co_own {prog : Pr} {A : Around} {s : Shared} {op : CmpOp} {x dx C f : Addr} {a : Int} {t : Tok} {Q : Value → Shared → Prop} (hu : A.units < cLine) (X : (Kf w.params).In s.heap) (hx : s.heap.get? x = some (inst C dx)) (hd : ∃ od, s.heap.get? dx = some od)
    (hn : subIn (Kf w.params) (.type "int") (.ref C) = some false) (hs : findIn (Kf w.params) (.ref C) (cmpInfo op).2.1 = some (some (.ref f))) (hf : isFn (Kf w.params) (.ref f) = true)
    (h : Wp prog w A (call (.ref f) [.ref x, .int a t]) (fun v s' => v ≠ .notImplemented ∧ Q v s') s) : Wp prog w A (richCompare op (.ref x) (.int a t)) Q s := by
  obtain ⟨od, ed⟩ := hd
  have I := inst_at hx ed
  have one : Wp prog w A (tryCompare (.ref x) (cmpInfo op).2.1 (.int a t)) (fun r s' => ∃ v, r = some v ∧ Q v s') s := by
    unfold tryCompare
    refine wpAny_bind (ifBound_K X I hs hf (wpAny_mono h (fun v s' hv => ?_) fun _ _ e => e))
    cases v <;> first | exact absurd rfl hv.1 | exact wpAny_pure ⟨_, rfl, hv.2⟩
  unfold richCompare
  simp only [oneThing_ref]
  refine wpAny_holding (wpAny_bind (wpAny_cRoomFor hu ?_))
  refine wpAny_bind (I.type.here (wpAny_bind (wpAny_typeOf (typeIs_int s a t) ?_)))
  have hne : (Value.ref C != Value.type "int") = true := by
    show (!(Value.ref C == Value.type "int")) = true
    rw [show (Value.ref C == Value.type "int") = false from Bool.eq_false_iff.mpr fun q => by cases beq_iff_eq.mp q]; rfl
  rw [if_pos hne]
  refine wpAny_bind ((looks_subIn X hn).here ?_)
  simp only [Bool.false_eq_true, if_false]
  refine wpAny_bind (wpAny_mono one (fun r s' z => ?_) fun _ _ e => e)
  obtain ⟨v, rfl, hq⟩ := z
  exact wpAny_pure hq
theorem co_feq {a b c : Nat} {e : Bool} (h : decide (a = c ∧ b = 1) = e) : Co w β (n + 2) .Eq (.frac a b) (.int c) e := by
  intro prog A s M x y Q hA C mx rx ry h'
  obtain ⟨x, dx, m, t, u, rfl, hx, hd, -, -⟩ := id rx.inv_frac
  obtain ⟨t', rfl⟩ := ry.inv_int
  have k := cl_feq (w := w) (β := β) (n := n) (a := a) (b := b) (c := c)
  refine cmp_ofEq (co_own (op := .Eq) (C := 298) (f := 267) hA.cl C.K hx (dict_there hd) (by kernel_rfl) (by kernel_rfl) (by kernel_rfl) ?_)
  refine k hA C mx (.cons rx (.cons ry .nil)) fun v s' C' K' r' => ?_
  cases r'.inv_bool
  refine ⟨by simp, ?_⟩
  have : decide ((a : Int) = c ∧ (b : Int) = 1) = e := by
    rw [← h, decide_eq_decide]
    omega
  rw [this]
  exact h' _ C' K'
end
noncomputable def updT (tk : Nat → Tok) (k : Nat) (t : Tok) : Nat → Tok := fun j => if j = k then t else tk j
theorem lt16 {S : Nat} (h : S < 16) : S = 0 ∨ S = 1 ∨ S = 2 ∨ S = 3 ∨ S = 4 ∨ S = 5 ∨ S = 6 ∨ S = 7 ∨ S = 8 ∨ S = 9 ∨ S = 10 ∨ S = 11 ∨ S = 12 ∨ S = 13 ∨ S = 14 ∨ S = 15 := by revert h; revert S; decide
theorem lt4 {k : Nat} (h : k < 4) : k = 0 ∨ k = 1 ∨ k = 2 ∨ k = 3 := by revert h; revert k; decide
theorem all4 {P : Nat → Prop} (a0 : P 0) (a1 : P 1) (a2 : P 2) (a3 : P 3) {k : Nat} (h : k < 4) : P k := by rcases lt4 h with rfl | rfl | rfl | rfl <;> assumption
theorem all16 {P : Nat → Prop} (a0 : P 0) (a1 : P 1) (a2 : P 2) (a3 : P 3) (a4 : P 4) (a5 : P 5) (a6 : P 6) (a7 : P 7) (b0 : P 8) (b1 : P 9) (b2 : P 10) (b3 : P 11) (b4 : P 12) (b5 : P 13) (b6 : P 14) (b7 : P 15) {S : Nat} (h : S < 16) : P S := by
  rcases lt16 h with rfl | rfl | rfl | rfl | rfl | rfl | rfl | rfl | rfl | rfl | rfl | rfl | rfl | rfl | rfl | rfl <;> assumption
theorem lay_new {led : Bool} {tk : Nat → Tok} {t : Tok} {S k : Nat} (hS : S < 16) (hk : k < 4) (hb : S.testBit k = false) :
    layNew (tab led S) (ents S tk) (hashInt k) (.int k t) = (ents (S ||| 2 ^ k) (updT tk k t), tab led (S ||| 2 ^ k), false, false) := by
  revert hb
  refine all16 (P := fun S => S.testBit k = false → layNew (tab led S) (ents S tk) (hashInt k) (.int k t) = (ents (S ||| 2 ^ k) (updT tk k t), tab led (S ||| 2 ^ k), false, false)) ?_ ?_ ?_ ?_ ?_ ?_ ?_ ?_ ?_ ?_ ?_ ?_ ?_ ?_ ?_ ?_ hS <;> refine all4 (P := fun k => _ = false → layNew _ _ (hashInt k) (.int k t) = (ents (_ ||| 2 ^ k) (updT tk k t), tab led (_ ||| 2 ^ k), false, false)) ?_ ?_ ?_ ?_ hk <;> first
    | exact fun h => absurd h (by decide)
    | exact fun _ => by kernel_rfl
theorem find_is {tk : Nat → Tok} {S k : Nat} (hS : S < 16) (hk : k < 4) : ((ents S tk).toList.findIdx? fun e => Value.isInt (k : Int) e.2).isSome = S.testBit k := by
  refine all16 (P := fun S => ((ents S tk).toList.findIdx? fun e => Value.isInt (k : Int) e.2).isSome = S.testBit k) ?_ ?_ ?_ ?_ ?_ ?_ ?_ ?_ ?_ ?_ ?_ ?_ ?_ ?_ ?_ ?_ hS <;> refine all4 (P := fun k => (List.findIdx? (fun e : Int × Value => Value.isInt (k : Int) e.2) _).isSome = Nat.testBit _ k) ?_ ?_ ?_ ?_ hk <;> kernel_rfl
theorem els_lt {S k : Nat} (h : k ∈ els S) : k < 4 := by
  have := (List.mem_filter.mp h).1
  simp at this
  omega
theorem hash_small {k : Nat} (hk : k < 4) : hashInt k = k := (by decide +kernel : ∀ k < 4, hashInt (k : Nat) = (k : Nat)) k hk
theorem elems_ok {prog : Pr} {w : World} {S : Nat} {tk : Nat → Tok} : ElemsOf (intKind prog.p w) (ents S tk).toList := by
  intro e he
  obtain ⟨k, hk, rfl⟩ := List.mem_map.mp he
  refine ⟨⟨k, intKind_is _ _ _ _, ?_⟩, rfl⟩
  exact (hash_small (els_lt hk)).symm
theorem fits_tab {led : Bool} {S : Nat} {tk : Nat → Tok} (hS : S < 16) : (tab led S).fits (ents S tk).size = true := by
  refine all16 (P := fun S => (tab led S).fits (ents S tk).size = true) ?_ ?_ ?_ ?_ ?_ ?_ ?_ ?_ ?_ ?_ ?_ ?_ ?_ ?_ ?_ ?_ hS <;> kernel_rfl
theorem full_tab {led : Bool} {S : Nat} (hS : S < 16) : (tab led S).tooFull = false := by
  refine all16 (P := fun S => (tab led S).tooFull = false) ?_ ?_ ?_ ?_ ?_ ?_ ?_ ?_ ?_ ?_ ?_ ?_ ?_ ?_ ?_ ?_ hS <;> kernel_rfl
theorem size_ents {S : Nat} {tk : Nat → Tok} : (ents S tk).size = (els S).length := by unfold ents; simp
theorem els_le {S : Nat} : (els S).length ≤ 4 := by
  unfold els
  exact Nat.le_trans (List.length_filter_le _ _) (by decide)
theorem or_lt {S k : Nat} (hS : S < 16) (hk : k < 4) : S ||| 2 ^ k < 16 := (by decide +kernel : ∀ S < 16, ∀ k < 4, S ||| 2 ^ k < 16) S hS k hk
theorem or_same {S k : Nat} (hS : S < 16) (hk : k < 4) (h : S.testBit k = true) : S ||| 2 ^ k = S := (by decide +kernel : ∀ S < 16, ∀ k < 4, S.testBit k = true → S ||| 2 ^ k = S) S hS k hk h
section
variable {prog : Pr} {w : World} {A : Around} {s : Shared} {a : Addr} {C : Value} {d : Option Addr} {led : Bool} {S k ep : Nat} {tk : Nat → Tok} {t : Tok}
theorem set_find {Q : Option Nat → Shared → Prop} (ho : s.heap.get? a = some (setO C d led S tk ep)) (hS : S < 16) (hk : k < 4) (h : ∀ r : Option Nat, r.isSome = S.testBit k → Q r s) : Wp prog w A (setFind a (.int k t) (hashInt k)) Q s := by
  have hf : (tab led S).fits (ents S tk).size = true := fits_tab hS
  unfold setFind setFindIn
  refine wpAny_bind (wpAny_setState_of ho rfl hf ?_)
  dsimp only
  rw [byScan_of (knd := intKind prog.p w) rfl (by rw [size_ents]; have := els_le (S := S); unfold scanBound; omega) elems_ok]
  simp only [if_true]
  refine wpAny_bind (wpAny_rule ?_)
  refine wpAny_bind (wpAny_setScan_of (knd := intKind prog.p w) (k := (k : Int)) (intKind_is _ _ _ _) ho rfl hf elems_ok ?_)
  have hx := find_is (tk := tk) hS hk
  have e : (fun e : Int × Value => (intKind prog.p w).is (k : Int) e.2) = fun e => Value.isInt (k : Int) e.2 := rfl
  rw [e]
  cases q : (ents S tk).toList.findIdx? fun e => Value.isInt (k : Int) e.2 with
  | none => rw [q] at hx; exact wpAny_pure (h none hx)
  | some j => rw [q] at hx; exact wpAny_pure (h (some (0 + j)) hx)
theorem set_add {Q : Bool → Shared → Prop} (ho : s.heap.get? a = some (setO C d led S tk ep)) (hS : S < 16) (hk : k < 4)
    (h : ∀ b h' tk' ep', Heap.SameBut a s.heap h' → h'.get? a = some (setO C d led (S ||| 2 ^ k) tk' ep') → Q b { s with heap := h' }) : Wp prog w A (setAddHashed a (.int k t) (hashInt k)) Q s := by
  have hf : (tab led S).fits (ents S tk).size = true := fits_tab hS
  unfold setAddHashed setAddHashedIn
  refine wpAny_holding (wpAny_bind (wpAny_setState_of ho rfl hf ?_))
  dsimp only
  rw [byScan_of (knd := intKind prog.p w) rfl (by rw [size_ents]; have := els_le (S := S); unfold scanBound; omega) elems_ok]
  simp only [if_true]
  unfold setAddByScan
  refine wpAny_bind (wpAny_bind (wpAny_rule ?_))
  refine wpAny_bind (wpAny_setScan_of (knd := intKind prog.p w) (k := (k : Int)) (intKind_is _ _ _ _) ho rfl hf elems_ok ?_)
  have hx := find_is (tk := tk) hS hk
  have e : (fun e : Int × Value => (intKind prog.p w).is (k : Int) e.2) = fun e => Value.isInt (k : Int) e.2 := rfl
  rw [e]
  cases q : (ents S tk).toList.findIdx? fun e => Value.isInt (k : Int) e.2 with
  | some j =>
    rw [q] at hx
    refine wpAny_pure (wpAny_pure ?_)
    obtain ⟨hh, g, dd, tt, os⟩ := s
    exact h false hh tk ep (Heap.SameBut.refl a hh) (by rw [or_same hS hk hx.symm]; exact ho)
  | none =>
    rw [q] at hx
    dsimp only
    rw [lay_new hS hk hx.symm]
    dsimp only
    refine wpAny_bind (wpAny_pure ?_)
    have hpl : (tab led (S ||| 2 ^ k)).plain = true := rfl
    rw [if_pos hpl]
    refine wpAny_bind ?_
    rw [hashByValue_scannable 8 rfl]
    refine wpAny_pure ?_
    simp only [plainKind, if_true]
    have hsz : (ents (S ||| 2 ^ k) (updT tk k t)).size ≤ sizeLine := by rw [size_ents, sizeLine_eq]; have := els_le (S := S ||| 2 ^ k); omega
    refine wpAny_bind (wpAny_storeSet_of ho rfl ?_ hsz)
    rw [full_tab (or_lt hS hk)]
    simp only [Bool.not_false, Bool.and_false, Bool.false_eq_true, if_false]
    refine wpAny_pure (wpAny_pure (h true _ (updT tk k t) (ep + 1) (Heap.SameBut.update ..) ?_))
    have := Heap.get?_update_self (Obj.putSet (ents (S ||| 2 ^ k) (updT tk k t)) (tab led (S ||| 2 ^ k))) ho (by rw [putSet_of (es := ents S tk) (ep := ep) (t := tab led S) _ _ rfl]; rfl)
    rw [putSet_of (es := ents S tk) (ep := ep) (t := tab led S) _ _ rfl] at this
    exact this
end
noncomputable def maskOf (ns : List Nat) : Nat := ns.foldl (fun S k => S ||| 2 ^ k) 0
theorem mask_snoc (ns : List Nat) (k : Nat) : maskOf (ns ++ [k]) = maskOf ns ||| 2 ^ k := by unfold maskOf; rw [List.foldl_append]; rfl
theorem mask_lt : ∀ {ns : List Nat}, (∀ k ∈ ns, k < 4) → maskOf ns < 16 := by
  intro ns
  have : ∀ (ns : List Nat) S, S < 16 → (∀ k ∈ ns, k < 4) → ns.foldl (fun S k => S ||| 2 ^ k) S < 16 := by
    intro ns
    induction ns with
    | nil => exact fun S h _ => h
    | cons k r ih => exact fun S h hk => ih _ (or_lt h (hk k (by simp))) fun k' h' => hk k' (by simp [h'])
  exact this ns 0 (by decide)
noncomputable abbrev nL (ns : List Nat) : List PV := ns.map fun k => PV.int ((k : Nat) : Int)
section
variable {prog : Pr} {w : World} {A : Around} {s : Shared} {a : Addr} {C : Value} {d : Option Addr} {led : Bool}
theorem set_loop {R : Result → Shared → Prop} {I : Addr} {fp : List Addr} {ns : List Nat} {P : Nat → Value → Prop} {St : Nat → Heap → Prop} (W : Walks prog.p w A.in1 I fp [I] ns.length P St) (haf : a ∉ fp) (haI : a ≠ I)
    (hval : ∀ i v, P i v → ∃ k t, ns[i]? = some k ∧ v = .int ((k : Nat) : Int) t) (hlt : ∀ k ∈ ns, k < 4) :
    ∀ (j i : Nat) (s : Shared) (tk : Nat → Tok) (ep : Nat), ns.length - i = j → i ≤ ns.length → St i s.heap → s.heap.get? a = some (setO C d led (maskOf (ns.take i)) tk ep) →
      (∀ h' tk' ep' tok', (∀ b o, b ∉ [a, I] → s.heap.get? b = some o → h'.get? b = some o) → h'.get? a = some (setO C d led (maskOf ns) tk' ep') → R (.ok (.ret .none)) { s with heap := h', toks := tok' }) →
      codeAny (model prog.p w) A (.builtin "set.update.loop" ⟨[.ref a, .ref I], []⟩) R s := by
  intro j
  induction j with
  | zero =>
    intro i s tk ep hj hi hst ho hR
    have hin : i = ns.length := by omega
    subst hin
    refine codeAny_builtin F.entry_set_update_loop ?_
    rw [Around.under_plainId F.plain_set_update_loop _]
    show wpAny _ A.in1 (pyNext (.ref I) >>= _) _ _ s
    refine wpAny_bind (W.done s _ _ hst fun h' tk' k => ?_)
    show wpAny _ A.in1 (ret Value.none) _ _ _
    rw [List.take_length] at ho
    refine wpAny_pure (hR h' tk ep tk' (fun b o hb e => k b o (by simp at hb ⊢; exact hb.2) e) (k a _ (by simpa using haI) ho))
  | succ j ih =>
    intro i s tk ep hj hi hst ho hR
    have hli : i < ns.length := by omega
    refine codeAny_builtin F.entry_set_update_loop ?_
    rw [Around.under_plainId F.plain_set_update_loop _]
    show wpAny _ A.in1 (pyNext (.ref I) >>= _) _ _ s
    refine wpAny_bind (W.item i s _ _ hli hst fun v h' tk' hP hst' k => ?_)
    obtain ⟨x, t, hx, rfl⟩ := hval i v hP
    have hx4 : x < 4 := hlt x (List.mem_of_getElem? hx)
    have ho' := k a _ (by simpa using haI) ho
    show wpAny _ A.in1 (holding [Value.int (x : Int) t] (setAdd a (.int (x : Int) t)) >>= _) _ _ _
    refine wpAny_bind (wpAny_holding ?_)
    unfold setAdd
    refine wpAny_holding ?_
    refine wpAny_bind (wpAny_pyHash_int ?_)
    have hm : maskOf (ns.take i) < 16 := mask_lt fun k hk => hlt k (List.mem_of_mem_take hk)
    refine Wp.any (prog := prog) (w := w) (set_add (s := { s with heap := h', toks := tk' + 1 }) ho' hm hx4 fun b h₂ tk₂ ep₂ hs₂ ho₂ => ?_)
    refine wpAny_pure ⟨plainId_quiet F.plain_set_update_loop _, ih (i + 1) _ tk₂ ep₂ (by omega) hli (W.frame _ _ _ hst' fun b hb o e => (hs₂.2 b fun z => haf (z ▸ hb)).trans e) ?_ fun h₃ tk₃ ep₃ tok₃ k₃ ho₃ => ?_⟩
    · rw [List.take_add_one, hx]
      show h₂.get? a = some (setO C d led (maskOf (ns.take i ++ [x])) tk₂ ep₂)
      rw [mask_snoc]; exact ho₂
    · refine hR h₃ tk₃ ep₃ tok₃ (fun b o hb e => k₃ b o hb ?_) ho₃
      simp only [List.mem_cons, List.not_mem_nil, or_false, not_or] at hb
      exact (hs₂.2 b hb.1).trans (k b o (by simpa using hb.2) e)
theorem addr_of {a : Addr} : Builtin.Frozenset.addrOf (.ref a) = pure a := rfl
theorem used_fresh {tk : Nat → Tok} {ep : Nat} {Q : Bool → Shared → Prop} (ho : s.heap.get? a = some (setO C d led 0 tk ep)) (h : Q false s) : Wp prog w A (setUsed a) Q s := by
  unfold setUsed
  exact wpAny_bind (wpAny_setState_of ho rfl (fits_tab (by decide)) (wpAny_pure h))
theorem orM_of {x y : Sem Bool} {Q : Bool → Shared → Prop} (h : Wp prog w A x (fun b s' => if b then Q true s' else Wp prog w A y Q s') s) : Wp prog w A (x <||> y) Q s := by
  unfold orM
  refine wpAny_bind (Wp.mono h fun b s' q => ?_)
  cases b with
  | true => exact wpAny_pure q
  | false => exact q
theorem not_set {l : Addr} {its : Array Value} {Q : Bool → Shared → Prop} (hl : SeqAt s.heap "list" l its) (h : Q false s) : Wp prog w A (Builtin.Frozenset.isAnySet (.ref l)) Q s := by
  obtain ⟨k, el⟩ := hl
  have hT : s.TypeIs (.ref l) "list" := ⟨_, el, rfl⟩
  unfold Builtin.Frozenset.isAnySet
  refine orM_of (wpAny_isInstance hT F.sub_list_set ?_)
  simp only [Bool.false_eq_true, if_false]
  exact wpAny_isInstance hT F.sub_list_frozenset h
theorem set_init_body {Q : Fin → Shared → Prop} {β : Pm} {M : List Addr} {ns : List Nat} {v : Value} {tk : Nat → Tok} {ep : Nat} (hA : A.handled = none) (Cx' : Cx w β s) (r : Rep M s.heap v (.list (nL ns))) (hlt : ∀ k ∈ ns, k < 4) (hn : ns.length ≤ sizeLine)
    (ho : s.heap.get? a = some (setO C d led 0 tk ep)) (hst : stay (setO C d led 0 tk ep) = true) (hlist : ∀ l, v = .ref l → l ≠ a)
    (hnm : ∀ {Q : String → Shared → Prop}, (∀ x, Q x s) → Wp prog w A (typeNameOfCut 200 (.ref a)) Q s)
    (h : ∀ h' tk' ep' tok', (∀ b o, b ≠ a → s.heap.get? b = some o → h'.get? b = some o) → h'.get? a = some (setO C d led (maskOf ns) tk' ep') → Q (.done (.ret .none)) { s with heap := h', toks := tok' }) :
    Wp prog w A (Builtin.«set.__init__» ⟨[.ref a, v], []⟩) Q s := by
  obtain ⟨l, its, rfl, hm, hl, rl⟩ := r.inv_list
  obtain ⟨k, el⟩ := id hl
  unfold Builtin.«set.__init__»
  refine wpAny_bind (wpAny_pure ?_)
  dsimp only
  refine wpAny_bind (hnm fun x => ?_)
  refine wpAny_bind (wpAny_pure ?_)
  rw [addr_of]
  refine wpAny_bind (wpAny_pure ?_)
  refine wpAny_bind (used_fresh ho ?_)
  simp only [Bool.false_eq_true, if_false]
  refine wpAny_bind ?_
  unfold Builtin.Frozenset.updateFrom
  have hT : s.TypeIs (.ref l) "list" := ⟨_, el, rfl⟩
  refine wpAny_bind (not_set hl ?_)
  simp only [Bool.false_eq_true, if_false]
  refine wpAny_bind (wpAny_typeOf hT ?_)
  rw [if_neg (show ¬ ((Value.type "list" == Value.type "dict") = true) by decide)]
  have hA1 : A.in1.handled = none := hA
  refine wpAny_bind (wpAny_pyIter_list hl.isList ?_)
  have hla : l ≠ a := hlist l rfl
  have hlz : l < s.heap.objs.size := Heap.lt_size el
  have haz : a < s.heap.objs.size := Heap.lt_size ho
  have W := Walks.list (prog := prog.p) (w := w) (A := A.in1) hA1 s.heap.objs.size l (Nat.ne_of_lt hlz) its
  have hz : its.size = ns.length := by have := rl.at.1; simpa using this
  rw [hz] at W
  refine wpAny_bind (wpAny_runValue ?_)
  refine set_loop (prog := prog) (w := w) (A := A) (ns := ns) W (by simp; exact ⟨Nat.ne_of_lt haz, fun z => hla z.symm⟩) (Nat.ne_of_lt haz) ?_ hlt ns.length 0 _ tk ep (by omega) (Nat.zero_le _) ⟨⟨_, Heap.get?_push_size _ rfl, rfl, rfl⟩, hl.isList.push _⟩ (Heap.get?_push_of_some _ ho) fun h' tk' ep' tok' k' ho' => ?_
  · intro i v hv
    have hi : i < ns.length := by rw [← hz]; exact (Array.getElem?_eq_some_iff.mp hv).1
    have := rl.at.2 i v (.int ((ns[i] : Nat) : Int)) (by rw [Array.getElem?_toList]; exact hv) (by simp [hi])
    obtain ⟨t, rfl⟩ := this.inv_int
    exact ⟨ns[i], t, by simp [hi], rfl⟩
  · show wpAny _ _ _ _ _ _
    refine wpAny_pure ?_
    refine wpAny_pure (h h' tk' ep' tok' (fun b o hb e => k' b o ?_ (Heap.get?_push_of_some _ e)) ho')
    simp only [List.mem_cons, List.not_mem_nil, or_false, not_or]
    exact ⟨hb, Nat.ne_of_lt (Heap.lt_size e)⟩
end
theorem sig_set_new : Manifest.signature? "set.__new__" = some ⟨.any, "set", "set", .cls, [⟨"args", .varPos, false⟩, ⟨"kwargs", .varKw, false⟩]⟩ := by kernel_rfl
theorem kind_set_new : builtinKind "set.__new__" = some .builtinFn := by kernel_rfl
theorem split_set_new : splitId "set.__new__" = some ("set", "__new__") := by kernel_rfl
noncomputable def ledOf (w : World) : Bool := !(w.params.followText "set-order")
noncomputable abbrev csO (C : Addr) (dx : Addr) (led : Bool) : Obj := { cls := .ref C, dict := some dx, data := .set #[] 0 (.fresh 0 0 led) }
section
variable {prog : Pr} {w : World} {A : Around} {β : Pm} {s : Shared}
structure MkS (M : Model) (h : Heap) : Prop where
  obj : ∃ oc od cd sl, h.get? 75 = some ⟨oc, od, .cls cd, sl⟩ ∧ cd.abstract = false ∧ cd.hasDel = false ∧ cd.mro.isEmpty = false
  made : Looks M h (Bind.madeBy (.ref 75)) (some "set.__new__")
  base : Looks M h (Bind.staticBase (.ref 75)) (.ref 75)
  self : Looks M h (isSubtype (.ref 75) (.ref 75)) true
  top : Looks M h (isSubtype (.ref 75) (.type "set")) true
  call : Looks M h (specialOf (.ref 75) "__call__") (some (.builtin "type.__call__"))
  typ : Looks M h (isInstance (.ref 75) (.type "type")) true
theorem mkS {M : Model} {h : Heap} (X : (Kf w.params).In h) : MkS M h := by
  obtain ⟨cd, hc, hm⟩ := any_some (show (clsIn (Kf w.params) 75).any (fun cd => cd.mro == [.ref 75, .type "set", .type "object"] && !cd.abstract && !cd.hasDel) = true by kernel_rfl)
  simp only [Bool.and_eq_true, Bool.not_eq_true', beq_iff_eq] at hm
  obtain ⟨⟨e, e2⟩, e3⟩ := hm
  have hmro : Looks M h (mroOf (.ref 75)) cd.mro := (looks_clsIn X hc).andThen .now
  have ho : h.get? 75 = some o75 := X _ _ (by kernel_rfl)
  have made : Looks M h (Bind.madeBy (.ref 75)) (some "set.__new__") := by
    intro A Q E s k q
    unfold Bind.madeBy
    refine wpAny_bind (hmro A _ E s k ?_)
    rw [e, List.forIn_cons]
    refine wpAny_bind (wpAny_bind (wpAny_bind (wpAny_bind (wpAny_loadPart (k _ _ ho) (wpAny_pure ?_)))))
    exact wpAny_pure (wpAny_pure (wpAny_pure q))
  refine ⟨?_, made, ?_, looks_subIn X (by kernel_rfl), looks_subIn X (by kernel_rfl), looks_specialIn X (by kernel_rfl), looks_instIn X (by kernel_rfl)⟩
  · refine ⟨_, _, _, _, ho, rfl, rfl, rfl⟩
  · intro A Q E s k q
    unfold Bind.staticBase
    refine wpAny_bind (hmro A _ E s k ?_)
    rw [e, List.forIn_cons]
    exact wpAny_bind (wpAny_bind (wpAny_bind (made A _ E s k (wpAny_pure (wpAny_pure (wpAny_pure q))))))
theorem new_cs {rest : List Value} {kw : List (Str × Value)} {R : Result → Shared → Prop} {h : Heap} {g : Array GenState} {d : Drawn} {t : Nat} {os : OsState} (Y : MkS (model prog.p w) h)
    (hq : R (.ok (.ret (.ref (h.objs.size + 1)))) ⟨(h.push emptyDict).push (csO 75 h.objs.size (ledOf w)), g, d, t, os⟩) :
    codeAny (model prog.p w) A (.call (.builtin "set.__new__") ⟨.ref 75 :: rest, kw⟩) R ⟨h, g, d, t, os⟩ := by
  obtain ⟨⟨oc, od, cd, sl, hC, e1, e2, e4⟩, made, base, self, top, call, typ⟩ := Y
  refine codeAny_call_builtin_code (Code.quiet_builtin _ (by decide +kernel)) ?_
  simp only [checkBuiltinCall, kind_set_new, split_set_new, sig_set_new]
  have args : Bind.checkArgs "set.__new__" ⟨.any, "set", "set", .cls, [⟨"args", .varPos, false⟩, ⟨"kwargs", .varKw, false⟩]⟩ ⟨.ref 75 :: rest, kw⟩ = pure () := by kernel_rfl
  rw [args]
  repeat (first | simp only [bne_self_eq_false, Bool.false_eq_true, if_false] | lk)
  refine codeAny_builtin F.entry_set_new ?_
  unfold Builtin.«set.__new__» Builtin.Frozenset.newClass
  repeat (first | simp only [Bool.not_true, Bool.false_eq_true, if_false] | lk)
  refine wpAny_load (Heap.get?_push_of_some _ (Heap.get?_push_of_some _ hC)) (wpAny_pure ?_)
  rw [e2]
  refine wpAny_pure (wpAny_pure ?_)
  show R _ _
  rw [Heap.size_push]
  exact hq
theorem make_cs {fI : Addr} {rest : List Value} {kw : List (Str × Value)} {R : Result → Shared → Prop} {h : Heap} {g : Array GenState} {d : Drawn} {t : Nat} {os : OsState} (Y : MkS (model prog.p w) h)
    (hi : Looks (model prog.p w) h (typeLookup (.ref 75) "__init__") (some (.ref fI))) (hb : ∀ self, Looks (model prog.p w) h (bindSpecial (.ref fI) self) (.ref fI, [self]))
    (hq : codeAny (model prog.p w) (A.under (.builtin "type.__call__" ⟨.ref 75 :: rest, kw⟩)) (.call (.ref fI) ⟨.ref (h.objs.size + 1) :: rest, kw⟩) (InitBack (h.objs.size + 1) R) ⟨(h.push emptyDict).push (csO 75 h.objs.size (ledOf w)), g, d, t, os⟩) :
    codeAny (model prog.p w) A (.call (.ref 75) ⟨rest, kw⟩) R ⟨h, g, d, t, os⟩ := by
  have Y' := Y
  obtain ⟨⟨oc, od, cd, sl, hC, e1, e2, e4⟩, made, base, self, top, call, typ⟩ := Y
  refine codeAny_of_tree ?_
  show wpAny _ _ (callAny (.ref 75) _) _ _ _
  refine nd_load hC ?_
  show wpAny _ _ (callAny.viaDunder (.ref 75) _) _ _ _
  unfold callAny.viaDunder
  refine wpAny_bind (call.at ?_)
  dsimp only
  rw [tc_bind]
  refine wpAny_bind (wpAny_pure (wpAny_bind (wpAny_pure ?_)))
  refine wpAny_pure (a := Fin.again (.call (.builtin "type.__call__") ⟨.ref 75 :: rest, kw⟩)) (And.intro rfl ?_)
  refine codeAny_call_builtin_at (Code.quiet_builtin _ (by decide +kernel)) entry_typeCall (check_slot tc_kind tc_split typ (tc_args _ _ _) ?_)
  unfold Builtin.«type.__call__»
  have hm : Looks (model prog.p w) h (mroOf (.ref 75)) cd.mro := ((Looks.ld (part := none) hC).andThen .now).andThen .now
  repeat (first | simp only [e4, Bool.false_eq_true, if_false] | with_reducible refine wpAny_call ?_ | lk)
  refine new_cs Y' ?_
  have k : ∀ b o, h.get? b = some o → ((h.push emptyDict).push (csO 75 h.objs.size (ledOf w))).get? b = some o := fun b o e => Heap.get?_push_of_some _ (Heap.get?_push_of_some _ e)
  have hx : ((h.push emptyDict).push (csO 75 h.objs.size (ledOf w))).get? (h.objs.size + 1) = some (csO 75 h.objs.size (ledOf w)) := by
    have := Heap.get?_push_size (h.push emptyDict) (o := csO 75 h.objs.size (ledOf w)) rfl
    rwa [Heap.size_push] at this
  have t1 : Looks (model prog.p w) ((h.push emptyDict).push (csO 75 h.objs.size (ledOf w))) (typeOf (.ref (h.objs.size + 1))) (.ref 75) := (Looks.ld hx).andThen .now
  have s1 := self.keeps k
  have i1 := hi.keeps k
  have b1 := (hb (.ref (h.objs.size + 1))).keeps k
  unfold isInstance callSpecial? specialOf
  repeat (first | with_reducible refine wpAny_call ?_ | lk)
  refine codeAny_mono hq fun r s' z => ?_
  rcases r with e | (v | _ | _ | _) <;> first | exact z | exact z.elim | skip
  obtain ⟨rfl, z⟩ := z
  exact wpAny_pure (wpAny_pure z)
end
theorem code_defAt {prog : Pr} {w : World} {A : Around} {β : Pm} {s : Shared} {f : Addr} {st : Stmt} {nm qual : Str} {cl : List (Str × Addr)} {dV pm cdv ct : Value} {pos : List Value} {kw : List (Str × Value)} {binds : List (Str × Value)} {R : Result → Shared → Prop} (o : Obj)
    (C : Cx w β s) (hR : A.depth < recursionLimit)
    (ho : (Kf w.params).lookup f = some o) (hd : o.data = .func (fnX nm qual (fdA st) (fdB st) (fdS st) cl dV .none .none pm none cdv ct)) (hcd : codeIn (Kf w.params) cdv qual = true)
    (hb : BindsTo s (fnX nm qual (fdA st) (fdB st) (fdS st) cl dV .none .none pm none cdv ct) ⟨pos, kw⟩ binds) (hk : kindOk (fdS st) binds = true)
    (hsc : ((fdS st).isCoroutine == false && (fdS st).isGenerator == false) = true) (hkf : (fdS st).kind = .function)
    (hcl : ∀ p ∈ cl, ∃ o, s.heap.get? p.2 = some o ∧ stay o = false ∧ o.cls ≠ .none) (hcn : cl.all (fun p => (fdS st).names.lookup p.1 != some .cell) = true) (hcp : cl.Pairwise fun x y => x.2 ≠ y.2)
    (h : ∀ env s', env.code = cdv → env.frame = some env.locals → env.func = some f → (∀ x c, cl.lookup x = some c → (fdS st).names.all (fun p => p.1 != x || p.2 != .cell) = true → env.cells.lookup x = some c) → Cx w β s' → Fm env (fdS st) β.H s.heap s'.heap binds.reverse →
      PySem.wpAt (model prog.p w) (A.deeper env) (.func (fdB st) env) (execs (fdB st) env) (fun fl s'' => R (.ok (.ret (match fl with | .ret v => v | _ => .none))) s'') noE s') :
    codeAny (model prog.p w) A (.call (.ref f) ⟨pos, kw⟩) R s := by
  simp only [Bool.and_eq_true, beq_iff_eq] at hsc
  refine codeAny_call_function hR (C.K _ _ ho) hd hsc.1 hsc.2 rfl (codeRec_of C.K hcd) (hb _ _ _ _ ?_)
  refine Wp.any (new_env C hkf hk hcl hcn hcp fun env s' e1 e2 e3 e4 e5 e6 C' F' => ⟨C'.lim, ks_codeAny_funcAt ?_⟩)
  exact PySem.ks_wpAt_mono (h env s' e2 e3 e4 e6 C' F') (fun _ _ q => q) fun _ _ e => e.elim
theorem slot_wrap_get : Slot "wrapper_descriptor" "__get__" "wrapper_descriptor.__get__" := .of (owner := "wrapper_descriptor") (n := "__get__") (by rw [typeLookup_type, builtinLookup_eq_fast]; kernel_rfl) (by decide +kernel) (by decide +kernel) (by decide +kernel)
  (by first | exact .inl (by decide +kernel) | exact .inr (by decide +kernel)) (by rw [isSubtype_type]; kernel_rfl)
theorem entry_wrap_get : entryFor table "wrapper_descriptor.__get__" = some Builtin.«wrapper_descriptor.__get__» := entryFor_of_tree (by kernel_rfl)
theorem args_wrap_get (a b c : Value) : argsOk "wrapper_descriptor.__get__" ⟨[a, b, c], []⟩ := by unfold argsOk; kernel_rfl
theorem type_set_init (s : Shared) : s.TypeIs (.builtin "set.__init__") "wrapper_descriptor" := by
  show typeOf (.builtin "set.__init__") = pure (.type "wrapper_descriptor")
  kernel_rfl
section
variable {prog : Program} {w : World} {A : Around} {E : Value → Shared → Prop} {h : Heap} {g : Array GenState} {d : Drawn} {t : Nat} {os : OsState}
theorem wrap_get {x : Addr} {Q : PySem.Fin → Shared → Prop} (hin : Looks (model prog w) h (isInstance (.ref x) (.type "set")) true)
    (hq : Q (.done (.ret (.ref h.objs.size))) ⟨h.push { cls := .type "method-wrapper", data := .fields #[.builtin "set.__init__", .ref x] }, g, d, t, os⟩) :
    wpAny (model prog w) A (Builtin.«wrapper_descriptor.__get__» ⟨[.builtin "set.__init__", .ref x, .ref 75], []⟩) Q E ⟨h, g, d, t, os⟩ := by
  unfold Builtin.«wrapper_descriptor.__get__»
  iterate 14 (first
    | (with_reducible refine Looks.at hin ?_)
    | wp_step
    | dsimp only)
  have e : ".".intercalate ("set.__init__".cutAt '.').dropLast = "set" := by decide +kernel
  rw [e]
  dsimp only
  refine wpAny_bind (hin.at ?_)
  simp only [Bool.not_true, Bool.false_eq_true, if_false]
  refine wpAny_pure ?_
  unfold newFields
  refine wpAny_bind (wpAny_newObj_type ?_ (by size_fits))
  exact wpAny_pure hq
theorem super_ga_b {so x : Addr} {tk : Tok} {K : Frag} {Q : PySem.Fin → Shared → Prop}
    (hso : h.get? so = some { cls := .type "super", dict := none, data := .fields #[.ref 75, .ref x, .ref 75], slots := #[] }) (hno : Looks (model prog w) h (opaqueClassAbove (.ref 75)) none)
    (hC : Looks (model prog w) h (mroOf (.ref 75)) [.ref 75, .type "set", .type "object"]) (X : K.In h)
    (hxC : x ≠ 75) (hin : Looks (model prog w) h (isInstance (.ref x) (.type "set")) true)
    (hq : Q (.done (.ret (.ref h.objs.size))) ⟨h.push { cls := .type "method-wrapper", data := .fields #[.builtin "set.__init__", .ref x] }, g, d, t, os⟩) :
    wpAny (model prog w) A (Builtin.«super.__getattribute__» ⟨[.ref so, .str "__init__" tk], []⟩) Q E ⟨h, g, d, t, os⟩ := by
  have hlk := slot_wrap_get.lookup
  have hne : (Value.ref x == Value.ref 75) = false := by simp [hxC]
  have hTf : (⟨h, g, d, t, os⟩ : Shared).TypeIs (.builtin "set.__init__") "wrapper_descriptor" := type_set_init _
  have hdt : ({ cls := .type "super", dict := none, data := .fields #[.ref 75, .ref x, .ref 75], slots := #[] } : Obj).data = .fields #[.ref 75, .ref x, .ref 75] := rfl
  have f0 : (#[.ref 75, .ref x, .ref 75] : Array Value)[0]? = some (.ref 75) := rfl
  have f1 : (#[.ref 75, .ref x, .ref 75] : Array Value)[1]? = some (.ref x) := rfl
  have f2 : (#[.ref 75, .ref x, .ref 75] : Array Value)[2]? = some (.ref 75) := rfl
  have hl : (([.ref 75, .type "set", .type "object"] : List Value).dropWhile (· != .ref 75)).drop 1 = [.type "set", .type "object"] := by kernel_rfl
  have hn : (("__init__" : Str) == ("__class__" : Str)) = false := by kernel_rfl
  unfold Builtin.«super.__getattribute__»
  iterate 14 (first
    | (with_reducible refine wpAny_field hso hdt f0 ?_) | (with_reducible refine wpAny_field hso hdt f1 ?_) | (with_reducible refine wpAny_field hso hdt f2 ?_)
    | (with_reducible refine ks_wpAny_notOpaque hno ?_)
    | (with_reducible refine Looks.at hC ?_; rw [hl])
    | (with_reducible refine wpAny_typeOf hTf ?_)
    | (with_reducible refine wpAny_call_entry slot_wrap_get hTf entry_wrap_get ?_ (args_wrap_get _ _ _))
    | (with_reducible refine ⟨_, rfl, ?_⟩)
    | (simp only [hn, hne, Bool.or_false, Bool.false_eq_true, if_false])
    | wp_step
    | dsimp only)
  refine wpAny_field hso hdt f2 ?_
  rw [if_neg (by decide)]
  refine wpAny_bind (ks_wpAny_notOpaque hno ?_)
  rw [if_neg (by decide)]
  refine wpAny_bind (hC.at ?_)
  rw [hl]
  rw [List.forIn_cons]
  have hco : classOwn (.type "set") "__init__" = pure (some (.builtin "set.__init__")) := by
    show (pure (builtinOwn "set" "__init__") : Sem (Option Value)) = _
    kernel_rfl
  refine wpAny_bind (wpAny_bind (wpAny_bind (wpAny_of_eq hco ?_)))
  dsimp only
  refine wpAny_bind (wpAny_typeOf hTf (wpAny_bind (wpAny_of_eq hlk ?_)))
  dsimp only
  rw [hne]
  simp only [Bool.false_eq_true, if_false]
  refine wpAny_bind (wpAny_holding (wpAny_call_entry slot_wrap_get hTf entry_wrap_get ?_ (args_wrap_get _ _ _)))
  refine wrap_get hin ⟨_, rfl, ?_⟩
  exact wpAny_bind (wpAny_pure (wpAny_pure (wpAny_pure (wpAny_pure hq))))
theorem getMethod_super {so x : Addr} {K : Frag} {pl : Sem Bool} {Q : Value × List Value → Shared → Prop}
    (hso : h.get? so = some { cls := .type "super", dict := none, data := .fields #[.ref 75, .ref x, .ref 75], slots := #[] }) (hno : Looks (model prog w) h (opaqueClassAbove (.ref 75)) none)
    (hC : Looks (model prog w) h (mroOf (.ref 75)) [.ref 75, .type "set", .type "object"]) (X : K.In h)
    (hxC : x ≠ 75) (hin : Looks (model prog w) h (isInstance (.ref x) (.type "set")) true)
    (hq : Q (.ref h.objs.size, []) ⟨h.push { cls := .type "method-wrapper", data := .fields #[.builtin "set.__init__", .ref x] }, g, d, t + 1, os⟩) :
    wpAny (model prog w) A (getMethod (.ref so) "__init__" pl) Q E ⟨h, g, d, t, os⟩ := by
  have hlk := F.ks_slot_super_ga.lookup
  have hcan := F.ks_canon_super_ga
  have hT : ∀ t', (⟨h, g, d, t', os⟩ : Shared).TypeIs (.ref so) "super" := fun _ => ⟨_, hso, rfl⟩
  unfold getMethod
  refine wpAny_bind (wpAny_specialOf (hT _) hlk ?_)
  show wpAny _ _ (if (Manifest.canonical "super.__getattribute__" != "object.__getattribute__") = true then _ else _) _ _ _
  rw [if_pos hcan]
  unfold getAttr getAttrBy
  refine wpAny_bind (wpAny_bind (wpAny_mkText (wpAny_holding (wpAny_bind (wpAny_typeOf (hT _) (wpAny_bind (wpAny_of_eq hlk ?_)))))))
  show wpAny _ _ (getAttrByItsOwn (.ref so) (.str "__init__" t) (.type "super") (.builtin "super.__getattribute__") true false) _ _ _
  unfold getAttrByItsOwn hookBefore callGetattribute boundAndCalled
  refine wpAny_bind (wpAny_of_eq (show (if onTheHeap (.type "super") then typeLookup (.type "super") "__getattr__" else pure none) = pure none from rfl) ?_)
  refine wpAny_bind (wpAny_attempt (wpAny_holding ?_))
  show wpAny _ _ (bindSpecial (.builtin "super.__getattribute__") (.ref so) >>= _) _ _ _
  refine wpAny_bind (wpAny_of_eq (F.ks_slot_super_ga.bind _) ?_)
  refine wpAny_mono (Q := fun v s' => v = .ref h.objs.size ∧ s' = ⟨h.push { cls := .type "method-wrapper", data := .fields #[.builtin "set.__init__", .ref x] }, g, d, t + 1, os⟩) (E := fun _ _ => False)
    (wpAny_call_entry F.ks_slot_super_ga (hT _) F.ks_entry_super_ga (super_ga_b hso hno hC X hxC hin ⟨_, rfl, rfl, rfl⟩) (F.ks_gaArgs_super _ _)) (fun v s' hv => ?_) fun _ _ z => z.elim
  obtain ⟨rfl, rfl⟩ := hv
  exact wpAny_pure (wpAny_pure hq)
end
theorem mw_plain : plainId "set.__init__" = true := by decide +kernel
theorem mw_entry : entryFor table "set.__init__" = some Builtin.«set.__init__» := entryFor_of_tree (by kernel_rfl)
theorem mw_sig : Manifest.signature? "set.__init__" = some ⟨.positional, "set", "*", .self, [⟨"iterable", .posOnly, false⟩]⟩ := by kernel_rfl
theorem mw_kind : builtinKind "set.__init__" = some .slot := by kernel_rfl
section
variable {prog : Program} {w : World} {A : Around} {E : Value → Shared → Prop} {h : Heap} {g : Array GenState} {d : Drawn} {t : Nat} {os : OsState} {K : Frag} {P : Params}
theorem typ_of {x C : Addr} {o : Obj} {M : Model} (hx : h.get? x = some o) (hc : o.cls = .ref C) : Looks M h (typeOf (.ref x)) (.ref C) := by
  rw [← hc]
  exact (Looks.ld hx).andThen .now
theorem name75 {M : Model} (X : (Kf P).In h) : Looks M h (typeNameWhole (.ref 75)) "CandidateSet" := by
  obtain ⟨cd, hc, hm⟩ := any_some (show (clsIn (Kf P) 75).any (fun cd => cd.name.toString == "CandidateSet") = true by kernel_rfl)
  have := (looks_clsIn (M := M) X hc).andThen (f := fun c => pure c.name.toString) .now
  rw [beq_iff_eq.mp hm] at this
  exact this
theorem mw_check {x : Addr} {b : Value} {o : Obj} {Q : Unit → Shared → Prop} (X : (Kf P).In h) (hx : h.get? x = some o) (hc : o.cls = .ref 75) (hq : Q () ⟨h, g, d, t, os⟩) : wpAny (model prog w) A (checkBoundCall "set.__init__" ⟨[.ref x, b], []⟩) Q E ⟨h, g, d, t, os⟩ := by
  unfold checkBoundCall
  simp only [mw_sig, mw_kind]
  show wpAny (model prog w) A (Bind.checkArgs "set.__init__" ⟨.positional, "set", "*", .self, [⟨"iterable", .posOnly, false⟩]⟩ ⟨[.ref x, b], []⟩) _ _ _
  unfold Bind.checkArgs
  refine wpAny_bind (wpAny_pure ?_)
  refine wpAny_bind ?_
  unfold Bind.printed
  rw [if_neg (by decide +kernel)]
  show wpAny _ _ (Bind.receiverType _ _ >>= _) _ _ _
  refine wpAny_bind ((typ_of hx hc).at (wpAny_bind ((name75 X).at (wpAny_pure ?_))))
  refine wpAny_onRaise ?_
  exact wpAny_of_eq (show Bind.check _ _ _ _ _ = pure () by kernel_rfl) hq
noncomputable abbrev mwO (x : Addr) : Obj := { cls := .type "method-wrapper", data := .fields #[.builtin "set.__init__", .ref x] }
end
section
variable {prog : Pr} {w : World} {A : Around} {β : Pm} {s : Shared}
theorem setname {x : Addr} {o : Obj} (X : (Kf w.params).In s.heap) (hx : s.heap.get? x = some o) (hc : o.cls = .ref 75) {Q : String → Shared → Prop} (h : ∀ n, Q n s) : Wp prog w A (typeNameOfCut 200 (.ref x)) Q s := by
  obtain ⟨cd, hcd, hm⟩ := any_some (show (clsIn (Kf w.params) 75).any (fun cd => decide (cd.name.cps.foldl (fun k c => k + (Str.utf8Of c).length) 0 ≤ 200)) = true by kernel_rfl)
  unfold typeNameOfCut shownTypeOf
  refine wpAny_bind (wpAny_bind ((typ_of hx hc).here ?_))
  rw [if_neg (by decide)]
  refine wpAny_pure ?_
  unfold typeNameCut
  refine wpAny_bind ((looks_clsIn X hcd).here ?_)
  rw [if_pos (of_decide_eq_true hm)]
  exact wpAny_pure (h _)
theorem mw_call {q x dx : Addr} {M : List Addr} {ns : List Nat} {v : Value} {tk : Nat → Tok} {ep : Nat} {led : Bool} {Q : Value → Shared → Prop} (hA : A.handled = none) (C : Cx w β s) (hq : s.heap.get? q = some (mwO x)) (hx : s.heap.get? x = some (setO (.ref 75) (some dx) led 0 tk ep))
    (r : Rep M s.heap v (.list (nL ns))) (hlt : ∀ k ∈ ns, k < 4) (hn : ns.length ≤ sizeLine)
    (h : ∀ h' tk' ep' tok', (∀ b o, b ≠ x → s.heap.get? b = some o → h'.get? b = some o) → h'.get? x = some (setO (.ref 75) (some dx) led (maskOf ns) tk' ep') → Q .none { s with heap := h', toks := tok' }) : Wp prog w A (call (.ref q) [v]) Q s := by
  obtain ⟨l, its, rfl, hm, hl, rl⟩ := id r.inv_list
  refine wpAny_call (codeAny_of_tree ?_)
  show wpAny _ _ (callAny (.ref q) _) _ _ _
  unfold callAny
  refine wpAny_bind (wpAny_load hq ?_)
  show wpAny _ _ (checkBoundCall "set.__init__" ⟨[.ref x, .ref l], []⟩ >>= _) _ _ _
  have X := C.K
  refine wpAny_bind (mw_check (P := w.params) X hx rfl ?_)
  refine wpAny_bind (wpAny_pure (wpAny_pure ⟨plainId_quiet mw_plain _, codeAny_builtin mw_entry ?_⟩))
  rw [Around.under_plainId mw_plain _]
  refine Wp.any (prog := prog) (w := w) (set_init_body hA C r hlt hn hx (stay_set (own := true)) (fun l e => ?_) (fun hQ => setname X hx rfl hQ) fun h' tk' ep' tok' k e => ?_)
  · cases e
    rintro rfl
    obtain ⟨j, e⟩ := hl
    rw [hx] at e; cases e
  · exact h h' tk' ep' tok' k e
end
noncomputable def tabs : List (Addr × Addr) := [(56, 52), (379, 375), (316, 312)]
section
variable {w : World} {β : Pm} {g₀ h : Heap} {gs : Array GenState} {os : OsState} {c P : Addr} {ps more : Array Value}
theorem tab_off (hm : (c, P) ∈ tabs) : (Kf w.params).lookup P = none ∧ mainGlobals ≠ P ∧ builtinsNs ≠ P ∧ cStatics ≠ P := by
  simp only [tabs, List.mem_cons, List.not_mem_nil, or_false, Prod.mk.injEq] at hm
  rcases hm with ⟨rfl, rfl⟩ | ⟨rfl, rfl⟩ | ⟨rfl, rfl⟩ <;> exact ⟨by kernel_rfl, by decide, by decide, by decide⟩
theorem CxH.table (hm : (c, P) ∈ tabs) (C : CxH w β g₀ gs os) (hx : Heap.ExtBut P g₀ h) (ht : g₀.TableAt c P ps) (hi : h.IsCode c P (ps ++ more)) (ht' : h.TableAt c P (ps ++ more)) : CxH w β h gs os ∧ Kh g₀ h := by
  obtain ⟨a1, a2, a3, a4⟩ := tab_off (w := w) hm
  have tb : ∀ {c' P' : Addr}, c' ≠ P → P' ≠ P → (∃ ps, g₀.IsCode c' P' ps ∧ g₀.TableAt c' P' ps) → ∃ ps, h.IsCode c' P' ps ∧ h.TableAt c' P' ps := fun n1 n2 ⟨ps, x, y⟩ => ⟨ps, x.extBut hx n1 n2, y.extBut hx n1 n2⟩
  have here : ∃ ps, h.IsCode c P ps ∧ h.TableAt c P ps := ⟨_, hi, ht'⟩
  have old : OldK β.H h := by
    have t₀ : ∃ c, β.H.TableAt c P #[] := by
      simp only [tabs, List.mem_cons, List.not_mem_nil, or_false, Prod.mk.injEq] at hm
      rcases hm with ⟨rfl, rfl⟩ | ⟨rfl, rfl⟩ | ⟨rfl, rfl⟩
      · exact ⟨_, C.h1⟩
      · exact ⟨_, C.h2⟩
      · exact ⟨_, C.h3⟩
    obtain ⟨_, t₀⟩ := t₀
    exact C.old.step_table t₀ ht ht' hx (Ne.symm a4)
  refine ⟨{ C with K := fun b o e => hx b o (fun z => by rw [z, a1] at e; cases e) (C.K b o e), g := C.g.extBut hx a2, b := C.b.extBut hx a3, lim := C.lim.extBut hx a4, op := let ⟨mc, x, y⟩ := C.op; ⟨mc, x.extBut hx a4, y⟩, old := old, t1 := ?_, t2 := ?_, t3 := ?_ }, ⟨fun b o e n => hx b o (fun z => ?_) e, fun b o e => ?_⟩⟩
  · simp only [tabs, List.mem_cons, List.not_mem_nil, or_false, Prod.mk.injEq] at hm
    rcases hm with ⟨rfl, rfl⟩ | ⟨rfl, rfl⟩ | ⟨rfl, rfl⟩
    · exact here
    · exact tb (by decide) (by decide) C.t1
    · exact tb (by decide) (by decide) C.t1
  · simp only [tabs, List.mem_cons, List.not_mem_nil, or_false, Prod.mk.injEq] at hm
    rcases hm with ⟨rfl, rfl⟩ | ⟨rfl, rfl⟩ | ⟨rfl, rfl⟩
    · exact tb (by decide) (by decide) C.t2
    · exact here
    · exact tb (by decide) (by decide) C.t2
  · simp only [tabs, List.mem_cons, List.not_mem_nil, or_false, Prod.mk.injEq] at hm
    rcases hm with ⟨rfl, rfl⟩ | ⟨rfl, rfl⟩ | ⟨rfl, rfl⟩
    · exact tb (by decide) (by decide) C.t3
    · exact tb (by decide) (by decide) C.t3
    · exact here
  · rw [z, ht.2] at e; cases e; exact n rfl
  · by_cases z : b = P
    · subst z; exact ⟨_, ht'.2⟩
    · exact ⟨o, hx b o z e⟩
theorem CxH.tabOf (C : CxH w β g₀ gs os) (hm : (c, P) ∈ tabs) : ∃ ps, g₀.IsCode c P ps ∧ g₀.TableAt c P ps := by
  simp only [tabs, List.mem_cons, List.not_mem_nil, or_false, Prod.mk.injEq] at hm
  rcases hm with ⟨rfl, rfl⟩ | ⟨rfl, rfl⟩ | ⟨rfl, rfl⟩
  · exact C.t1
  · exact C.t2
  · exact C.t3
end
section
variable {prog : Pr} {w : World} {A : Around} {β : Pm} {E : Value → Shared → Prop} {s : Shared} {env : Env} {c P : Addr}
theorem gen_code {pos : Pos} {qual : Str} {scope : Scope} {Q : Value → Shared → Prop} (hm : (c, P) ∈ tabs) (C : Cx w β s) (hcode : env.code = .ref c)
    (h : ∀ cv s', Cx w β s' → Kp s s' → Heap.ExtBut P s.heap s'.heap → s.heap.objs.size ≤ s'.heap.objs.size → s'.gens = s.gens → Q cv s') : wpAny (model prog.p w) A (genexprCode env pos qual scope) Q E s := by
  obtain ⟨ps, hi, ht⟩ := C.tabOf hm
  cases hf : codeAmong pos ps.toList with
  | some c' => exact wpAny_genexprCode_hit hcode hi hf (h _ _ C (kp_refl _) (Heap.ExtBut.refl _ _) (Nat.le_refl _) rfl)
  | none =>
    refine wpAny_genexprCodeX hcode hi ht hf fun c' h' tk hx h1 h2 hi' _ ht' _ => ?_
    obtain ⟨C', K'⟩ := CxH.table hm C hx ht hi' ht'
    exact h _ _ C' K' hx (Nat.le_trans h1 (Nat.le_of_lt h2)) rfl
theorem gen_bi {Q : Addr → Shared → Prop} (C : Cx w β s) (h1 : env.globals = mainGlobals) (h : Q builtinsNs s) : wpAny (model prog.p w) A (builtinsFor env.globals env.builtins) Q E s := by
  rw [h1]
  have g4 : nsIn (Kf w.params) mainGlobals "__builtins__" = some (some (.ref 4)) := by kernel_rfl
  exact wpAny_builtinsFor (o := o4) C.g (mg_of C.K C.g g4) (by decide) (C.K 4 _ (by kernel_rfl)) rfl rfl rfl h
end
noncomputable def genOk (sc : Scope) (ρ : PVs) (scope : Scope) (x : Str) : Bool :=
  compOk sc ρ scope x && !scope.isCoroutine && scope.names.lookup (".0" : Str) == some .local && scope.names.lookup x == some .local && scope.names.all fun y => y.2 != .cell
noncomputable def GenX (prog : Program) (w : World) (A : Around) (h₀ : Heap) (a : Addr) (n : Nat) (F : Nat → Value → Prop) (s : Shared) : Prop :=
  ∃ fp wr g St, WalksS prog w A.in4 a fp wr (GenOnlyQ g) n F St ∧ St 0 s ∧ (∀ b ∈ fp, b < s.heap.objs.size) ∧ (∀ b ∈ wr, h₀.get? b = none) ∧ (∀ i s', St i s' → s'.TypeIs (.ref a) "generator") ∧ a ∈ fp
theorem pass_all (n : Nat) : passing (fun _ => true) n 0 = List.range n := by
  unfold passing
  rw [List.drop_zero]
  exact List.filter_eq_self.mpr (by simp)
structure Sees (w : World) (β : Pm) (M : List Addr) (scope : Scope) (ρ : PVs) (cenv : Env) (h : Heap) : Prop where
  K : (Kf w.params).In h
  g : h.Ns mainGlobals β.mg
  b : h.Ns builtinsNs β.mb
  lim : h.NoLimit
  glb : cenv.globals = mainGlobals
  bns : cenv.builtins = builtinsNs
  sc : cenv.scope = scope
  fre : ∀ y p, scope.names.lookup y = some .free → ρ.lookup y = some p → ∃ c u, cenv.cells.lookup y = some c ∧ h.IsCell c (some u) ∧ Rep M h u p
section
variable {prog : Pr} {w : World} {A : Around} {β : Pm} {E : Value → Shared → Prop} {s : Shared} {env : Env} {c P : Addr} {n : Nat} {sc scope : Scope} {ρ : PVs} {M : List Addr} {gs : Array GenState} {os : OsState}
theorem gen_rule {elt iter : Expr} {x : Str} {px pos : Pos} {pi : PV} {xs : List PV} {F : Nat → Value → Prop} {Q : Value → Shared → Prop} (hm : (c, P) ∈ tabs) (hA : Ok A n) (C : Cx w β s) (L : Ld M env sc s.heap ρ) (hcode : env.code = .ref c) (ck : genOk sc ρ scope x = true)
    (hi : Ev w β n sc ρ iter pi) (hx : pi = .list xs ∨ pi = .tup xs)
    (he : ∀ (A' : Around) E' i v y (s₂ : Shared) m₂ (cenv : Env), A'.handled = none → A'.depth ≤ A.depth + 1 → A'.units ≤ A.units + 8 → xs[i]? = some y → Rep M s₂.heap v y → s₂.heap.Ns cenv.locals m₂ → m₂ x = some v → Sees w β M scope ρ cenv s₂.heap → D M s.heap s₂.heap →
      wpAny (model prog.p w) A' (eval elt cenv) (fun u s₃ => F i u ∧ Keeps s₂ s₃) E' s₂)
    (h : ∀ a s', Cx w β s' → Kp s s' → GenX prog.p w A s.heap a xs.length F s' → Q (.ref a) s')
    (hs : ∀ x, genFold iter env x = pure x := by intro _; rfl) : Wp prog w A (eval (.GeneratorExp elt [⟨.Name x px, iter, [], 0⟩] scope pos) env) Q s := by
  unfold genOk at ck
  simp only [Bool.and_eq_true, Bool.not_eq_true', beq_iff_eq, List.all_eq_true, bne_iff_ne] at ck
  obtain ⟨⟨⟨⟨ck, hco⟩, h0⟩, hxl⟩, hcell⟩ := ck
  have KK := COk'.of ck
  refine wpAny_GeneratorExp_walksQD hA.h hco (clo_eq (comp_hf KK L)) hcell h0 hxl KK.kind hA.lt ?_ hs
  refine hi hA C L fun v s₁ C₁ K₁ r₁ => ?_
  have tail : ∀ (a : Addr) (its : Array Value) (o : Obj) (St₀ : Nat → Heap → Prop), NN s₁.heap a → RepL M s₁.heap its.toList xs → o.isFreed = false → o.cls ≠ .none → (∀ A' : Around, A'.handled = none → Walks prog.p w A' s₁.heap.objs.size [s₁.heap.objs.size, a] [s₁.heap.objs.size] its.size (fun i v => its[i]? = some v) St₀) → St₀ 0 (s₁.heap.push o) →
      (s₁.heap.push o).NoLimit ∧ wpAny (model prog.p w) A (genexprCode env pos (env.qual ++ "<genexpr>") scope) (fun code s₃ => wpAny (model prog.p w) A (builtinsFor env.globals env.builtins) (fun bi s₄ =>
        ∃ I fp wr n₀ P St₀ pz F, Value.ref s₁.heap.objs.size = .ref I ∧ (∀ A' : Around, A'.handled = none → Walks prog.p w A' I fp wr n₀ P St₀) ∧ St₀ 0 s₄.heap ∧ (∀ b ∈ fp, b < s₄.heap.objs.size) ∧ s₄.heap.NoLimit ∧ cStatics ∉ wr ∧
          (∀ href : Heap, (∀ b o, s₄.heap.get? b = some o → href.get? b = some o) →
            QuietGenD prog.p w (genEnv scope (capt env scope.names []) s₄.heap.objs.size code bi env) x [] elt (List.range s₄.heap.objs.size) wr P pz F href (A.depth + 1) (A.units + 8)) ∧
          (∀ a h₅ tk gs, gs.bare = true → s₄.heap.objs.size < a → h₅.objs.size = a + 1 → (∀ b o, s₄.heap.get? b = some o → h₅.get? b = some o) →
            WalksS prog.p w A.in4 a (a :: s₄.heap.objs.size :: List.range s₄.heap.objs.size) (s₄.heap.objs.size :: wr) (GenOnlyQ s₄.gens.size) (passing pz n₀ 0).length
              (fun j y => ∃ i, (passing pz n₀ 0)[j]? = some i ∧ F i y) (GenAt prog.p w A.in4 a s₄.gens.size s₄.heap.objs.size (List.range s₄.heap.objs.size) wr pz n₀ F) →
            GenAt prog.p w A.in4 a s₄.gens.size s₄.heap.objs.size (List.range s₄.heap.objs.size) wr pz n₀ F 0 { s₄ with gens := s₄.gens.push gs, toks := tk, heap := h₅ } →
            Q (.ref a) { s₄ with gens := s₄.gens.push gs, toks := tk, heap := h₅ })) noE s₃) noE { s₁ with heap := s₁.heap.push o } := by
    intro a its o St₀ na rl hfr hoc W₀ st
    have hz : its.size = xs.length := by rw [← rl.at.1, Array.length_toList]
    have C₂ := C₁.push o
    have K₂ := kp_push s₁ o
    have ha := na.kh K₂
    have hI : NN (s₁.heap.push o) s₁.heap.objs.size := ⟨_, Heap.get?_push_size _ hfr, hoc⟩
    generalize hs₂ : ({ s₁ with heap := s₁.heap.push o } : Shared) = s₂ at C₂ K₂ ha hI ⊢
    have eh : s₂.heap = s₁.heap.push o := by rw [← hs₂]
    rw [← eh] at st hI ⊢
    refine ⟨C₂.lim, gen_code hm C₂ hcode fun cv s₃ C₃ K₃ x₃ z₃ g₃ => gen_bi C₃ L.glb ?_⟩
    have hI1 : s₁.heap.get? s₁.heap.objs.size = none := none_of_ge (Nat.le_refl _)
    generalize hIe : s₁.heap.objs.size = I at *
    have K13 := kp_trans K₂ K₃
    have K03 := kp_trans K₁ K13
    have nI : ∀ {b o}, s₁.heap.get? b = some o → b ≠ I := fun {b o} e z => by rw [z, hI1] at e; cases e
    have st₃ : St₀ 0 s₃.heap := (W₀ A hA.h).frame _ _ _ st fun b hb o e => by
      rcases mcs hb with rfl | hb
      · exact hI.at K₃ _ e
      · cases List.mem_singleton.mp hb; exact ha.at K₃ _ e
    have lt3 : ∀ {b}, NN s₂.heap b → b < s₃.heap.objs.size := fun {b} n => by obtain ⟨o, e, c⟩ := n; exact Heap.lt_size (K₃.k _ _ e c)
    refine ⟨I, [I, a], [I], its.size, _, St₀, fun _ => true, F, rfl, W₀, st₃, fun b hb => ?_, C₃.lim, fun hb => ?_, fun href hk => ⟨?_, ?_⟩, fun g h₅ tk gs hgb hag hz₅ hk₅ W hat => ?_⟩
    · rcases mcs hb with rfl | hb
      · exact lt3 hI
      · cases List.mem_singleton.mp hb; exact lt3 ha
    · obtain ⟨mc, ⟨o', es, ep, e, _⟩, _⟩ := C₁.lim
      exact nI e (List.mem_singleton.mp hb)
    · intro A' E' i v s' m₂ _ _ _ _ _ _ _
      exact wpAny_tests_nil ⟨rfl, s'.heap, s'.toks, rfl, fun _ _ e => e⟩
    · intro A' E' i v s' m₂ hA' hd hu hP _ hns hmx hkk
      have kk : ∀ b o, b ≠ I → s₃.heap.get? b = some o → s'.heap.get? b = some o := fun b o hb e => hkk b (List.mem_range.mpr (Heap.lt_size e)) (by simpa using hb) o (hk b o e)
      have k1 : ∀ b o, s₁.heap.get? b = some o → o.cls ≠ .none → s'.heap.get? b = some o := fun b o e c => kk b o (nI e) (K13.k b o e c)
      have d1 : D M s₁.heap s'.heap := fun b o e q _ => k1 b o e (stay_ne q)
      have hi' : i < xs.length := by rw [← hz]; exact (Array.getElem?_eq_some_iff.mp hP).1
      refine he A' E' i v xs[i] s' m₂ _ hA' hd hu (List.getElem?_eq_getElem hi') ((rl.at.2 i v _ (by rw [Array.getElem?_toList]; exact hP) (List.getElem?_eq_getElem hi')).mono d1) hns hmx ?_ (fun b o e q r => d1 b o (K₁.k b o e (stay_ne q)) q r)
      have nsk : ∀ {b m}, s₁.heap.Ns b m → ∀ {m'}, s₃.heap.Ns b m' → s'.heap.Ns b m' := fun {b m} ⟨o, es, ep, e, _⟩ {m'} x => x.at' fun o' e' => kk b o' (nI e) e'
      refine ⟨fun b o e => kk b o (nI (C₁.K b o e)) (C₃.K b o e), nsk C₁.g C₃.g, nsk C₁.b C₃.b, ?_, L.glb, rfl, rfl, fun y p hy hp => ?_⟩
      · obtain ⟨mc, x, z⟩ := C₃.lim
        obtain ⟨mc', x', _⟩ := C₁.lim
        exact ⟨mc, nsk x' x, z⟩
      · have hmem := mem_of_lookup hy
        obtain ⟨f1, _, _, _⟩ := KK.fre (y, .free) hmem rfl
        obtain ⟨u, l, r⟩ := L.val y p (by rcases f1 with z | z <;> simp only at z <;> rw [z] <;> rfl) hp
        rcases l with ⟨z, _⟩ | ⟨_, cc, z1, z2, z3⟩
        · exact (L.nl y f1 z).elim
        · refine ⟨cc, u, capt_lookup hmem z1, ?_, r.mono fun b o e q r => d1 b o (K₁.k b o e (stay_ne q)) q r⟩
          obtain ⟨o, e, d⟩ := z3
          obtain ⟨o2, e2, c2⟩ := z2
          rw [e] at e2; cases e2
          exact ⟨o, k1 _ _ (K₁.k _ _ e c2) c2, d⟩
    · have C₅ : CxH w β h₅ (s₃.gens.push gs) s₃.os := { CxH.keeps' C₃ hk₅ with bare := C₃.bare.push hgb }
      refine h g _ C₅ (kp_trans K03 (Kh.of hk₅)) ?_
      simp only [pass_all, List.length_range] at W
      rw [hz] at W
      refine ⟨_, _, _, _, W.imp (P' := F) fun j u hu => ?_, by rw [hz] at hat; exact hat, fun b hb => ?_, fun b hb => ?_, fun i s' st => st.1.typeIs, List.mem_cons_self ..⟩
      · obtain ⟨i, e, f⟩ := hu
        obtain ⟨q, e⟩ := List.getElem?_eq_some_iff.mp e
        rw [List.getElem_range] at e
        subst e; exact f
      · show b < h₅.objs.size
        rw [hz₅]
        rcases mcs hb with rfl | hb
        · exact Nat.lt_succ_self _
        · rcases mcs hb with rfl | hb
          · exact Nat.lt_succ_of_lt hag
          · exact Nat.lt_succ_of_lt (Nat.lt_trans (List.mem_range.mp hb) hag)
      · rcases mcs hb with rfl | hb
        · exact Kh.none K03 (none_of_ge (Nat.le_refl _))
        · cases List.mem_singleton.mp hb; exact Kh.none K₁ hI1
  rcases hx with rfl | rfl
  · obtain ⟨a, its, rfl, _, hl, rl⟩ := r₁.inv_list
    refine wpAny_pyIter_list hl.isList ?_
    have hlt : a < s₁.heap.objs.size := by obtain ⟨n, e⟩ := hl; exact Heap.lt_size e
    exact tail a its _ _ (by obtain ⟨n, e⟩ := hl; exact ⟨_, e, by simp⟩) rl rfl (by simp) (fun A' hA' => Walks.list hA' _ _ (Nat.ne_of_lt hlt) its) ⟨⟨_, Heap.get?_push_size _ rfl, rfl, rfl⟩, hl.isList.push _⟩
  · obtain ⟨a, its, rfl, _, hl, rl⟩ := r₁.inv_tup
    have ht : s₁.heap.IsTuple a its := by obtain ⟨n, e⟩ := hl; exact ⟨_, e, rfl, n, rfl⟩
    refine wpAny_pyIter_tuple ht ?_
    have hlt : a < s₁.heap.objs.size := by obtain ⟨n, e⟩ := hl; exact Heap.lt_size e
    exact tail a its _ _ (by obtain ⟨n, e⟩ := hl; exact ⟨_, e, by simp⟩) rl rfl (by simp) (fun A' hA' => Walks.tuple hA' _ _ (Nat.ne_of_lt hlt) its) ⟨⟨_, Heap.get?_push_size _ rfl, rfl, rfl⟩, ht.push _⟩
theorem gen_moved {h₀ : Heap} {s₅ s' : Shared} {wr : List Addr} {g : Nat} (C : CxH w β h₀ gs os) (C₅ : Cx w β s₅) (K₅ : Kh h₀ s₅.heap) (hw : ∀ b ∈ wr, h₀.get? b = none) (hm : Moved wr (GenOnlyQ g) s₅ s') : Cx w β s' ∧ Kh h₀ s'.heap := by
  refine ⟨?_, ⟨fun b o e n => hm.heap b o (fun z => by rw [hw b z] at e; cases e) (K₅.k b o e n), fun b o e => ?_⟩⟩
  · have := CxH.but C₅ (wr := wr) (h := s'.heap) (fun b hb => C.new (hw b hb)) fun b o hb e => hm.heap b o hb e
    exact { this with bare := AllBare.movedS C₅.bare hm, os := hm.os.trans C₅.os }
  · obtain ⟨o', e'⟩ := K₅.x b o e
    exact ⟨o', hm.heap b o' (fun z => by rw [hw b z] at e; cases e) e'⟩
end
section
variable {w : World} {β : Pm} {n : Nat} {sc : Scope} {ρ ρ' : PVs} {M : List Addr} {env : Env} {H h : Heap} {s s' : Shared} {B : Heap} {prog : Pr} {A : Around}
theorem looks_opq {M : Model} {h : Heap} {C : Addr} (e : NoOpq h) : Looks M h (opaqueClassAbove (.ref C)) none := by
  obtain ⟨mc, ns, hm⟩ := e
  refine Looks.andThen (a := false) ?_ (by show Looks M h (if (!false) = true then pure none else _) none; rw [if_pos (show (!false) = true from rfl)]; exact .now)
  intro A Q E s k q
  unfold anyOpaqueLoaded
  refine wpAny_bind (wpAny_nsGet (ns.keeps k) ?_)
  rw [hm]
  exact wpAny_pure q
theorem looks_mro75 {M : Model} {h : Heap} (X : (Kf w.params).In h) : Looks M h (mroOf (.ref 75)) [.ref 75, .type "set", .type "object"] := by
  obtain ⟨cd, hc, hm⟩ := any_some (show (clsIn (Kf w.params) 75).any (fun cd => cd.mro == [.ref 75, .type "set", .type "object"]) = true by kernel_rfl)
  rw [← beq_iff_eq.mp hm]
  exact (looks_clsIn X hc).andThen .now
theorem looks_isset {M : Model} {h : Heap} {x : Addr} {o : Obj} (X : (Kf w.params).In h) (hx : h.get? x = some o) (hc : o.cls = .ref 75) : Looks M h (isInstance (.ref x) (.type "set")) true :=
  (typ_of hx hc).andThen (looks_subIn X (by kernel_rfl))
structure Kw (wr : List Addr) (h h' : Heap) : Prop where
  k : ∀ b o, b ∉ wr → h.get? b = some o → o.cls ≠ .none → h'.get? b = some o
  x : ∀ b o, b ∉ wr → h.get? b = some o → ∃ o', h'.get? b = some o'
theorem Kw.of_kh {wr : List Addr} {h h' : Heap} (k : Kh h h') : Kw wr h h' := ⟨fun b o _ e n => k.k b o e n, fun b o _ e => k.x b o e⟩
theorem Kw.trans {wr : List Addr} {a b c : Heap} (x : Kw wr a b) (y : Kw wr b c) : Kw wr a c := ⟨fun p o q e n => y.k p o q (x.k p o q e n) n, fun p o q e => let ⟨o', e'⟩ := x.x p o q e; y.x p o' q e'⟩
theorem Kw.kh {wr : List Addr} {h₀ h h' : Heap} (x : Kh h₀ h) (k : Kw wr h h') (hw : ∀ b ∈ wr, h₀.get? b = none) : Kh h₀ h' :=
  have key : ∀ {b o}, h₀.get? b = some o → b ∉ wr := fun e z => by rw [hw _ z] at e; cases e
  ⟨fun b o e n => k.k b o (key e) (x.k b o e n) n, fun b o e => let ⟨o', e'⟩ := x.x b o e; k.x b o' (key e) e'⟩
theorem Kw.of_but {wr : List Addr} {h h' : Heap} (k : ∀ b o, b ∉ wr → h.get? b = some o → h'.get? b = some o) : Kw wr h h' :=
  ⟨fun b o q e _ => k b o q e, fun b o q e => ⟨o, k b o q e⟩⟩
theorem Kw.nn {wr : List Addr} {h h' : Heap} (k : Kw wr h h') {a : Addr} (n : NN h a) (hw : a ∉ wr) : NN h' a := let ⟨o, e, c⟩ := n; ⟨o, k.k a o hw e c, c⟩
theorem Kw.d {wr M : List Addr} {h h' : Heap} (k : Kw wr h h') (hM : ∀ b ∈ wr, b ∈ M) : D M h h' := fun b o e q nb => k.k b o (fun z => nb (hM b z)) e (stay_ne q)
theorem Fm.kw {wr : List Addr} {ρ : Vars} {h' : Heap} (F : Fm env sc B H h ρ) (hw : ∀ b ∈ wr, b ≠ env.locals ∧ (∀ x c, env.cells.lookup x = some c → c ≠ b) ∧ H.get? b = none) (k : Kw wr h h') : Fm env sc B H h' ρ := by
  have kl : ∀ o, h.get? env.locals = some o → h'.get? env.locals = some o := fun o e => k.k _ o (fun z => (hw _ z).1 rfl) e (by obtain ⟨o', e', c'⟩ := F.fcls; rw [e'] at e; cases e; rw [c']; simp)
  have kc : ∀ {x c}, env.cells.lookup x = some c → ∀ o, h.get? c = some o → h'.get? c = some o := fun {x c} q o e => k.k _ o (fun z => (hw _ z).2.1 x c q rfl) e (by obtain ⟨o', e', _, z⟩ := F.cex x c q; rw [e'] at e; cases e; exact z)
  exact { F with
    ns := let ⟨m, n, f⟩ := F.ns; ⟨m, n.at' kl, f⟩
    fcls := let ⟨o, e, c⟩ := F.fcls; ⟨o, kl _ e, c⟩
    cel := fun x e => let ⟨c, v, a, b, ⟨o, eo, r⟩, d⟩ := F.cel x e; ⟨c, v, a, b, ⟨o, kc a _ eo, r⟩, d⟩
    fre := fun x v a b => by
      rcases F.fre x v a b with ⟨q, ⟨o', e', c'⟩, m, n, r⟩ | ⟨q, c, q2, ⟨o', e', c'⟩, o, eo, d⟩
      · exact .inl ⟨q, ⟨o', kl _ e', c'⟩, m, n.at' kl, r⟩
      · exact .inr ⟨q, c, q2, ⟨o', kc q2 _ e', c'⟩, o, kc q2 _ eo, d⟩
    kept := k.kh F.kept fun b hb => (hw b hb).2.2
    cex := fun x c e => let ⟨o, q, z⟩ := F.cex x c e; ⟨o, kc e _ q, z⟩ }
theorem FP.kw (F : FP M B env sc H h ρ) {h' : Heap} {wr : List Addr} (hM : ∀ b ∈ wr, b ∈ M) (hw : ∀ b ∈ wr, b ≠ env.locals ∧ (∀ x c, env.cells.lookup x = some c → c ≠ b) ∧ H.get? b = none) (k : Kw wr h h') (hn : ∀ b ∈ wr, NN h' b) : FP M B env sc H h' ρ := by
  obtain ⟨m, ρv, f, r⟩ := F
  refine ⟨fun b hb => ?_, ρv, f.kw hw k, r.mono (k.d hM)⟩
  by_cases z : b ∈ wr
  · exact hn b z
  · obtain ⟨o, e, c⟩ := m b hb; exact ⟨o, k.k b o z e c, c⟩
theorem RepE.more {M M' : List Addr} {h : Heap} (hM : ∀ a ∈ M', a ∈ M ∨ h.get? a = none) {r : List (Str × Value)} {q : PVs} (x : RepE M h r q) : RepE M' h r q := by
  induction x with
  | nil => exact .nil
  | cons a _ ih => exact .cons (a.more hM) ih
theorem FP.but (F : FP M B env sc H h ρ) {h' : Heap} {wr : List Addr} (hM : ∀ b ∈ wr, b ∈ M) (hw : ∀ b ∈ wr, b ≠ env.locals ∧ (∀ x c, env.cells.lookup x = some c → c ≠ b) ∧ H.get? b = none) (k : ∀ b o, b ∉ wr → h.get? b = some o → h'.get? b = some o) (hn : ∀ b ∈ wr, NN h' b) : FP M B env sc H h' ρ := by
  obtain ⟨m, ρv, f, r⟩ := F
  refine ⟨fun b hb => ?_, ρv, f.but hw k, r.mono (D.but fun b o hb e => k b o (fun z => hb (hM b z)) e)⟩
  by_cases z : b ∈ wr
  · exact hn b z
  · obtain ⟨o, e, c⟩ := m b hb; exact ⟨o, k b o z e, c⟩
theorem FP.less {M' : List Addr} (F : FP M B env sc H h ρ) (hM : ∀ a ∈ M', a ∈ M) : FP M' B env sc H h ρ := by
  obtain ⟨m, ρv, f, r⟩ := F
  exact ⟨fun a ha => m a (hM a ha), ρv, f, r.more fun a ha => .inl (hM a ha)⟩
theorem super_stmt {body : List Stmt} {x dx : Addr} {ns : List Nat} {pn : PV} {tk : Nat → Tok} {ep' : Nat} {led : Bool} {Q : Flow → Shared → Prop} (hA : Ok A n) (C : Cx w β s) (F : FP (x :: M) β.H env (fdS (st2 3 0)) H s.heap [(S "num_cand", pn), (S "candidates", .list (nL ns)), (S "self", .raw (.ref x))])
    (e1 : env.code = .ref 56) (e3 : env.func = some 57) (ec : env.cells.lookup (S "__class__") = some 43) (hx : s.heap.get? x = some (setO (.ref 75) (some dx) led 0 tk ep')) (hxM : x ∉ M) (hH : H.get? x = none) (hB : β.H.get? x = none) (hlt : ∀ k ∈ ns, k < 4) (hn : ns.length ≤ sizeLine)
    (h : ∀ s', Cx w β s' → FP M β.H env (fdS (st2 3 0)) H s'.heap [(S "num_cand", pn), (S "candidates", .list (nL ns)), (S "self", .set true led (maskOf ns))] → Kw [x] s.heap s'.heap → (∃ tk' ep'', s'.heap.get? x = some (setO (.ref 75) (some dx) led (maskOf ns) tk' ep'')) → Q .next s') :
    PySem.wpAt (model prog.p w) A (.func body env) (exec (.Expr (.Call (.Attribute (.Call (.Name "super" ⟨9, 8, 9, 13⟩) [] [] ⟨9, 8, 9, 15⟩) "__init__" ⟨9, 8, 9, 24⟩) [.Name "candidates" ⟨9, 25, 9, 35⟩] [] ⟨9, 8, 9, 36⟩) ⟨9, 8, 9, 36⟩) env) Q noE s := by
  have ks := F.kind (S "super")
  have kc := F.kind (S "__class__")
  have kself := F.kind (S "self")
  have kk : (fdS (st2 3 0)).names.lookup (S "super") = some .globalImplicit := by kernel_rfl
  have kk2 : (fdS (st2 3 0)).names.lookup (S "__class__") = some .free := by kernel_rfl
  rw [kk] at ks
  rw [kk2] at kc
  refine PySem.ks_wpAt_Expr_any (PySem.ks_wpAt_MethodCall ?_) (by unfold interactive; rw [F.blk]; rfl)
  have o57 : s.heap.get? 57 = some o57 := C.K 57 _ (by kernel_rfl)
  have o56 : s.heap.get? 56 = some o56 := C.K 56 _ (by kernel_rfl)
  have o75' : s.heap.get? 75 = some o75 := C.K 75 _ (by kernel_rfl)
  have hne : x ≠ 75 := fun z => by rw [z, o75'] at hx; cases hx
  refine PySem.ks_wpAt_super_base ks kc (by kernel_rfl) e3 o57 rfl (ar := { arg := "self", annotation := none, pos := ⟨8, 17, 8, 21⟩ }) (by kernel_rfl) e1 o56 rfl (file := S "/claim/cut.py") (tf := 300) (by kernel_rfl) prog.file prog.sup ?_
  have L := F.ld
  have gs : nsIn (Kf w.params) mainGlobals (S "super") = some none := by kernel_rfl
  refine ks_loadName_global L.kind ks (Calls.loadGlobal_builtin (by rw [L.glb]; exact C.g) (mg_none_of C.K C.g gs) (by rw [L.bns]; exact C.b) ((C.bi _ (by decide +kernel)).trans (by kernel_rfl)) ⟨rfl, ?_⟩)
  have ccell : s.heap.get? 43 = some o43 := C.K 43 _ (by kernel_rfl)
  refine wpAny_loadName_free L.kind kc ec ⟨_, ccell, rfl⟩ ?_ rfl
  refine ld_var (prog := prog) (w := w) L (by kernel_rfl) (p := .raw (.ref x)) (by walk_at "lk") fun v r => ?_
  cases r.inv_raw
  refine ks_wpAny_isType_cls o75' rfl ⟨rfl, ?_⟩
  obtain ⟨hh, g, d, t, os⟩ := s
  refine ks_wpAny_call_super o75' rfl hx rfl (fun c e => by cases e) ((looks_subIn C.K (by kernel_rfl))) fun h' e k => ?_
  have C' : CxH w β h' g os := CxH.keeps' C k
  have hx' := k _ _ hx
  refine getMethod_super e (looks_opq C'.op) (looks_mro75 C'.K) C'.K hne (looks_isset C'.K hx' rfl) ?_
  have C2 := C'.keeps' (h := h'.push (mwO x)) fun _ _ e => Heap.get?_push_of_some _ e
  have hq : (h'.push (mwO x)).get? h'.objs.size = some (mwO x) := Heap.get?_push_size _ rfl
  have k2 : ∀ b o, hh.get? b = some o → (h'.push (mwO x)).get? b = some o := fun b o e => Heap.get?_push_of_some _ (k b o e)
  have F2 : FP (x :: M) β.H env (fdS (st2 3 0)) H (h'.push (mwO x)) [(S "num_cand", pn), (S "candidates", .list (nL ns)), (S "self", .raw (.ref x))] := F.kp (s := ⟨hh, g, d, t, os⟩) (s' := ⟨h'.push (mwO x), g, d, t + 1, os⟩) (Kh.of k2)
  dsimp only
  refine callWith_of (P := fun hp => hp.get? h'.objs.size = some (mwO x)) rfl (fun hp e => ⟨.machine, .inr (.inl rfl), (Looks.ld e).andThen (Looks.of_pure rfl)⟩) ?_
  have he : Evs w β n (fdS (st2 3 0)) [(S "num_cand", pn), (S "candidates", .list (nL ns)), (S "self", .raw (.ref x))] [.Name "candidates" ⟨9, 25, 9, 35⟩] [.list (nL ns)] := Evs.cons (by kernel_rfl) (Ev.name (by kernel_rfl) (by walk_at "lk") (by kernel_rfl)) Evs.nil
  refine Calls.evalArgs_plain (evs_run (s := ⟨h'.push (mwO x), g, d, t + 1, os⟩) (pos := ⟨9, 8, 9, 36⟩) (prog := prog) he hA C2 F2.ld fun vs s₃ C₃ K₃ r₃ => ?_)
  obtain ⟨v, rfl, rv3⟩ := r₃.one
  have hq3 := K₃.k _ _ hq (by simp)
  have hx3 : s₃.heap.get? x = some (setO (.ref 75) (some dx) led 0 tk ep') := K₃.k _ _ (k2 _ _ hx) (by simp [setO])
  refine ⟨hq3, mw_call hA.h C₃ hq3 hx3 rv3 hlt hn fun h4 tk' ep'' tok' k4 e4 => ?_⟩
  have k04 : Kw [x] hh h4 := (Kw.of_kh ((Kh.of k2).trans K₃)).trans (Kw.of_but fun b o hb e => k4 b o (by simpa using hb) e)
  have F3 := F2.kp (s := ⟨h'.push (mwO x), g, d, t + 1, os⟩) K₃
  have F4 : FP (x :: M) β.H env (fdS (st2 3 0)) H h4 [(S "num_cand", pn), (S "candidates", .list (nL ns)), (S "self", .raw (.ref x))] :=
    F3.but (wr := [x]) (fun b hb => by cases List.mem_singleton.mp hb; exact List.mem_cons_self ..) (F3.off hx3 (stay_set (own := true)) hH) (fun b o hb e => k4 b o (by simpa using hb) e) fun b hb => by cases List.mem_singleton.mp hb; exact ⟨_, e4, by simp [setO]⟩
  refine h _ (CxH.but C₃ (wr := [x]) (fun b hb => by cases List.mem_singleton.mp hb; exact hB) fun b o hb e => k4 b o (by simpa using hb) e) ?_ k04 ⟨_, _, e4⟩
  obtain ⟨m, ρv, f, r⟩ := F4.less (M' := M) fun a ha => List.mem_cons_of_mem _ ha
  cases r with
  | cons r1 r => cases r with
    | cons r2 r => cases r with
      | cons r3 r =>
        cases r
        cases r3.inv_raw
        exact ⟨m, _, f, .cons r1 (.cons r2 (.cons (.set (own := true) hxM (mask_lt hlt) e4 (fun z => by cases z)) .nil))⟩
end
section
variable {w : World} {β : Pm} {n : Nat} {M : List Addr} {h : Heap} {s : Shared} {prog : Pr} {A : Around} {P : Params}
theorem Rep.inv_set {v : Value} {own led : Bool} {S : Nat} (r : Rep M h v (.set own led S)) : ∃ x d tk ep, v = .ref x ∧ x ∉ M ∧ S < 16 ∧ h.get? x = some (setO (setC own) d led S tk ep) ∧ (own = false → d = none) := by
  cases r with
  | set hm hS ho hd => exact ⟨_, _, _, _, rfl, hm, hS, ho, hd⟩
variable {x : Addr} {own led : Bool} {S : Nat} {d : Option Addr} {tk : Nat → Tok} {ep : Nat}
theorem set_typ {M : Model} (ho : h.get? x = some (setO (setC own) d led S tk ep)) : Looks M h (typeOf (.ref x)) (setC own) := by
  have e : (setO (setC own) d led S tk ep).cls = setC own := rfl
  rw [← e]
  exact (Looks.ld ho).andThen .now
theorem set_inst {M : Model} (X : (Kf P).In h) (ho : h.get? x = some (setO (setC own) d led S tk ep)) : Looks M h (isInstance (.ref x) (.type "set")) true :=
  (set_typ ho).andThen (by cases own <;> exact looks_subIn X (by kernel_rfl))
theorem set_lookn {M : Model} {name : Str} {r : Option Value} (X : (Kf P).In h) (ho : h.get? x = some (setO (setC own) d led S tk ep)) (e : ∀ own, findIn (Kf P) (setC own) name = some r) : Looks M h (specialOf (.ref x) name) r :=
  (set_typ ho).andThen (looks_findIn X (e own))
theorem slot_call {id nm : String} {Bi : Builtin} {rest : List Value} {Q : Value → Shared → Prop} (X : (Kf w.params).In s.heap) (ho : s.heap.get? x = some (setO (setC own) d led S tk ep)) (hk : builtinKind id = some .slot) (hs : splitId id = some ("set", nm)) (hp : plainId id = true) (he : entryFor table id = some Bi) (ha : argsOk id ⟨.ref x :: rest, []⟩)
    (h : Wp prog w A.in1 (Bi ⟨.ref x :: rest, []⟩) (fun fin s' => ∃ v, fin = .done (.ret v) ∧ Q v s') s) : Wp prog w A (call (.builtin id) (.ref x :: rest)) Q s := by
  refine wpAny_call (codeAny_call_builtin hp he (check_slot hk hs (set_inst X ho) ha ?_))
  refine wpAny_mono h (fun fin s' z => ?_) fun _ _ z => z.elim
  obtain ⟨v, rfl, q⟩ := z
  exact q
theorem special_call {id nm : String} {name : Str} {Bi : Builtin} {rest : List Value} {Q : Option Value → Shared → Prop} (X : (Kf w.params).In s.heap) (ho : s.heap.get? x = some (setO (setC own) d led S tk ep)) (e : ∀ own, findIn (Kf w.params) (setC own) name = some (some (.builtin id))) (hb : ∀ v, bindSpecial (.builtin id) v = pure (.builtin id, [v])) (hk : builtinKind id = some .slot) (hs : splitId id = some ("set", nm)) (hp : plainId id = true) (he : entryFor table id = some Bi) (ha : argsOk id ⟨.ref x :: rest, []⟩)
    (h : Wp prog w A.in1 (Bi ⟨.ref x :: rest, []⟩) (fun fin s' => ∃ v, fin = .done (.ret v) ∧ Q (some v) s') s) : Wp prog w A (callSpecial? (.ref x) name rest) Q s := by
  unfold callSpecial?
  refine wpAny_bind ((set_lookn X ho e).here ?_)
  refine wpAny_holding (wpAny_bind (wpAny_of_eq (hb _) ?_))
  exact wpAny_bind (wpAny_mono (slot_call X ho hk hs hp he ha h) (fun v s' z => wpAny_pure z) fun _ _ z => z.elim)
theorem cl_len_set : Cl w β n (.builtin "len") [.set own led S] (.int ((els S).length : Nat)) := by
  intro prog A s M vs Q hA C mx r h
  obtain ⟨v, rfl, r₁⟩ := r.one
  obtain ⟨x, d, tk, ep, rfl, _, hS, ho, _⟩ := r₁.inv_set
  refine Calls.call_function_entry kind_len plain_len entry_len (args_len1 _) ?_
  unfold Builtin.«len»
  refine wpAny_bind (m := oneArg "len" _) (wpAny_pure ?_)
  refine wpAny_bind (m := callSpecial? (.ref x) (Str.ofString "__len__")) ?_
  refine special_call (nm := "__len__") C.K ho (fun own => by cases own <;> kernel_rfl) F.slot_set_len.bind (by kernel_rfl) (by kernel_rfl) F.slot_set_len.plain entry_set_len (F.args_set_len_1 _) ?_
  unfold Builtin.«frozenset.__len__» Builtin.Frozenset.slot0 slotArgs
  simp only [List.isEmpty_nil, Bool.not_true, Bool.false_eq_true, ↓reduceIte, bind_assoc, List.length_nil, bne_self_eq_false]
  unfold Builtin.Frozenset.addrOf Builtin.Frozenset.sizeOf
  refine wpAny_bind (wpAny_pure ?_)
  try dsimp only
  refine wpAny_bind (wpAny_pure ?_)
  refine wpAny_bind (wpAny_bind (wpAny_setEntries_of ho rfl (fits_tab hS) (wpAny_pure ?_)))
  show wpAny _ _ (retInt _) _ _ _
  unfold retInt
  have el := els_le (S := S)
  rw [size_ents]
  refine wpAny_bind (wpAny_mkInt (wpAny_pure ⟨_, rfl, ?_⟩))
  refine wpAny_bind (wpAny_holding (wpAny_pure ?_))
  refine wpAny_bind (wpAny_letGo ?_)
  show wpAny _ _ (if (((els S).length : Nat) : Int) < 0 then _ else _) _ _ _
  rw [if_neg (by omega)]
  show wpAny _ _ (if (((els S).length : Nat) : Int) ≥ 2 ^ 63 then _ else _) _ _ _
  rw [if_neg (by omega)]
  exact wpAny_bind (wpAny_mkInt (wpAny_pure ⟨_, rfl, h _ _ C (kp_tok s _) (.int _ _)⟩))
end
section
variable {w : World} {β : Pm} {n : Nat} {sc : Scope} {ρ ρ' : PVs} {M : List Addr} {env : Env} {H h : Heap} {s s' : Shared} {B : Heap} {prog : Pr} {A : Around} {gs : Array GenState} {os : OsState}
theorem gen_all {h₀ : Heap} {a : Addr} {k : Nat} {tr : Nat → Bool} {Q : Value → Shared → Prop} (X : GenX prog.p w A h₀ a k (fun i u => u = .bool (tr i)) s) (C₀ : CxH w β h₀ gs os) (C : Cx w β s) (K : Kh h₀ s.heap) (h : ∀ s', Cx w β s' → Kh h₀ s'.heap → Q (.bool ((List.range k).all tr)) s') : Wp prog w A (call (.builtin "all") [.ref a]) Q s := by
  obtain ⟨fp, wr, g, St, W, st, hfp, hw, hT⟩ := X
  have W := W.in4_1
  refine call_all_walkS (W.self 0 _ _ _ st ⟨a, _, _, _, _, _, _, tr, rfl, W, st, fun i v s Q E e q => ?_, fun s' hm => ?_⟩)
  · subst e; exact wpAny_truthy_bool q
  · obtain ⟨C', K'⟩ := gen_moved C₀ C K hw hm
    exact h s' C' K'
theorem gen_any {h₀ : Heap} {a : Addr} {k : Nat} {tr : Nat → Bool} {Q : Value → Shared → Prop} (X : GenX prog.p w A h₀ a k (fun i u => u = .bool (tr i)) s) (C₀ : CxH w β h₀ gs os) (C : Cx w β s) (K : Kh h₀ s.heap) (h : ∀ s', Cx w β s' → Kh h₀ s'.heap → Q (.bool ((List.range k).any tr)) s') : Wp prog w A (call (.builtin "any") [.ref a]) Q s := by
  obtain ⟨fp, wr, g, St, W, st, hfp, hw, hT⟩ := X
  have W := W.in4_1
  refine call_any_walkS (W.self 0 _ _ _ st ⟨a, _, _, _, _, _, _, tr, rfl, W, st, fun i v s Q E e q => ?_, fun s' hm => ?_⟩)
  · subst e; exact wpAny_truthy_bool q
  · obtain ⟨C', K'⟩ := gen_moved C₀ C K hw hm
    exact h s' C' K'
theorem gen_sum {h₀ : Heap} {a : Addr} {k : Nat} {val : Nat → Int} {Q : Value → Shared → Prop} (X : GenX prog.p w A h₀ a k (fun i u => ∃ t, u = .int (val i) t) s) (C₀ : CxH w β h₀ gs os) (C : Cx w β s) (K : Kh h₀ s.heap) (hf : ∀ j, j < k → InLong (val j) ∧ InLong (preSum val (j + 1))) (h : ∀ s' t, Cx w β s' → Kh h₀ s'.heap → Q (.int (preSum val k) t) s') : Wp prog w A (call (.builtin "sum") [.ref a]) Q s := by
  obtain ⟨fp, wr, g, St, W, st, hfp, hw, hT⟩ := X
  have W := W.in4_1
  refine call_sum_walkS (W.self 0 _ _ _ st ⟨a, _, _, _, _, _, _, val, rfl, W, st, hfp, fun i v e => e, hf, fun s' t hm => ?_⟩)
  obtain ⟨C', K'⟩ := gen_moved C₀ C K hw hm
  exact h s' t C' K'
theorem callB1 {x : Str} {np pos : Pos} {f : String} {g : Expr} {Q : Value → Shared → Prop} (hf : Ev w β n sc ρ (.Name x np) (.raw (.builtin f))) (hs : ∀ env rest, starEach (g :: rest) env = (false, eval g env) :: starEach rest env) (hA : Ok A n) (C : Cx w β s) (L : Ld M env sc s.heap ρ)
    (hg : ∀ s₁, Cx w β s₁ → Kp s s₁ → Wp prog w A (eval g env) (fun v s₂ => Wp prog w A (call (.builtin f) [v]) Q s₂) s₁) : Wp prog w A (eval (.Call (.Name x np) [g] [] pos) env) Q s := by
  refine wpAny_Call_NameR (hf hA C L fun v s₁ C₁ K₁ r₁ => ?_)
  cases r₁.inv_raw
  refine Calls.callWith_builtin (by rw [hs]; rfl) ?_
  have run : Wp prog w A (spliced (backTo pos (starEach [g] env))) (fun vs s' => Wp prog w A (call (.builtin f) ([] ++ vs)) Q s') s₁ := by
    refine spliced_more ?_ (hs env [])
    exact wpAny_mono (hg s₁ C₁ K₁) (fun v s₂ q => wpAny_items_nil q) fun _ _ e => e
  rw [hs] at run ⊢
  exact Calls.evalArgs_plain run
noncomputable def TvC (w : World) (β : Pm) (n : Nat) (sc : Scope) (ρ : PVs) (c : Addr) (e : Expr) (b : Bool) : Prop :=
  ∀ ⦃prog : Pr⦄ ⦃A : Around⦄ ⦃env : Env⦄ ⦃s : Shared⦄ ⦃M : List Addr⦄ ⦃Q : Bool → Shared → Prop⦄, Ok A n → Cx w β s → Ld M env sc s.heap ρ → env.code = .ref c → (∀ s', Cx w β s' → Kp s s' → Q b s') → Wp prog w A (isTrue e env (eval e env)) Q s
theorem TvC.not {c : Addr} {e : Expr} {b : Bool} {pos : Pos} (h1 : TvC w β n sc ρ c e b) : TvC w β n sc ρ c (.UnaryOp .Not e pos) (!b) := by
  intro prog A env s M Q hA C L hc h
  exact wpAny_isTrue_Not (h1 hA C L hc h)
theorem TvC.and {c : Addr} {e f : Expr} {a b : Bool} {pos : Pos} (h1 : Tv w β n sc ρ e a) (h2 : TvC w β n sc ρ c f b) : TvC w β n sc ρ c (.BoolOp .And [e, f] pos) (a && b) := by
  intro prog A env s M Q hA C L hc h
  refine wpAny_isTrue_BoolOp (wpAny_allTrue_And_cons (h1 hA C L fun s₁ C₁ K₁ => ?_))
  cases a with
  | false => simp only [Bool.false_eq_true, if_false]; exact h s₁ C₁ K₁
  | true =>
    simp only [if_true]
    refine wpAny_allTrue_And_cons (h2 hA C₁ (L.kp K₁) hc fun s₂ C₂ K₂ => ?_)
    cases b with
    | false => simp only [Bool.false_eq_true, if_false]; exact h s₂ C₂ (kp_trans K₁ K₂)
    | true => simp only [if_true]; exact wpAny_allTrue_And_nil (h s₂ C₂ (kp_trans K₁ K₂))
theorem step_if {c : Addr} {test : Expr} {body rest : List Stmt} {pos : Pos} {Q : Flow → Shared → Prop} (h1 : TvC w β n sc ρ c test false) (hA : Ok A n) (C : Cx w β s) (F : FP M β.H env sc H s.heap ρ) (hc : env.code = .ref c)
    (k : ∀ s₁, Cx w β s₁ → FP M β.H env sc H s₁.heap ρ → Kp s s₁ → Wp prog w A (execs rest env) Q s₁) : Wp prog w A (execs (.If test body [] pos :: rest) env) Q s := by
  refine wpAny_execs_cons (wpAny_If (h1 hA C F.ld hc fun s₁ C₁ K₁ => ?_))
  simp only [Bool.false_eq_true, if_false]
  exact wpAny_execs_nil (k s₁ C₁ (F.kp K₁) K₁)
theorem co_isnot_int {a : Int} : Co w β n .IsNot (.int a) (.raw .none) true := fun _ _ _ _ _ _ _ _ C _ x y h' => by
  obtain ⟨t, rfl⟩ := x.inv_int
  cases y.inv_raw
  exact isnot_none_ne (by simp) (h' _ C (kp_refl _))
theorem gen_name {A' : Around} {cenv : Env} {scope : Scope} {x : Str} {px : Pos} {v : Value} {m : Str → Option Value} {E : Value → Shared → Prop} {Q : Value → Shared → Prop} (S : Sees w β M scope ρ cenv s.heap) (hk : scope.kind = .function) (hx : scope.names.lookup x = some .local) (hn : s.heap.Ns cenv.locals m) (hm : m x = some v) (hd : (x == ("__debug__" : Str)) = false) (h : Q v s) : wpAny (model prog.p w) A' (eval (.Name x px) cenv) Q E s := by
  have e : cenv.kindOf x = some .local := by show cenv.scope.names.lookup x = _; rw [S.sc]; exact hx
  exact wpAny_Name (wpAny_loadName_local (by rw [S.sc]; exact hk) e hn hm h) hd
theorem gen_free {A' : Around} {cenv : Env} {scope : Scope} {x : Str} {px : Pos} {p : PV} {E : Value → Shared → Prop} {Q : Value → Shared → Prop} (S : Sees w β M scope ρ cenv s.heap) (hk : scope.kind = .function) (hx : scope.names.lookup x = some .free) (hp : ρ.lookup x = some p) (hc : (x == ("__classdict__" : Str)) = false) (hd : (x == ("__debug__" : Str)) = false) (h : ∀ u, Rep M s.heap u p → Q u s) : wpAny (model prog.p w) A' (eval (.Name x px) cenv) Q E s := by
  have e : cenv.kindOf x = some .free := by show cenv.scope.names.lookup x = _; rw [S.sc]; exact hx
  obtain ⟨c, u, z1, z2, r⟩ := S.fre x p hx hp
  exact wpAny_Name (wpAny_loadName_free (by rw [S.sc]; exact hk) e z1 z2 (h u r) hc) hd
theorem tv_all {ns : List Nat} (hv : ρ.lookup (S "candidates") = some (.list (nL ns))) (hc : ρ.lookup (S "cand") = none) {np p1 p2 p3 p4 p5 p6 p7 : Pos} {scope : Scope}
    (hsc : scope = { kind := .function, names := [(S ".0", .local), (S "cand", .local)], isGenerator := true, isCoroutine := false, more := [] }) (hb : Ev w β n (fdS (st2 3 0)) ρ (.Name (S "all") np) (.raw (.builtin "all"))) (hz : ρ.lookup (S ".0") = none) :
    TvC w β n (fdS (st2 3 0)) ρ 56 (.Call (.Name (S "all") np) [.GeneratorExp (.Compare (.Name (S "cand") p1) [.GtE] [.Constant (.int 0) 0 p2] p3) [⟨.Name (S "cand") p4, .Name (S "candidates") p5, [], 0⟩] scope p6] [] p7) true := by
  subst hsc
  intro prog A env s M Q hA C L hcode h
  refine wpAny_isTrue_value (callB1 hb (fun _ _ => by rfl) hA C L fun s₁ C₁ K₁ => ?_) (by rfl)
  refine gen_rule (c := 56) (P := 52) (xs := nL ns) (pi := .list (nL ns)) (F := fun i u => u = .bool true) (by decide) hA C₁ (L.kp K₁) hcode ?_ (Ev.name (by kernel_rfl) hv (by kernel_rfl)) (.inl rfl) ?_ fun a s₂ C₂ K₂ X => ?_
  · unfold genOk compOk
    simp only [List.all_cons, List.all_nil, hc, hz]
    kernel_rfl
  · intro A' E' i v y s₂ m₂ cenv hA' hd hu hy r hns hm S D
    rw [List.getElem?_map] at hy
    obtain ⟨k, hk, rfl⟩ := Option.map_eq_some_iff.mp hy
    obtain ⟨t, rfl⟩ := r.inv_int
    refine wpAny_Compare1 (gen_name S rfl (by kernel_rfl) hns hm (by kernel_rfl) (wpAny_Constant_int ?_))
    refine P.ge_int ⟨?_, ⟨_, _, rfl, fun _ _ e => e⟩⟩
    rw [decide_eq_true (by omega)]
  · refine gen_all (tr := fun _ => true) X C₁ C₂ K₂ fun s₃ C₃ K₃ => ?_
    refine wpAny_truthy_bool ?_
    rw [show (List.range (nL ns).length).all (fun _ => true) = true by simp]
    exact h s₃ C₃ (kp_trans K₁ K₃)
theorem tv_any {ns : List Nat} {m : Nat} (hlt : ∀ k ∈ ns, k < m) (hv : ρ.lookup (S "candidates") = some (.list (nL ns))) (hv2 : ρ.lookup (S "num_cand") = some (.int m)) (hc : ρ.lookup (S "cand") = none) {np p1 p2 p3 p4 p5 p6 p7 : Pos} {scope : Scope}
    (hsc : scope = { kind := .function, names := [(S ".0", .local), (S "cand", .local), (S "num_cand", .free)], isGenerator := true, isCoroutine := false, more := [] }) (hb : Ev w β n (fdS (st2 3 0)) ρ (.Name (S "any") np) (.raw (.builtin "any"))) (hz : ρ.lookup (S ".0") = none) :
    TvC w β n (fdS (st2 3 0)) ρ 56 (.Call (.Name (S "any") np) [.GeneratorExp (.Compare (.Name (S "cand") p1) [.GtE] [.Name (S "num_cand") p2] p3) [⟨.Name (S "cand") p4, .Name (S "candidates") p5, [], 0⟩] scope p6] [] p7) false := by
  subst hsc
  intro prog A env s M Q hA C L hcode h
  refine wpAny_isTrue_value (callB1 hb (fun _ _ => by rfl) hA C L fun s₁ C₁ K₁ => ?_) (by rfl)
  refine gen_rule (c := 56) (P := 52) (xs := nL ns) (pi := .list (nL ns)) (F := fun i u => u = .bool false) (by decide) hA C₁ (L.kp K₁) hcode ?_ (Ev.name (by kernel_rfl) hv (by kernel_rfl)) (.inl rfl) ?_ fun a s₂ C₂ K₂ X => ?_
  · unfold genOk compOk
    simp only [List.all_cons, List.all_nil, hc, hz, hv2]
    kernel_rfl
  · intro A' E' i v y s₂ m₂ cenv hA' hd hu hy r hns hm S D
    rw [List.getElem?_map] at hy
    obtain ⟨k, hk, rfl⟩ := Option.map_eq_some_iff.mp hy
    obtain ⟨t, rfl⟩ := r.inv_int
    refine wpAny_Compare1 (gen_name S rfl (by kernel_rfl) hns hm (by kernel_rfl) (gen_free S rfl (by kernel_rfl) hv2 (by kernel_rfl) (by kernel_rfl) fun u ru => ?_))
    obtain ⟨t', rfl⟩ := ru.inv_int
    refine P.ge_int ⟨?_, ⟨_, _, rfl, fun _ _ e => e⟩⟩
    have := hlt k (List.mem_of_getElem? hk)
    rw [decide_eq_false (by omega)]
  · refine gen_any (tr := fun _ => false) X C₁ C₂ K₂ fun s₃ C₃ K₃ => ?_
    refine wpAny_truthy_bool ?_
    rw [show (List.range (nL ns).length).any (fun _ => false) = false by simp]
    exact h s₃ C₃ (kp_trans K₁ K₃)
end
section
variable {w : World} {β : Pm} {n : Nat} {sc : Scope} {ρ ρ' : PVs} {M : List Addr} {env : Env} {H h : Heap} {s s' : Shared} {B : Heap} {prog : Pr} {A : Around}
noncomputable def ClK (w : World) (β : Pm) (n : Nat) (f : Value) (ps : List PV) (ks : PVs) (r : PV) : Prop :=
  ∀ ⦃prog : Pr⦄ ⦃A : Around⦄ ⦃s : Shared⦄ ⦃M : List Addr⦄ ⦃vs : List Value⦄ ⦃kv : List (Str × Value)⦄ ⦃Q : Value → Shared → Prop⦄, Ok A n → Cx w β s → Mx M s.heap → RepL M s.heap vs ps → RepE M s.heap kv ks →
    (∀ v s', Cx w β s' → Kp s s' → Rep M s'.heap v r → Q v s') → Wp prog w A (call f vs kv) Q s
theorem clk_CS {ns : List Nat} {m : Nat} (hlt : ∀ k ∈ ns, k < 4) (hm : ∀ k ∈ ns, k < m) (hd : (els (maskOf ns)).length = ns.length) : ClK w β (n + 3) (.ref 75) [.list (nL ns)] [(S "num_cand", .int m)] (.set true (ledOf w) (maskOf ns)) := by
  intro prog A s M vs kv Q hA C mx r rk hq
  have hl4 : ns.length ≤ 4 := by rw [← hd]; exact els_le
  obtain ⟨v, rfl, rv⟩ := r.one
  cases rk with
  | cons ru rk => ?_
  cases rk
  rename_i u
  obtain ⟨hh, g, d, t, os⟩ := s
  refine wpAny_call (make_cs (fI := 57) (mkS C.K) (looks_findIn C.K (by kernel_rfl)) (fun self => bind_fn C.K self (by kernel_rfl)) ?_)
  have n1 : hh.get? hh.objs.size = none := none_of_ge (Nat.le_refl _)
  have n2 : hh.get? (hh.objs.size + 1) = none := none_of_ge (Nat.le_succ _)
  have kk : ∀ b o, hh.get? b = some o → ((hh.push emptyDict).push (csO 75 hh.objs.size (ledOf w))).get? b = some o := fun b o e => Heap.get?_push_of_some _ (Heap.get?_push_of_some _ e)
  have hx : ((hh.push emptyDict).push (csO 75 hh.objs.size (ledOf w))).get? (hh.objs.size + 1) = some (setO (.ref 75) (some hh.objs.size) (ledOf w) 0 (fun _ => 0) 0) := by
    have := Heap.get?_push_size (hh.push emptyDict) (o := csO 75 hh.objs.size (ledOf w)) rfl
    rwa [Heap.size_push] at this
  have C1 : CxH w β ((hh.push emptyDict).push (csO 75 hh.objs.size (ledOf w))) g os := CxH.keeps' C kk
  generalize hh.objs.size + 1 = x at n2 hx ⊢
  generalize hh.objs.size = dx at n1 hx kk C1 ⊢
  generalize hg : (hh.push emptyDict).push (csO 75 dx (ledOf w)) = h1 at kk hx C1 ⊢
  refine code_defAt (s := ⟨h1, g, d, t, os⟩) (binds := [(S "self", .ref x), (S "candidates", v), (S "num_cand", u)]) o57 C1 (hA.made (C := 75) (rest := [v]) (kw := [(S "num_cand", u)])).lt (by kernel_rfl) rfl (by kernel_rfl) (BindsTo.of_defaults rfl (C1.K 49 _ (by kernel_rfl)) (o := o49) rfl rfl rfl) (by kernel_rfl) (by kernel_rfl) (by kernel_rfl) ?_ (by kernel_rfl) (List.pairwise_singleton ..) fun env s₁ e1 e2 e3 e4 C₁ F₁ => ?_
  · intro p hp
    cases List.mem_singleton.mp hp
    exact ⟨o43, C1.K 43 _ (by kernel_rfl), rfl, by simp [o43]⟩
  have K₁ : Kh hh s₁.heap := (Kh.of kk).trans F₁.kept
  have mN : ∀ y ∈ x :: M, y ∈ M ∨ hh.get? y = none := fun y hy => by
    rcases mcs hy with rfl | hy
    · exact .inr n2
    · exact .inl hy
  have hx₁ : s₁.heap.get? x = some (setO (.ref 75) (some dx) (ledOf w) 0 (fun _ => 0) 0) := F₁.kept.k _ _ hx (by simp [setO])
  have F : FP (x :: M) β.H env (fdS (st2 3 0)) hh s₁.heap [(S "num_cand", .int m), (S "candidates", .list (nL ns)), (S "self", .raw (.ref x))] := by
    refine ⟨fun y hy => ?_, _, F₁.base (Kh.of kk), .cons ((ru.more mN).mono (D.of_kh K₁)) (.cons ((rv.more mN).mono (D.of_kh K₁)) (.cons (.raw _) .nil))⟩
    rcases mcs hy with rfl | hy
    · exact ⟨_, hx₁, by simp [setO]⟩
    · exact (mx y hy).kh K₁
  have hA1 : Ok ((A.under (.builtin "type.__call__" ⟨.ref 75 :: [v], [(S "num_cand", u)]⟩)).deeper env) (n + 1) := (hA.made (C := 75) (rest := [v]) (kw := [(S "num_cand", u)])).deeper
  generalize (A.under (.builtin "type.__call__" ⟨.ref 75 :: [v], [(S "num_cand", u)]⟩)).deeper env = A1 at hA1 ⊢
  have e4' : env.cells.lookup (S "__class__") = some 43 := e4 _ _ (by kernel_rfl) (by kernel_rfl)
  have hB : β.H.get? x = none := C.new n2
  have hxM : x ∉ M := fun z => by obtain ⟨o, e, _⟩ := mx x z; have e' : hh.get? x = some o := e; rw [n2] at e'; cases e'
  with_unfolding_all refine PySem.ks_wpAt_execs_cons ?_
  refine super_stmt hA1 C₁ F e1 e3 e4' hx₁ hxM n2 hB hlt (by simp [sizeLine]; omega) fun s₂ C₂ F₂ k₂ hx₂ => ?_
  refine wpAt_of_wpAny ?_
  obtain ⟨tk', ep'', hx₂⟩ := hx₂
  -- no candidate twice
  refine S1.step (ρ₁ := [(S "num_cand", .int m), (S "candidates", .list (nL ns)), (S "self", .set true (ledOf w) (maskOf ns))]) ?_ hA1 C₂ F₂ fun s₃ C₃ F₃ D₃ => ?_
  · refine S1.if (c := false) (Tv.cmp (a := .int ((nL ns).length : Nat)) (b := .int ((els (maskOf ns)).length : Nat)) (Ev.callB (f := "len") (by walk_at "e") (by walk_at "es") (by simp) (cl_len (by simp; omega))) (Ev.callB (f := "len") (by walk_at "e") (by walk_at "es") (by simp) cl_len_set) (co_ne (decide_eq_false (by simp [hd])))) (fun h => by cases h) (fun _ => Sv.nil)
  refine S1.step (ρ₁ := [(S "num_cand", .int m), (S "candidates", .list (nL ns)), (S "self", .set true (ledOf w) (maskOf ns))]) ?_ hA1 C₃ F₃ fun s₄ C₄ F₄ D₄ => ?_
  · refine S1.for (xs := nL ns) (fun _ => [(S "num_cand", .int m), (S "candidates", .list (nL ns)), (S "self", .set true (ledOf w) (maskOf ns))]) (fun _ => none) (.inl (by kernel_rfl)) (pi := .list (nL ns)) (by walk_at "e") rfl (by simp [sizeLine]; omega) ⟨by walk_at "lk", by walk_at "lk", by walk_at "lk", trivial⟩ ?_ (fun _ => rfl) (fun i _ p _ h => by cases h)
    intro i y hy _
    rw [List.getElem?_map] at hy
    obtain ⟨k, hk, rfl⟩ := Option.map_eq_some_iff.mp hy
    exact Sv.sub (Sv.cons (S1.if (c := false) (Tv.not (c := true) (Tv.bool (Ev.callB (f := "isinstance") (by walk_at "e") (by walk_at "es") (by simp) cl_is_int))) (fun h => by cases h) (fun _ => Sv.nil)) Sv.nil) ⟨by walk_at "lk", by walk_at "lk", by walk_at "lk", trivial⟩
  refine step_if (c := 56) (TvC.not (b := true) (tv_all (by walk_at "lk") (by kernel_rfl) rfl (by walk_at "e") (by kernel_rfl))) hA1 C₄ F₄ e1 fun s₅ C₅ F₅ K₅ => ?_
  refine step_if (c := 56) (TvC.and (a := true) (b := false) (Tv.cmp (by walk_at "e") (by walk_at "e") co_isnot_int) (tv_any hm (by walk_at "lk") (by walk_at "lk") (by kernel_rfl) rfl (by walk_at "e") (by kernel_rfl))) hA1 C₅ F₅ e1 fun s₆ C₆ F₆ K₆ => ?_
  refine wpAny_execs_nil ⟨rfl, ?_⟩
  have Dt : Kb env s₂.heap s₆.heap := D₃.trans (D₄.trans ((Kb.of_kp K₅).trans (Kb.of_kp K₆)))
  have hx₆ := F₂.stay Dt hx₂ (stay_set (own := true))
  exact hq (.ref x) s₆ C₆ F₆.kept (.set (own := true) hxM (mask_lt hlt) hx₆ (fun z => by cases z))
end
noncomputable def PV.solid : PV → Bool
  | .raw _ => false
  | .any => false
  | _ => true
theorem Rep.handed {M : List Addr} {h : Heap} {v : Value} {p : PV} (r : Rep M h v p) (e : p.solid = true) : handedIn v = true := by
  cases r <;> first | rfl | cases e
theorem Rep.inv_obj {M : List Addr} {h : Heap} {v : Value} {C : Addr} {fs : PVs} (r : Rep M h v (.obj C fs)) : ∃ (x dx : Addr) (m : Str → Option Value) (vals : Str → Value), v = .ref x ∧ x ∉ M ∧ dx ∉ M ∧ h.get? x = some (inst C dx) ∧ DictAt h dx m ∧ (∀ y p, fs.lookup y = some p → m y = some (vals y)) ∧ (∀ y p, fs.lookup y = some p → Rep M h (vals y) p) ∧ ∀ y v, m y = some v → (fs.lookup y).isSome = true := by
  cases r with
  | obj hm hm' hx hd hv hr ha => exact ⟨_, _, _, _, rfl, hm, hm', hx, hd, hv, hr, ha⟩
theorem RepE.back {M : List Addr} {h : Heap} {r : List (Str × Value)} {q : PVs} (e : RepE M h r q) {x : Str} {v : Value} (l : r.lookup x = some v) : (q.lookup x).isSome = true := by
  induction e with
  | nil => cases l
  | @cons y v' p' r q a b ih =>
    rw [lk_cons] at l ⊢
    by_cases hx : x = y
    · rw [if_pos hx]; rfl
    · rw [if_neg hx] at l ⊢; exact ih l
theorem Rep.objL {M : List Addr} {h : Heap} {x dx C : Addr} {m : Str → Option Value} {L : List (Str × Value)} {fs : PVs} (hm : x ∉ M) (hm' : dx ∉ M) (hx : h.get? x = some (inst C dx)) (hd : DictAt h dx m) (e : ∀ y, m y = L.lookup y) (r : RepE M h L fs) : Rep M h (.ref x) (.obj C fs) :=
  .obj (vals := fun y => (L.lookup y).getD .none) hm hm' hx hd (fun y p l => by obtain ⟨v, q, _⟩ := r.lookup l; rw [e, q]; rfl) (fun y p l => by obtain ⟨v, q, z⟩ := r.lookup l; rw [q]; exact z) fun y v l => by rw [e] at l; exact r.back l
theorem put_list {L : List (Str × Value)} {m : Str → Option Value} {x : Str} {v : Value} (e : ∀ y, m y = L.lookup y) : ∀ y, put m x v y = ((x, v) :: L).lookup y := fun y => by
  unfold put; rw [lk_cons, e]
noncomputable def Fo (P : Params) (C : Addr) (y : Str) : Prop := ∀ o v, lookIn y o = some (some v) → findObj (Kf P) C (some o) y = some (.value v)
theorem Fo.of {P : Params} {C : Addr} {y : Str} (e : ∀ o x, lookIn y o = x → findObj (Kf P) C (some o) y = (x.bind fun own => match own with | some v => some (.value v) | none => some .missing)) : Fo P C y := fun o v h => by
  rw [e o _ h]; rfl
section
variable {w : World} {β : Pm} {n : Nat} {sc : Scope} {ρ ρ' : PVs} {M : List Addr} {env : Env} {H h : Heap} {s s' : Shared} {B : Heap} {prog : Pr} {A : Around}
theorem Ev.attr {e : Expr} {y : Str} {pos : Pos} {C : Addr} {fs : PVs} {p : PV} (O : ClsOk w.params C) (hf : Fo w.params C y) (hs : p.solid = true) (h1 : Ev w β n sc ρ e (.obj C fs)) (hl : fs.lookup y = some p)
    (he : ∀ env, eval (.Attribute e y pos) env = (do
      let o ← eval e env
      standAt pos.atName
      let r ← holding [o] (getAttr o y true)
      letTemporaryGo e o r
      pure r) := by intro _; with_unfolding_all rfl) : Ev w β n sc ρ (.Attribute e y pos) p := by
  intro prog A env s M Q hA C' L h
  refine Attribute_any_ (h1 hA C' L fun v s₁ C₁ K₁ r₁ => ?_) (he env)
  obtain ⟨x, dx, m, vals, rfl, hm, hm', hx, hd, hv, hr, ha⟩ := r₁.inv_obj
  exact get_attr C₁ O (fun o ho => hf o _ ho) ((hr y p hl).handed hs) hx hd (hv y p hl) (h _ _ C₁ (kp_trans K₁ (kp_tok _ _)) (hr y p hl))
theorem Ev.callRK {x k : Str} {np pos kp : Pos} {f : Value} {es : List Expr} {ps : List PV} {ke : Expr} {q r : PV} (hk : keepIn (Kf w.params) f = true) (hf : Ev w β n sc ρ (.Name x np) (.raw f)) (he : Evs w β n sc ρ es ps) (hne : es ≠ []) (hke : Ev w β n sc ρ ke q) (hc : ClK w β n f ps [(k, q)] r) :
    Ev w β n sc ρ (.Call (.Name x np) es [⟨some k, ke, kp⟩] pos) r := by
  intro prog A env s M Q hA C L h
  refine wpAny_Call_Name_kw (hf hA C L fun v s₁ C₁ K₁ r₁ => ?_)
  cases r₁.inv_raw
  cases es with
  | nil => exact (hne rfl).elim
  | cons e rest =>
    have q' : starEach (e :: rest) env = (false, eval e env) :: starEach rest env := by
      cases ps with
      | nil => exact he.elim
      | cons _ _ => exact he.1 env rest
    refine callWith_of (P := fun h => (Kf w.params).In h) ?_ (fun h X => keeps_K hk h X) (evalArgs_kw2 (by rfl) ?_ q')
    · rw [evs_plain he]; rfl
    · refine evs_run he hA C₁ (L.kp K₁) fun vs s₂ C₂ K₂ r₂ => ?_
      refine wpAny_evalAll_cons (wpAny_bind (hke hA C₂ (L.kp (kp_trans K₁ K₂)) fun u s₃ C₃ K₃ r₃ => wpAny_bind (wpAny_standAt (wpAny_pure (wpAny_evalAll_nil ⟨C₃.K, ?_⟩)))))
      have K := kp_trans K₁ (kp_trans K₂ K₃)
      exact hc hA C₃ (L.kp K).mx (r₂.mono (D.of_kp K₃)) (.cons r₃ .nil) fun v s₄ C₄ K₄ r₄ => h v s₄ C₄ (kp_trans K K₄) r₄
theorem clsV : ClsOk w.params 490 := ⟨by kernel_rfl, by kernel_rfl, by kernel_rfl, by kernel_rfl, by kernel_rfl⟩
theorem clsP : ClsOk w.params 453 := ⟨by kernel_rfl, by kernel_rfl, by kernel_rfl, by kernel_rfl, by kernel_rfl⟩
theorem fo_approved : Fo w.params 490 (S "approved") := Fo.of fun o x hx => by rw [← hx]; kernel_rfl
theorem fo_weight : Fo w.params 490 (S "weight") := Fo.of fun o x hx => by rw [← hx]; kernel_rfl
theorem fo_voters : Fo w.params 453 (S "_voters") := Fo.of fun o x hx => by rw [← hx]; kernel_rfl
theorem fo_candidates : Fo w.params 453 (S "candidates") := Fo.of fun o x hx => by rw [← hx]; kernel_rfl
noncomputable abbrev voter (led : Bool) (S' : Nat) : PV := .obj 490 [(S "weight", .int 1), (S "approved", .set true led S')]
theorem FP.re {x : Str} {v : Value} {p : PV} (F : FP M B env sc H h ρ) (hl : ρ.lookup x = some (.raw v)) (r : Rep M h v p) : FP M B env sc H h ((x, p) :: ρ) := by
  obtain ⟨m, ρv, f, re⟩ := F
  obtain ⟨v', e, r'⟩ := re.lookup hl
  cases r'.inv_raw
  refine ⟨m, (x, v) :: ρv, f.sub fun y u e' => ?_, .cons r re⟩
  rw [lk_cons] at e'
  by_cases z : y = x
  · rw [if_pos z] at e'; cases e'; rw [z]; exact e
  · rw [if_neg z] at e'; exact e'
theorem clk_V {ns : List Nat} {m : Nat} (hlt : ∀ k ∈ ns, k < 4) (hm : ∀ k ∈ ns, k < m) (hd : (els (maskOf ns)).length = ns.length) : ClK w β (n + 5) (.ref 490) [.list (nL ns)] [(S "num_cand", .int m)] (voter (ledOf w) (maskOf ns)) := by
  intro prog A s M vs kv Q hA C mx r rk hq
  obtain ⟨v, rfl, rv⟩ := r.one
  cases rk with
  | cons ru rk => ?_
  cases rk
  rename_i u
  refine make_cls C hA (fI := 472) (by kernel_rfl) (by kernel_rfl) (by kernel_rfl) fun x dx s' A' hA' C' K' n1 n2 hne hx hdx => ?_
  refine code_def (binds := [(S "self", .ref x), (S "approved", v), (S "weight", .int 1 847), (S "num_cand", u)]) o472 C' hA'.lt (by kernel_rfl) rfl (by kernel_rfl) (BindsTo.of_defaults rfl (C'.K 465 _ (by kernel_rfl)) (o := o465) rfl rfl rfl) (by kernel_rfl) (by kernel_rfl) (by kernel_rfl) (fun _ h => (nomatch h)) rfl .nil fun env s₁ _ _ _ _ C₁ F₁ => ?_
  have mN : ∀ y ∈ dx :: x :: M, y ∈ M ∨ s.heap.get? y = none := fun y hy => by
    rcases mcs hy with rfl | hy
    · exact .inr n2
    rcases mcs hy with rfl | hy
    · exact .inr n1
    · exact .inl hy
  have hx₁ : s₁.heap.get? x = some (inst 490 dx) := F₁.kept.k _ _ hx (by simp)
  have hd₁ : DictN s₁.heap dx (fun _ => none) 0 := hdx.to fun o e => F₁.kept.k _ _ e (by obtain ⟨es, ep, e', _⟩ := hdx; rw [e'] at e; cases e; simp)
  have K₁ : Kh s.heap s₁.heap := K'.trans F₁.kept
  have F : FP (dx :: x :: M) β.H env (fdS (st2 18 0)) s.heap s₁.heap [(S "num_cand", .int m), (S "weight", .int 1), (S "approved", .list (nL ns)), (S "self", .raw (.ref x))] := by
    refine ⟨fun y hy => ?_, _, F₁.base K', .cons ((ru.more mN).mono (D.of_kh K₁)) (.cons (.int _ _) (.cons ((rv.more mN).mono (D.of_kh K₁)) (.cons (.raw _) .nil)))⟩
    rcases mcs hy with rfl | hy
    · obtain ⟨es, ep, e', _⟩ := hd₁; exact ⟨_, e', by simp⟩
    rcases mcs hy with rfl | hy
    · exact ⟨_, hx₁, by simp⟩
    · exact (mx y hy).kh K₁
  have hA1 : Ok (A'.deeper env) (n + 3) := hA'.deeper
  have hB := C.new n2
  with_unfolding_all refine attr_step (j := 0) clsV (by kernel_rfl) hA1 C₁ F hx₁ hd₁ (by omega) (List.mem_cons_self ..) n2 hB (v := .set true (ledOf w) (maskOf ns)) ?_ (by walk_at "e") fun s₂ v2 C₂ F₂ r2 hx₂ hd₂ k2 x2 => ?_
  · exact Ev.callRK (f := .ref 75) kgCandidateSet (by walk_at "e") (by walk_at "es") (by simp) (by walk_at "e") (clk_CS hlt hm hd)
  refine attr_step (j := 1) clsV (by kernel_rfl) hA1 C₂ F₂ hx₂ hd₂ (by omega) (List.mem_cons_self ..) n2 hB (v := .int 1) (by walk_at "e") (by walk_at "e") fun s₃ v3 C₃ F₃ r3 hx₃ hd₃ k3 x3 => ?_
  have r2' : Rep M s₃.heap v2 (.set true (ledOf w) (maskOf ns)) := (r2.mono fun b o e q nb => k3 b o (fun z => nb (z ▸ List.mem_cons_self ..)) e (stay_ne q)).more fun a ha => .inl (List.mem_cons_of_mem _ (List.mem_cons_of_mem _ ha))
  have r3' : Rep M s₃.heap v3 (.int 1) := r3.more fun a ha => .inl (List.mem_cons_of_mem _ (List.mem_cons_of_mem _ ha))
  have rx : Rep M s₃.heap (.ref x) (voter (ledOf w) (maskOf ns)) := by
    exact .objL (mx.off n1) (mx.off n2) hx₃ hd₃.at (put_list (put_list fun _ => rfl)) (L := [(S "weight", v3), (S "approved", v2)]) (.cons r3' (.cons r2' .nil))
  have F₄ := (F₃.less (M' := M) fun a ha => List.mem_cons_of_mem _ (List.mem_cons_of_mem _ ha)).re (x := S "self") (by walk_at "lk") rx
  refine S1.step (ρ₁ := [(S "self", voter (ledOf w) (maskOf ns))]) ?_ hA1 C₃ F₄ fun s₅ C₅ F₅ D₅ => ?_
  · exact S1.sub (S1.if (c := false) (Tv.cmp (Ev.attr clsV fo_weight rfl (by walk_at "e") (by walk_at "lk")) (by walk_at "e") (co_le (by decide))) (fun h => by cases h) (fun _ => Sv.nil)) ⟨by walk_at "lk", trivial⟩
  refine wpAny_execs_nil ⟨rfl, hq _ s₅ C₅ F₅.kept (rx.mono (F₄.d D₅))⟩
end
structure IterOk (prog : Pr) (w : World) (β : Pm) (A : Around) (I : Addr) (n : Nat) (foot own : List Addr) (P : Nat → Value → Heap → Prop) (J : Nat → Heap → Prop) : Prop where
  sub : ∀ b ∈ own, b ∈ foot
  frame : ∀ i h h', J i h → (∀ b ∈ foot, ∀ o, h.get? b = some o → h'.get? b = some o) → J i h'
  nn : ∀ i h, J i h → ∀ b ∈ foot, NN h b
  item : ∀ i (s : Shared) (Q : Option Value → Shared → Prop), i < n → J i s.heap → Cx w β s → (∀ v s', P i v s'.heap → J (i + 1) s'.heap → Cx w β s' → Kw own s.heap s'.heap → Q (some v) s') → Wp prog w A (pyNext (.ref I)) Q s
  done : ∀ (s : Shared) (Q : Option Value → Shared → Prop), J n s.heap → Cx w β s → (∀ s', Cx w β s' → Kw own s.heap s'.heap → Q none s') → Wp prog w A (pyNext (.ref I)) Q s
section
variable {w : World} {β : Pm} {n : Nat} {sc : Scope} {ρ ρ' : PVs} {M : List Addr} {env : Env} {H h : Heap} {s s' : Shared} {B : Heap} {prog : Pr} {A : Around}
theorem IterOk.of_walks {I : Addr} {fp : List Addr} {k : Nat} {P : Nat → Value → Prop} {St : Nat → Heap → Prop} (W : Walks prog.p w A I fp [I] k P St) (hI : β.H.get? I = none) (hn : ∀ i h, St i h → ∀ b ∈ fp, NN h b) : IterOk prog w β A I k fp [I] (fun i v _ => P i v) St where
  sub := W.sub
  frame := W.frame
  nn := hn
  item := fun i s Q hi st C hQ => W.item i s Q _ hi st fun v h' tk hP st' k' => hQ v _ hP st' (CxH.but C (wr := [I]) (fun b hb => by cases List.mem_singleton.mp hb; exact hI) fun b o hb e => k' b o hb e)
    (Kw.of_but fun b o hb e => k' b o hb e)
  done := fun s Q st C hQ => W.done s Q _ st fun h' tk k' =>
    hQ _ (CxH.but C (wr := [I]) (fun b hb => by cases List.mem_singleton.mp hb; exact hI) fun b o hb e => k' b o hb e) (Kw.of_but fun b o hb e => k' b o hb e)
theorem for_gen {target : Expr} {body : List Stmt} {I : Addr} {k : Nat} {foot own : List Addr} {P : Nat → Value → Heap → Prop} {J : Nat → Heap → Prop} {R : Result → Shared → Prop} (Inv : Nat → Shared → Prop) (T : IterOk prog w β A I k foot own P J) (j0 : J 0 s.heap) (i0 : Inv 0 s) (C : Cx w β s)
    (turn : ∀ i v s₀ s', i < k → Inv i s₀ → J i s₀.heap → Cx w β s' → Kw own s₀.heap s'.heap → J (i + 1) s'.heap → P i v s'.heap → Wp prog w A (letOwnedTupleGo target (.ref I) v) (fun _ s₁ => Wp prog w A (assign target env v) (fun _ s₂ => Wp prog w A (execs body env) (fun f s₃ => match f with
      | .next | .cont => Inv (i + 1) s₃ ∧ J (i + 1) s₃.heap ∧ Cx w β s₃
      | .brk => False
      | .ret v => R (.ok (.ret v)) s₃) s₂) s₁) s')
    (fin : ∀ s₀ s', Inv k s₀ → J k s₀.heap → Cx w β s' → Kw own s₀.heap s'.heap → R (.ok .next) s') : codeAny (model prog.p w) A (.forLoop target (.ref I) body [] env) R s := by
  refine codeAny_forLoop_any (fun m s' => ∃ i, Inv i s' ∧ J i s'.heap ∧ Cx w β s' ∧ i ≤ k ∧ m = k + 1 - i) ?_ (k + 1) ⟨0, i0, j0, C, Nat.zero_le _, rfl⟩
  rintro m s' ⟨i, iv, j, C', hi, rfl⟩
  by_cases hlt : i < k
  · refine Wp.any (T.item i s' _ hlt j C' fun v s₁ hp j₁ C₁ k₁ => ?_)
    refine Wp.any ((turn i v s' s₁ hlt iv j C₁ k₁ j₁ hp).mono fun _ s₂ h₂ => Wp.any (h₂.mono fun _ s₃ h₃ => Wp.any (h₃.mono fun f s₄ h₄ => ?_)))
    cases f with
    | next => exact ⟨k + 1 - (i + 1), dec1 hlt, i + 1, h₄.1, h₄.2.1, h₄.2.2, hlt, rfl⟩
    | cont => exact ⟨k + 1 - (i + 1), dec1 hlt, i + 1, h₄.1, h₄.2.1, h₄.2.2, hlt, rfl⟩
    | brk => exact h₄.elim
    | ret v => exact h₄
  · have hin : i = k := Nat.le_antisymm hi (Nat.not_lt.mp hlt)
    subst hin
    refine Wp.any (T.done s' _ j C' fun s₁ C₁ k₁ => ?_)
    exact wpAny_execs_nil (fin s' s₁ iv j C₁ k₁)
end
noncomputable def Itr (w : World) (β : Pm) (n : Nat) (pi : PV) (xs : List PV) : Prop :=
  ∀ ⦃prog : Pr⦄ ⦃A : Around⦄ ⦃s : Shared⦄ ⦃M : List Addr⦄ ⦃v : Value⦄ ⦃Q : Value → Shared → Prop⦄, Ok A n → Cx w β s → Mx M s.heap → Rep M s.heap v pi →
    (∀ I s' foot own P J, IterOk prog w β A I xs.length foot own P J → J 0 s'.heap → Cx w β s' → Kp s s' → (∀ b ∈ own, s.heap.get? b = none) → (∀ b ∈ foot, b ∈ own ∨ (b ∉ M ∧ ∃ o, s'.heap.get? b = some o ∧ stay o = true)) →
      (∀ i v h, P i v h → ∃ x, xs[i]? = some x ∧ Rep (own ++ M) s'.heap v x) → Q (.ref I) s') → Wp prog w A (pyIter v) Q s
section
variable {w : World} {β : Pm} {n : Nat} {sc : Scope} {ρ ρ' : PVs} {M M' : List Addr} {env : Env} {H h h' : Heap} {s s' : Shared} {B : Heap} {prog : Pr} {A : Around}
theorem FP.grow (F : FP M B env sc H h ρ) (hM : ∀ a ∈ M', a ∈ M ∨ h.get? a = none) (K : Kh h h') (mx : Mx M' h') : FP M' B env sc H h' ρ := by
  obtain ⟨m, ρv, f, r⟩ := F
  exact ⟨mx, ρv, f.kh K, (r.more hM).mono (D.of_kh K)⟩
theorem FP.offN (F : FP M B env sc H h ρ) {a : Addr} (e : h.get? a = none) : a ≠ env.locals ∧ (∀ x c, env.cells.lookup x = some c → c ≠ a) ∧ H.get? a = none := by
  obtain ⟨_, _, f, _⟩ := F
  refine ⟨fun z => ?_, fun x c l z => ?_, Kh.none f.kept e⟩
  · obtain ⟨o', e', _⟩ := f.fcls; rw [z, e'] at e; cases e
  · obtain ⟨o', e', _⟩ := f.cex x c l; rw [z, e] at e'; cases e'
theorem FP.offS (F : FP M B env sc H h ρ) {a : Addr} {o : Obj} (e : h.get? a = some o) (q : EJ.stay o = true) : a ≠ env.locals ∧ ∀ x c, env.cells.lookup x = some c → c ≠ a := by
  obtain ⟨_, _, f, _⟩ := F
  refine ⟨fun z => ?_, fun x c l z => ?_⟩
  · obtain ⟨o', e', c⟩ := f.fcls; rw [z, e'] at e; cases e; simp [EJ.stay, c] at q
  · obtain ⟨o', e', c', _⟩ := f.cex x c l; rw [← z, e'] at e; cases e; rw [c'] at q; cases q
theorem foot_kb {I : Addr} {k i : Nat} {foot own : List Addr} {P : Nat → Value → Heap → Prop} {J : Nat → Heap → Prop} (T : IterOk prog w β A I k foot own P J) (hf : ∀ b ∈ foot, b ≠ env.locals ∧ ∀ x c, env.cells.lookup x = some c → b ≠ c) (j : J i h) (k' : Kb env h h') : J i h' :=
  T.frame i h h' j fun b hb o e => k'.k b o e (by obtain ⟨o', e', c⟩ := T.nn i h j b hb; rw [e'] at e; cases e; exact c) (hf b hb).1 (hf b hb).2
theorem FP.kwd {wr : List Addr} (F : FP M B env sc H h ρ) (hM : ∀ b ∈ wr, b ∈ M) (hw : ∀ b ∈ wr, b ≠ env.locals ∧ (∀ x c, env.cells.lookup x = some c → c ≠ b) ∧ H.get? b = none) (k : Kw wr h h') (hM' : ∀ a ∈ M', a ∈ M ∧ (a ∉ wr ∨ NN h' a)) : FP M' B env sc H h' ρ := by
  obtain ⟨m, ρv, f, r⟩ := F
  refine ⟨fun a ha => ?_, ρv, f.kw hw k, (r.mono (k.d hM)).more fun a ha => .inl (hM' a ha).1⟩
  obtain ⟨x, y⟩ := hM' a ha
  rcases y with y | y
  · exact k.nn (m a x) y
  · exact y
theorem itr_list {xs : List PV} : Itr w β n (.list xs) xs := by
  intro prog A s M v Q hA C mx r h
  obtain ⟨a, its, rfl, hm, hl, rl⟩ := r.inv_list
  refine wpAny_pyIter_list hl.isList ?_
  have hlt : a < s.heap.objs.size := by obtain ⟨n, e⟩ := hl; exact Heap.lt_size e
  have W := Walks.list (prog := prog.p) (w := w) hA.h s.heap.objs.size a (Nat.ne_of_lt hlt) its
  have hz : its.size = xs.length := by rw [← rl.at.1, Array.length_toList]
  rw [hz] at W
  have hI : s.heap.get? s.heap.objs.size = none := none_of_ge (Nat.le_refl _)
  refine h _ _ _ _ _ _ (IterOk.of_walks W (C.new hI) fun i h st b hb => ?_) ⟨⟨_, Heap.get?_push_size _ rfl, rfl, rfl⟩, hl.isList.push _⟩ (C.push _) (kp_push s _) (fun b hb => by cases List.mem_singleton.mp hb; exact hI) (fun b hb => ?_) fun i v h e => ?_
  · obtain ⟨⟨o, e, c, _⟩, ⟨o2, e2, c2, _⟩⟩ := st
    rcases mcs hb with rfl | hb
    · exact ⟨o, e, by rw [c]; simp⟩
    · cases List.mem_singleton.mp hb; exact ⟨o2, e2, by rw [c2]; simp⟩
  · rcases mcs hb with rfl | hb
    · exact .inl (List.mem_singleton.mpr rfl)
    · cases List.mem_singleton.mp hb
      obtain ⟨n, e⟩ := hl
      exact .inr ⟨hm, _, Heap.get?_push_of_some _ e, rfl⟩
  · have hi : i < xs.length := by rw [← hz]; exact (Array.getElem?_eq_some_iff.mp e).1
    have r1 := rl.at.2 i v _ (by rw [Array.getElem?_toList]; exact e) (List.getElem?_eq_getElem hi)
    exact ⟨xs[i], List.getElem?_eq_getElem hi, (r1.more (M' := [s.heap.objs.size] ++ M) fun a ha => by
      rcases List.mem_append.mp ha with z | z
      · cases List.mem_singleton.mp z; exact .inr hI
      · exact .inl z).kp (kp_push s _)⟩
theorem S1.forG {x : Str} {px pos : Pos} {iter : Expr} {body : List Stmt} {pi : PV} {xs : List PV} {r : PVs ⊕ PV} (ρs : Nat → PVs) (b : Nat → Option PV) (hk : sc.names.lookup x = some .local ∨ sc.names.lookup x = some .cell)
    (h1 : Ev w β n sc ρ iter pi) (hx : Itr w β n pi xs) (h0 : PSub (ρs 0) ρ)
    (hb : ∀ (i : Nat) y, xs[i]? = some y → (∀ j < i, b j = none) → Sv w β n sc ((x, y) :: ρs i) body (match b i with | none => .inl (ρs (i + 1)) | some p => .inr p))
    (hr : (∀ i < xs.length, b i = none) → r = .inl (ρs xs.length)) (hr' : ∀ i < xs.length, ∀ p, (∀ j < i, b j = none) → b i = some p → r = .inr p)
    (hs : ∀ env x, foldedSetIterable iter env x = pure x := by intro _ _; rfl) : S1 w β n sc ρ (.For (.Name x px) iter body [] pos) r := by
  intro prog A env s H M Q hA C F h
  refine wpAny_For (h1 hA C F.ld fun v s₁ C₁ K₁ r₁ => ?_) (hs env)
  refine hx hA C₁ (F.kp K₁).1 r₁ fun I s₂ foot own P J T j0 C₂ K₂ hown hfoot hP => ?_
  have K02 := kp_trans K₁ K₂
  have hos : ∀ b ∈ own, s.heap.get? b = none := fun b hb => Kh.none K₁ (hown b hb)
  have F₂ : FP (own ++ M) β.H env sc H s₂.heap (ρs 0) := (F.sub h0).grow (fun a ha => by
    rcases List.mem_append.mp ha with z | z
    · exact .inr (hos a z)
    · exact .inl z) K02 fun a ha => by
    rcases List.mem_append.mp ha with z | z
    · exact T.nn _ _ j0 a (T.sub a z)
    · exact (F.1 a z).kh K02
  have off : ∀ b ∈ own, b ≠ env.locals ∧ (∀ x c, env.cells.lookup x = some c → c ≠ b) ∧ H.get? b = none := fun b hb => F.offN (hos b hb)
  have offF : ∀ b ∈ foot, b ≠ env.locals ∧ ∀ x c, env.cells.lookup x = some c → b ≠ c := fun b hb => by
    rcases hfoot b hb with z | ⟨_, o, e, q⟩
    · exact ⟨(off b z).1, fun x c l => Ne.symm ((off b z).2.1 x c l)⟩
    · have := F₂.offS e q
      exact ⟨this.1, fun x c l => Ne.symm (this.2 x c l)⟩
  have mown : ∀ b ∈ own, b ∈ own ++ M := fun b hb => List.mem_append_left _ hb
  have nom : ∀ a ∈ M, a ∉ own := fun a ha z => by obtain ⟨o, e, _⟩ := F.1 a ha; rw [hos a z] at e; cases e
  have kbw : ∀ {a b : Heap}, Kb env s.heap a → Kw own a b → Kb env s.heap b := fun x k => ⟨fun p o e c q r => k.k p o (fun z => by rw [hos p z] at e; cases e) (x.k p o e c q r) c, fun p o e => by
    obtain ⟨o', e'⟩ := x.x p o e
    exact k.x p o' (fun z => by rw [hos p z] at e; cases e) e'⟩
  refine for_gen (prog := prog) (w := w) (β := β) (fun i s' => Kb env s.heap s'.heap ∧ D (own ++ M) s₂.heap s'.heap ∧ FP (own ++ M) β.H env sc H s'.heap (ρs i) ∧ ∀ j < i, b j = none) T j0 ⟨Kb.of_kp K02, D.refl _ _, F₂, fun j hj => absurd hj (Nat.not_lt_zero _)⟩ C₂ ?_ ?_
  · rintro i v s₀ s' hi ⟨kb, d, F', hbj⟩ ji C' k' ji' hp
    obtain ⟨y, hy, ry⟩ := hP i v _ hp
    have ry' : Rep (own ++ M) s'.heap v y := ry.mono (d.trans (k'.d mown))
    have F'' : FP (own ++ M) β.H env sc H s'.heap (ρs i) := F'.kwd mown off k' fun a ha => ⟨ha, by
      rcases List.mem_append.mp ha with z | z
      · exact .inr (T.nn _ _ ji' a (T.sub a z))
      · exact .inl (nom a z)⟩
    refine wpAny_pure (wpAny_assign_Name (store_p C' F'' ry' hk fun s₃ C₃ F₃ D₃ => ?_))
    have j₃ := foot_kb T offF ji' D₃
    refine hb i y hy hbj hA C₃ F₃ fun fl s₄ C₄ D₄ R₄ => ?_
    have j₄ := foot_kb T offF j₃ D₄
    have kb₄ : Kb env s.heap s₄.heap := (kbw kb k').trans (D₃.trans D₄)
    cases hbx : b i with
    | some p =>
      rw [hbx] at R₄
      obtain ⟨v', rfl, rv', kh⟩ := R₄
      refine h _ s₄ C₄ kb₄ ?_
      rw [hr' i hi p hbj hbx]
      exact ⟨v', rfl, rv'.more fun a ha => .inl (List.mem_append_right _ ha), kh⟩
    | none =>
      rw [hbx] at R₄
      obtain ⟨rfl, F₅⟩ := R₄
      refine ⟨⟨kb₄, d.trans ((k'.d mown).trans ((F''.d D₃).trans (F₃.d D₄))), F₅, fun j hj => ?_⟩, j₄, C₄⟩
      rcases Nat.lt_succ_iff_lt_or_eq.mp hj with z | rfl
      · exact hbj j z
      · exact hbx
  · rintro s₀ s' ⟨kb, d, F', hbj⟩ jk C' k'
    refine h _ s' C' (kbw kb k') ?_
    rw [hr hbj]
    exact ⟨rfl, F'.kwd mown off k' fun a ha => ⟨List.mem_append_right _ ha, .inl (nom a ha)⟩⟩
end
theorem Ok.in1 {A : Around} {n : Nat} (k : Ok A (n + 1)) : Ok A.in1 n := ⟨k.h, by have := k.d; rw [Around.in1_depth]; omega, by have := k.u; rw [Around.in1_units]; omega⟩
noncomputable def Cc (w : World) (β : Pm) (n : Nat) (f : Value) (ps : List PV) (r : PV) : Prop :=
  ∀ ⦃prog : Pr⦄ ⦃A : Around⦄ ⦃s : Shared⦄ ⦃M : List Addr⦄ ⦃vs : List Value⦄ ⦃R : Result → Shared → Prop⦄, Ok A n → Cx w β s → Mx M s.heap → RepL M s.heap vs ps →
    (∀ v s', Cx w β s' → Kp s s' → Rep M s'.heap v r → R (.ok (.ret v)) s') → codeAny (model prog.p w) A (.call f ⟨vs, []⟩) R s
section
variable {w : World} {β : Pm} {n : Nat} {sc : Scope} {ρ ρ' : PVs} {M M' : List Addr} {env : Env} {H h h' : Heap} {s s' : Shared} {B : Heap} {prog : Pr} {A : Around}
theorem cc_fn {f : Addr} {st : Stmt} {nm qual : Str} {dV pm cdv : Value} {ps : List PV} {r : PV} (o : Obj) (names : List Str)
    (ho : (Kf w.params).lookup f = some o) (hd : o.data = .func (fnX nm qual (fdA st) (fdB st) (fdS st) [] dV .none .none pm none cdv .none)) (hcd : codeIn (Kf w.params) cdv qual = true)
    (hb : ∀ s vs, vs.length = names.length → BindsTo s (fnX nm qual (fdA st) (fdB st) (fdS st) [] dV .none .none pm none cdv .none) ⟨vs, []⟩ (names.zip vs))
    (hk : names.all (fun y => (fdS st).names.lookup y == some .local || (fdS st).names.lookup y == some .cell) = true)
    (hsc : ((fdS st).isCoroutine == false && (fdS st).isGenerator == false) = true) (hkf : (fdS st).kind = .function) (hn : ps.length = names.length)
    (h : Sv w β n (fdS st) (names.zip ps).reverse (fdB st) (.inr r)) : Cc w β (n + 1) (.ref f) ps r := by
  intro prog A s M vs R hA C mx rl hq
  have hl : vs.length = names.length := by rw [rl.at.1, hn]
  refine code_def (binds := names.zip vs) o C hA.lt ho hd hcd (hb s vs hl) ?_ hsc hkf (fun _ h => (nomatch h)) rfl .nil fun env s' _ _ _ _ C' F' => ?_
  · unfold kindOk
    rw [List.all_eq_true] at hk ⊢
    intro y hy
    exact hk y.1 (List.of_mem_zip hy).1
  · refine h (M := M) hA.deeper C' ⟨fun a ha => (mx a ha).kh F'.kept, _, F', ((RepL.zip rl).rev).mono (D.of_kh F'.kept)⟩ fun fl s'' C'' D'' R'' => ?_
    obtain ⟨v, rfl, rv, k⟩ := R''
    exact hq v _ C'' k rv
theorem obj_inst {x dx C : Addr} {m : Str → Option Value} (hx : h.get? x = some (inst C dx)) (hd : DictAt h dx m) : ∃ od, InstAt h x (inst C dx) C (some od) ∧ ∀ name, lookIn name od = some (m name) := by
  obtain ⟨od, eo, lk⟩ := look_dict hd
  exact ⟨od, inst_at hx eo, lk⟩
theorem Ev.prop {e : Expr} {y : Str} {pos : Pos} {C p fget : Addr} {rest : List Value} {fs : PVs} {r : PV} (O : ClsOk w.params C) (hf : ∀ od, findObj (Kf w.params) C (some od) y = some (.bind (.builtin "property.__get__") (.ref p))) (hp : recIn (Kf w.params) p "property" = some (.ref fget :: rest)) (hs : r.solid = true)
    (h1 : Ev w β (n + 1) sc ρ e (.obj C fs)) (hc : Cc w β n (.ref fget) [.obj C fs] r)
    (he : ∀ env, eval (.Attribute e y pos) env = (do
      let o ← eval e env
      standAt pos.atName
      let r ← holding [o] (getAttr o y true)
      letTemporaryGo e o r
      pure r) := by intro _; with_unfolding_all rfl) : Ev w β (n + 1) sc ρ (.Attribute e y pos) r := by
  intro prog A env s M Q hA C' L h
  refine Attribute_any_ (h1 hA C' L fun v s₁ C₁ K₁ r₁ => ?_) (he env)
  obtain ⟨x, dx, m, vals, rfl, hm, hm', hx, hd, hv, hr, ha⟩ := id r₁.inv_obj
  obtain ⟨od, I, lk⟩ := obj_inst hx hd
  refine get_bind C₁.K I O.ga (hf od) O.gn ?_
  refine wpAny_call (prop_get (s := { s₁ with toks := s₁.toks + 1 }) C₁.K hp ?_)
  refine hc hA.in1 (Cx.tk C₁) (L.kp K₁).mx (.cons r₁ .nil) fun v s₂ C₂ K₂ r₂ => ?_
  show wpAny _ A (handedOut v) Q noE s₂
  rw [handedOut_of (r₂.handed hs)]
  exact wpAny_pure (h v s₂ C₂ (kp_trans K₁ K₂) r₂)
theorem getMeth {C x f : Addr} {fs : PVs} {name : Str} {pl : Sem Bool} {Q : Value × List Value → Shared → Prop} (O : ClsOk w.params C) (C' : Cx w β s) (r : Rep M s.heap (.ref x) (.obj C fs)) (hf : findIn (Kf w.params) (.ref C) name = some (some (.ref f))) (ht : typeIn (Kf w.params) (.ref f) = some (.type "function")) (hn : fs.lookup name = Option.none)
    (h : Q (.ref f, [.ref x]) s) : Wp prog w A (getMethod (.ref x) name pl) Q s := by
  obtain ⟨x', dx, m, vals, e, hm, hm', hx, hd, hv, hr, ha⟩ := r.inv_obj
  cases e
  obtain ⟨od, I, lk⟩ := obj_inst hx hd
  refine method_fn C'.K I O.ga O.gn hf ht ?_ h
  show (lookIn name od).map _ = _
  rw [lk]
  cases q : m name with
  | none => rfl
  | some v => have := ha _ _ q; rw [hn] at this; cases this
theorem Ev.meth {o : Expr} {name : Str} {ap pos : Pos} {es : List Expr} {ps : List PV} {pl : Env → Sem Bool} {C f : Addr} {fs : PVs} {r : PV} (O : ClsOk w.params C) (hf : findIn (Kf w.params) (.ref C) name = some (some (.ref f))) (ht : typeIn (Kf w.params) (.ref f) = some (.type "function")) (hk : keepIn (Kf w.params) (.ref f) = true) (hn : fs.lookup name = Option.none)
    (h1 : Ev w β n sc ρ o (.obj C fs)) (hes : Evs w β n sc ρ es ps) (hc : Cl w β n (.ref f) (.obj C fs :: ps) r)
    (he : ∀ env, eval (.Call (.Attribute o name ap) es [] pos) env = (do
      let ov ← eval o env
      standAt ap.atName
      let (f, first) ← holding [ov] (getMethod ov name (pl env))
      callWith pos f first (backTo pos (starEach es env)) []) := by intro _; rfl) : Ev w β n sc ρ (.Call (.Attribute o name ap) es [] pos) r := by
  intro prog A env s M Q hA C' L h
  refine MethodCall_ (h1 hA C' L fun v s₁ C₁ K₁ r₁ => ?_) (he env)
  obtain ⟨x, _, _, _, rfl, _⟩ := r₁.inv_obj
  refine getMeth O C₁ r₁ hf ht hn ?_
  refine callWith_of (P := fun h => (Kf w.params).In h) (by simp [evs_plain hes]) (fun h X => keeps_K hk h X) ?_
  have fin : ∀ vs s', Cx w β s' → Kp s₁ s' → RepL M s'.heap vs ps → (Kf w.params).In s'.heap ∧ Wp prog w A (call (.ref f) ([.ref x] ++ vs)) Q s' := fun vs s' C' K' r' =>
    ⟨C'.K, hc hA C' (L.kp (kp_trans K₁ K')).mx (.cons (r₁.kp K') r') fun v s'' C'' K'' r'' => h v s'' C'' (kp_trans K₁ (kp_trans K' K'')) r''⟩
  cases es with
  | nil =>
    cases ps with
    | nil => exact PyProof.Rows.evalArgs_nil3 (fin [] _ C₁ (kp_refl _) .nil)
    | cons _ _ => exact hes.elim
  | cons e rest =>
    have q : starEach (e :: rest) env = (false, eval e env) :: starEach rest env := by
      cases ps with
      | nil => exact hes.elim
      | cons _ _ => exact hes.1 env rest
    have run := evs_run (pos := pos) (prog := prog) (Q := fun vs s' => (Kf w.params).In s'.heap ∧ Wp prog w A (call (.ref f) ([.ref x] ++ vs)) Q s') hes hA C₁ (L.kp K₁) fun vs s' C' K' r' => fin vs s' C' K' r'
    rw [q] at run ⊢
    exact Calls.evalArgs_plain run
end
noncomputable abbrev profV (m : Nat) (pv : PV) : PV := .obj 453 [(S "_voters", pv), (S "cand_names", .any), (S "candidates", lI (upto m))]
section
variable {w : World} {β : Pm} {n : Nat} {sc : Scope} {ρ ρ' : PVs} {M M' : List Addr} {env : Env} {H h h' : Heap} {s s' : Shared} {B : Heap} {prog : Pr} {A : Around}
theorem Tv.noneF {e : Expr} (h1 : Ev w β n sc ρ e (.raw .none)) (he : ∀ env whole, isTrue e env whole = (do let v ← whole; standAt e.pos; holding [v] (truthy v)) := by intro _ _; rfl) : Tv w β n sc ρ e false := by
  intro prog A env s M Q hA C L h
  refine wpAny_isTrue_value (h1 hA C L fun x s₁ C₁ K₁ r₁ => ?_) (he _ _)
  cases r₁.inv_raw
  exact wpAny_pure (h s₁ C₁ K₁)
theorem cc_num_cand {m : Nat} {pv : PV} (hm : m ≤ 10) : Cc w β (n + 1) (.ref 337) [profV m pv] (.int m) := by
  refine cc_fn o337 [S "self"] (by kernel_rfl) rfl (by kernel_rfl) ?_ (by kernel_rfl) (by kernel_rfl) (by kernel_rfl) rfl ?_
  · intro s vs h
    obtain ⟨a, rfl⟩ := len1 h
    exact BindsTo.of_eq (by with_unfolding_all rfl)
  show Sv _ _ _ _ [(S "self", profV m pv)] _ _
  with_unfolding_all refine Sv.last (S1.ret ?_)
  exact len_ev (by kernel_rfl) (by walk_at "e") (Ev.attr clsP fo_candidates rfl (by walk_at "e") (by walk_at "lk")) (by simp [iL, upto_len]; omega) (by simp [iL, upto_len])
theorem Ev.num_cand {e : Expr} {pos : Pos} {m : Nat} {pv : PV} (hm : m ≤ 10) (h1 : Ev w β (n + 2) sc ρ e (profV m pv))
    (he : ∀ env, eval (.Attribute e (S "num_cand") pos) env = (do
      let o ← eval e env
      standAt pos.atName
      let r ← holding [o] (getAttr o (S "num_cand") true)
      letTemporaryGo e o r
      pure r) := by intro _; with_unfolding_all rfl) : Ev w β (n + 2) sc ρ (.Attribute e (S "num_cand") pos) (.int m) :=
  Ev.prop (p := 338) (fget := 337) (rest := [.none, .none, .none, .str (S "num_cand") 700, .bool false]) clsP (fun od => by kernel_rfl) (by kernel_rfl) rfl h1 (cc_num_cand hm) he
theorem cl_isV_list {xs : List PV} : Cl w β n (.builtin "isinstance") [.list xs, .raw (.ref 490)] (.bool false) := by
  intro prog A s M vs Q hA C mx r h
  obtain ⟨v, u, rfl, r₁, r'⟩ := r.two
  cases r'.inv_raw
  obtain ⟨a, its, rfl, _, ⟨k, hl⟩, rl⟩ := r₁.inv_list
  exact isn_call (P := fun hp => ∃ o, hp.get? a = some o ∧ o.cls = .type "list") C.K (fun M => (Looks.ld hl).andThen .now) (by kernel_rfl) (by simp) ⟨_, hl, rfl⟩ (fun p q => list_cls p q) (h _ _ C (kp_tok s _) (.bool false))
theorem cl_unique {ns : List Nat} {m : Nat} {pv : PV} (hm10 : m ≤ 10) (hlt : ∀ k ∈ ns, k < 4) (hm : ∀ k ∈ ns, k < m) (hd : (els (maskOf ns)).length = ns.length) : Cl w β (n + 6) (.ref 359) [profV m pv, .list (nL ns)] (voter (ledOf w) (maskOf ns)) := by
  refine cl_fn o359 [S "self", S "voter"] (by kernel_rfl) rfl (by kernel_rfl) ?_ (by kernel_rfl) (by kernel_rfl) (by kernel_rfl) rfl ?_
  · intro s vs h
    obtain ⟨a, b, rfl⟩ := len2 h
    exact BindsTo.of_eq (by with_unfolding_all rfl)
  show Sv _ _ _ _ [(S "voter", .list (nL ns)), (S "self", profV m pv)] _ _
  with_unfolding_all refine Sv.cons (ρ₁ := [(S "_voter", voter (ledOf w) (maskOf ns))]) ?_ (Sv.last (S1.ret (by walk_at "e")))
  refine S1.if (c := false) (Tv.bool (Ev.callB (f := "isinstance") (by walk_at "e") (by walk_at "es") (by simp) cl_isV_list)) (fun h => by cases h) (fun _ => Sv.sub (Sv.asg (voter (ledOf w) (maskOf ns)) (.inl (by kernel_rfl)) (Ev.callRK (f := .ref 490) kgVoter (by walk_at "e") (by walk_at "es") (by simp) (Ev.num_cand hm10 (by walk_at "e")) (clk_V hlt hm hd)) Sv.nil) ⟨by walk_at "lk", trivial⟩)
end
section
variable {w : World} {β : Pm} {n : Nat} {sc : Scope} {ρ ρ' : PVs} {M M' : List Addr} {env : Env} {H h h' : Heap} {s s' : Shared} {B : Heap} {prog : Pr} {A : Around}
theorem cl_list_rng {k : Nat} (hk : k ≤ 100) : Cl w β n (.type "list") [.rng 0 k] (lI (upto k)) := by
  intro prog A s M vs Q hA C mx r h
  obtain ⟨v, rfl, r₁⟩ := r.one
  cases r₁ with
  | rng hm hr hs hn =>
    refine call_list_range hA.h hr hs hn (by omega) fun h' tk acc c' k' e it => ?_
    have K : Kp s { s with heap := h', toks := tk } := Kh.of k'
    refine h _ _ (C.kp k') K (Rep.of_list mx.offN ⟨_, e⟩ (RepL.of ?_ fun i v x hv hx => ?_))
    · rw [Array.length_toList, it.1]; simp [iL, upto_len]
    · rw [Array.getElem?_toList] at hv
      obtain ⟨t, rfl⟩ := it.2 i v hv
      simp only [iL, upto, List.map_map, List.getElem?_map] at hx
      obtain ⟨j, hj, rfl⟩ := Option.map_eq_some_iff.mp hx
      obtain ⟨q, hj⟩ := List.getElem?_eq_some_iff.mp hj
      rw [List.getElem_range] at hj
      subst hj
      rw [show (0 : Int) + (i : Int) * 1 = (i : Int) by omega]
      exact .int _ _
theorem cl_str_int {k : Nat} (hk : k ≤ 100) : Cl w β n (.type "str") [.int k] .any := by
  intro prog A s M vs Q hA C mx r h
  obtain ⟨v, rfl, r₁⟩ := r.one
  obtain ⟨t, rfl⟩ := r₁.inv_int
  refine P.str_of_int ?_ (h _ _ C (kp_tok s _) (.any _))
  rw [Int.natAbs_natCast]
  have : Nat.log2 k ≤ k := Nat.log2_le_self k
  omega
theorem attr_stepW {x dx C : Addr} {name : Str} {np ap pos : Pos} {value : Expr} {rest : List Stmt} {m : Str → Option Value} {j : Nat} {M : List Addr} {prog : Pr} {A : Around} {env : Env} {s : Shared} {H : Heap} {Q : Flow → Shared → Prop} {self : Str} (V : Value → Heap → Prop)
    (O : ClsOk w.params C) (ht : takerIn (Kf w.params) C name = some Option.none) (hA : Ok A n) (C' : Cx w β s) (F : FP M β.H env sc H s.heap ρ) (hx : s.heap.get? x = some (inst C dx)) (hd : DictN s.heap dx m j) (hj : j ≤ 1000) (hM : dx ∈ M) (hH : H.get? dx = Option.none) (hB : β.H.get? dx = Option.none)
    (hv : ∀ Q' : Value → Shared → Prop, (∀ val s₁, Cx w β s₁ → Kp s s₁ → V val s₁.heap → Q' val s₁) → Wp prog w A (eval value env) Q' s) (hs : Ev w β n sc ρ (.Name self np) (.raw (.ref x)))
    (hV : ∀ val h h', V val h → (∀ b o, b ≠ dx → h.get? b = some o → o.cls ≠ .none → h'.get? b = some o) → V val h')
    (k : ∀ s₁ val, Cx w β s₁ → FP M β.H env sc H s₁.heap ρ → V val s₁.heap → s₁.heap.get? x = some (inst C dx) → DictN s₁.heap dx (put m name val) (j + 1) → (∀ b o, b ≠ dx → s.heap.get? b = some o → o.cls ≠ .none → s₁.heap.get? b = some o) → (∀ b o, s.heap.get? b = some o → ∃ o', s₁.heap.get? b = some o') → Wp prog w A (execs rest env) Q s₁)
    (hsw : ∀ env, swapsWith value (some (.Attribute (.Name self np) name ap)) pos.line env = pure false := by intro _; rfl) :
    Wp prog w A (execs (.Assign [.Attribute (.Name self np) name ap] value pos :: rest) env) Q s := by
  refine wpAny_execs_cons (plainObj_wpAny_Assign_Attribute (hv _ fun val s₁ C₁ K₁ r₁ => hs hA C₁ (F.kp K₁).ld fun sv s₂ C₂ K₂ r₂ => ?_) (hsw env))
  cases r₂.inv_raw
  have K := kp_trans K₁ K₂
  have hx₂ : s₂.heap.get? x = some (inst C dx) := K.k _ _ hx (by simp)
  have hd₂ : DictN s₂.heap dx m j := hd.to fun o e => K.k _ _ e (by obtain ⟨es, ep, e', _⟩ := hd; rw [e'] at e; cases e; simp)
  have hne : x ≠ dx := fun z => by obtain ⟨es, ep, e', _⟩ := hd₂; rw [← z, hx₂] at e'; cases e'
  have F₂ := F.kp K
  refine set_attr C₂ O ht hx₂ hd₂ hj fun h' tk hs' hd' => ?_
  have F₃ : FP M β.H env sc H h' ρ := F₂.turn hM (by obtain ⟨es, ep, e', _⟩ := hd₂; exact F₂.off e' rfl hH) hs' (by obtain ⟨es, ep, e', _⟩ := hd'; exact ⟨_, e', by simp⟩)
  refine k _ val (CxH.step C₂ hB hs') F₃ (hV val s₁.heap h' r₁ fun b o hb e q => (hs'.2 b hb).trans (K₂.k b o e q)) ((hs'.2 x hne).trans hx₂) hd' (fun b o hb e q => (hs'.2 b hb).trans (K.k b o e q)) fun b o e => ?_
  obtain ⟨o', e'⟩ := K.x b o e
  by_cases z : b = dx
  · obtain ⟨es, ep, q, _⟩ := hd'; exact ⟨_, z ▸ q⟩
  · exact ⟨o', (hs'.2 b z).trans e'⟩
theorem mk_profile {m : Nat} {v : Value} {Q : Value → Shared → Prop} (hm : 1 ≤ m ∧ m ≤ 10) (hA : Ok A (n + 3)) (C : Cx w β s) (mx : Mx M s.heap) (r : Rep M s.heap v (.int m))
    (h : ∀ x L s', Cx w β s' → Kp s s' → s.heap.get? L = none → Rep (L :: M) s'.heap (.ref x) (profV m (.raw (.ref L))) → SeqAt s'.heap "list" L #[] → Q (.ref x) s') : Wp prog w A (call (.ref 453) [v]) Q s := by
  refine make_cls C hA (fI := 330) (by kernel_rfl) (by kernel_rfl) (by kernel_rfl) fun x dx s' A' hA' C' K' n1 n2 hne hx hdx => ?_
  refine code_def (binds := [(S "self", .ref x), (S "num_cand", v), (S "cand_names", .none)]) o330 C' hA'.lt (by kernel_rfl) rfl (by kernel_rfl) (BindsTo.of_defaults rfl (C'.K 325 _ (by kernel_rfl)) (o := o325) rfl rfl rfl) (by kernel_rfl) (by kernel_rfl) (by kernel_rfl) (fun _ h => (nomatch h)) rfl .nil fun env s₁ _ _ _ _ C₁ F₁ => ?_
  have mN : ∀ y ∈ dx :: x :: M, y ∈ M ∨ s.heap.get? y = none := fun y hy => by
    rcases mcs hy with rfl | hy
    · exact .inr n2
    rcases mcs hy with rfl | hy
    · exact .inr n1
    · exact .inl hy
  have hx₁ : s₁.heap.get? x = some (inst 453 dx) := F₁.kept.k _ _ hx (by simp)
  have hd₁ : DictN s₁.heap dx (fun _ => none) 0 := hdx.to fun o e => F₁.kept.k _ _ e (by obtain ⟨es, ep, e', _⟩ := hdx; rw [e'] at e; cases e; simp)
  have K₁ : Kh s.heap s₁.heap := K'.trans F₁.kept
  have F : FP (dx :: x :: M) β.H env (fdS (st2 17 0)) s.heap s₁.heap [(S "cand_names", .raw .none), (S "num_cand", .int m), (S "self", .raw (.ref x))] := by
    refine ⟨fun y hy => ?_, _, F₁.base K', .cons (.raw _) (.cons ((r.more mN).mono (D.of_kh K₁)) (.cons (.raw _) .nil))⟩
    rcases mcs hy with rfl | hy
    · obtain ⟨es, ep, e', _⟩ := hd₁; exact ⟨_, e', by simp⟩
    rcases mcs hy with rfl | hy
    · exact ⟨_, hx₁, by simp⟩
    · exact (mx y hy).kh K₁
  have hA1 : Ok (A'.deeper env) (n + 1) := hA'.deeper
  have hB := C.new n2
  with_unfolding_all refine S1.step (ρ₁ := [(S "cand_names", .raw .none), (S "num_cand", .int m), (S "self", .raw (.ref x))]) ?_ hA1 C₁ F fun s₂ C₂ F₂ D₂ => ?_
  · exact S1.if (c := false) (Tv.cmp (by walk_at "e") (by walk_at "e") (co_le (decide_eq_false (by omega)))) (fun h => by cases h) (fun _ => Sv.nil)
  have hx₂ := F.stay D₂ hx₁ rfl
  have hd₂ := F.stayD D₂ hd₁
  refine attr_step (j := 0) clsP (by kernel_rfl) hA1 C₂ F₂ hx₂ hd₂ (by omega) (List.mem_cons_self ..) n2 hB (v := lI (upto m)) ?_ (by walk_at "e") fun s₃ v3 C₃ F₃ r3 hx₃ hd₃ k3 x3 => ?_
  · refine Ev.callT (f := "list") (ps := [.rng 0 m]) (by walk_at "e") (Evs.cons (by kernel_rfl) (Ev.callT (f := "range") (ps := [.int m]) (by walk_at "e") (by walk_at "es") (by simp) (cl_range1 (by simp) (by omega))) Evs.nil) (by simp) (cl_list_rng (by omega))
  refine attr_step (j := 1) clsP (by kernel_rfl) hA1 C₃ F₃ hx₃ hd₃ (by omega) (List.mem_cons_self ..) n2 hB (v := .list (((List.range m).filter fun _ => true).map fun _ => .any)) ?_ (by walk_at "e") fun s₄ v4 C₄ F₄ r4 hx₄ hd₄ k4 x4 => ?_
  · refine Ev.comp (List.range m) (fun (k : Nat) => .int k) (fun _ => true) (fun _ => .any) (by kernel_rfl) (pi := .rng 0 m) ?_ (by simp [PV.items]) (by simp [sizeLine]; omega) (fun _ _ _ => rfl) ?_
    · exact Ev.callT (f := "range") (ps := [.int m]) (by walk_at "e") (by walk_at "es") (by simp) (cl_range1 (by simp) (by omega))
    · intro i k hk _
      have hk' : k < m := by have := List.mem_of_getElem? hk; simpa using this
      exact Ev.callT (f := "str") (ps := [.int k]) (by walk_at "e") (by walk_at "es") (by simp) (cl_str_int (by omega))
  refine attr_stepW (j := 2) (fun val hp => ∃ L, val = .ref L ∧ s₄.heap.get? L = none ∧ SeqAt hp "list" L #[]) clsP (by kernel_rfl) hA1 C₄ F₄ hx₄ hd₄ (by omega) (List.mem_cons_self ..) n2 hB (fun Q' hq => ?_) (by walk_at "e") (fun val g g' V k => ?_) fun s₅ v5 C₅ F₅ V5 hx₅ hd₅ k5 x5 => ?_
  · refine wpAny_List (wpAny_items_nil ⟨by simp [sizeLine], hq _ _ (C₄.push _) (kp_push _ _) ⟨_, rfl, none_of_ge (Nat.le_refl _), 0, Heap.get?_push_size _ rfl⟩⟩)
  · obtain ⟨L, rfl, n, j, e⟩ := V
    refine ⟨L, rfl, n, j, k L _ (fun z => ?_) e (by simp)⟩
    obtain ⟨es, ep, e', _⟩ := hd₄
    rw [z, e'] at n; cases n
  obtain ⟨L, rfl, nL5, hL5⟩ := V5
  have nx : x ≠ L := fun z => by rw [← z, hx₄] at nL5; cases nL5
  have ndx : dx ≠ L := fun z => by obtain ⟨es, ep, e', _⟩ := hd₄; rw [← z, e'] at nL5; cases nL5
  have K4 : Kh s.heap s₄.heap := F₄.kept
  have nLs : s.heap.get? L = none := Kh.none K4 nL5
  have mL : ∀ y ∈ L :: M, y ∈ dx :: x :: M ∨ s₄.heap.get? y = none := fun y hy => by
    rcases mcs hy with rfl | hy
    · exact .inr nL5
    · exact .inl (List.mem_cons_of_mem _ (List.mem_cons_of_mem _ hy))
  have d5 : D (L :: M) s₄.heap s₅.heap → True := fun _ => trivial
  have r3' : Rep (L :: M) s₅.heap v3 (lI (upto m)) := by
    have a : Rep (dx :: x :: M) s₄.heap v3 (lI (upto m)) := r3.mono fun b o e q nb => k4 b o (fun z => nb (z ▸ List.mem_cons_self ..)) e (stay_ne q)
    have b : Rep (dx :: x :: M) s₅.heap v3 (lI (upto m)) := a.mono fun b o e q nb => k5 b o (fun z => nb (z ▸ List.mem_cons_self ..)) e (stay_ne q)
    obtain ⟨a3, its3, rfl, hm3, hl3, rl3⟩ := a.inv_list
    obtain ⟨a3', its3', e3, hm3', hl3', rl3'⟩ := b.inv_list
    cases e3
    refine Rep.of_list (fun z => ?_) hl3' (RepL.of_ints rl3'.toInts)
    rcases mcs z with rfl | z
    · obtain ⟨j, e⟩ := hl3; rw [nL5] at e; cases e
    · exact hm3 (List.mem_cons_of_mem _ (List.mem_cons_of_mem _ z))
  refine S1.step (ρ₁ := []) ?_ hA1 C₅ F₅ fun s₆ C₆ F₆ D₆ => ?_
  · exact S1.sub (S1.if (c := false) (Tv.noneF (by walk_at "e")) (fun h => by cases h) (fun _ => Sv.nil)) trivial
  refine wpAny_execs_nil ⟨rfl, ?_⟩
  have hx₆ := F₅.stay D₆ hx₅ rfl
  have hd₆ := F₅.stayD D₆ hd₅
  obtain ⟨jL, eL⟩ := hL5
  refine h x L s₆ C₆ F₆.kept nLs ?_ ⟨jL, F₅.stay D₆ eL rfl⟩
  refine .objL (L := [(S "_voters", .ref L), (S "cand_names", v4), (S "candidates", v3)]) (fun z => ?_) (fun z => ?_) hx₆ hd₆.at (put_list (put_list (put_list fun _ => rfl))) (.cons (.raw _) (.cons (.any _) (.cons (r3'.mono fun b o e q _ => F₅.stay D₆ e q) .nil)))
  · rcases List.mem_cons.mp z with z | z
    · exact nx z
    · exact mx.off n1 z
  · rcases List.mem_cons.mp z with z | z
    · exact ndx z
    · exact mx.off n2 z
end
section
variable {w : World} {β : Pm} {n : Nat} {sc : Scope} {ρ ρ' : PVs} {M M' : List Addr} {env : Env} {H h h' : Heap} {s s' : Shared} {B : Heap} {prog : Pr} {A : Around}
theorem Ev.attrR {e : Expr} {y : Str} {pos : Pos} {C a : Addr} {fs : PVs} (O : ClsOk w.params C) (hf : Fo w.params C y) (h1 : Ev w β n sc ρ e (.obj C fs)) (hl : fs.lookup y = some (.raw (.ref a)))
    (he : ∀ env, eval (.Attribute e y pos) env = (do
      let o ← eval e env
      standAt pos.atName
      let r ← holding [o] (getAttr o y true)
      letTemporaryGo e o r
      pure r) := by intro _; with_unfolding_all rfl) : Ev w β n sc ρ (.Attribute e y pos) (.raw (.ref a)) := by
  intro prog A env s M Q hA C' L h
  refine Attribute_any_ (h1 hA C' L fun v s₁ C₁ K₁ r₁ => ?_) (he env)
  obtain ⟨x, dx, m, vals, rfl, hm, hm', hx, hd, hv, hr, ha⟩ := r₁.inv_obj
  have rr := hr y _ hl
  have e1 := rr.inv_raw
  exact get_attr C₁ O (fun o ho => hf o _ ho) (by rw [e1]; rfl) hx hd (hv y _ hl) (h _ _ C₁ (kp_trans K₁ (kp_tok _ _)) (hr y _ hl))
theorem append_step {o e : Expr} {ap pos : Pos} {L : Addr} {p : PV} {its : Array Value} {Q : Value → Shared → Prop} (ho : Ev w β n sc ρ o (.raw (.ref L))) (he : Ev w β n sc ρ e p) (hA : Ok A n) (C : Cx w β s) (F : FP M β.H env sc H s.heap ρ) (hLM : L ∈ M) (hL : SeqAt s.heap "list" L its) (hz : its.size ≤ 1000) (hLB : β.H.get? L = Option.none) (hLH : H.get? L = Option.none)
    (h : ∀ u s', Cx w β s' → Kw [L] s.heap s'.heap → FP M β.H env sc H s'.heap ρ → SeqAt s'.heap "list" L (its.push u) → Rep M s'.heap u p → Q .none s')
    (hbase : attributeBase o "append" env (eval o env) = eval o env) (hfew : ((backTo pos (starEach [e] env)).all (fun x => !x.1) && (backToKw pos (keywordEach [] env)).all (fun x => x.1.isSome)
      && decide (([e] : List Expr).length + ([] : List Keyword).length + (if ([] : List Keyword).isEmpty then 0 else 1) < 30)) = true) (hline : (ap.endLine == pos.line) = true) (htrees : backTo pos (starEach [e] env) = [(false, eval e env)]) :
    Wp prog w A (eval (.Call (.Attribute o "append" ap) [e] [] pos) env) Q s := by
  refine wpAny_Call_append hbase hfew hline htrees ?_
  refine ho hA C F.ld fun v s₁ C₁ K₁ r₁ => ?_
  cases r₁.inv_raw
  obtain ⟨j, eL⟩ := hL
  have e1 := K₁.k _ _ eL (by simp)
  refine ⟨L, its, rfl, ⟨_, j, e1, rfl, rfl, rfl⟩, ?_⟩
  refine he hA C₁ (F.kp K₁).ld fun u s₂ C₂ K₂ r₂ => ?_
  have K := kp_trans K₁ K₂
  have e2 : SeqAt s₂.heap "list" L its := ⟨j, K.k _ _ eL (by simp)⟩
  refine wpAny_list_append_plain (hsz := by simp [sizeLine]; omega) e2 fun h₃ e3 hs => ?_
  have k3 : ∀ b o, b ∉ [L] → s₂.heap.get? b = some o → h₃.get? b = some o := fun b o hb e => (hs.2 b (by simpa using hb)).trans e
  have F₂ := F.kp K
  have n3 : NN h₃ L := by obtain ⟨i, e⟩ := e3; exact ⟨_, e, by simp⟩
  refine h u _ (CxH.step C₂ hLB hs) ((Kw.of_kh K).trans (Kw.of_but k3)) (F₂.kw (wr := [L]) (fun b hb => by cases List.mem_singleton.mp hb; exact hLM) (by obtain ⟨i, e⟩ := e2; exact F₂.off e rfl hLH) (Kw.of_but k3) fun b hb => by cases List.mem_singleton.mp hb; exact n3) e3 (r₂.mono (D.but fun b o hb e => k3 b o (fun z => hb (List.mem_singleton.mp z ▸ hLM)) e))
theorem add_voter {x L : Addr} {v : Value} {m : Nat} {ns : List Nat} {its : Array Value} {Q : Value → Shared → Prop} (hm10 : m ≤ 10) (hlt : ∀ k ∈ ns, k < 4) (hm : ∀ k ∈ ns, k < m) (hd : (els (maskOf ns)).length = ns.length) (hA : Ok A (n + 7)) (C : Cx w β s) (mx : Mx M s.heap) (hLM : L ∈ M) (rx : Rep M s.heap (.ref x) (profV m (.raw (.ref L)))) (rv : Rep M s.heap v (.list (nL ns)))
    (hL : SeqAt s.heap "list" L its) (hz : its.size ≤ 1000) (hLB : β.H.get? L = none)
    (h : ∀ u s', Cx w β s' → Kw [L] s.heap s'.heap → SeqAt s'.heap "list" L (its.push u) → Rep M s'.heap u (voter (ledOf w) (maskOf ns)) → Q .none s') : Wp prog w A (call (.ref 366) [.ref x, v]) Q s := by
  refine call_def (binds := [(S "self", .ref x), (S "voter", v)]) o366 C hA.lt (by kernel_rfl) rfl (by kernel_rfl) (BindsTo.of_eq (by with_unfolding_all rfl)) (by kernel_rfl) (by kernel_rfl) (by kernel_rfl) (fun _ h => (nomatch h)) rfl .nil fun env s₁ _ _ _ _ C₁ F₁ => ?_
  have hH : (hideAll s.heap [L]).get? L = none := hideAll_none _ (List.mem_singleton.mpr rfl)
  have K₁ := F₁.kept
  have F : FP M β.H env (fdS (st2 17 5)) (hideAll s.heap [L]) s₁.heap [(S "voter", .list (nL ns)), (S "self", profV m (.raw (.ref L)))] :=
    ⟨fun a ha => (mx a ha).kh K₁, _, F₁.base (Kh.of fun b o e => of_hideAll _ e), .cons (rv.mono (D.of_kh K₁)) (.cons (rx.mono (D.of_kh K₁)) .nil)⟩
  have hL₁ : SeqAt s₁.heap "list" L its := by obtain ⟨j, e⟩ := hL; exact ⟨j, K₁.k _ _ e (by simp)⟩
  with_unfolding_all refine wpAny_execs_cons (wpAny_Expr_any ?_ (by unfold interactive; rw [F.blk]; rfl))
  refine append_step (p := voter (ledOf w) (maskOf ns)) (Ev.attrR clsP fo_voters (by walk_at "e") (by walk_at "lk")) (Ev.meth (f := 359) clsP (by kernel_rfl) (by kernel_rfl) (by kernel_rfl) (by kernel_rfl) (by walk_at "e") (by walk_at "es") (cl_unique hm10 hlt hm hd)) hA.deeper C₁ F hLM hL₁ hz hLB hH (fun u s₂ C₂ k₂ F₂ e₂ r₂ => ?_) (by rfl) (by rfl) (by rfl) (by rfl)
  exact wpAny_execs_nil (h u s₂ C₂ ((Kw.of_kh K₁).trans k₂) e₂ r₂)
theorem meth_wp {o : Expr} {name : Str} {ap pos : Pos} {es : List Expr} {ps : List PV} {pl : Env → Sem Bool} {C f : Addr} {fs : PVs} {Q : Value → Shared → Prop} (O : ClsOk w.params C) (hf : findIn (Kf w.params) (.ref C) name = some (some (.ref f))) (ht : typeIn (Kf w.params) (.ref f) = some (.type "function")) (hk : keepIn (Kf w.params) (.ref f) = true) (hn : fs.lookup name = Option.none)
    (h1 : Ev w β n sc ρ o (.obj C fs)) (hes : Evs w β n sc ρ es ps) (hA : Ok A n) (C' : Cx w β s) (L : Ld M env sc s.heap ρ)
    (h : ∀ x vs s₁, Cx w β s₁ → Kp s s₁ → Rep M s₁.heap (.ref x) (.obj C fs) → RepL M s₁.heap vs ps → Wp prog w A (call (.ref f) (.ref x :: vs)) Q s₁)
    (he : ∀ env, eval (.Call (.Attribute o name ap) es [] pos) env = (do
      let ov ← eval o env
      standAt ap.atName
      let (f, first) ← holding [ov] (getMethod ov name (pl env))
      callWith pos f first (backTo pos (starEach es env)) []) := by intro _; rfl) : Wp prog w A (eval (.Call (.Attribute o name ap) es [] pos) env) Q s := by
  refine MethodCall_ (h1 hA C' L fun v s₁ C₁ K₁ r₁ => ?_) (he env)
  obtain ⟨x, _, _, _, rfl, _⟩ := r₁.inv_obj
  refine getMeth O C₁ r₁ hf ht hn ?_
  refine callWith_of (P := fun h => (Kf w.params).In h) (by simp [evs_plain hes]) (fun h X => keeps_K hk h X) ?_
  have fin : ∀ vs s', Cx w β s' → Kp s₁ s' → RepL M s'.heap vs ps → (Kf w.params).In s'.heap ∧ Wp prog w A (call (.ref f) ([.ref x] ++ vs)) Q s' := fun vs s' C' K' r' =>
    ⟨C'.K, h x vs s' C' (kp_trans K₁ K') (r₁.kp K') r'⟩
  cases es with
  | nil =>
    cases ps with
    | nil => exact PyProof.Rows.evalArgs_nil3 (fin [] _ C₁ (kp_refl _) .nil)
    | cons _ _ => exact hes.elim
  | cons e rest =>
    have q : starEach (e :: rest) env = (false, eval e env) :: starEach rest env := by
      cases ps with
      | nil => exact hes.elim
      | cons _ _ => exact hes.1 env rest
    have run := evs_run (pos := pos) (prog := prog) (Q := fun vs s' => (Kf w.params).In s'.heap ∧ Wp prog w A (call (.ref f) ([.ref x] ++ vs)) Q s') hes hA C₁ (L.kp K₁) fun vs s' C' K' r' => fin vs s' C' K' r'
    rw [q] at run ⊢
    exact Calls.evalArgs_plain run
theorem Kw.of_hide {L : Addr} {h h' : Heap} (k : Kh (hideAll h [L]) h') : Kw [L] h h' :=
  ⟨fun b o hb e c => k.k b o (hideAll_get _ e hb) c, fun b o hb e => k.x b o (hideAll_get _ e hb)⟩
theorem Kh.of_hide {L : Addr} {h : Heap} : Kh (hideAll h [L]) h := Kh.of fun b o e => of_hideAll _ e
theorem add_voters {x L : Addr} {v : Value} {m : Nat} {nss : List (List Nat)} {Q : Value → Shared → Prop} (hm10 : m ≤ 10) (hall : ∀ ns ∈ nss, (∀ k ∈ ns, k < 4) ∧ (∀ k ∈ ns, k < m) ∧ (els (maskOf ns)).length = ns.length) (hn : nss.length ≤ 100) (hA : Ok A (n + 8)) (C : Cx w β s) (mx : Mx M s.heap) (hLM : L ∈ M) (rx : Rep M s.heap (.ref x) (profV m (.raw (.ref L)))) (rv : Rep M s.heap v (.list (nss.map fun ns => .list (nL ns))))
    (hL : SeqAt s.heap "list" L #[]) (hLB : β.H.get? L = none)
    (h : ∀ its s', Cx w β s' → Kw [L] s.heap s'.heap → SeqAt s'.heap "list" L its → RepL M s'.heap its.toList (nss.map fun ns => voter (ledOf w) (maskOf ns)) → Q .none s') : Wp prog w A (call (.ref 373) [.ref x, v]) Q s := by
  refine call_def (binds := [(S "self", .ref x), (S "voters", v)]) o373 C hA.lt (by kernel_rfl) rfl (by kernel_rfl) (BindsTo.of_eq (by with_unfolding_all rfl)) (by kernel_rfl) (by kernel_rfl) (by kernel_rfl) (fun _ h => (nomatch h)) rfl .nil fun env s₁ _ _ _ _ C₁ F₁ => ?_
  have hH : (hideAll s.heap [L]).get? L = none := hideAll_none _ (List.mem_singleton.mpr rfl)
  have K₁ := F₁.kept
  have F : FP M β.H env (fdS (st2 17 6)) (hideAll s.heap [L]) s₁.heap [(S "voters", .list (nss.map fun ns => .list (nL ns))), (S "self", profV m (.raw (.ref L)))] :=
    ⟨fun a ha => (mx a ha).kh K₁, _, F₁.base Kh.of_hide, .cons (rv.mono (D.of_kh K₁)) (.cons (rx.mono (D.of_kh K₁)) .nil)⟩
  have hL₁ : SeqAt s₁.heap "list" L #[] := by obtain ⟨j, e⟩ := hL; exact ⟨j, K₁.k _ _ e (by simp)⟩
  have hA1 : Ok (A.deeper env) (n + 7) := hA.deeper
  generalize A.deeper env = A1 at hA1
  have ev : Ev w β (n + 7) (fdS (st2 17 6)) [(S "voters", .list (nss.map fun ns => .list (nL ns))), (S "self", profV m (.raw (.ref L)))] (.Name (S "voters") ⟨235, 21, 235, 27⟩) (.list (nss.map fun ns => .list (nL ns))) := by walk_at "e"
  with_unfolding_all refine wpAny_execs_cons (wpAny_For (ev hA1 C₁ F.ld fun v' s₂ C₂ K₂ r₂ => itr_list hA1 C₂ (F.kp K₂).1 r₂ fun I s₃ foot own P J T j0 C₃ K₃ hown hfoot hP => ?_) (by intro _; rfl))
  have hos : ∀ b ∈ own, s₁.heap.get? b = none := fun b hb => Kh.none K₂ (hown b hb)
  have K13 := kp_trans K₂ K₃
  have mown : ∀ b ∈ own, b ∈ own ++ M := fun b hb => List.mem_append_left _ hb
  have hLM' : L ∈ own ++ M := List.mem_append_right _ hLM
  have nom : ∀ a ∈ M, a ∉ own := fun a ha z => by obtain ⟨o, e, _⟩ := F.1 a ha; rw [hos a z] at e; cases e
  have off : ∀ b ∈ own, b ≠ env.locals ∧ (∀ x c, env.cells.lookup x = some c → c ≠ b) ∧ (hideAll s.heap [L]).get? b = none := fun b hb => F.offN (hos b hb)
  have F₃ : FP (own ++ M) β.H env (fdS (st2 17 6)) (hideAll s.heap [L]) s₃.heap [(S "voters", .list (nss.map fun ns => .list (nL ns))), (S "self", profV m (.raw (.ref L)))] := F.grow (fun a ha => by
    rcases List.mem_append.mp ha with z | z
    · exact .inr (hos a z)
    · exact .inl z) K13 fun a ha => by
    rcases List.mem_append.mp ha with z | z
    · exact T.nn _ _ j0 a (T.sub a z)
    · exact (F.1 a z).kh K13
  have offF : ∀ b ∈ foot, b ≠ L ∧ b ≠ env.locals ∧ ∀ x c, env.cells.lookup x = some c → b ≠ c := fun b hb => by
    rcases hfoot b hb with z | ⟨nM, o, e, q⟩
    · exact ⟨fun e => nom L hLM (e ▸ z), (off b z).1, fun x c l => Ne.symm ((off b z).2.1 x c l)⟩
    · have := F₃.offS e q
      exact ⟨fun e => nM (e ▸ hLM), this.1, fun x c l => Ne.symm (this.2 x c l)⟩
  have hlen : ((nss.map fun ns => PV.list (nL ns))).length = nss.length := List.length_map _
  refine for_gen (prog := prog) (w := w) (β := β) (fun i s' => FP (own ++ M) β.H env (fdS (st2 17 6)) (hideAll s.heap [L]) s'.heap [(S "voters", .list (nss.map fun ns => .list (nL ns))), (S "self", profV m (.raw (.ref L)))] ∧ D (own ++ M) s₃.heap s'.heap ∧
    ∃ its, SeqAt s'.heap "list" L its ∧ its.size = i ∧ RepL (own ++ M) s'.heap its.toList ((nss.take i).map fun ns => voter (ledOf w) (maskOf ns))) T j0 ⟨F₃, D.refl _ _, #[], by obtain ⟨j, e⟩ := hL₁; exact ⟨j, K13.k _ _ e (by simp)⟩, rfl, .nil⟩ C₃ ?_ ?_
  · rintro i v s₀ s' hi ⟨F₀, d₀, its, ⟨jL, eL⟩, hz, rl⟩ ji C' k' ji' hp
    rw [hlen] at hi
    obtain ⟨y, hy, ry⟩ := hP i v _ hp
    rw [List.getElem?_map, List.getElem?_eq_getElem hi] at hy
    cases hy
    have hns := hall _ (List.getElem_mem hi)
    have d₁ := k'.d mown
    have ry' : Rep (own ++ M) s'.heap v (.list (nL nss[i])) := ry.mono (d₀.trans d₁)
    have F' := F₀.kwd (M' := own ++ M) mown off k' fun a ha => ⟨ha, by
      rcases List.mem_append.mp ha with z | z
      · exact .inr (T.nn _ _ ji' a (T.sub a z))
      · exact .inl (nom a z)⟩
    have eL' : s'.heap.get? L = some { cls := .type "list", data := .seq its jL } := k'.k _ _ (nom L hLM) eL (by simp)
    refine wpAny_pure (wpAny_assign_Name (store_p C' F' ry' (.inl (by kernel_rfl)) fun s₄ C₄ F₄ D₄ => ?_))
    have j₄ := foot_kb T (fun b hb => (offF b hb).2) ji' D₄
    have eL₄ := F'.stay D₄ eL' rfl
    refine wpAny_execs_cons (wpAny_Expr_any (meth_wp (f := 366) (pl := fun _ => _) (ps := [.list (nL nss[i])]) clsP (by kernel_rfl) (by kernel_rfl) (by kernel_rfl) (by kernel_rfl) (by walk_at "e") (by walk_at "es") hA1 C₄ F₄.ld (fun x' vs s₅ C₅ K₅ rx₅ rv₅ => ?_) (by intro _; rfl)) (by unfold interactive; rw [F.blk]; rfl))
    obtain ⟨u₁, rfl, rv5⟩ := rv₅.one
    have F₅ := F₄.kp K₅
    have eL₅ := K₅.k _ _ eL₄ (by simp)
    have j₅ := T.frame _ _ _ j₄ fun b hb o e => K₅.k b o e (by obtain ⟨o', e', c⟩ := T.nn _ _ j₄ b hb; rw [e'] at e; cases e; exact c)
    refine add_voter hm10 hns.1 hns.2.1 hns.2.2 hA1 C₅ F₅.1 hLM' rx₅ rv5 ⟨jL, eL₅⟩ (by omega) hLB fun u s₆ C₆ k₆ e₆ r₆ => ?_
    have n₆ : NN s₆.heap L := by obtain ⟨j, e⟩ := e₆; exact ⟨_, e, by simp⟩
    have F₆ := F₅.kw (wr := [L]) (fun b hb => by cases List.mem_singleton.mp hb; exact hLM') (F₅.off eL₅ rfl hH) k₆ fun b hb => by cases List.mem_singleton.mp hb; exact n₆
    have d₆ : D (own ++ M) s₀.heap s₆.heap := d₁.trans ((F'.d D₄).trans ((D.of_kp K₅).trans (k₆.d fun b hb => by cases List.mem_singleton.mp hb; exact hLM')))
    refine wpAny_execs_nil ⟨⟨F₆.sub ⟨by walk_at "lk", by walk_at "lk", trivial⟩, d₀.trans d₆, its.push u, e₆, by rw [Array.size_push, hz], ?_⟩, ?_, C₆⟩
    · rw [Array.toList_push, List.take_add_one, List.getElem?_eq_getElem hi]
      show RepL _ _ _ ((nss.take i ++ [nss[i]]).map _)
      rw [List.map_append]
      exact (rl.mono d₆).snoc r₆
    · exact T.frame _ _ _ j₅ fun b hb o e => k₆.k b o (fun z => (offF b hb).1 (List.mem_singleton.mp z)) e (by obtain ⟨o', e', c⟩ := T.nn _ _ j₅ b hb; rw [e'] at e; cases e; exact c)
  · rintro s₀ s' ⟨F₀, d₀, its, ⟨jL, eL⟩, hz, rl⟩ jk C' k'
    have F' := F₀.kwd (M' := M) mown off k' fun a ha => ⟨List.mem_append_right _ ha, .inl (nom a ha)⟩
    refine wpAny_execs_nil (h its s' C' (Kw.of_hide F'.kept) ⟨jL, k'.k _ _ (nom L hLM) eL (by simp)⟩ ?_)
    rw [hlen, List.take_length] at rl
    have rl' := rl.mono (k'.d mown)
    exact RepL.of rl'.at.1 fun j u z e e' => (rl'.at.2 j u z e e').more fun a ha => .inl (List.mem_append_right _ ha)
end
noncomputable abbrev prof (led : Bool) (m : Nat) (Ss : List Nat) : PV := profV m (.list (Ss.map (voter led)))
section
variable {w : World} {β : Pm} {n : Nat} {sc : Scope} {ρ ρ' : PVs} {M M' : List Addr} {env : Env} {H h h' : Heap} {s s' : Shared} {B : Heap} {prog : Pr} {A : Around}
theorem prof_done {L x : Addr} {m : Nat} {its : Array Value} {ps : List PV} (hL : L ∉ M) (rx : Rep (L :: M) h (.ref x) (profV m (.raw (.ref L)))) (hs : SeqAt h "list" L its) (rl : RepL M h its.toList ps) : Rep M h (.ref x) (profV m (.list ps)) := by
  obtain ⟨x', dx, m', vals, e, hm, hm', hx, hd, hv, hr, ha⟩ := rx.inv_obj
  cases e
  have key : ∀ y p, y ≠ S "_voters" → (List.lookup y [(S "_voters", PV.raw (.ref L)), (S "cand_names", .any), (S "candidates", lI (upto m))] = some p ↔ List.lookup y [(S "_voters", PV.list ps), (S "cand_names", .any), (S "candidates", lI (upto m))] = some p) := fun y p z => by
    have e1 : ∀ q : PV, List.lookup y [(S "_voters", q), (S "cand_names", .any), (S "candidates", lI (upto m))] = List.lookup y [(S "cand_names", .any), (S "candidates", lI (upto m))] := fun q => by rw [lk_cons, if_neg z]
    rw [e1, e1]
  refine .obj (vals := vals) (fun z => hm (List.mem_cons_of_mem _ z)) (fun z => hm' (List.mem_cons_of_mem _ z)) hx hd (fun y p l => ?_) (fun y p l => ?_) fun y v e => ?_
  · by_cases z : y = S "_voters"
    · subst z; exact hv _ _ lk_here
    · exact hv y p ((key y p z).mpr l)
  · by_cases z : y = S "_voters"
    · subst z
      rw [lk_here] at l; cases l
      have := hr _ _ (lk_here (x := S "_voters") (v := PV.raw (.ref L)))
      rw [this.inv_raw]
      exact Rep.of_list hL hs rl
    · exact (hr y p ((key y p z).mpr l)).more fun a ha => .inl (List.mem_cons_of_mem _ ha)
  · have := ha y v e
    rw [lk_cons] at this ⊢
    by_cases z : y = S "_voters"
    · rw [if_pos z]; rfl
    · rw [if_neg z] at this ⊢; exact this
theorem get_attrK {C x dx : Addr} {m : Str → Option Value} {name : Str} {v : Value} {expr : Bool} {E : Value → Shared → Prop} {Q : Value → Shared → Prop} (X : (Kf w.params).In s.heap) (O : ClsOk w.params C) (hf : Fo w.params C name) (hh : handedIn v = true)
    (hx : s.heap.get? x = some (inst C dx)) (hd : DictAt s.heap dx m) (hv : m name = some v) (h : Q v { s with toks := s.toks + 1 }) : wpAny (model prog.p w) A (getAttr (.ref x) name expr) Q E s := by
  obtain ⟨od, I, lk⟩ := obj_inst hx hd
  exact get_value X I O.ga (hf od _ (by rw [lk, hv])) hh h
theorem preSum_one (k : Nat) : preSum (fun _ => 1) k = (k : Int) := by
  induction k with
  | zero => rfl
  | succ k ih => show preSum (fun _ => 1) k + 1 = _; rw [ih]; omega
theorem cl_total {led : Bool} {m : Nat} {Ss : List Nat} (hn : Ss.length ≤ 1000) : Cl w β (n + 2) (.ref 380) [prof led m Ss] (.int Ss.length) := by
  intro prog A s M vs Q hA C mx rl hq
  obtain ⟨v, rfl, rv⟩ := rl.one
  refine call_def (binds := [(S "self", v)]) o380 C hA.lt (by kernel_rfl) rfl (by kernel_rfl) (BindsTo.of_eq (by with_unfolding_all rfl)) (by kernel_rfl) (by kernel_rfl) (by kernel_rfl) (fun _ h => (nomatch h)) rfl .nil fun env s₁ e1 _ _ _ C₁ F₁ => ?_
  have F : FP M β.H env (fdS (st2 17 7)) s.heap s₁.heap [(S "self", prof led m Ss)] := ⟨fun a ha => (mx a ha).kh F₁.kept, _, F₁, .cons (rv.mono (D.of_kh F₁.kept)) .nil⟩
  have hA1 : Ok (A.deeper env) (n + 1) := hA.deeper
  have F' : FP M β.H env (fdS (st2 17 7)) s.heap s₁.heap [(S "self", prof led m Ss)] := F
  have bs : Ev w β (n + 1) (fdS (st2 17 7)) [(S "self", prof led m Ss)] (.Name (S "sum") ⟨239, 15, 239, 18⟩) (.raw (.builtin "sum")) := by walk_at "e"
  with_unfolding_all refine wpAny_execs_cons (wpAny_Return_some (callB1 bs (fun _ _ => by rfl) hA1 C₁ F.ld fun s₂ C₂ K₂ => ?_))
  refine gen_rule (c := 379) (P := 375) (xs := Ss.map (voter led)) (pi := .list (Ss.map (voter led))) (F := fun i u => ∃ t, u = .int 1 t) (by decide) hA1 C₂ (F.kp K₂).ld e1 (by kernel_rfl) (Ev.attr clsP fo_voters rfl (by walk_at "e") (by walk_at "lk")) (.inl rfl) ?_ fun a s₃ C₃ K₃ X => ?_
  · intro A' E' i v y s₂ m₂ cenv hA' hd hu hy r hns hm S D
    rw [List.getElem?_map] at hy
    obtain ⟨k, hk, rfl⟩ := Option.map_eq_some_iff.mp hy
    obtain ⟨x, dx, m, vals, rfl, _, _, hx, hd', hv, hr, ha⟩ := r.inv_obj
    have hw := hr _ _ (lk_here (x := EJ.S "weight") (v := PV.int 1))
    obtain ⟨t, ht⟩ := hw.inv_int
    refine Attribute_any_ (gen_name S rfl (by kernel_rfl) hns hm (by kernel_rfl) ?_)
    exact get_attrK S.K clsV fo_weight (by rw [ht]; rfl) hx hd' (hv _ _ lk_here) ⟨⟨t, ht⟩, _, _, rfl, fun _ _ e => e⟩
  · refine gen_sum (val := fun _ => 1) X C₂ C₃ K₃ (fun j hj => ?_) fun s₄ t C₄ K₄ => ?_
    · rw [List.length_map] at hj
      rw [preSum_one]
      exact ⟨⟨by omega, by omega⟩, ⟨by omega, by omega⟩⟩
    · rw [preSum_one, List.length_map]
      exact hq _ s₄ C₄ (F₁.kept.trans (K₂.trans K₄)) (.int _ _)
end
section
variable {w : World} {β : Pm} {n : Nat} {sc : Scope} {ρ ρ' : PVs} {M M' : List Addr} {env : Env} {H h h' : Heap} {s s' : Shared} {B : Heap} {prog : Pr} {A : Around} {x C f : Addr} {ox : Obj} {od : Option Obj}
theorem own_iter {K : Frag} {A : Around} {E : Value → Shared → Prop} {M : Model} {Q : Value → Shared → Prop} (X : K.In s.heap) (I : InstAt s.heap x ox C od) (hs : findIn K (.ref C) "__iter__" = some (some (.ref f))) (hf : typeIn K (.ref f) = some (.type "function"))
    (h : wpAny M A (call (.ref f) [.ref x]) (fun it s' => wpAny M A (specialOf it "__next__") (fun r s₂ => r.isSome = true ∧ Q it s₂) E s') E s) : wpAny M A (pyIter (.ref x)) Q E s := by
  have fin : wpAny M A (call (.ref f) [.ref x] >>= fun v => pure (some v)) (fun r s' => ∃ v, r = some v ∧ wpAny M A (specialOf v "__next__") (fun r s₂ => r.isSome = true ∧ Q v s₂) E s') E s :=
    wpAny_bind (wpAny_mono h (fun v s' h' => wpAny_pure ⟨v, rfl, h'⟩) fun _ _ z => z)
  have one : ∀ refuse : Sem Value, wpAny M A (callSpecialIfBoundUnlessNone? (.ref x) "__iter__" refuse) (fun r s' => ∃ v, r = some v ∧ wpAny M A (specialOf v "__next__") (fun r s₂ => r.isSome = true ∧ Q v s₂) E s') E s := by
    intro refuse
    simp only [callSpecialIfBoundUnlessNone?, bindSpecialIfBound?]
    refine wpAny_holding (wpAny_bind (wpAny_bind (wpAny_bind (I.type.here ((looks_findIn X hs).here ?_)))))
    refine wpAny_bind (wpAny_askSetting (wpAny_ite ?_))
    have fin2 : wpAny M A (if (Value.ref f == Value.none) = true then (refuse >>= fun v => pure (some v)) else (call (.ref f) [.ref x] >>= fun v => pure (some v))) (fun r s' => ∃ v, r = some v ∧ wpAny M A (specialOf v "__next__") (fun r s₂ => r.isSome = true ∧ Q v s₂) E s') E s := by
      rw [if_neg (show ¬ ((Value.ref f == Value.none) = true) from Bool.false_ne_true)]
      exact fin
    split
    · exact wpAny_bind ((bind_fn X _ hf).here (wpAny_pure fin2))
    · exact wpAny_tryCatch (wpAny_bind ((bind_fn X _ hf).here (wpAny_pure fin2)))
  unfold pyIter
  refine wpAny_bind (wpAny_bind (I.type.here ((looks_findIn X hs).here ?_)))
  show wpAny M A (callSpecialIfBoundUnlessNone? (.ref x) "__iter__" _ >>= _) Q E s
  refine wpAny_bind (wpAny_mono (one _) (fun r s' hr => ?_) fun _ _ z => z)
  obtain ⟨v, rfl, hv⟩ := hr
  refine wpAny_bind (wpAny_mono hv (fun r s₂ hr => ?_) fun _ _ z => z)
  cases r with
  | none => exact absurd hr.1 (by simp)
  | some g => exact wpAny_pure hr.2
theorem call_iter_list {L : Addr} {its : Array Value} {Q : Value → Shared → Prop} (hl : SeqAt s.heap "list" L its) (h : Q (.ref s.heap.objs.size) { s with heap := s.heap.push { cls := .type "list_iterator", data := .fields #[.ref L, .int 0 0] } }) : Wp prog w A (call (.builtin "iter") [.ref L]) Q s := by
  refine Calls.call_function_entry (by decide +kernel) (by decide +kernel) kdk_entry_iter (kdk_args_iter _) ?_
  unfold Builtin.«iter»
  refine wpAny_bind (m := someArgs "iter" 1 2 _) (wpAny_of_eq (a := [Value.ref L]) (by first | rfl | kernel_rfl) ?_)
  show wpAny _ _ (pyIter (.ref L) >>= _) _ _ _
  exact wpAny_bind (wpAny_pyIter_list hl.isList (wpAny_pure ⟨_, rfl, h⟩))
theorem itr_prof {m : Nat} {ps : List PV} : Itr w β (n + 2) (profV m (.list ps)) ps := by
  intro prog A s M v Q hA C mx r h
  obtain ⟨x, dx, m', vals, rfl, _, _, hx, hd, hv, hr, ha⟩ := id r.inv_obj
  obtain ⟨od, I, lk⟩ := obj_inst hx hd
  refine own_iter (f := 408) C.K I (by kernel_rfl) (by kernel_rfl) ?_
  refine call_def (binds := [(S "self", .ref x)]) o408 C hA.lt (by kernel_rfl) rfl (by kernel_rfl) (BindsTo.of_eq (by with_unfolding_all rfl)) (by kernel_rfl) (by kernel_rfl) (by kernel_rfl) (fun _ h => (nomatch h)) rfl .nil fun env s₁ _ _ _ _ C₁ F₁ => ?_
  have F : FP M β.H env (fdS (st2 17 11)) s.heap s₁.heap [(S "self", profV m (.list ps))] := ⟨fun a ha => (mx a ha).kh F₁.kept, _, F₁, .cons (r.mono (D.of_kh F₁.kept)) .nil⟩
  have hA1 : Ok (A.deeper env) (n + 1) := hA.deeper
  have bs : Ev w β (n + 1) (fdS (st2 17 11)) [(S "self", profV m (.list ps))] (.Name (S "iter") ⟨251, 15, 251, 19⟩) (.raw (.builtin "iter")) := by walk_at "e"
  with_unfolding_all refine wpAny_execs_cons (wpAny_Return_some (callB1 bs (fun _ _ => by rfl) hA1 C₁ F.ld fun s₂ C₂ K₂ => ?_))
  have ea : Ev w β (n + 1) (fdS (st2 17 11)) [(S "self", profV m (.list ps))] (.Attribute (.Name (S "self") ⟨251, 20, 251, 24⟩) (S "_voters") ⟨251, 20, 251, 32⟩) (.list ps) := Ev.attr clsP fo_voters rfl (by walk_at "e") (by walk_at "lk")
  refine ea hA1 C₂ (F.kp K₂).ld fun v s₃ C₃ K₃ r₃ => ?_
  obtain ⟨L, its, rfl, hm, hl, rl⟩ := r₃.inv_list
  refine call_iter_list hl ?_
  have K03 : Kp s s₃ := F₁.kept.trans (K₂.trans K₃)
  have hI : s₃.heap.get? s₃.heap.objs.size = none := none_of_ge (Nat.le_refl _)
  have hIs : s.heap.get? s₃.heap.objs.size = none := Kh.none K03 hI
  have hlt : L < s₃.heap.objs.size := by obtain ⟨n, e⟩ := hl; exact Heap.lt_size e
  have W := Walks.list (prog := prog.p) (w := w) hA.h s₃.heap.objs.size L (Nat.ne_of_lt hlt) its
  have hz : its.size = ps.length := by rw [← rl.at.1, Array.length_toList]
  rw [hz] at W
  have hit : (s₃.heap.push { cls := .type "list_iterator", data := .fields #[.ref L, .int 0 0] }).IsListIter s₃.heap.objs.size L 0 := ⟨_, Heap.get?_push_size _ rfl, rfl, rfl⟩
  refine wpAny_specialOf (T := "list_iterator") (r := some (.builtin "list_iterator.__next__")) ⟨_, Heap.get?_push_size _ rfl, rfl⟩ slot_listiter_next.lookup ⟨rfl, ?_⟩
  refine h _ _ _ _ _ _ (IterOk.of_walks W (C.new hIs) fun i h st b hb => ?_) ⟨hit, hl.isList.push _⟩ (C₃.push _) (kp_trans K03 (kp_push s₃ _)) (fun b hb => by cases List.mem_singleton.mp hb; exact hIs) (fun b hb => ?_) fun i v h e => ?_
  · obtain ⟨⟨o, e, c, _⟩, ⟨o2, e2, c2, _⟩⟩ := st
    rcases mcs hb with rfl | hb
    · exact ⟨o, e, by rw [c]; simp⟩
    · cases List.mem_singleton.mp hb; exact ⟨o2, e2, by rw [c2]; simp⟩
  · rcases mcs hb with rfl | hb
    · exact .inl (List.mem_singleton.mpr rfl)
    · cases List.mem_singleton.mp hb
      obtain ⟨n, e⟩ := hl
      exact .inr ⟨hm, _, Heap.get?_push_of_some _ e, rfl⟩
  · have hi : i < ps.length := by rw [← hz]; exact (Array.getElem?_eq_some_iff.mp e).1
    have r1 := rl.at.2 i v _ (by rw [Array.getElem?_toList]; exact e) (List.getElem?_eq_getElem hi)
    exact ⟨ps[i], List.getElem?_eq_getElem hi, (r1.more (M' := [s₃.heap.objs.size] ++ M) fun a ha => by
      rcases List.mem_append.mp ha with z | z
      · cases List.mem_singleton.mp z; exact .inr hI
      · exact .inl z).kp (kp_push s₃ _)⟩
end
section
variable {w : World} {β : Pm} {n : Nat} {M M' : List Addr} {H h h' : Heap} {s s' : Shared} {prog : Pr} {A : Around} {E : Value → Shared → Prop}
theorem by_text {Q : Bool → Shared → Prop} (h : Q (w.params.followText "set-order") s) : wpAny (model prog.p w) A setsByText Q E s := by
  obtain ⟨hh, g, d, t, os⟩ := s
  unfold setsByText
  repeat lk
  exact h
theorem new_set {Q : Value → Shared → Prop} (h : ∀ tk, Q (.ref s.heap.objs.size) { s with heap := s.heap.push (setO (.type "set") none (ledOf w) 0 tk 0) }) : wpAny (model prog.p w) A (newSet (.type "set")) Q E s := by
  unfold newSet
  refine wpAny_bind (by_text ?_)
  exact wpAny_newObj_type (h fun _ => 0) (by size_fits)
variable {x y : Addr} {own own' : Bool} {S S' : Nat} {d d' : Option Addr} {tk tk' : Nat → Tok} {ep ep' : Nat}
theorem any_set {X : (Kf w.params).In s.heap} {led : Bool} {Q : Bool → Shared → Prop} (ho : s.heap.get? x = some (setO (setC own) d led S tk ep)) (h : Q true s) : Wp prog w A (Builtin.Frozenset.isAnySet (.ref x)) Q s := by
  unfold Builtin.Frozenset.isAnySet
  refine orM_of ((set_inst X ho).here ?_)
  simp only [if_true]
  exact h
theorem base_of {X : (Kf w.params).In s.heap} {led : Bool} {Q : Value → Shared → Prop} (ho : s.heap.get? x = some (setO (setC own) d led S tk ep)) (h : Q (.type "set") s) : Wp prog w A (Builtin.Frozenset.baseOf x) Q s := by
  unfold Builtin.Frozenset.baseOf
  refine wpAny_bind ((set_inst X ho).here ?_)
  exact wpAny_pure h
theorem size_of {led : Bool} {C : Value} {Q : Nat → Shared → Prop} (ho : s.heap.get? x = some (setO C d led S tk ep)) (hS : S < 16) (h : Q (els S).length s) : wpAny (model prog.p w) A (Builtin.Frozenset.sizeOf x) Q E s := by
  unfold Builtin.Frozenset.sizeOf
  refine wpAny_bind (wpAny_setEntries_of ho rfl (fits_tab hS) (wpAny_pure ?_))
  rw [size_ents]; exact h
theorem perm_erase {α : Type} : ∀ (l : List α) (i : Nat) (h : i < l.length), (l[i] :: l.eraseIdx i).Perm l
  | [], _, h => absurd h (Nat.not_lt_zero _)
  | a :: l, 0, _ => .refl _
  | a :: l, i + 1, h => (List.Perm.swap ..).trans ((perm_erase l i (by simpa using h)).cons a)
theorem pick_perm {α : Type} (f : Nat → Nat) : ∀ (fuel k : Nat) (left : List α) (out : Array α), left.length ≤ fuel → (pickOrder.go f fuel k left out).toList.Perm (out.toList ++ left)
  | 0, k, left, out, h => by
    have : left = [] := List.length_eq_zero_iff.mp (by omega)
    subst this
    simp [pickOrder.go]
  | fuel + 1, k, left, out, h => by
    unfold pickOrder.go
    cases e : left[f k % left.length]? with
    | none =>
      have : left = [] := by
        cases left with
        | nil => rfl
        | cons a l =>
          have := List.getElem?_eq_none_iff.mp e
          have h2 := Nat.mod_lt (f k) (show 0 < (a :: l).length by simp)
          omega
      subst this
      simp
    | some x =>
      obtain ⟨hlt, rfl⟩ := List.getElem?_eq_some_iff.mp e
      have ih := pick_perm f fuel (k + 1) (left.eraseIdx (f k % left.length)) (out.push left[f k % left.length]) (by rw [List.length_eraseIdx_of_lt hlt]; omega)
      refine ih.trans ?_
      rw [Array.toList_push, List.append_assoc]
      refine List.Perm.append_left _ ?_
      exact perm_erase left _ hlt
theorem pick_all {α : Type} (f : Nat → Nat) (xs : Array α) : (pickOrder f xs).toList.Perm xs.toList := by
  have := pick_perm f xs.size 0 xs.toList #[] (by simp)
  simpa [pickOrder] using this
theorem set_walk {C : Value} {Q : Array (Int × Value) → Shared → Prop} (ho : s.heap.get? x = some (setO C d (ledOf w) S tk ep)) (hS : S < 16) (h : ∀ W, W.toList.Perm (ents S tk).toList → Q W s) : wpAny (model prog.p w) A (setWalk x) Q E s := by
  obtain ⟨hh, g, dd, t, os⟩ := s
  unfold setWalk
  refine wpAny_bind (wpAny_setState_of ho rfl (fits_tab hS) ?_)
  dsimp only
  refine wpAny_bind (by_text ?_)
  cases hb : w.params.followText "set-order" with
  | true =>
    simp only [if_true]
    repeat lk
    exact h _ (pick_all _ _)
  | false =>
    simp only [Bool.false_eq_true, if_false]
    have hl : ledOf w = true := by unfold ledOf; rw [hb]; rfl
    rw [hl]
    refine wpAny_bind (wpAny_pure ?_)
    exact wpAny_pure (h _ (List.Perm.refl _))
theorem set_walk_unseen {C : Value} {a : List Addr} {f : Option Addr} {Q : Array (Int × Value) → Shared → Prop} (ho : s.heap.get? x = some (setO C d (ledOf w) S tk ep)) (hS : S < 16) (h : ∀ W, W.toList.Perm (ents S tk).toList → Q W s) : wpAny (model prog.p w) A (setWalkUnseen x a f) Q E s := by
  unfold setWalkUnseen
  refine wpAny_bind (wpAny_setState_of ho rfl (fits_tab hS) ?_)
  dsimp only
  refine wpAny_bind (by_text ?_)
  have e : (w.params.followText "set-order" || ((tab (ledOf w) S).led && (tab (ledOf w) S).plain) || decide ((ents S tk).size ≤ 1)) = true := by
    show (w.params.followText "set-order" || (ledOf w && true) || _) = true
    unfold ledOf
    cases w.params.followText "set-order" <;> rfl
  rw [if_pos e]
  exact set_walk ho hS h
theorem room_tab {led : Bool} {S : Nat} (hS : S < 16) : SetTable.roomFor (tab led 0) (els S).length = none := by
  refine all16 (P := fun S => SetTable.roomFor (tab led 0) (els S).length = none) ?_ ?_ ?_ ?_ ?_ ?_ ?_ ?_ ?_ ?_ ?_ ?_ ?_ ?_ ?_ ?_ hS <;> kernel_rfl
theorem road_tab {led led' : Bool} {S : Nat} : SetTable.road (tab led 0) (tab led' S) = .slotForSlot := rfl
theorem put_setO {C : Value} {led led' : Bool} {S S' : Nat} : Obj.putSet (ents S' tk') (tab led' S') (setO C d led S tk ep) = setO C d led' S' tk' (ep + 1) := by
  rw [putSet_of (es := ents S tk) (ep := ep) (t := tab led S) _ _ rfl]
  rfl
theorem set_merge {C C' : Value} {each : Sem Unit} {Q : Unit → Shared → Prop} (ho : s.heap.get? x = some (setO C d (ledOf w) 0 tk ep)) (hy : s.heap.get? y = some (setO C' d' (ledOf w) S' tk' ep')) (hS : S' < 16) (hne : x ≠ y)
    (h : ∀ h' tk'' ep'', Heap.SameBut x s.heap h' → h'.get? x = some (setO C d (ledOf w) S' tk'' ep'') → Q () { s with heap := h' }) : wpAny (model prog.p w) A (setMerge x y each) Q E s := by
  unfold setMerge
  rw [if_neg (by simpa using hne)]
  refine wpAny_bind (wpAny_setState_of hy rfl (fits_tab hS) ?_)
  dsimp only
  by_cases he : (ents S' tk').isEmpty = true
  · rw [if_pos he]
    have hz : (els S').length = 0 := by rw [← size_ents (tk := tk')]; simpa using he
    have : S' = 0 := (by decide +kernel : ∀ S < 16, (els S).length = 0 → S = 0) S' hS hz
    subst this
    refine wpAny_pure ?_
    obtain ⟨hh, g, dd, t, os⟩ := s
    exact h hh tk ep (Heap.SameBut.refl ..) ho
  · rw [if_neg he]
    unfold setRoomFor
    refine wpAny_bind (wpAny_bind (wpAny_setState_of ho rfl (fits_tab (by decide)) ?_))
    dsimp only
    rw [size_ents, room_tab hS]
    refine wpAny_pure ?_
    refine wpAny_bind (wpAny_setState_of ho rfl (fits_tab (by decide)) ?_)
    dsimp only
    rw [road_tab]
    dsimp only
    have e : ({ mask := (tab (ledOf w) S').mask, place := (tab (ledOf w) S').place, dummies := (tab (ledOf w) S').dummies, finger := (tab (ledOf w) 0).finger, led := (tab (ledOf w) 0).led && (tab (ledOf w) S').led, moves := (tab (ledOf w) 0).moves, plain := (tab (ledOf w) 0).plain && (tab (ledOf w) S').plain } : SetTable) = tab (ledOf w) S' := by
      unfold tab; cases ledOf w <;> rfl
    rw [e]
    refine wpAny_storeSet_of ho rfl ?_ (by rw [size_ents, sizeLine_eq]; have := els_le (S := S'); omega)
    refine h _ tk' (ep + 1) (Heap.SameBut.update ..) ?_
    have := Heap.get?_update_self (Obj.putSet (ents S' tk') (tab (ledOf w) S')) ho (by rw [put_setO]; rfl)
    rw [put_setO] at this
    exact this
theorem copy_of {led : Bool} {Q : Value → Shared → Prop} (hβ : β.H.get? s.heap.objs.size = none) (C : Cx w β s) (hM : s.heap.objs.size ∉ M) (ho : s.heap.get? x = some (setO (setC own) d (ledOf w) S tk ep)) (hS : S < 16)
    (h : ∀ v s', Cx w β s' → Kp s s' → Rep M s'.heap v (.set false (ledOf w) S) → Q v s') : Wp prog w A (Builtin.Frozenset.copyOf x) Q s := by
  unfold Builtin.Frozenset.copyOf
  refine wpAny_bind (base_of (X := C.K) ho ?_)
  refine wpAny_bind (new_set fun tk₀ => ?_)
  rw [addr_of]
  refine wpAny_bind (wpAny_pure ?_)
  have hlt : x < s.heap.objs.size := Heap.lt_size ho
  refine wpAny_bind (set_merge (s := { s with heap := s.heap.push (setO (.type "set") none (ledOf w) 0 tk₀ 0) }) (Heap.get?_push_size _ rfl) (Heap.get?_push_of_some _ ho) hS (Nat.ne_of_gt hlt) fun h' tk'' ep'' hs e => ?_)
  have k : ∀ b o, s.heap.get? b = some o → h'.get? b = some o := fun b o e => (hs.2 b (Nat.ne_of_lt (Heap.lt_size e))).trans (Heap.get?_push_of_some _ e)
  exact wpAny_pure (h _ _ (CxH.keeps' C k) (Kh.of k) (.set (own := false) hM hS e fun _ => rfl))
end
theorem bit_hi {S k : Nat} (hS : S < 16) (hk : 4 ≤ k) : S.testBit k = false := Nat.testBit_lt_two_pow (Nat.lt_of_lt_of_le hS (Nat.pow_le_pow_right (n := 2) (by decide) hk))
theorem mem_els {S k : Nat} (hS : S < 16) : k ∈ els S ↔ S.testBit k = true := by
  unfold els
  rw [List.mem_filter]
  refine ⟨fun h => h.2, fun h => ⟨?_, h⟩⟩
  rcases Nat.lt_or_ge k 4 with hk | hk
  · rcases lt4 hk with rfl | rfl | rfl | rfl <;> simp
  · rw [bit_hi hS hk] at h; cases h
noncomputable def addIf (S' : Nat) (T : Nat) (e : Int × Value) : Nat := if S'.testBit e.1.toNat then T ||| 2 ^ e.1.toNat else T
theorem bit_fold (S' : Nat) (j : Nat) : ∀ (W : List (Int × Value)) (T : Nat), (W.foldl (addIf S') T).testBit j = (T.testBit j || (S'.testBit j && W.any fun e => e.1.toNat == j))
  | [], T => by simp
  | e :: W, T => by
    rw [List.foldl_cons, bit_fold S' j W, List.any_cons]
    unfold addIf
    by_cases h : S'.testBit e.1.toNat = true
    · rw [if_pos h, Nat.testBit_or, Nat.testBit_two_pow]
      by_cases z : e.1.toNat = j
      · rw [z] at h ⊢; simp [h]
      · have hz : (e.1.toNat == j) = false := by simpa using z
        rw [hz, decide_eq_false z, Bool.false_or, Bool.or_false]
    · rw [if_neg h]
      by_cases z : e.1.toNat = j
      · rw [z] at h; simp [h]
      · have hz : (e.1.toNat == j) = false := by simpa using z
        rw [hz, Bool.false_or]
theorem fold_and {S S' : Nat} {tk : Nat → Tok} (hS : S < 16) {W : List (Int × Value)} (p : W.Perm (ents S tk).toList) : W.foldl (addIf S') 0 = S &&& S' := by
  refine Nat.eq_of_testBit_eq fun j => ?_
  rw [bit_fold, Nat.testBit_and, Nat.zero_testBit, Bool.false_or]
  have : (W.any fun e => e.1.toNat == j) = S.testBit j := by
    rw [Bool.eq_iff_iff, List.any_eq_true, ← mem_els hS]
    constructor
    · rintro ⟨e, he, hj⟩
      have := p.mem_iff.mp he
      obtain ⟨k, hk, rfl⟩ := List.mem_map.mp this
      have : k = j := by simpa using hj
      exact this ▸ hk
    · intro hj
      exact ⟨_, p.mem_iff.mpr (List.mem_map.mpr ⟨j, hj, rfl⟩), by simp⟩
  rw [this, Bool.and_comm]
theorem mem_ents {S : Nat} {tk : Nat → Tok} {W : List (Int × Value)} (p : W.Perm (ents S tk).toList) : ∀ e ∈ W, ∃ k t, k < 4 ∧ e = (((k : Nat) : Int), Value.int ((k : Nat) : Int) t) := fun e he => by
  obtain ⟨k, hk, rfl⟩ := List.mem_map.mp (p.mem_iff.mp he)
  exact ⟨k, _, els_lt hk, rfl⟩
section
variable {w : World} {β : Pm} {n : Nat} {M M' : List Addr} {H h h' : Heap} {s s' : Shared} {prog : Pr} {A : Around} {E : Value → Shared → Prop}
variable {x y : Addr} {own own' : Bool} {S S' : Nat} {d d' : Option Addr} {tk tk' : Nat → Tok} {ep ep' : Nat}
theorem addIf_lt {T k : Nat} {v : Value} (hT : T < 16) (hk : k < 4) : addIf S' T ((k : Nat), v) < 16 := by
  unfold addIf
  rw [Int.toNat_natCast]
  split
  · exact or_lt hT hk
  · exact hT
theorem inter_loop {a b r : Addr} {led : Bool} {Ca Cb Cr : Value} {id : String} {da db dr : Option Addr} {S₁ S₂ : Nat} {tka tkb : Nat → Tok} {epa epb : Nat} (h1 : S₁ < 16) (h2 : S₂ < 16) (hra : a ≠ r) (hrb : b ≠ r) {F : Int × Value → PUnit → Sem (ForInStep PUnit)}
    (hF : ∀ e u, F e u = (do
      holding [e.2] do
        let q ← setFind b e.2 e.1
        if q.isSome = true then do
          let _ ← setAddHashed r e.2 e.1
          pure ()
        else pure ()
      Builtin.Frozenset.unchanged id a epa
      pure (ForInStep.yield PUnit.unit))) :
    ∀ (W : List (Int × Value)) (T : Nat) (tkr : Nat → Tok) (epr : Nat) (s : Shared) (Q : PUnit → Shared → Prop), (∀ e ∈ W, ∃ k t, k < 4 ∧ e = (((k : Nat) : Int), Value.int ((k : Nat) : Int) t)) → T < 16 → s.heap.get? a = some (setO Ca da led S₁ tka epa) → s.heap.get? b = some (setO Cb db led S₂ tkb epb) → s.heap.get? r = some (setO Cr dr led T tkr epr) →
      (∀ h' tk' ep', (∀ c o, c ≠ r → s.heap.get? c = some o → h'.get? c = some o) → h'.get? r = some (setO Cr dr led (W.foldl (addIf S₂) T) tk' ep') → Q ⟨⟩ { s with heap := h' }) → Wp prog w A (forIn W PUnit.unit F) Q s
  | [], T, tkr, epr, s, Q, _, _, ea, eb, er, hQ => by
    rw [List.forIn_nil]
    refine wpAny_pure ?_
    obtain ⟨hh, g, dd, t, os⟩ := s
    exact hQ hh tkr epr (fun _ _ _ e => e) er
  | e :: W, T, tkr, epr, s, Q, hW, hT, ea, eb, er, hQ => by
    rw [List.forIn_cons, hF]
    obtain ⟨k, t, hk, rfl⟩ := hW _ (List.mem_cons_self ..)
    have hh := hash_small hk
    have sf : ∀ {Q : Option Nat → Shared → Prop}, (∀ q : Option Nat, q.isSome = S₂.testBit k → Q q s) → Wp prog w A (setFind b (.int (k : Nat) t) (k : Nat)) Q s := fun {Q} hq => by
      have := set_find (prog := prog) (w := w) (A := A) (s := s) (t := t) (Q := Q) eb h2 hk hq
      rwa [hh] at this
    have sa : ∀ {Q : Bool → Shared → Prop}, (∀ q h' tk' ep', Heap.SameBut r s.heap h' → h'.get? r = some (setO Cr dr led (T ||| 2 ^ k) tk' ep') → Q q { s with heap := h' }) → Wp prog w A (setAddHashed r (.int (k : Nat) t) (k : Nat)) Q s := fun {Q} hq => by
      have := set_add (prog := prog) (w := w) (A := A) (s := s) (t := t) (Q := Q) er hT hk hq
      rwa [hh] at this
    have step : ∀ (h₁ : Heap) {Q1 : ForInStep PUnit → Shared → Prop}, (∀ c o, c ≠ r → s.heap.get? c = some o → h₁.get? c = some o) → Q1 (.yield ⟨⟩) { s with heap := h₁ } →
        Wp prog w A (do Builtin.Frozenset.unchanged id a epa; pure (ForInStep.yield PUnit.unit)) Q1 { s with heap := h₁ } := fun h₁ Q1 kk q => by
      refine wpAny_bind ?_
      unfold Builtin.Frozenset.unchanged
      refine wpAny_bind (wpAny_setEpoch_of (kk _ _ hra ea) rfl (fits_tab h1) ?_)
      rw [if_neg (by simp)]
      exact wpAny_pure (wpAny_pure q)
    have next : ∀ (h₁ : Heap) (tk₁ : Nat → Tok) (ep₁ : Nat), (∀ c o, c ≠ r → s.heap.get? c = some o → h₁.get? c = some o) → h₁.get? r = some (setO Cr dr led (addIf S₂ T ((k : Nat), Value.int (k : Nat) t)) tk₁ ep₁) → Wp prog w A (forIn W PUnit.unit F) Q { s with heap := h₁ } := fun h₁ tk₁ ep₁ kk e₁ =>
      inter_loop h1 h2 hra hrb hF W _ tk₁ ep₁ { s with heap := h₁ } Q (fun e he => hW e (List.mem_cons_of_mem _ he)) (addIf_lt hT hk) (kk _ _ hra ea) (kk _ _ hrb eb) e₁ fun h' tk' ep' k' e' =>
        hQ h' tk' ep' (fun c o hc e => k' c o hc (kk c o hc e)) e'
    refine wpAny_bind (wpAny_bind (wpAny_holding (wpAny_bind (sf fun q hq => ?_))))
    cases hb : S₂.testBit k with
    | true =>
      rw [hb] at hq
      rw [if_pos hq]
      refine wpAny_bind (sa fun _ h₁ tk₁ ep₁ hs e₁ => wpAny_pure ?_)
      have kk : ∀ c o, c ≠ r → s.heap.get? c = some o → h₁.get? c = some o := fun c o hc e => (hs.2 c hc).trans e
      refine step h₁ kk ?_
      exact next h₁ tk₁ ep₁ kk (by unfold addIf; rw [Int.toNat_natCast, if_pos hb]; exact e₁)
    | false =>
      rw [hb] at hq
      rw [if_neg (by rw [hq]; simp)]
      refine wpAny_pure ?_
      obtain ⟨hh', g, dd, tt, os⟩ := s
      refine step hh' (fun _ _ _ e => e) ?_
      exact next hh' tkr epr (fun _ _ _ e => e) (by unfold addIf; rw [Int.toNat_natCast, if_neg (by rw [hb]; simp)]; exact er)
theorem setO_inj {C C' : Value} {d d' : Option Addr} {led led' : Bool} (hS : S < 16) (hS' : S' < 16) (e : setO C d led S tk ep = setO C' d' led' S' tk' ep') : S = S' := by
  have := congrArg (fun o : Obj => match o.data with | .set _ _ t => t.place | _ => #[]) e
  have h2 : els S = els S' := by simpa [setO, tab] using this
  refine Nat.eq_of_testBit_eq fun j => ?_
  rw [Bool.eq_iff_iff, ← mem_els hS, ← mem_els hS', h2]
theorem inter_wp {id : String} {Q : Value → Shared → Prop} (C : Cx w β s) (mx : Mx M s.heap) (hx : s.heap.get? x = some (setO (setC own) d (ledOf w) S tk ep)) (hS : S < 16) (hy : s.heap.get? y = some (setO (setC own') d' (ledOf w) S' tk' ep')) (hS' : S' < 16)
    (h : ∀ v s', Cx w β s' → Kp s s' → Rep M s'.heap v (.set false (ledOf w) (S &&& S')) → Q v s') : Wp prog w A (Builtin.Frozenset.intersection id x (.ref y)) Q s := by
  have hn : s.heap.get? s.heap.objs.size = none := none_of_ge (Nat.le_refl _)
  unfold Builtin.Frozenset.intersection
  by_cases e : x = y
  · subst e
    rw [if_pos (by simp)]
    have := setO_inj hS hS' (Option.some.inj (hx.symm.trans hy))
    subst this
    exact copy_of (led := true) (C.new hn) C mx.offN hx hS fun v s' c k r => h v s' c k (by rw [Nat.and_self]; exact r)
  · rw [if_neg (by simpa using fun z => e z.symm)]
    refine wpAny_bind (base_of (X := C.K) hx ?_)
    refine wpAny_bind (new_set fun tk₀ => ?_)
    rw [addr_of]
    refine wpAny_bind (wpAny_pure ?_)
    refine wpAny_bind (wpAny_holding ?_)
    have kp : ∀ b o, s.heap.get? b = some o → (s.heap.push (setO (.type "set") none (ledOf w) 0 tk₀ 0)).get? b = some o := fun b o e => Heap.get?_push_of_some _ e
    have hr : (s.heap.push (setO (.type "set") none (ledOf w) 0 tk₀ 0)).get? s.heap.objs.size = some (setO (.type "set") none (ledOf w) 0 tk₀ 0) := Heap.get?_push_size _ rfl
    have C1 := C.push (setO (.type "set") none (ledOf w) 0 tk₀ 0)
    have hxr : x ≠ s.heap.objs.size := Nat.ne_of_lt (Heap.lt_size hx)
    have hyr : y ≠ s.heap.objs.size := Nat.ne_of_lt (Heap.lt_size hy)
    refine wpAny_bind (any_set (X := C1.K) (kp _ _ hy) ?_)
    simp only [if_true]
    rw [addr_of]
    refine wpAny_bind (wpAny_pure ?_)
    refine wpAny_bind (size_of (kp _ _ hy) hS' ?_)
    refine wpAny_bind (size_of (kp _ _ hx) hS ?_)
    have fin : ∀ h' tk'' ep'', (∀ c o, c ≠ s.heap.objs.size → (s.heap.push (setO (.type "set") none (ledOf w) 0 tk₀ 0)).get? c = some o → h'.get? c = some o) → h'.get? s.heap.objs.size = some (setO (.type "set") none (ledOf w) (S &&& S') tk'' ep'') → Q (.ref s.heap.objs.size) { s with heap := h' } := fun h' tk'' ep'' kk e' => by
      have k0 : ∀ b o, s.heap.get? b = some o → h'.get? b = some o := fun b o e => kk b o (Nat.ne_of_lt (Heap.lt_size e)) (kp b o e)
      exact h _ _ (CxH.keeps' C k0) (Kh.of k0) (.set (own := false) mx.offN (Nat.lt_of_le_of_lt Nat.and_le_left hS) e' fun _ => rfl)
    by_cases hz : (els S').length > (els S).length
    · simp only [if_pos hz]
      refine wpAny_bind (wpAny_setEpoch_of (kp _ _ hx) rfl (fits_tab hS) ?_)
      refine wpAny_bind (set_walk_unseen (kp _ _ hx) hS fun W hW => ?_)
      rw [← Array.forIn_toList]
      refine wpAny_bind (inter_loop (led := ledOf w) (Ca := setC own) (Cb := setC own') hS hS' hxr hyr (fun _ _ => rfl) W.toList 0 tk₀ 0 _ _ (mem_ents hW) (by decide) (kp _ _ hx) (kp _ _ hy) hr fun h' tk'' ep'' kk e' => ?_)
      rw [fold_and hS hW] at e'
      exact wpAny_pure (wpAny_pure (fin h' tk'' ep'' kk e'))
    · simp only [if_neg hz]
      refine wpAny_bind (wpAny_setEpoch_of (kp _ _ hy) rfl (fits_tab hS') ?_)
      refine wpAny_bind (set_walk_unseen (kp _ _ hy) hS' fun W hW => ?_)
      rw [← Array.forIn_toList]
      refine wpAny_bind (inter_loop (led := ledOf w) (Ca := setC own') (Cb := setC own) hS' hS hyr hxr (fun _ _ => rfl) W.toList 0 tk₀ 0 _ _ (mem_ents hW) (by decide) (kp _ _ hy) (kp _ _ hx) hr fun h' tk'' ep'' kk e' => ?_)
      rw [fold_and hS' hW, Nat.and_comm] at e'
      exact wpAny_pure (wpAny_pure (fin h' tk'' ep'' kk e'))
end
section
variable {w : World} {β : Pm} {n : Nat} {M M' : List Addr} {H h h' : Heap} {s s' : Shared} {prog : Pr} {A : Around} {E : Value → Shared → Prop}
variable {x y : Addr} {own own' : Bool} {S S' : Nat} {d d' : Option Addr} {tk tk' : Nat → Tok} {ep ep' : Nat}
theorem and_find (P : Params) (own : Bool) : findIn (Kf P) (setC own) "__and__" = some (some (.builtin "set.__and__")) := by cases own <;> kernel_rfl
theorem and_bind (v : Value) : bindSpecial (.builtin "set.__and__") v = pure (.builtin "set.__and__", [v]) := by kernel_rfl
theorem and_entry : entryFor table "set.__and__" = some Builtin.«frozenset.__and__» := entryFor_alias (id' := "frozenset.__and__") (by kernel_rfl) rfl (by decide +kernel) (by kernel_rfl)
theorem and_args (a b : Value) : argsOk "set.__and__" ⟨[a, b], []⟩ := by unfold argsOk; kernel_rfl
theorem fills_and {M : Model} (X : (Kf w.params).In h) (own : Bool) : Looks M h (fillsNumberSlot (setC own) "and") true := by
  cases own with
  | false => exact Looks.of_pure (by kernel_rfl)
  | true =>
    intro A Q E s k q
    have X' := X.keeps k
    obtain ⟨hh, g, d, tt, os⟩ := s
    have Lm := looks_mro75 (M := M) X'
    have L1 : Looks M hh (typeLookup (.ref 75) (PySem.dunder "and")) (some (.builtin "set.__and__")) := looks_findIn X' (by kernel_rfl)
    unfold setC fillsNumberSlot
    refine wpAny_bind (Lm.at ?_)
    rw [List.anyM_cons]
    refine wpAny_bind ?_
    show wpAny M A (List.anyM _ [PySem.dunder "and", dunderR "and"]) _ _ _
    rw [List.anyM_cons]
    refine wpAny_bind (wpAny_bind (L1.at ?_))
    dsimp only
    rw [if_neg (by rw [show ownNameWrapper (.builtin "set.__and__") (PySem.dunder "and") = true by kernel_rfl]; decide)]
    unfold inheritsSeqSlot
    refine wpAny_bind (wpAny_bind (Lm.at ?_))
    refine wpAny_of_eq (a := false) (by kernel_rfl) ?_
    refine wpAny_pure ?_
    simp only [Bool.not_false, if_true]
    exact wpAny_pure (wpAny_pure q)
theorem try_and {Q : Option Value → Shared → Prop} (C : Cx w β s) (mx : Mx M s.heap) (hx : s.heap.get? x = some (setO (setC own) d (ledOf w) S tk ep)) (hS : S < 16) (hy : s.heap.get? y = some (setO (setC own') d' (ledOf w) S' tk' ep')) (hS' : S' < 16)
    (h : ∀ v s', Cx w β s' → Kp s s' → Rep M s'.heap v (.set false (ledOf w) (S &&& S')) → Q (some v) s') : Wp prog w A (tryMethod (.ref x) (PySem.dunder "and") (.ref y)) Q s := by
  unfold tryMethod
  refine wpAny_bind (special_call (id := "set.__and__") (nm := "__and__") (Q := fun r s' => ∃ v, r = some v ∧ v ≠ .notImplemented ∧ Q (some v) s') C.K hx (fun own => and_find _ own) and_bind (by kernel_rfl) (by kernel_rfl) (by decide +kernel) and_entry (and_args _ _) ?_ |>.mono fun r s' z => ?_)
  · show wpAny _ A.in1 (Builtin.Frozenset.slot1 "__and__" ⟨[.ref x, .ref y], []⟩ >>= _) _ _ _
    unfold Builtin.Frozenset.slot1 slotArgs
    refine wpAny_bind (wpAny_pure ?_)
    dsimp only
    simp only [Bool.false_eq_true, if_false]
    unfold andM
    refine wpAny_bind (wpAny_bind (any_set (X := C.K) hx ?_))
    refine any_set (prog := prog) (X := C.K) hy ?_
    simp only [Bool.not_true, Bool.false_eq_true, if_false]
    rw [addr_of]
    refine wpAny_bind (wpAny_pure ?_)
    refine wpAny_bind (inter_wp C mx hx hS hy hS' fun v s' C' K' r' => ?_)
    obtain ⟨z, _, _, _, rfl, _⟩ := id r'.inv_set
    exact wpAny_pure ⟨_, rfl, _, rfl, by simp, h _ s' C' K' r'⟩
  · obtain ⟨v, rfl, hv, q⟩ := z
    cases v <;> first | exact absurd rfl hv | exact wpAny_pure q
theorem b1_and {a b : Bool} (hab : a = true → b = true) : B1 w β n "and" (.set a (ledOf w) S) (.set b (ledOf w) S') (.set false (ledOf w) (S &&& S')) := by
  intro prog A s M v u Q hA C mx rx ry h
  obtain ⟨x, d, tk, ep, rfl, _, hS, hx, _⟩ := id rx.inv_set
  obtain ⟨y, d', tk', ep', rfl, _, hS', hy, _⟩ := id ry.inv_set
  have tr := try_and (prog := prog) (A := A) (Q := fun r s' => ∃ v, r = some v ∧ Q v s') C mx hx hS hy hS' fun v s' C' K' r' => ⟨v, rfl, h v s' C' K' r'⟩
  have X := C.K
  by_cases e : setC a = setC b
  · exact bin1_same (set_typ hx) (e ▸ set_typ hy) (fills_and X a) (tr.mono fun r s' ⟨v, e, q⟩ => ⟨v, e, v, rfl, q⟩)
  · have hb : a = false ∧ b = true := by
      cases a with
      | true => rw [hab rfl] at e; exact absurd rfl e
      | false => cases b with
        | true => exact ⟨rfl, rfl⟩
        | false => exact absurd rfl e
    obtain ⟨rfl, rfl⟩ := hb
    refine bin1_diff (sub := true) (lip := false) (ro := none) (set_typ hx) (set_typ hy) (Bool.eq_false_iff.mpr fun q => e (beq_iff_eq.mp q)) (fills_and X false) (fills_and X true) (looks_subIn X (by kernel_rfl)) (fun _ {Q'} q => ?_) (Looks.of_pure rfl) (fun z => nomatch z) (tr.mono fun r s' ⟨v, e, q⟩ => .inl ⟨v, e, v, rfl, q⟩)
    have L6 : Looks (model prog.p w) s.heap (typeLookup (setC true) (dunderR "and")) (some (.builtin "set.__rand__")) := looks_findIn X (by kernel_rfl)
    have L7 : Looks (model prog.p w) s.heap (typeLookup (setC false) (dunderR "and")) (some (.builtin "set.__rand__")) := looks_findIn X (by kernel_rfl)
    unfold reflectedDiffers
    refine wpAny_bind (wpAny_of_eq (show numberSlotInPython (setC false) "and" = pure false from rfl) (wpAny_ite_true rfl (wpAny_bind (L6.at (wpAny_bind (L7.at (wpAny_pure ?_)))))))
    simpa using q
end
section
variable {w : World} {β : Pm} {n : Nat} {M M' : List Addr} {H h h' : Heap} {s s' : Shared} {prog : Pr} {A : Around} {E : Value → Shared → Prop}
theorem code_new_set (a : Value) {Q₁ : Value → Shared → Prop} (h : ∀ tk, Q₁ (.ref s.heap.objs.size) { s with heap := s.heap.push (setO (.type "set") none (ledOf w) 0 tk 0) }) :
    codeAny (model prog.p w) A (.call (.builtin "set.__new__") ⟨[.type "set", a], []⟩) (wants Q₁ E) s := by
  refine codeAny_of_tree ?_
  show wpAny _ A.in1 (do checkBuiltinCall "set.__new__" ⟨[.type "set", a], []⟩; again (.builtin "set.__new__" ⟨[.type "set", a], []⟩)) _ _ s
  refine wpAny_bind (wpAny_of_eq (PySem.F.newCall_set_1 a) (wpAny_pure ⟨plainId_quiet PySem.F.plain_set_new _, codeAny_builtin PySem.F.entry_set_new ?_⟩))
  rw [Around.under_plainId PySem.F.plain_set_new _]
  unfold Builtin.«set.__new__» Builtin.Frozenset.newClass
  have hsub := sub_set_self
  refine wpAny_bind ?_
  dsimp only
  have hty : (isType (.type "set") : Sem Bool) = pure true := rfl
  refine wpAny_bind (wpAny_of_eq hty ?_)
  simp only [Bool.not_true, Bool.false_eq_true, if_false]
  refine wpAny_bind (wpAny_of_eq hsub ?_)
  simp only [Bool.not_true, Bool.false_eq_true, if_false]
  refine wpAny_pure ?_
  dsimp only
  refine wpAny_bind (new_set fun tk => ?_)
  exact wpAny_pure (h tk)
theorem set_named {a : Addr} {tk : Nat → Tok} {Q : String → Shared → Prop} (ho : s.heap.get? a = some (setO (.type "set") none (ledOf w) 0 tk 0)) (hQ : ∀ x, Q x s) : Wp prog w A (typeNameOfCut 200 (.ref a)) Q s := by
  unfold typeNameOfCut shownTypeOf
  refine wpAny_bind (wpAny_bind (wpAny_typeOf (T := "set") ⟨_, ho, rfl⟩ ?_))
  rw [if_neg (by decide)]
  exact wpAny_pure (wpAny_pure (hQ _))
set_option maxHeartbeats 4000000 in
theorem cl_set {ns : List Nat} (hlt : ∀ k ∈ ns, k < 4) (hn : ns.length ≤ 100) : Cl w β n (.type "set") [.list (nL ns)] (.set false (ledOf w) (maskOf ns)) := by
  intro prog A s M vs Q hA C mx r hq
  obtain ⟨v, rfl, rv⟩ := r.one
  obtain ⟨l, its, rfl, hm, hl, rl⟩ := id rv.inv_list
  obtain ⟨c, tl, hmro⟩ := PySem.F.called_set.mro
  have hmade := PySem.F.called_set.made
  have hsub := PySem.F.called_set.sub
  refine wpAny_call (codeAny_of_tree ?_)
  show wpAny _ _ (callAny (.type "set") _) _ _ _
  refine wpAny_pure ⟨Code.quiet_builtin _ (by decide +kernel), codeAny_builtin PySem.F.entry_type_call ?_⟩
  rw [Around.under_plain (weight_type_call_type "set" [.ref l] []) rfl]
  have h1 := PySem.F.called_set.notType
  have h2 := PySem.F.called_set.canCreate
  have hct := PySem.F.typeCall_set_1 (.ref l)
  repeat (any_goals (first | assumption | wp_step))
  refine codeAny_mono (code_new_set (w := w) (prog := prog) (E := noE) (.ref l) (Q₁ := fun obj s₁ => ∃ tk, obj = .ref s.heap.objs.size ∧ s₁ = { s with heap := s.heap.push (setO (.type "set") none (ledOf w) 0 tk 0) }) fun tk => ⟨tk, rfl, rfl⟩) fun r s₁ hr => ?_
  cases r with
  | error e => exact hr
  | ok fl =>
    cases fl with
    | ret obj =>
      obtain ⟨tk, rfl, rfl⟩ := hr
      have hS : (s.heap.push (setO (.type "set") none (ledOf w) 0 tk 0)).get? s.heap.objs.size = some (setO (.type "set") none (ledOf w) 0 tk 0) := Heap.get?_push_size _ rfl
      have hT : Shared.TypeIs { s with heap := s.heap.push (setO (.type "set") none (ledOf w) 0 tk 0) } (.ref s.heap.objs.size) "set" := ⟨_, hS, rfl⟩
      have hli := PySem.F.called_set.init.lookup
      have hbi := PySem.F.called_set.init.bind (.ref s.heap.objs.size)
      repeat (any_goals (first | assumption | wp_step))
      have C1 := C.push (setO (.type "set") none (ledOf w) 0 tk 0)
      have hne : l ≠ s.heap.objs.size := by obtain ⟨j, e⟩ := hl; exact Nat.ne_of_lt (Heap.lt_size e)
      have rv1 : Rep M (s.heap.push (setO (.type "set") none (ledOf w) 0 tk 0)) (.ref l) (.list (nL ns)) := rv.kp (kp_push s _)
      have kq : ∀ h' tok', (∀ b o, b ≠ s.heap.objs.size → (s.heap.push (setO (.type "set") none (ledOf w) 0 tk 0)).get? b = some o → h'.get? b = some o) → (∃ tk' ep', h'.get? s.heap.objs.size = some (setO (.type "set") none (ledOf w) (maskOf ns) tk' ep')) → Q (.ref s.heap.objs.size) { s with heap := h', toks := tok' } := fun h' tok' k e => by
        obtain ⟨tk', ep', e⟩ := e
        have k0 : ∀ b o, s.heap.get? b = some o → h'.get? b = some o := fun b o e => k b o (Nat.ne_of_lt (Heap.lt_size e)) (Heap.get?_push_of_some _ e)
        exact hq _ _ (CxH.keeps' C k0) (Kh.of k0) (.set (own := false) mx.offN (mask_lt hlt) e fun _ => rfl)
      refine codeAny_mono (codeAny_call_builtin (R := wants (fun r s₂ => r = .none ∧ Q (.ref s.heap.objs.size) s₂) noE) PySem.F.called_set.init.plain PySem.F.entry_set_init (check_set_init_1 hT ?_)) fun r₂ s₂ hr₂ => ?_
      · refine wpAny_mono (set_init_body (prog := prog) (Q := fun fin s' => fin = .done (.ret .none) ∧ Q (.ref s.heap.objs.size) s') (A := A.in1.in1) hA.h C1 rv1 hlt (by simp [sizeLine]; omega) hS rfl (fun l' e => by cases e; exact hne) (fun hQ => ?_) fun h' tk' ep' tok' k e => ⟨rfl, kq h' tok' k ⟨tk', ep', e⟩⟩) (fun fin s' z => ?_) fun _ _ z => z
        · exact set_named hS hQ
        · obtain ⟨rfl, q⟩ := z
          exact ⟨rfl, q⟩
      · cases r₂ with
        | error e => exact hr₂
        | ok fl₂ =>
          cases fl₂ with
          | ret r =>
            obtain ⟨rfl, q⟩ := hr₂
            repeat (any_goals (first | assumption | wp_step))
          | _ => exact hr₂.elim
    | _ => exact hr.elim
end
theorem slot_setit_next : Slot "set_iterator" "__next__" "set_iterator.__next__" :=
  .of (owner := "set_iterator") (n := "__next__") (by rw [typeLookup_type, builtinLookup_eq_fast]; kernel_rfl) (by decide +kernel) (by decide +kernel) (by decide +kernel)
    (by first | exact .inl (by decide +kernel) | exact .inr (by decide +kernel)) (by rw [isSubtype_type]; kernel_rfl)
theorem entry_setit_next : entryFor table "set_iterator.__next__" = some Builtin.«set_iterator.__next__» := entryFor_of_tree (by kernel_rfl)
theorem args_setit_next (a : Value) : argsOk "set_iterator.__next__" ⟨[a], []⟩ := by unfold argsOk; kernel_rfl
theorem entry_set_iter : entryFor table "set.__iter__" = some Builtin.«frozenset.__iter__» := entryFor_alias (id' := "frozenset.__iter__") (by kernel_rfl) rfl (by decide +kernel) (by kernel_rfl)
noncomputable abbrev itO (x : Addr) (slot i n ep : Nat) : Obj := { cls := .type "set_iterator", data := .fields #[.int (slot : Nat) 0, .int (i : Nat) 0, .ref x, .int (n : Nat) 0, .int (ep : Nat) 0] }
theorem below_all : ∀ S < 16, ∀ i < 4, ((els S)[i]?).all (fun j => SetTable.below (els S).toArray (j + 1) == i + 1) = true := by decide +kernel
theorem below_next {S i j : Nat} (hS : S < 16) (e : (els S)[i]? = some j) : SetTable.below (els S).toArray (j + 1) = i + 1 := by
  have hi : i < 4 := Nat.lt_of_lt_of_le (List.getElem?_eq_some_iff.mp e).1 els_le
  have := below_all S hS i hi
  rw [e] at this; simpa using this
theorem below_zero {S : Nat} (hS : S < 16) : SetTable.below (els S).toArray 0 = 0 := (by decide +kernel : ∀ S < 16, SetTable.below (els S).toArray 0 = 0) S hS
section
variable {w : World} {β : Pm} {n : Nat} {M M' : List Addr} {H h h' : Heap} {s s' : Shared} {prog : Pr} {A : Around} {E : Value → Shared → Prop}
variable {x y : Addr} {own own' : Bool} {S S' : Nat} {d d' : Option Addr} {tk tk' : Nat → Tok} {ep ep' : Nat}
theorem set_drawn {C : Value} {led : Bool} {Q : Bool → Shared → Prop} (ho : s.heap.get? x = some (setO C d led S tk ep)) (hS : S < 16) (h : Q false s) : wpAny (model prog.p w) A (setDrawn x) Q E s := by
  unfold setDrawn
  refine wpAny_bind (wpAny_setState_of ho rfl (fits_tab hS) ?_)
  dsimp only
  refine wpAny_bind (by_text ?_)
  refine wpAny_pure ?_
  have : ∀ b : Bool, (!b && false) = false := by decide
  have e : ((!w.params.followText "set-order") && (!(tab led S).plain && decide ((ents S tk).size > 1))) = false := by
    show ((!w.params.followText "set-order") && (false && _)) = false
    rw [Bool.false_and, Bool.and_false]
  show Q ((!w.params.followText "set-order") && (!(tab led S).plain && decide ((ents S tk).size > 1))) s
  rw [e]; exact h
structure SetIt (w : World) (I x : Addr) (S i : Nat) (h : Heap) : Prop where
  at_ : ∃ slot ep own d tk, h.get? I = some (itO x slot i (els S).length ep) ∧ h.get? x = some (setO (setC own) d (ledOf w) S tk ep) ∧ SetTable.below (els S).toArray slot = (if w.params.followText "set-order" then 0 else i)
theorem set_next {slot i : Nat} {Q : Option (Value × Nat) → Shared → Prop} (ho : s.heap.get? x = some (setO (setC own) d (ledOf w) S tk ep)) (hS : S < 16) (hi : SetTable.below (els S).toArray slot = (if w.params.followText "set-order" then 0 else i))
    (hn : (els S).length ≤ i → Q none s) (hs : i < (els S).length → ∀ v slot', SetTable.below (els S).toArray slot' = (if w.params.followText "set-order" then 0 else i + 1) → Q (some (v, slot')) s) : wpAny (model prog.p w) A (setNext x slot i ep) Q E s := by
  unfold setNext
  refine wpAny_bind (wpAny_setState_of ho rfl (fits_tab hS) ?_)
  dsimp only
  refine wpAny_bind (by_text ?_)
  cases hb : w.params.followText "set-order" with
  | true =>
    rw [hb] at hi hs
    simp only [if_true] at hi hs ⊢
    rw [if_neg (by simp)]
    refine wpAny_bind (set_walk ho hS fun W hW => wpAny_pure ?_)
    have hsz : W.size = (els S).length := by rw [← size_ents (tk := tk), ← Array.length_toList, ← Array.length_toList, hW.length_eq]
    by_cases hlt : i < (els S).length
    · rw [Array.getElem?_eq_getElem (by rw [hsz]; exact hlt)]
      exact hs hlt _ _ hi
    · rw [Array.getElem?_eq_none (by rw [hsz]; omega)]
      exact hn (by omega)
  | false =>
    rw [hb] at hi hs
    simp only [Bool.false_eq_true, if_false] at hi hs ⊢
    have hl : ledOf w = true := by unfold ledOf; rw [hb]; rfl
    rw [hl]
    refine wpAny_bind (wpAny_pure ?_)
    refine wpAny_pure ?_
    show Q (match (ents S tk)[SetTable.below (els S).toArray slot]?, (els S).toArray[SetTable.below (els S).toArray slot]? with
      | some (_, x), some j => some (x, j + 1)
      | _, _ => none) s
    rw [hi]
    by_cases hlt : i < (els S).length
    · have e2 : (els S).toArray[i]? = some ((els S)[i]'hlt) := by simp [hlt]
      have e1 : (ents S tk)[i]? = some ((((els S)[i]'hlt : Nat) : Int), Value.int (((els S)[i]'hlt : Nat) : Int) (tk ((els S)[i]'hlt))) := by unfold ents; simp [hlt]
      rw [e1, e2]
      exact hs hlt _ _ (below_next hS (List.getElem?_eq_getElem hlt))
    · rw [Array.getElem?_eq_none (by rw [size_ents]; omega)]
      exact hn (by omega)
theorem SetIt.nn {I i : Nat} {h : Heap} (t : SetIt w I x S i h) : NN h I ∧ NN h x := by
  obtain ⟨slot, ep, own, d, tk, e1, e2, _⟩ := t.at_
  exact ⟨⟨_, e1, by simp⟩, ⟨_, e2, by cases own <;> simp [setO, setC]⟩⟩
theorem set_item {I i : Nat} {Q : Option Value → Shared → Prop} (hS : S < 16) (hi : i < (els S).length) (t : SetIt w I x S i s.heap) (hne : x ≠ I)
    (hQ : ∀ v h', SetIt w I x S (i + 1) h' → Heap.SameBut I s.heap h' → Q (some v) { s with heap := h' }) : wpAny (model prog.p w) A (pyNext (.ref I)) Q E s := by
  obtain ⟨slot, ep, own, d, tk, e1, e2, hb⟩ := t.at_
  have hT : s.TypeIs (.ref I) "set_iterator" := ⟨_, e1, rfl⟩
  unfold pyNext
  refine wpAny_bind (wpAny_attempt (wpAny_callSpecial?_slot (name := Str.ofString "__next__") hT slot_setit_next
    (wpAny_call_entry slot_setit_next hT entry_setit_next ?_ (args_setit_next _))))
  unfold Builtin.«set_iterator.__next__» slotArgs
  refine wpAny_bind (wpAny_pure ?_)
  dsimp only
  refine wpAny_bind (wpAny_fieldsOf e1 rfl ?_)
  dsimp only
  refine wpAny_bind (wpAny_setEntries_of e2 rfl (fits_tab hS) ?_)
  rw [size_ents, if_neg (by simp)]
  simp only [Int.toNat_natCast]
  refine wpAny_bind (set_next e2 hS hb (fun h => absurd hi (by omega)) fun _ v slot' hb' => ?_)
  dsimp only
  refine wpAny_bind (wpAny_setField e1 rfl (by simp) ?_)
  have g1 := Heap.get?_update_self (Obj.mapFields (·.setIfInBounds 0 (rawInt (slot' : Nat)))) e1 rfl
  refine wpAny_bind (wpAny_setField g1 rfl (by simp) ?_)
  have g2 := Heap.get?_update_self (Obj.mapFields (·.setIfInBounds 1 (rawInt ((i : Nat) + 1 : Int)))) g1 rfl
  have sb : Heap.SameBut I s.heap ((s.heap.update I (Obj.mapFields (·.setIfInBounds 0 (rawInt (slot' : Nat))))).update I (Obj.mapFields (·.setIfInBounds 1 (rawInt ((i : Nat) + 1 : Int))))) := (Heap.SameBut.update ..).trans (Heap.SameBut.update ..)
  exact wpAny_pure ⟨_, rfl, wpAny_pure (hQ v _ ⟨slot', ep, own, d, tk, g2, (sb.2 x hne).trans e2, hb'⟩ sb)⟩
theorem set_done {I : Nat} {Q : Option Value → Shared → Prop} (hh : A.handled = none) (hS : S < 16) (t : SetIt w I x S (els S).length s.heap) (hne : x ≠ I)
    (hQ : ∀ h', Heap.ExtBut I s.heap h' → Q none { s with heap := h' }) : wpAny (model prog.p w) A (pyNext (.ref I)) Q E s := by
  obtain ⟨slot, ep, own, d, tk, e1, e2, hb⟩ := t.at_
  have hT : s.TypeIs (.ref I) "set_iterator" := ⟨_, e1, rfl⟩
  unfold pyNext
  refine wpAny_bind (wpAny_attempt (wpAny_callSpecial?_slot (name := Str.ofString "__next__") hT slot_setit_next
    (wpAny_call_entry slot_setit_next hT entry_setit_next ?_ (args_setit_next _))))
  unfold Builtin.«set_iterator.__next__» slotArgs
  refine wpAny_bind (wpAny_pure ?_)
  dsimp only
  refine wpAny_bind (wpAny_fieldsOf e1 rfl ?_)
  dsimp only
  refine wpAny_bind (wpAny_setEntries_of e2 rfl (fits_tab hS) ?_)
  rw [size_ents, if_neg (by simp)]
  simp only [Int.toNat_natCast]
  refine wpAny_bind (set_next e2 hS hb (fun _ => ?_) fun h => absurd h (by omega))
  dsimp only
  refine wpAny_bind (wpAny_setField e1 rfl (by simp) ?_)
  show wpAny _ _ (newExc (.type "StopIteration") [] >>= _) _ _ _
  refine wpAny_bind ?_
  simp only [newExc, newTuple]
  refine wpAny_bind (wpAny_newObj_type ?_ (by size_fits))
  refine wpAny_bind (m := firstArgMember _ _) (wpAny_of_eq (a := Value.none) (by first | rfl | (simp only [firstArgMember]; rfl)) ?_)
  refine wpAny_newObj_type ?_ (by size_fits)
  simp only [raiseNew]
  refine wpAny_bind (wpAny_handled ?_)
  rw [show A.in1.handled = none from hh]
  refine wpAny_bind (wpAny_pure (wpAny_throw ?_))
  refine wpAny_bind (wpAny_isInstance (T := "StopIteration") (b := true) ⟨_, Heap.get?_push_size _ rfl, rfl⟩ isSubtype_stop ?_)
  exact wpAny_pure (hQ _ (((Heap.SameBut.update ..).extBut.push _).push _))
theorem itr_set {S : Nat} : Itr w β n (.set false (ledOf w) S) (List.replicate (els S).length .any) := by
  intro prog A s M v Q hA C mx r h
  obtain ⟨x, d, tk, ep, rfl, hm, hS, hx, hd⟩ := id r.inv_set
  have hT : s.TypeIs (.ref x) "set" := ⟨_, hx, rfl⟩
  have hlt : x < s.heap.objs.size := Heap.lt_size hx
  have hI : s.heap.get? s.heap.objs.size = none := none_of_ge (Nat.le_refl _)
  refine wpAny_pyIter_slot hT F.slot_set_iter (wpAny_call_entry F.slot_set_iter hT entry_set_iter ?_ (F.args_set_iter_1 _))
  unfold Builtin.«frozenset.__iter__» Builtin.Frozenset.slot0 slotArgs
  refine wpAny_bind (wpAny_bind (wpAny_pure ?_))
  dsimp only
  rw [addr_of]
  refine wpAny_pure ?_
  refine wpAny_bind (size_of (prog := prog) hx hS ?_)
  refine wpAny_bind (set_drawn hx hS ?_)
  simp only [Bool.false_eq_true, if_false]
  refine wpAny_bind (wpAny_pure ?_)
  refine wpAny_bind (wpAny_setEpoch_of hx rfl (fits_tab hS) ?_)
  refine wpAny_bind ?_
  unfold newFields
  refine wpAny_newObj_type ?_ (by size_fits)
  have e1 : (s.heap.push (itO x 0 0 (els S).length ep)).get? s.heap.objs.size = some (itO x 0 0 (els S).length ep) := Heap.get?_push_size _ rfl
  have hne : x ≠ s.heap.objs.size := Nat.ne_of_lt hlt
  refine wpAny_pure ⟨_, rfl, "set_iterator", _, ⟨_, e1, rfl⟩, slot_setit_next.lookup, ?_⟩
  refine h s.heap.objs.size _ [s.heap.objs.size, x] [s.heap.objs.size] (fun i _ _ => i < (els S).length) (SetIt w s.heap.objs.size x S) ?_ ⟨0, ep, false, d, tk, e1, Heap.get?_push_of_some _ hx, ?_⟩ (C.push _) (kp_push s _) (fun b hb => by cases List.mem_singleton.mp hb; exact hI) (fun b hb => ?_) fun i v h hp => ?_
  · rw [List.length_replicate]
    refine ⟨fun b hb => by cases List.mem_singleton.mp hb; exact List.mem_cons_self, fun i h h' t k => ?_, fun i h t b hb => ?_, fun i s' Q hi t C' hQ => ?_, fun s' Q t C' hQ => ?_⟩
    · obtain ⟨slot, ep, own, d, tk, e1, e2, hb⟩ := t.at_
      exact ⟨slot, ep, own, d, tk, k _ List.mem_cons_self _ e1, k _ (List.mem_cons_of_mem _ List.mem_cons_self) _ e2, hb⟩
    · rcases mcs hb with rfl | hb
      · exact t.nn.1
      · cases List.mem_singleton.mp hb; exact t.nn.2
    · refine set_item hS hi t hne fun v h' t' sb => ?_
      have k : ∀ b o, b ∉ [s.heap.objs.size] → s'.heap.get? b = some o → h'.get? b = some o := fun b o hb e => (sb.2 b (fun z => hb (by rw [z]; exact List.mem_cons_self))).trans e
      exact hQ v _ hi t' (CxH.but C' (wr := [s.heap.objs.size]) (fun b hb => by cases List.mem_singleton.mp hb; exact C.new hI) k) (Kw.of_but k)
    · refine set_done hA.h hS t hne fun h' sb => ?_
      have k : ∀ b o, b ∉ [s.heap.objs.size] → s'.heap.get? b = some o → h'.get? b = some o := fun b o hb e => (sb b o (fun z => hb (by rw [z]; exact List.mem_cons_self)) e)
      exact hQ _ (CxH.but C' (wr := [s.heap.objs.size]) (fun b hb => by cases List.mem_singleton.mp hb; exact C.new hI) k) (Kw.of_but k)
  · rw [below_zero hS]; simp
  · rcases mcs hb with rfl | hb
    · exact .inl List.mem_cons_self
    · cases List.mem_singleton.mp hb
      exact .inr ⟨hm, _, Heap.get?_push_of_some _ hx, stay_set (own := false)⟩
  · exact ⟨.any, by simp [hp], .any _⟩
end
theorem frac_scale {U L t : Nat} (ht : 0 < t) : fracOf (U * t) (L * t) = fracOf U L := by
  unfold fracOf
  rw [Nat.gcd_mul_right, Nat.mul_div_mul_right _ _ ht, Nat.mul_div_mul_right _ _ ht]
noncomputable def scP (K : Nat) : PV := if K = 0 then .int 0 else fracOf K 6
noncomputable def w6 : Nat → Nat
  | 0 => 0
  | 1 => 6
  | 2 => 9
  | _ => 11
section
variable {w : World} {β : Pm} {n : Nat} {sc : Scope} {ρ ρ' : PVs} {pos : Pos}
theorem frac_add {K j : Nat} (hK : 0 < K) (hj : j < 3) : fracOf (K / Nat.gcd K 6 * (j + 1) + 1 * (6 / Nat.gcd K 6)) (6 / Nat.gcd K 6 * (j + 1)) = fracOf (K + w6 (j + 1) - w6 j) 6 := by
  have hg : 0 < Nat.gcd K 6 := Nat.gcd_pos_of_pos_left _ hK
  have e1 : K / Nat.gcd K 6 * Nat.gcd K 6 = K := Nat.div_mul_cancel (Nat.gcd_dvd_left _ _)
  have e2 : 6 / Nat.gcd K 6 * Nat.gcd K 6 = 6 := Nat.div_mul_cancel (Nat.gcd_dvd_right _ _)
  rw [← frac_scale (U := K / Nat.gcd K 6 * (j + 1) + 1 * (6 / Nat.gcd K 6)) hg, Nat.add_mul, Nat.mul_right_comm, e1, Nat.one_mul, e2, Nat.mul_right_comm, e2, ← frac_scale (U := K + w6 (j + 1) - w6 j) (show 0 < j + 1 by omega)]
  congr 1
  match j, hj with
  | 0, _ => simp [w6]
  | 1, _ => simp [w6]; omega
  | 2, _ => simp [w6]; omega
theorem ip_sc {K j : Nat} (hK : K ≤ 1000) (hj : j < 3) : Ip w β (n + 5) .Add (scP K) (.frac (1 : Nat) ((j + 1 : Nat))) (scP (K + w6 (j + 1) - w6 j)) := by
  have hne : K + w6 (j + 1) - w6 j ≠ 0 := by
    match j, hj with
    | 0, _ => simp [w6]
    | 1, _ => simp [w6] <;> omega
    | 2, _ => simp [w6] <;> omega
  unfold scP
  rw [if_neg hne]
  by_cases h0 : K = 0
  · subst h0
    rw [if_pos rfl]
    have := ip_if (b1_iadd (w := w) (β := β) (n := n) (a := 1) (b := j + 1) (c := 0) (by omega))
    refine Eq.mp ?_ this
    congr 1
    match j, hj with
    | 0, _ => rfl
    | 1, _ => rfl
    | 2, _ => rfl
  · rw [if_neg h0, ← frac_add (by omega) hj]
    have hg : 0 < Nat.gcd K 6 := Nat.gcd_pos_of_pos_left _ (by omega)
    have g6 : Nat.gcd K 6 ≤ 6 := Nat.gcd_le_right _ (by decide)
    have b1 : K / Nat.gcd K 6 ≤ K := Nat.div_le_self _ _
    have b2 : 6 / Nat.gcd K 6 ≤ 6 := Nat.div_le_self _ _
    have b3 : 0 < 6 / Nat.gcd K 6 := Nat.div_pos g6 hg
    have m1 : K / Nat.gcd K 6 * (j + 1) ≤ 1000 * 3 := Nat.mul_le_mul (by omega) (by omega)
    have m2 : 6 / Nat.gcd K 6 * (j + 1) ≤ 6 * 3 := Nat.mul_le_mul (by omega) (by omega)
    have m3 : 0 < 6 / Nat.gcd K 6 * (j + 1) := Nat.mul_pos b3 (by omega)
    exact ip_ff (b1_add (n := n + 1) (by omega) (by omega))
noncomputable def sc6 (Cm : Nat) (Ss : List Nat) : Nat := (Ss.map fun S => w6 (els (Cm &&& S)).length).sum
theorem w6_le (k : Nat) : w6 k ≤ 11 := by
  match k with
  | 0 | 1 | 2 => decide
  | k + 3 => exact Nat.le_refl _
theorem sc6_le (Cm : Nat) (Ss : List Nat) : sc6 Cm Ss ≤ 11 * Ss.length := by
  unfold sc6
  induction Ss with
  | nil => simp
  | cons a l ih => have := w6_le (els (Cm &&& a)).length; simp only [List.map_cons, List.sum_cons, List.length_cons]; omega
theorem sc6_snoc {Cm : Nat} {Ss : List Nat} {i S : Nat} (h : Ss[i]? = some S) : sc6 Cm (Ss.take (i + 1)) = sc6 Cm (Ss.take i) + w6 (els (Cm &&& S)).length := by
  unfold sc6
  rw [List.take_add_one, h]
  simp
theorem cl_thiele {m : Nat} {ns Ss : List Nat} (hm : m ≤ 10) (hn : Ss.length ≤ 10) (hlt : ∀ k ∈ ns, k < 4) (hl : ns.length ≤ 100) (h3 : ∀ S ∈ Ss, (els (maskOf ns &&& S)).length ≤ 3) :
    Cl w β (n + 6) (.ref 531) [.str (EJ.S "pav"), prof (ledOf w) m Ss, .list (nL ns)] (scP (sc6 (maskOf ns) Ss)) := by
  refine cl_fn o531 [S "scorefct_id", S "profile", S "committee"] (by kernel_rfl) rfl (by kernel_rfl) ?_ (by kernel_rfl) (by kernel_rfl) (by kernel_rfl) rfl ?_
  · intro s vs h
    obtain ⟨a, b, c, rfl⟩ := len3 h
    exact BindsTo.of_eq (by with_unfolding_all rfl)
  show Sv _ _ _ _ [(S "committee", .list (nL ns)), (S "profile", prof (ledOf w) m Ss), (S "scorefct_id", .str (S "pav"))] _ _
  with_unfolding_all refine Sv.asg (.raw (.ref 545)) (.inl (by kernel_rfl)) (Ev.callR (f := .ref 524) (ps := [.str (S "pav"), .int ns.length]) kgget_marginal_scorefct (by walk_at "e") (Evs.cons (by kernel_rfl) (by walk_at "e") (Evs.cons (by kernel_rfl) ?_ Evs.nil)) cl_marginal) ?_
  · exact Ev.conv (Ev.callB (f := "len") (ps := [.list (nL ns)]) (by walk_at "e") (by walk_at "es") (by simp) (cl_len (by simp [nL]; omega))) (by simp [nL])
  refine Sv.asg (scP (sc6 (maskOf ns) (Ss.take 0))) (.inl (by kernel_rfl)) (Ev.conv Ev.int rfl) ?_
  refine Sv.cons (ρ₁ := (S "score", scP (sc6 (maskOf ns) Ss)) :: [(S "marginal_scorefct", .raw (.ref 545)), (S "committee", .list (nL ns)), (S "profile", prof (ledOf w) m Ss), (S "scorefct_id", .str (S "pav"))]) ?_ (Sv.last (S1.ret (by walk_at "e")))
  refine S1.forG (pi := prof (ledOf w) m Ss) (xs := Ss.map (voter (ledOf w))) (fun i => (S "score", scP (sc6 (maskOf ns) (Ss.take i))) :: [(S "marginal_scorefct", .raw (.ref 545)), (S "committee", .list (nL ns)), (S "profile", prof (ledOf w) m Ss), (S "scorefct_id", .str (S "pav"))]) (fun _ => none) (.inl (by kernel_rfl)) (by walk_at "e") itr_prof ⟨by walk_at "lk", by walk_at "lk", by walk_at "lk", by walk_at "lk", by walk_at "lk", trivial⟩ ?_ ?_ (fun _ _ _ _ h => by cases h)
  · intro i y hy _
    rw [List.getElem?_map] at hy
    obtain ⟨S', hS, rfl⟩ := Option.map_eq_some_iff.mp hy
    have hS3 := h3 S' (List.mem_of_getElem? hS)
    have hK := sc6_le (maskOf ns) (Ss.take i)
    have hi : (Ss.take i).length ≤ 10 := Nat.le_trans (List.length_take_le' _ _) hn
    refine Sv.asg (.int 0) (.inl (by kernel_rfl)) (by walk_at "e") ?_
    refine Sv.cons (ρ₁ := (S "score", scP (sc6 (maskOf ns) (Ss.take (i + 1)))) :: [(S "marginal_scorefct", .raw (.ref 545)), (S "committee", .list (nL ns)), (S "profile", prof (ledOf w) m Ss), (S "scorefct_id", .str (S "pav"))]) ?_ Sv.nil
    refine S1.sub (ρ₁ := ((S "score", scP (sc6 (maskOf ns) (Ss.take i) + w6 (els (maskOf ns &&& S')).length)) :: (S "cand_in_com", .int ((els (maskOf ns &&& S')).length : Nat)) :: (S "vote", voter (ledOf w) S') :: [(S "marginal_scorefct", .raw (.ref 545)), (S "committee", .list (nL ns)), (S "profile", prof (ledOf w) m Ss), (S "scorefct_id", .str (S "pav"))])) (S1.forG (r := .inl ((S "score", scP (sc6 (maskOf ns) (Ss.take i) + w6 (els (maskOf ns &&& S')).length)) :: (S "cand_in_com", .int ((els (maskOf ns &&& S')).length : Nat)) :: (S "vote", voter (ledOf w) S') :: [(S "marginal_scorefct", .raw (.ref 545)), (S "committee", .list (nL ns)), (S "profile", prof (ledOf w) m Ss), (S "scorefct_id", .str (S "pav"))])) (pi := .set false (ledOf w) (maskOf ns &&& S')) (xs := List.replicate (els (maskOf ns &&& S')).length .any) (fun j => (S "score", scP (sc6 (maskOf ns) (Ss.take i) + w6 j)) :: (S "cand_in_com", .int j) :: (S "vote", voter (ledOf w) S') :: [(S "marginal_scorefct", .raw (.ref 545)), (S "committee", .list (nL ns)), (S "profile", prof (ledOf w) m Ss), (S "scorefct_id", .str (S "pav"))]) (fun _ => none) (.inl (by kernel_rfl)) ?_ itr_set ?_ ?_ ?_ (fun _ _ _ _ h => by cases h)) ?_
    · refine Ev.bop (a := .set false (ledOf w) (maskOf ns)) (b := .set true (ledOf w) S') ?_ (Ev.attr clsV fo_approved rfl (by walk_at "e") (by walk_at "lk")) (b1_and (fun h => by cases h))
      exact Ev.callT (f := "set") (ps := [.list (nL ns)]) (by walk_at "e") (by walk_at "es") (by simp) (cl_set hlt hl)
    · exact ⟨lk_next (by kernel_rfl) (lk_next (by kernel_rfl) lk_here), lk_here, by walk_at "lk", by walk_at "lk", by walk_at "lk", by walk_at "lk", by walk_at "lk", trivial⟩
    · intro j y hy _
      have hj : j < 3 := by
        have := (List.getElem?_eq_some_iff.mp hy).1
        rw [List.length_replicate] at this
        omega
      refine Sv.cons (S1.aug (.inl (by kernel_rfl)) (by walk_at "lk") (by walk_at "e") ip_ii) ?_
      refine Sv.sub (Sv.cons (S1.aug (a := scP (sc6 (maskOf ns) (Ss.take i) + w6 j)) (b := .frac (1 : Nat) ((j + 1 : Nat))) (.inl (by kernel_rfl)) (by walk_at "lk") ?_ (ip_sc (by have := w6_le j; omega) hj)) Sv.nil) ?_
      · have e := b1_imul (w := w) (β := β) (n := n) (a := 1) (b := j + 1) (c := 1) (by omega) (by omega)
        refine Ev.conv (Ev.bop (a := .int ((1 : Nat) : Int)) (b := .frac ((1 : Nat) : Int) ((j + 1 : Nat) : Int)) (Ev.conv (p := .int 1) (Ev.attr clsV fo_weight rfl (by walk_at "e") (by walk_at "lk")) rfl) ?_ e) ?_
        · refine Ev.conv (Ev.callR (f := .ref 545) (ps := [.int ((j + 1 : Nat) : Int)]) kgpav_score_fct (by walk_at "e") (Evs.cons (by kernel_rfl) (Ev.conv (p := .int ((j : Int) + 1)) (by walk_at "e") rfl) Evs.nil) (cl_pav (by omega))) ?_
          unfold fracOf; simp
        · unfold fracOf; simp
      · refine ⟨?_, lk_next (by kernel_rfl) lk_here, by walk_at "lk", by walk_at "lk", by walk_at "lk", by walk_at "lk", by walk_at "lk", trivial⟩
        have e : sc6 (maskOf ns) (Ss.take i) + w6 j + w6 (j + 1) - w6 j = sc6 (maskOf ns) (Ss.take i) + w6 (j + 1) := by omega
        rw [e]
        exact lk_here
    · intro _
      rw [List.length_replicate]
    · rw [sc6_snoc hS]
      exact ⟨by walk_at "lk", by walk_at "lk", by walk_at "lk", by walk_at "lk", by walk_at "lk", trivial⟩
  · intro _
    rw [List.length_map, List.take_length]
end
structure Kz (fr : List Addr) (P : Addr → Prop) (h h' : Heap) : Prop where
  k : ∀ b o, ¬ P b → b ∉ fr → h.get? b = some o → o.cls ≠ .none → h'.get? b = some o
  x : ∀ b o, ¬ P b → b ∉ fr → h.get? b = some o → ∃ o', h'.get? b = some o'
  f : ∀ b o, ¬ P b → b ∈ fr → h.get? b = some o → o.cls ≠ .none → ∃ sl, h'.get? b = some { o with slots := sl }
theorem Kz.of_kh {fr : List Addr} {P : Addr → Prop} {h h' : Heap} (k : Kh h h') : Kz fr P h h' := ⟨fun b o _ _ e c => k.k b o e c, fun b o _ _ e => k.x b o e, fun b o _ _ e c => ⟨o.slots, k.k b o e c⟩⟩
theorem Kz.of_kw {fr : List Addr} {wr : List Addr} {h h' : Heap} (k : Kw wr h h') : Kz fr (· ∈ wr) h h' := ⟨fun b o n _ e c => k.k b o n e c, fun b o n _ e => k.x b o n e, fun b o n _ e c => ⟨o.slots, k.k b o n e c⟩⟩
theorem Kz.of_kb {fr : List Addr} {env : Env} {h h' : Heap} (k : Kb env h h') : Kz fr (fun b => b = env.locals ∨ ∃ x, env.cells.lookup x = some b) h h' :=
  ⟨fun b o n _ e c => k.k b o e c (fun z => n (.inl z)) fun x c l z => n (.inr ⟨x, z ▸ l⟩), fun b o _ _ e => k.x b o e, fun b o n _ e c => ⟨o.slots, k.k b o e c (fun z => n (.inl z)) fun x c l z => n (.inr ⟨x, z ▸ l⟩)⟩⟩
theorem Kz.refl (fr : List Addr) (P : Addr → Prop) (h : Heap) : Kz fr P h h := .of_kh (Kh.refl h)
theorem Kz.trans {fr : List Addr} {P : Addr → Prop} {a b c : Heap} (x : Kz fr P a b) (y : Kz fr P b c) : Kz fr P a c :=
  ⟨fun p o q r e n => y.k p o q r (x.k p o q r e n) n, fun p o q r e => let ⟨o', e'⟩ := x.x p o q r e; y.x p o' q r e', fun p o q r e n => let ⟨_, e'⟩ := x.f p o q r e n; let ⟨sl, e2⟩ := y.f p _ q r e' n; ⟨sl, e2⟩⟩
theorem Kz.more {fr fr' : List Addr} {P P' : Addr → Prop} {a b : Heap} (x : Kz fr P a b) (hP : ∀ y, P y → P' y ∨ a.get? y = none) (hf : ∀ y ∈ fr, y ∈ fr' ∨ a.get? y = none) : Kz fr' P' a b :=
  have nP : ∀ {p o}, ¬ P' p → a.get? p = some o → ¬ P p := fun q e z => (hP _ z).elim q fun z' => by rw [z'] at e; cases e
  ⟨fun p o q r e n => x.k p o (nP q e) (fun z => (hf p z).elim r fun z' => by rw [z'] at e; cases e) e n,
   fun p o q r e => x.x p o (nP q e) (fun z => (hf p z).elim r fun z' => by rw [z'] at e; cases e) e,
   fun p o q r e n => by
    by_cases z : p ∈ fr
    · exact x.f p o (nP q e) z e n
    · exact ⟨o.slots, x.k p o (nP q e) z e n⟩⟩
theorem Kz.wid {fr : List Addr} {P P' : Addr → Prop} {a b : Heap} (x : Kz fr P a b) (hP : ∀ y, P y → P' y) : Kz fr P' a b := x.more (fun y z => .inl (hP y z)) fun y z => .inl z
theorem Kz.from {fr : List Addr} {P : Addr → Prop} {h₀ h h' : Heap} (x : Kh h₀ h) (k : Kz fr P h h') (hP : ∀ y, P y → h₀.get? y = none) : Kz fr (fun _ => False) h₀ h' :=
  (Kz.trans (P := P) (.of_kh x) k).more (fun y z => .inr (hP y z)) fun y z => .inl z
theorem Kz.nn {fr : List Addr} {P : Addr → Prop} {h h' : Heap} (k : Kz fr P h h') {a : Addr} (n : NN h a) (hw : ¬ P a) : NN h' a := by
  obtain ⟨o, e, c⟩ := n
  by_cases z : a ∈ fr
  · obtain ⟨sl, e'⟩ := k.f a o hw z e c; exact ⟨_, e', c⟩
  · exact ⟨o, k.k a o hw z e c, c⟩
structure Stk (β : Pm) (A : Around) (h : Heap) (l : List Env) (fr : List Addr) : Prop where
  st : A.frames = some l
  le : l.map (·.frame) = fr.map some
  km : ∀ env ∈ l, env.scope.kind ≠ .module
  fa : ∀ b ∈ fr, β.H.get? b = none ∧ ∃ o, h.get? b = some o ∧ o.cls = .type "frame" ∧ ∀ vs, o.data ≠ .fields vs
section
variable {w : World} {β : Pm} {n : Nat} {sc : Scope} {ρ ρ' : PVs} {M M' : List Addr} {env : Env} {H h h' : Heap} {s s' : Shared} {B : Heap} {prog : Pr} {A : Around} {l : List Env} {fr : List Addr} {P : Addr → Prop}
theorem Stk.kz (K : Stk β A h l fr) (k : Kz fr P h h') (hP : ∀ b ∈ fr, ¬ P b) : Stk β A h' l fr :=
  ⟨K.st, K.le, K.km, fun b hb => by
    obtain ⟨a, o, e, c, d⟩ := K.fa b hb
    obtain ⟨sl, e'⟩ := k.f b o (hP b hb) hb e (by rw [c]; simp)
    exact ⟨a, _, e', c, d⟩⟩
theorem Stk.kh (K : Stk β A h l fr) (k : Kh h h') : Stk β A h' l fr := K.kz (P := fun _ => False) (.of_kh k) fun _ _ z => z
theorem Stk.there (K : Stk β A h l fr) {b : Addr} (hb : b ∈ fr) {o : Obj} (e : h.get? b = some o) : o.cls = .type "frame" := by
  obtain ⟨_, o', e', c, _⟩ := K.fa b hb
  rw [e'] at e; cases e; exact c
theorem Stk.has (K : Stk β A h l fr) {b : Addr} (hb : b ∈ fr) : ∃ o, h.get? b = some o := let ⟨_, o, e, _⟩ := K.fa b hb; ⟨o, e⟩
theorem Stk.deeper {ρv : Vars} (K : Stk β A h l fr) (F : Fm env sc β.H H h ρv) (hf : env.frame = some env.locals) : Stk β (A.deeper env) h (env :: l) (env.locals :: fr) where
  st := Around.frames_deeper K.st
  le := by rw [List.map_cons, List.map_cons, hf, K.le]
  km := fun e he => by
    rcases mcs he with rfl | he
    · rw [F.scope, F.kind]; simp
    · exact K.km e he
  fa := fun b hb => by
    rcases mcs hb with rfl | hb
    · obtain ⟨o, e, c⟩ := F.fcls
      obtain ⟨m, ⟨o', es, ep, e', d, _⟩, _⟩ := F.ns
      rw [e] at e'; cases e'
      exact ⟨F.lo.1, o, e, c, fun vs z => by rw [d] at z; cases z⟩
    · exact K.fa b hb
theorem funFrames_of {base : Heap} : ∀ {l : List Env} {fr : List Addr}, l.map (·.frame) = fr.map some → (∀ env ∈ l, env.scope.kind ≠ .module) → (∀ b ∈ fr, base.get? b = none ∧ ∃ o, h.get? b = some o ∧ ∀ vs, o.data ≠ .fields vs) → h.FunFrames base l
  | [], _, _, _, _ => trivial
  | env :: l, [], e, _, _ => by simp at e
  | env :: l, b :: fr, e, hk, ha => by
    rw [List.map_cons, List.map_cons, List.cons.injEq] at e
    obtain ⟨n, o, q, d⟩ := ha b (List.mem_cons_self ..)
    exact ⟨hk env (List.mem_cons_self ..), ⟨b, o, e.1, n, q, d⟩, funFrames_of e.2 (fun e he => hk e (List.mem_cons_of_mem _ he)) fun b hb => ha b (List.mem_cons_of_mem _ hb)⟩
theorem leave_new {e : Addr} {cls : String} {E : Value → Shared → Prop} {Q : Unit → Shared → Prop} (K : Stk β A h l fr) (C : CxH w β h s.gens s.os) (hl : ∃ r, l = env :: r) (hf : ∃ L, env.frame = Option.some L)
    (hx : Heap.MadeExc h s.heap e cls [])
    (hQ : ∀ h', CxH w β h' s.gens s.os → Kz fr (fun _ => False) h h' → (∃ o, h'.get? e = some o ∧ o.cls = .type cls) → Q () { s with heap := h' }) : wpAny (model prog.p w) A (leaving env (.ref e)) Q E s := by
  obtain ⟨r, rfl⟩ := hl
  obtain ⟨L, hf⟩ := hf
  obtain ⟨t, et, _⟩ := hx.there
  have kb : (hideAll h fr).StaysIn s.heap := fun b o q => hx.keeps b o (of_hideAll _ q)
  have en : (hideAll h fr).get? e = none := by
    cases q : (hideAll h fr).get? e with
    | none => rfl
    | some o => have := of_hideAll _ q; rw [hx.new] at this; cases this
  refine wpAny_leaving_first (base := hideAll h fr) K.st (funFrames_of K.le K.km fun b hb => ⟨hideAll_none _ hb, let ⟨_, o, q, _, d⟩ := K.fa b hb; ⟨o, hx.keeps b o q, d⟩⟩) hf et kb en rfl rfl fun h' hL => ?_
  obtain ⟨k1, _, ⟨oe, _, _, _, _, q1, q2, _⟩, k4⟩ := hL
  have kk : ∀ b o, b ∉ fr → h.get? b = some o → h'.get? b = some o := fun b o hb q => k1 b o (hideAll_get _ q hb)
  have ff : ∀ b o, b ∈ fr → h.get? b = some o → ∃ sl, h'.get? b = some { o with slots := sl } := fun b o hb q => by
    obtain ⟨_, o2, q2, _, d⟩ := K.fa b hb
    rw [q2] at q; cases q
    exact k4 b _ (hx.keeps b _ q2) d
  exact hQ h' (CxH.but C (wr := fr) (fun b hb => (K.fa b hb).1) kk) ⟨fun b o _ n q _ => kk b o n q, fun b o _ n q => ⟨o, kk b o n q⟩, fun b o _ n q _ => ff b o n q⟩ ⟨oe, q1, q2⟩
end
theorem new_envX {prog : Pr} {w : World} {A : Around} {β : Pm} {s : Shared} {sc : Scope} {binds : List (Str × Value)} {qual : Str} {func : Option Addr} {code : Value} {Q : Env → Shared → Prop}
    (C : Cx w β s) (hk : sc.kind = .function) (hb : kindOk sc binds = true)
    (h : ∀ env s', env.scope = sc → env.code = code → env.frame = some env.locals → env.func = func → env.qual = qual → (∀ x c, env.cells.lookup x = some c → s.heap.get? c = none) → Cx w β s' → Fm env sc β.H s.heap s'.heap binds.reverse → Q env s') :
    Wp prog w A (newFunctionEnv sc mainGlobals [] binds qual func code none builtinsNs) Q s := by
  simp only [newFunctionEnv, Option.isSome_none, Bool.false_eq_true, if_false]
  refine wpAny_bind (wpAny_alloc ?_)
  refine wpAny_bind (wpAny_layCells _ (fun name kind cells => by cases hkc : kind == NameKind.cell <;> simp [hkc]) _ _ _ _ ?_)
  have ok := cells_ok [] sc.names (s.heap.push { cls := .type "frame", data := .dict #[] }) (s.heap.objs.size + 1) [] ⟨fun n c hm => .inr hm, .nil⟩ (by rw [Heap.size_push]; exact Nat.le_refl _) (fun p hp => nomatch hp)
  rw [Heap.size_push] at ok
  rw [show ({ s with heap := s.heap.push { cls := .type "frame", data := .dict #[] } } : Shared).heap.objs.size = s.heap.objs.size + 1 from Heap.size_push ..]
  generalize hcs : cellsFrom (s.heap.objs.size + 1) sc.names [] = cs at ok ⊢
  have kp : ∀ b o, s.heap.get? b = some o → (pushCells (s.heap.push { cls := .type "frame", data := .dict #[] }) sc.names).get? b = some o := fun b o e => pushCells_keeps _ _ b o (Heap.get?_push_of_some _ e)
  have fr : (pushCells (s.heap.push { cls := .type "frame", data := .dict #[] }) sc.names).get? s.heap.objs.size = some { cls := .type "frame", data := .dict #[] } := pushCells_keeps _ _ _ _ (Heap.get?_push_size _ rfl)
  have cellAt : ∀ x, sc.names.lookup x = some .cell → ∃ c, cs.lookup x = some c ∧ s.heap.objs.size < c ∧ (pushCells (s.heap.push { cls := .type "frame", data := .dict #[] }) sc.names).get? c = some cellO := fun x hx => by
    have q := cellsFrom_some sc.names (s.heap.objs.size + 1) [] (.inl hx)
    rw [hcs] at q
    obtain ⟨c, hc⟩ := Option.isSome_iff_exists.mp q
    rcases ok.at' x c (mem_of_lookup hc) with z | z
    · exact ⟨c, hc, z.2, z.1⟩
    · cases z
  refine wpAny_bind (bind_all (β := β) (H := s.heap) (env := { scope := sc, locals := s.heap.objs.size, globals := mainGlobals, cells := cs, qual := qual, func := func, code := code, frame := some s.heap.objs.size, builtins := builtinsNs })
    _ (fun _ _ _ => rfl) binds [] _ _ (C.keeps' kp) ?_ hb fun s' C' F' => wpAny_pure (h _ s' rfl rfl rfl rfl rfl ?_ C' (by rwa [List.append_nil] at F')))
  · refine { scope := rfl, kind := hk, glb := rfl, bns := rfl, lo := ⟨C.new (none_of_ge (Nat.le_refl _)), none_of_ge (Nat.le_refl _)⟩, ns := ⟨_, ⟨_, _, _, fr, rfl, fun _ he => by simp at he, fun _ => rfl⟩, fun x v _ e => (nomatch e)⟩, fcls := ⟨_, fr, rfl⟩, cel := fun x hx => ?_, fre := fun _ _ _ e => (nomatch e), apart := fun x y c hx hy => name_of_addr ok.apart (mem_of_lookup hx) (mem_of_lookup hy), off := fun x c hx => ?_, kept := Kh.of kp, cex := fun x c hx => ?_ }
    · obtain ⟨c, a, b, d⟩ := cellAt x hx
      exact ⟨c, none, a, ⟨C.new (none_of_ge (Nat.le_of_lt b)), none_of_ge (Nat.le_of_lt b), Nat.ne_of_gt b⟩, ⟨_, d, rfl, rfl⟩, fun u e => by cases e⟩
    · rcases ok.at' x c (mem_of_lookup hx) with z | z
      · exact Nat.ne_of_gt z.2
      · cases z
    · rcases ok.at' x c (mem_of_lookup hx) with z | z
      · exact ⟨_, z.1, rfl, by simp⟩
      · cases z
  · intro x c hx
    rcases ok.at' x c (mem_of_lookup hx) with z | z
    · exact none_of_ge (Nat.le_of_succ_le z.2)
    · cases z
theorem code_defX {prog : Pr} {w : World} {A : Around} {β : Pm} {s : Shared} {f : Addr} {st : Stmt} {nm qual : Str} {dV pm cdv ct : Value} {pos : List Value} {kw : List (Str × Value)} {binds : List (Str × Value)} {R : Result → Shared → Prop} (o : Obj)
    (C : Cx w β s) (hR : A.depth < recursionLimit)
    (ho : (Kf w.params).lookup f = some o) (hd : o.data = .func (fnX nm qual (fdA st) (fdB st) (fdS st) [] dV .none .none pm none cdv ct)) (hcd : codeIn (Kf w.params) cdv qual = true)
    (hb : BindsTo s (fnX nm qual (fdA st) (fdB st) (fdS st) [] dV .none .none pm none cdv ct) ⟨pos, kw⟩ binds) (hk : kindOk (fdS st) binds = true)
    (hsc : ((fdS st).isCoroutine == false && (fdS st).isGenerator == false) = true) (hkf : (fdS st).kind = .function)
    (h : ∀ env s', env.code = cdv → env.frame = some env.locals → (∀ x c, env.cells.lookup x = some c → s.heap.get? c = none) → Cx w β s' → Fm env (fdS st) β.H s.heap s'.heap binds.reverse →
      wpAny (model prog.p w) (A.deeper env) (execs (fdB st) env) (fun fl s'' => R (.ok (.ret (match fl with | .ret v => v | _ => .none))) s'')
        (fun e s'' => wpAny (model prog.p w) (A.deeper env) (leaving env e) (fun _ s₃ => R (.error e) s₃) (fun e' s₃ => R (.error e') s₃) s'') s') :
    codeAny (model prog.p w) A (.call (.ref f) ⟨pos, kw⟩) R s := by
  simp only [Bool.and_eq_true, beq_iff_eq] at hsc
  refine codeAny_call_function hR (C.K _ _ ho) hd hsc.1 hsc.2 rfl (codeRec_of C.K hcd) (hb _ _ _ _ ?_)
  refine Wp.any (new_envX C hkf hk fun env s' e1 e2 e3 e4 e5 e6 C' F' => ⟨C'.lim, codeAny_func ?_⟩)
  exact h env s' e2 e3 e6 C' F'
section
variable {w : World} {β : Pm} {n : Nat} {sc : Scope} {ρ ρ' : PVs} {M M' : List Addr} {env : Env} {H h h' : Heap} {s s' : Shared} {B : Heap} {prog : Pr} {A : Around} {l : List Env} {fr : List Addr} {P : Addr → Prop}
theorem call_defX {f : Addr} {st : Stmt} {nm qual : Str} {dV pm cdv ct : Value} {pos : List Value} {kw : List (Str × Value)} {binds : List (Str × Value)} {Q : Value → Shared → Prop} (o : Obj)
    (C : Cx w β s) (hR : A.depth < recursionLimit)
    (ho : (Kf w.params).lookup f = some o) (hd : o.data = .func (fnX nm qual (fdA st) (fdB st) (fdS st) [] dV .none .none pm none cdv ct)) (hcd : codeIn (Kf w.params) cdv qual = true)
    (hb : BindsTo s (fnX nm qual (fdA st) (fdB st) (fdS st) [] dV .none .none pm none cdv ct) ⟨pos, kw⟩ binds) (hk : kindOk (fdS st) binds = true)
    (hsc : ((fdS st).isCoroutine == false && (fdS st).isGenerator == false) = true) (hkf : (fdS st).kind = .function)
    (h : ∀ env s', env.code = cdv → env.frame = some env.locals → (∀ x c, env.cells.lookup x = some c → s.heap.get? c = none) → Cx w β s' → Fm env (fdS st) β.H s.heap s'.heap binds.reverse →
      Wp prog w (A.deeper env) (execs (fdB st) env) (fun fl s'' => Q (match fl with | .ret v => v | _ => .none) s'') s') :
    Wp prog w A (call (.ref f) pos kw) Q s :=
  wpAny_call (code_defX o C hR ho hd hcd hb hk hsc hkf fun env s' a b c d e => wpAny_mono (h env s' a b c d e) (fun _ _ q => q) fun _ _ e => e.elim)
theorem Fm.kz {ρv : Vars} (F : Fm env sc B H h ρv) (hw : ∀ b, P b → b ≠ env.locals ∧ (∀ x c, env.cells.lookup x = some c → c ≠ b) ∧ H.get? b = none) (hf : ∀ b ∈ fr, (∀ x c, env.cells.lookup x = some c → c ≠ b) ∧ H.get? b = none) (k : Kz fr P h h') : Fm env sc B H h' ρv := by
  have nl : ¬ P env.locals := fun z => (hw _ z).1 rfl
  obtain ⟨ol, el, cl⟩ := F.fcls
  have kl : ∃ sl, h'.get? env.locals = some { ol with slots := sl } := by
    by_cases z : env.locals ∈ fr
    · exact k.f _ ol nl z el (by rw [cl]; simp)
    · exact ⟨ol.slots, k.k _ ol nl z el (by rw [cl]; simp)⟩
  obtain ⟨sl, el'⟩ := kl
  have kn : ∀ m, h.Ns env.locals m → h'.Ns env.locals m := fun m ⟨o, es, ep, e, d, r⟩ => by
    rw [el] at e; cases e
    exact ⟨_, es, ep, el', d, r⟩
  have kc : ∀ {x c}, env.cells.lookup x = some c → ∀ o, h.get? c = some o → h'.get? c = some o := fun {x c} q o e => k.k _ o (fun z => (hw _ z).2.1 x c q rfl) (fun z => (hf _ z).1 x c q rfl) e (by obtain ⟨o', e', _, z⟩ := F.cex x c q; rw [e'] at e; cases e; exact z)
  have kH : ∀ {b o}, H.get? b = some o → ¬ P b ∧ b ∉ fr := fun e => ⟨(fun z => by rw [(hw _ z).2.2] at e; cases e), (fun z => by rw [(hf _ z).2] at e; cases e)⟩
  exact { F with
    ns := let ⟨m, n, f⟩ := F.ns; ⟨m, kn m n, f⟩
    fcls := ⟨_, el', cl⟩
    cel := fun x e => let ⟨c, v, a, b, ⟨o, eo, r⟩, d⟩ := F.cel x e; ⟨c, v, a, b, ⟨o, kc a _ eo, r⟩, d⟩
    fre := fun x v a b => by
      rcases F.fre x v a b with ⟨q, ⟨o', e', c'⟩, m, n, r⟩ | ⟨q, c, q2, ⟨o', e', c'⟩, o, eo, d⟩
      · exact .inl ⟨q, ⟨_, el', by rw [e'] at el; cases el; exact c'⟩, m, kn m n, r⟩
      · exact .inr ⟨q, c, q2, ⟨o', kc q2 _ e', c'⟩, o, kc q2 _ eo, d⟩
    kept := ⟨fun b o e c => k.k b o (kH e).1 (kH e).2 (F.kept.k b o e c) c, fun b o e => by
      obtain ⟨o', e'⟩ := F.kept.x b o e
      exact k.x b o' (kH e).1 (kH e).2 e'⟩
    cex := fun x c e => let ⟨o, q, z⟩ := F.cex x c e; ⟨o, kc e _ q, z⟩ }
theorem Kz.d (k : Kz fr P h h') (hM : ∀ b, P b → b ∈ M) (hs : ∀ b ∈ fr, ∀ o, h.get? b = some o → stay o = false) : D M h h' := fun b o e q nb => k.k b o (fun z => nb (hM b z)) (fun z => by rw [hs b z o e] at q; cases q) e (stay_ne q)
theorem Stk.st0 (K : Stk β A h l fr) : ∀ b ∈ fr, ∀ o, h.get? b = some o → stay o = false := fun b hb o e => by
  have := K.there hb e
  unfold stay; rw [this]; rfl
theorem FP.kz (F : FP M B env sc H h ρ) (K : Stk β A h l fr) (hM : ∀ b, P b → b ∈ M) (hw : ∀ b, P b → b ≠ env.locals ∧ (∀ x c, env.cells.lookup x = some c → c ≠ b) ∧ H.get? b = none) (hf : ∀ b ∈ fr, (∀ x c, env.cells.lookup x = some c → c ≠ b) ∧ H.get? b = none) (k : Kz fr P h h') (hM' : ∀ a ∈ M', a ∈ M ∧ (¬ P a ∨ NN h' a)) : FP M' B env sc H h' ρ := by
  obtain ⟨m, ρv, f, r⟩ := F
  refine ⟨fun a ha => ?_, ρv, f.kz hw hf k, (r.mono (k.d hM K.st0)).more fun a ha => .inl (hM' a ha).1⟩
  obtain ⟨x, y⟩ := hM' a ha
  rcases y with y | y
  · exact k.nn (m a x) y
  · exact y
end
section
variable {w : World} {β : Pm} {n : Nat} {sc : Scope} {ρ ρ' : PVs} {M M' : List Addr} {env : Env} {H h h' : Heap} {s s' : Shared} {B : Heap} {prog : Pr} {A : Around} {pos : Pos}
theorem co_is_type {X Y : String} : Co w β n .Is (.raw (.type X)) (.raw (.type Y)) (Value.type X == Value.type Y) := fun _ _ _ _ _ _ _ hA C _ x y h' => by
  cases x.inv_raw; cases y.inv_raw
  exact wpAny_pure (a := Value.bool (Value.type X == Value.type Y)) (h' _ C (kp_refl _))
theorem Ev.orT {e f : Expr} (h1 : Ev w β n sc ρ e (.bool true)) : Ev w β n sc ρ (.BoolOp .Or [e, f] pos) (.bool true) := by
  intro prog A env s M Q hA C L h
  refine BoolOp_or (h1 hA C L fun v s₁ C₁ K₁ r₁ => ?_)
  cases r₁.inv_bool
  exact wpAny_truthy_bool (by simp only [if_true]; exact h _ s₁ C₁ K₁ (.bool true))
theorem cl_type_int {i : Int} : Cl w β n (.type "type") [.int i] (.raw (.type "int")) := by
  intro prog A s M vs Q hA C mx r h
  obtain ⟨v, rfl, r₁⟩ := r.one
  obtain ⟨t, rfl⟩ := r₁.inv_int
  exact call_type_of (typeIs_int s i t) (by decide) (h _ _ C (kp_refl _) (.raw _))
theorem cl_isint {i : Int} : Cl w β (n + 1) (.ref 93) [.int i] (.bool true) := by
  refine cl_fn o93 [S "x"] (by kernel_rfl) rfl (by kernel_rfl) ?_ (by kernel_rfl) (by kernel_rfl) (by kernel_rfl) rfl ?_
  · intro s vs h
    obtain ⟨a, rfl⟩ := len1 h
    exact BindsTo.of_eq (by with_unfolding_all rfl)
  show Sv _ _ _ _ [(S "x", .int i)] _ _
  with_unfolding_all refine Sv.asg (.raw (.type "int")) (.inl (by kernel_rfl)) (Ev.callT (f := "type") (ps := [.int i]) (by walk_at "e") (by walk_at "es") (by simp) cl_type_int) ?_
  exact Sv.last (S1.ret (Ev.orT (Ev.cmp (by walk_at "e") (by walk_at "e") co_is_type)))
theorem kg_isint : keepIn (Kf w.params) (.ref 93) = true := by kernel_rfl
theorem cl_fnN {f : Addr} {st : Stmt} {nm qual : Str} {dV pm cdv : Value} {ps : List PV} (o : Obj) (names : List Str)
    (ho : (Kf w.params).lookup f = some o) (hd : o.data = .func (fnX nm qual (fdA st) (fdB st) (fdS st) [] dV .none .none pm none cdv .none)) (hcd : codeIn (Kf w.params) cdv qual = true)
    (hb : ∀ s vs, vs.length = names.length → BindsTo s (fnX nm qual (fdA st) (fdB st) (fdS st) [] dV .none .none pm none cdv .none) ⟨vs, []⟩ (names.zip vs))
    (hk : names.all (fun y => (fdS st).names.lookup y == some .local || (fdS st).names.lookup y == some .cell) = true)
    (hsc : ((fdS st).isCoroutine == false && (fdS st).isGenerator == false) = true) (hkf : (fdS st).kind = .function) (hn : ps.length = names.length)
    (h : Sv w β n (fdS st) (names.zip ps).reverse (fdB st) (.inl ρ)) : Cl w β (n + 1) (.ref f) ps (.raw .none) := by
  intro prog A s M vs Q hA C mx rl hq
  have hl : vs.length = names.length := by rw [rl.at.1, hn]
  refine call_def (binds := names.zip vs) o C hA.lt ho hd hcd (hb s vs hl) ?_ hsc hkf (fun _ h => (nomatch h)) rfl .nil fun env s' _ _ _ _ C' F' => ?_
  · unfold kindOk
    rw [List.all_eq_true] at hk ⊢
    intro y hy
    exact hk y.1 (List.of_mem_zip hy).1
  · refine h (M := M) hA.deeper C' ⟨fun a ha => (mx a ha).kh F'.kept, _, F', ((RepL.zip rl).rev).mono (D.of_kh F'.kept)⟩ fun fl s'' C'' D'' R'' => ?_
    obtain ⟨rfl, F''⟩ := R''
    exact hq _ _ C'' F''.kept (.raw _)
theorem cl_whole {r : Nat} {x : Str} (hr : r ≤ 1000) : Cl w β (n + 2) (.ref 100) [.int r, .int 999999, .str x] (.raw .none) := by
  refine cl_fnN (ρ := []) o100 [S "x", S "top", S "what"] (by kernel_rfl) rfl (by kernel_rfl) ?_ (by kernel_rfl) (by kernel_rfl) (by kernel_rfl) rfl ?_
  · intro s vs h
    obtain ⟨a, b, c, rfl⟩ := len3 h
    exact BindsTo.of_eq (by with_unfolding_all rfl)
  show Sv _ _ _ _ [(S "what", .str x), (S "top", .int 999999), (S "x", .int r)] _ _
  with_unfolding_all refine Sv.cons (ρ₁ := [(S "top", .int 999999), (S "x", .int r)]) ?_ (Sv.cons (ρ₁ := []) ?_ Sv.nil)
  · refine S1.sub (S1.if (c := !true) (Tv.not (Tv.bool (Ev.callR (f := .ref 93) (ps := [.int r]) kg_isint (by walk_at "e") (by walk_at "es") cl_isint))) (fun h => by cases h) fun _ => Sv.nil) ⟨by walk_at "lk", by walk_at "lk", trivial⟩
  · refine S1.sub (S1.if (c := false || false) (Tv.or (Tv.cmp (by walk_at "e") (by walk_at "e") (co_gt (decide_eq_false (by omega)))) fun _ => ?_) (fun h => by cases h) fun _ => Sv.nil) trivial
    exact Tv.cmp (by walk_at "e") (Ev.neg Ev.int) (co_lt (decide_eq_false (by omega)))
theorem cl_tuple {xs : List PV} (hx : xs.length ≤ 100) : Cl w β n (.type "tuple") [.list xs] (.tup xs) := by
  intro prog A s M vs Q hA C mx r h
  obtain ⟨v, rfl, r₁⟩ := r.one
  obtain ⟨l, its, rfl, hm, hl, rl⟩ := r₁.inv_list
  have hz : its.size = xs.length := by rw [← rl.at.1, Array.length_toList]
  refine call_tuple_list hl.isList (fun h' k' => ?_) (by simp [sizeLine]; omega)
  have k : ∀ b o, s.heap.get? b = some o → (h'.push { cls := .type "tuple", data := .seq its }).get? b = some o := fun b o e => Heap.get?_push_of_some _ (k' b o e)
  have n1 : h'.objs.size ∉ M := fun z => by
    obtain ⟨o, e, _⟩ := mx _ z
    exact absurd (Heap.lt_size (k' _ _ e)) (Nat.lt_irrefl _)
  exact h _ _ (C.kp k) (Kh.of k) (Rep.of_tup n1 ⟨0, Heap.get?_push_size _ rfl⟩ (rl.mono (D.of k)))
end
noncomputable def flat : PV → Bool
  | .raw _ => true
  | .int _ => true
  | .bool _ => true
  | .str _ => true
  | .any => true
  | _ => false
noncomputable def flatE (ρ : PVs) : Bool := ρ.all fun p => flat p.2
section
variable {w : World} {β : Pm} {n : Nat} {sc : Scope} {ρ ρ' : PVs} {M M' : List Addr} {env : Env} {H h h' : Heap} {s s' : Shared} {B : Heap} {prog : Pr} {A : Around} {pos : Pos}
theorem Rep.flat {v : Value} {p : PV} (r : Rep M h v p) (hf : EJ.flat p = true) : Rep M' h' v p := by
  cases r with
  | any v => exact .any v
  | raw v => exact .raw v
  | int n t => exact .int n t
  | bool b => exact .bool b
  | str x t => exact .str x t
  | _ => cases hf
theorem RepE.flat {r : List (Str × Value)} (x : RepE M h r ρ) (hf : flatE ρ = true) : RepE M' h' r ρ := by
  induction x with
  | nil => exact .nil
  | cons a _ ih =>
    unfold flatE at hf
    rw [List.all_cons, Bool.and_eq_true] at hf
    exact .cons (a.flat hf.1) (ih hf.2)
theorem FP.flatM (F : FP M B env sc H h ρ) (hf : flatE ρ = true) (mx : Mx M' h) : FP M' B env sc H h ρ := by
  obtain ⟨m, ρv, f, r⟩ := F
  exact ⟨mx, ρv, f, r.flat hf⟩
theorem FP.unre {x : Str} {p : PV} (F : FP M B env sc H h ρ) (hl : ρ.lookup x = some p) : ∃ v, Rep M h v p ∧ FP M B env sc H h ((x, .raw v) :: ρ) := by
  obtain ⟨m, ρv, f, re⟩ := F
  obtain ⟨v, e, r'⟩ := re.lookup hl
  refine ⟨v, r', m, (x, v) :: ρv, f.sub fun y u e' => ?_, .cons (.raw v) re⟩
  rw [lk_cons] at e'
  by_cases z : y = x
  · rw [if_pos z] at e'; cases e'; rw [z]; exact e
  · rw [if_neg z] at e'; exact e'
theorem while_gen {test : Expr} {body : List Stmt} {R : Result → Shared → Prop} (k : Nat) (Inv : Nat → Shared → Prop) (i0 : Inv 0 s)
    (turn : ∀ i s', i < k → Inv i s' → Wp prog w A (isTrue test env (eval test env)) (fun b s₂ => b = true ∧ Wp prog w A (execs body env) (fun f s₃ => match f with
      | .next | .cont => Inv (i + 1) s₃
      | .brk => False
      | .ret v => R (.ok (.ret v)) s₃) s₂) s')
    (fin : ∀ s', Inv k s' → Wp prog w A (isTrue test env (eval test env)) (fun b s₂ => b = false ∧ R (.ok .next) s₂) s') : codeAny (model prog.p w) A (.whileLoop test body [] env) R s := by
  refine codeAny_whileLoop (fun m s' => ∃ i, Inv i s' ∧ i ≤ k ∧ m = k - i) ?_ k ⟨0, i0, Nat.zero_le _, rfl⟩
  rintro m s' ⟨i, iv, hi, rfl⟩
  by_cases hlt : i < k
  · refine Wp.any ((turn i s' hlt iv).mono fun b s₂ h₂ => ?_)
    obtain ⟨rfl, h₂⟩ := h₂
    simp only [if_true]
    refine Wp.any (h₂.mono fun f s₃ h₃ => ?_)
    cases f with
    | next => exact ⟨k - (i + 1), by omega, i + 1, h₃, hlt, rfl⟩
    | cont => exact ⟨k - (i + 1), by omega, i + 1, h₃, hlt, rfl⟩
    | brk => exact h₃.elim
    | ret v => exact h₃
  · have : i = k := by omega
    subst this
    refine Wp.any ((fin s' iv).mono fun b s₂ h₂ => ?_)
    obtain ⟨rfl, h₂⟩ := h₂
    simp only [Bool.false_eq_true, if_false]
    exact wpAny_execs_nil h₂
theorem asg_nil {x : Str} {xp lp pos : Pos} {rest : List Stmt} {Q : Flow → Shared → Prop} (hk : sc.names.lookup x = some .local ∨ sc.names.lookup x = some .cell) (C : Cx w β s) (F : FP M β.H env sc H s.heap ρ)
    (k : ∀ L s₁, s.heap.get? L = none → Cx w β s₁ → FP (L :: M) β.H env sc H s₁.heap ((x, .raw (.ref L)) :: ρ) → Kb env s.heap s₁.heap → SeqAt s₁.heap "list" L #[] → Wp prog w A (execs rest env) Q s₁)
    (hs : ∀ env : Env, env.kindOf x = sc.names.lookup x → swapsWith (.List [] lp) (some (.Name x xp)) pos.line env = pure false := by intro _ _; rfl) :
    Wp prog w A (execs (.Assign [.Name x xp] (.List [] lp) pos :: rest) env) Q s := by
  refine wpAny_execs_cons (wpAny_Assign_Name (wpAny_List (wpAny_items_nil ⟨by simp [sizeLine], ?_⟩)) (hs env (F.kind x)))
  have hn : s.heap.get? s.heap.objs.size = none := none_of_ge (Nat.le_refl _)
  have F₁ := F.kp (kp_push s { cls := .type "list", data := .seq #[] })
  have e1 : (s.heap.push { cls := .type "list", data := .seq #[] }).get? s.heap.objs.size = some { cls := .type "list", data := .seq #[] } := Heap.get?_push_size _ rfl
  have F₂ : FP (s.heap.objs.size :: M) β.H env sc H (s.heap.push { cls := .type "list", data := .seq #[] }) ρ := F.grow (fun a ha => by
    rcases mcs ha with rfl | ha
    · exact .inr hn
    · exact .inl ha) (kp_push s _) fun a ha => by
    rcases mcs ha with rfl | ha
    · exact ⟨_, e1, by simp⟩
    · exact F₁.1 a ha
  refine store_p (s := { s with heap := s.heap.push { cls := .type "list", data := .seq #[] } }) (C.push _) F₂ (.raw _) hk fun s₁ C₁ F₃ D₁ => ?_
  exact k _ s₁ hn C₁ F₃ ((Kb.of_kp (kp_push s _)).trans D₁) ⟨0, F₂.stay D₁ e1 rfl⟩
end
section
variable {w : World} {β : Pm} {n : Nat} {sc : Scope} {ρ ρ' : PVs} {M M' : List Addr} {env : Env} {H h h' : Heap} {s s' : Shared} {B : Heap} {prog : Pr} {A : Around} {pos : Pos}
theorem ints_snoc {vs : List Value} {ns : List Int} {k : Int} {t : Tok} (h : IntsAre vs ns) : IntsAre (vs ++ [.int k t]) (ns ++ [k]) := by
  induction h with
  | nil => exact .cons k t .nil
  | cons n u r ih => exact .cons n u ih
theorem cl_picked {Pl idx : List Int} {pk : List Int} (hn : Pl.length ≤ 100) (hi : idx.length ≤ 100) (hp : pk.length = idx.length) (hk : ∀ (j : Nat) (a : Int), pk[j]? = some a → ∃ i : Nat, idx[j]? = some (i : Int) ∧ Pl[i]? = some a) :
    Cl w β (n + 1) (.ref 107) [.tup (iL Pl), lI idx, .int idx.length] (.tup (iL pk)) := by
  intro prog A s M vs Q hA C mx rl hq
  obtain ⟨v1, v2, v3, rfl, r1, r2, r3⟩ : ∃ v1 v2 v3, vs = [v1, v2, v3] ∧ Rep M s.heap v1 (.tup (iL Pl)) ∧ Rep M s.heap v2 (lI idx) ∧ Rep M s.heap v3 (.int idx.length) := by
    cases rl with
    | cons a rl => cases rl with
      | cons b rl => cases rl with
        | cons c rl => cases rl; exact ⟨_, _, _, rfl, a, b, c⟩
  refine call_def (binds := [(S "pool", v1), (S "indices", v2), (S "r", v3)]) o107 C hA.lt (by kernel_rfl) rfl (by kernel_rfl) (BindsTo.of_eq (by with_unfolding_all rfl)) (by kernel_rfl) (by kernel_rfl) (by kernel_rfl) (fun _ h => (nomatch h)) rfl .nil fun env s₁ _ _ _ _ C₁ F₁ => ?_
  have F : FP M β.H env (fdS (st1 8)) s.heap s₁.heap [(S "r", .int idx.length), (S "indices", lI idx), (S "pool", .tup (iL Pl))] := ⟨fun a ha => (mx a ha).kh F₁.kept, _, F₁, .cons (r3.mono (D.of_kh F₁.kept)) (.cons (r2.mono (D.of_kh F₁.kept)) (.cons (r1.mono (D.of_kh F₁.kept)) .nil))⟩
  have hA1 : Ok (A.deeper env) n := hA.deeper
  with_unfolding_all refine asg_nil (.inl (by kernel_rfl)) C₁ F fun L s₂ nL C₂ F₂ k₂ e₂ => ?_
  refine S1.step (ρ₁ := [(S "i", .int ((0 : Nat) : Int)), (S "result", .raw (.ref L)), (S "r", .int idx.length), (S "indices", lI idx), (S "pool", .tup (iL Pl))]) (S1.assign (p := .int ((0 : Nat) : Int)) (.inl (by kernel_rfl)) (Ev.conv Ev.int rfl)) hA1 C₂ F₂ fun s₃ C₃ F₃ k₃ => ?_
  have hLs : s.heap.get? L = none := Kh.none F₁.kept nL
  have hLB : β.H.get? L = none := C.new hLs
  obtain ⟨j₂, q₂⟩ := e₂
  have e₃ : SeqAt s₃.heap "list" L #[] := ⟨j₂, F₂.stay k₃ q₂ rfl⟩
  refine wpAny_execs_cons (wpAny_While (while_gen (prog := prog) (w := w) pk.length (fun i s' => Cx w β s' ∧ FP (L :: M) β.H env (fdS (st1 8)) s.heap s'.heap [(S "i", .int (i : Nat)), (S "result", .raw (.ref L)), (S "r", .int idx.length), (S "indices", lI idx), (S "pool", .tup (iL Pl))] ∧ ∃ its, SeqAt s'.heap "list" L its ∧ IntsAre its.toList (pk.take i)) ⟨C₃, F₃, #[], e₃, .nil⟩ ?_ ?_))
  · rintro i s' hi' ⟨C', F', its, eL, ii⟩
    refine Tv.cmp (by walk_at "e") (by walk_at "e") (co_lt (decide_eq_true (by omega))) (by with_unfolding_all rfl) hA1 C' F'.ld fun s₄ C₄ K₄ => ⟨rfl, ?_⟩
    have hits : its.size ≤ 1000 := by
      have h1 : its.toList.length = (pk.take i).length := ii.length
      have := List.length_take_le' i pk
      rw [Array.length_toList] at h1
      omega
    obtain ⟨j, hj1, hj2⟩ := hk i _ (List.getElem?_eq_getElem hi')
    have hjn : j < Pl.length := (List.getElem?_eq_some_iff.mp hj2).1
    have eL4 : SeqAt s₄.heap "list" L its := by obtain ⟨q, e⟩ := eL; exact ⟨q, K₄.k _ _ e (by simp)⟩
    refine wpAny_execs_cons (wpAny_Expr_any ?_ (by unfold interactive; rw [F'.blk]; rfl))
    refine append_step (p := .int pk[i]) (by walk_at "e") ?_ hA1 C₄ (F'.kp K₄) (List.mem_cons_self ..) eL4 hits hLB hLs (fun u s₅ C₅ k₅ F₅ e₅ r₅ => ?_) (by rfl) (by rfl) (by rfl) (by rfl)
    · refine Ev.atT (xs := iL Pl) (k := j) (by unfold iL; rw [List.getElem?_map, hj2]; rfl) (by omega) (by walk_at "e") ?_
      exact Ev.at (xs := iL idx) (k := i) (by unfold iL; rw [List.getElem?_map, hj1]; rfl) (by omega) (by walk_at "e") (by walk_at "e")
    obtain ⟨t, rfl⟩ := r₅.inv_int
    refine S1.step (ρ₁ := [(S "i", .int ((i + 1 : Nat) : Int)), (S "result", .raw (.ref L)), (S "r", .int idx.length), (S "indices", lI idx), (S "pool", .tup (iL Pl))]) ?_ hA1 C₅ F₅ fun s₆ C₆ F₆ k₆ => wpAny_execs_nil ⟨C₆, F₆, its.push (.int pk[i] t), ?_, ?_⟩
    · exact S1.sub (S1.aug (c := .int ((i : Int) + 1)) (.inl (by kernel_rfl)) (by walk_at "lk") (by walk_at "e") ip_ii) ⟨lk_here, by walk_at "lk", by walk_at "lk", by walk_at "lk", by walk_at "lk", trivial⟩
    · obtain ⟨q, e⟩ := e₅; exact ⟨q, F₅.stay k₆ e rfl⟩
    · rw [Array.toList_push, List.take_add_one, List.getElem?_eq_getElem hi']
      exact ints_snoc ii
  · rintro s' ⟨C', F', its, eL, ii⟩
    refine Tv.cmp (by walk_at "e") (by walk_at "e") (co_lt (decide_eq_false (by omega))) (by with_unfolding_all rfl) hA1 C' F'.ld fun s₄ C₄ K₄ => ⟨rfl, ?_⟩
    rw [List.take_length] at ii
    have eL4 : SeqAt s₄.heap "list" L its := by obtain ⟨q, e⟩ := eL; exact ⟨q, K₄.k _ _ e (by simp)⟩
    have F₅ := ((F'.kp K₄).less (M' := M) fun a ha => List.mem_cons_of_mem _ ha).re (x := S "result") (by walk_at "lk") (Rep.of_list (mx.off hLs) eL4 (RepL.of_ints ii))
    refine Sv.last (S1.ret (Ev.callT (f := "tuple") (ps := [.list (iL pk)]) (by walk_at "e") (by walk_at "es") (by simp) (cl_tuple (by simp [iL]; omega)))) hA1 C₄ F₅ fun fl s₅ C₅ K₅ R₅ => ?_
    obtain ⟨v, rfl, rv, kh⟩ := R₅
    exact hq v s₅ C₅ kh rv
end
noncomputable abbrev slO (dx : Addr) (sl : Array (Option Value)) : Obj := { cls := .ref 140, dict := some dx, data := .plain, slots := sl }
noncomputable def slPut (i : Nat) (v : Value) (sl : Array (Option Value)) : Array (Option Value) := (sl ++ Array.replicate (i + 1 - sl.size) none).setIfInBounds i (some v)
structure Sl (P : Params) (y : Str) (p : Addr) (i : Nat) : Prop where
  hp : slotIn (Kf P) p 140 = some i
  ha : findIn (Kf P) (.ref 140) y = some (some (.ref p))
  hn : specialIn (Kf P) (.ref p) "__get__" = some (some (.builtin "member_descriptor.__get__"))
  ht : takesIn (Kf P) (.ref p) = some true
  hk : takerIn (Kf P) 140 y = some (some (.ref p))
  hT : typeIn (Kf P) (.ref p) = some (.type "member_descriptor")
  hi : i < 1000
theorem sl_first (P : Params) : Sl P (S "_first") 141 0 := ⟨by kernel_rfl, by kernel_rfl, by kernel_rfl, by kernel_rfl, by kernel_rfl, by kernel_rfl, by decide⟩
theorem sl_indices (P : Params) : Sl P (S "_indices") 142 1 := ⟨by kernel_rfl, by kernel_rfl, by kernel_rfl, by kernel_rfl, by kernel_rfl, by kernel_rfl, by decide⟩
theorem sl_pool (P : Params) : Sl P (S "_pool") 143 2 := ⟨by kernel_rfl, by kernel_rfl, by kernel_rfl, by kernel_rfl, by kernel_rfl, by kernel_rfl, by decide⟩
theorem sl_r (P : Params) : Sl P (S "_r") 144 3 := ⟨by kernel_rfl, by kernel_rfl, by kernel_rfl, by kernel_rfl, by kernel_rfl, by kernel_rfl, by decide⟩
theorem sl_stopped (P : Params) : Sl P (S "_stopped") 145 4 := ⟨by kernel_rfl, by kernel_rfl, by kernel_rfl, by kernel_rfl, by kernel_rfl, by kernel_rfl, by decide⟩
section
open PySem.Calls Builtin Builtin.ObjectAttr Builtin.Getset_descriptor
variable {prog : Program} {w : World} {A : Around} {s : Shared} {K : Frag} {p x C : Addr} {R : Result → Shared → Prop}
theorem slot_setO {ox : Obj} {od : Option Obj} {v : Value} {p i : Nat} (X : K.In s.heap) (I : InstAt s.heap x ox C od)
    (hp : slotIn K p C = some i) (hi : i < 1000) (h : R (.ok (.ret .none)) { s with heap := s.heap.update x fun o => { o with slots := slPut i v o.slots } }) :
    codeAny (model prog w) A (.call (.builtin "member_descriptor.__set__") ⟨[.ref p, .ref x, v], []⟩) R s := by
  obtain ⟨n, tn, owner, behind, tb, d, sl, cd, ho, hc, hm, hb, rfl⟩ := slot_of X hp
  obtain ⟨hh, g, dr, t, os⟩ := s
  have L0 := I.type (M := model prog w)
  have L1 := looks_mroIn (M := model prog w) X hm
  have L2 : Looks (model prog w) hh (Slots.slotNamesOf (.ref C)) cd.slotNames := (looks_clsIn X hc).andThen .now
  have hx := I.at_
  dsimp only at ho hx L0 L1
  have f0 := looks_field (M := model prog w) ho 0 (v := .str n tn) rfl
  have f1 := looks_field (M := model prog w) ho 1 (v := owner) rfl
  have f3 := looks_field (M := model prog w) ho 3 (v := .builtin "proto.slot#set") rfl
  have f4 := looks_field (M := model prog w) ho 4 (v := .int behind tb) rfl
  refine codeAny_call_builtin KF.slot_mset.plain KF.entry_mset (KF.slot_mset.check _ _ _ _ _ _ _ _ ⟨_, ho, rfl⟩ (KF.args_mset _ _ _) ?_)
  unfold Builtin.«member_descriptor.__set__» descrSet descrStoreThrough descrCheckInstance descrNameAndClass isInstance
  have f5 : Looks (model prog w) hh (descrItself (.ref p)) [.ref p] := ((Looks.ld (part := none) ho).andThen .now).andThen (Looks.of_pure (by kernel_rfl))
  repeat lk
  refine ⟨Code.quiet_builtin _ (by decide +kernel), codeAny_builtin KF.entry_slotset ?_⟩
  unfold Builtin.«proto.slot#set» Slots.target
  repeat lk
  rw [if_neg hb]
  refine wpAny_pure (wpAny_bind ?_)
  unfold setSlotAt
  dsimp only
  rw [if_neg (by rw [sizeLine_eq]; omega)]
  exact wpAny_updatePart hx (wpAny_pure h)
end
section
variable {w : World} {β : Pm} {n : Nat} {sc : Scope} {ρ ρ' : PVs} {M M' : List Addr} {env : Env} {H h h' : Heap} {s s' : Shared} {B : Heap} {prog : Pr} {A : Around} {pos : Pos} {x dx p : Addr} {sl : Array (Option Value)} {y : Str} {i : Nat} {v : Value}
theorem sl_inst (hx : h.get? x = some (slO dx sl)) (hd : ∃ od, h.get? dx = some od) : ∃ od, InstAt h x (slO dx sl) 140 (some od) := by
  obtain ⟨od, e⟩ := hd
  exact ⟨od, hx, rfl, rfl, e⟩
theorem sl_get {expr : Bool} {Q : Value → Shared → Prop} (Y : Sl w.params y p i) (X : (Kf w.params).In s.heap) (hx : s.heap.get? x = some (slO dx sl)) (hd : ∃ od, s.heap.get? dx = some od) (hv : (sl[i]?).join = some v) (hh : handedIn v = true) (h : Q v { s with toks := s.toks + 1 }) : Wp prog w A (getAttr (.ref x) y expr) Q s := by
  obtain ⟨od, I⟩ := sl_inst hx hd
  exact get_bind X I (by kernel_rfl) (findObj_data (by kernel_rfl) Y.ha Y.hn Y.ht) (by kernel_rfl) (wpAny_call (slot_get (s := { s with toks := s.toks + 1 }) X I Y.hp hv (handed_on hh h)))
theorem sl_attr {e : Expr} {pos : Pos} {Q : Value → Shared → Prop} (Y : Sl w.params y p i) (h1 : Ev w β n sc ρ e (.raw (.ref x))) (hA : Ok A n) (C : Cx w β s) (L : Ld M env sc s.heap ρ) (hx : s.heap.get? x = some (slO dx sl)) (hd : ∃ od, s.heap.get? dx = some od) (hv : (sl[i]?).join = some v) (hh : handedIn v = true) (h : ∀ s', Cx w β s' → Kp s s' → Q v s')
    (he : ∀ env, eval (.Attribute e y pos) env = (do
      let o ← eval e env
      standAt pos.atName
      let r ← holding [o] (getAttr o y true)
      letTemporaryGo e o r
      pure r) := by intro _; with_unfolding_all rfl) : Wp prog w A (eval (.Attribute e y pos) env) Q s := by
  refine Attribute_any_ (h1 hA C L fun u s₁ C₁ K₁ r₁ => ?_) (he env)
  cases r₁.inv_raw
  obtain ⟨od, ed⟩ := hd
  exact sl_get Y C₁.K (K₁.k _ _ hx (by simp)) (K₁.x _ _ ed) hv hh (h _ (Cx.tk C₁) (kp_trans K₁ (kp_tok _ _)))
theorem sl_put {Q : Unit → Shared → Prop} (Y : Sl w.params y p i) (X : (Kf w.params).In s.heap) (hx : s.heap.get? x = some (slO dx sl)) (hd : ∃ od, s.heap.get? dx = some od)
    (h : ∀ h', Heap.SameBut x s.heap h' → h'.get? x = some (slO dx (slPut i v sl)) → Q () { s with heap := h', toks := s.toks + 1 }) : Wp prog w A (setAttr (.ref x) y v) Q s := by
  obtain ⟨od, I⟩ := sl_inst hx hd
  refine set_plain X I (by kernel_rfl) (osa_descr (s := { s with toks := s.toks + 1 }) KF.slot_mset X I (by kernel_rfl) Y.hk Y.hT (slot_setO (s := { s with toks := s.toks + 1 }) X I Y.hp Y.hi ?_))
  exact h _ (Heap.SameBut.update ..) (Heap.get?_update_self _ hx rfl)
theorem sl_step {np ap pos : Pos} {self : Str} {value : Expr} {rest : List Stmt} {Q : Flow → Shared → Prop} (V : Value → Heap → Prop) (Y : Sl w.params y p i) (hA : Ok A n) (C : Cx w β s) (F : FP M β.H env sc H s.heap ρ) (hx : s.heap.get? x = some (slO dx sl)) (hd : ∃ od, s.heap.get? dx = some od) (hM : x ∈ M) (hH : H.get? x = Option.none) (hB : β.H.get? x = Option.none)
    (hv : ∀ Q' : Value → Shared → Prop, (∀ val s₁, Cx w β s₁ → Kp s s₁ → V val s₁.heap → Q' val s₁) → Wp prog w A (eval value env) Q' s) (hs : Ev w β n sc ρ (.Name self np) (.raw (.ref x)))
    (hV : ∀ val h h', V val h → (∀ b o, b ≠ x → h.get? b = some o → o.cls ≠ .none → h'.get? b = some o) → V val h')
    (k : ∀ s₁ val, Cx w β s₁ → FP M β.H env sc H s₁.heap ρ → V val s₁.heap → s₁.heap.get? x = some (slO dx (slPut i val sl)) → Kw [x] s.heap s₁.heap → Wp prog w A (execs rest env) Q s₁)
    (hsw : ∀ env, swapsWith value (some (.Attribute (.Name self np) y ap)) pos.line env = pure false := by intro _; rfl) :
    Wp prog w A (execs (.Assign [.Attribute (.Name self np) y ap] value pos :: rest) env) Q s := by
  refine wpAny_execs_cons (plainObj_wpAny_Assign_Attribute (hv _ fun val s₁ C₁ K₁ r₁ => hs hA C₁ (F.kp K₁).ld fun sv s₂ C₂ K₂ r₂ => ?_) (hsw env))
  cases r₂.inv_raw
  have K := kp_trans K₁ K₂
  have hx₂ : s₂.heap.get? x = some (slO dx sl) := K.k _ _ hx (by simp)
  obtain ⟨od, ed⟩ := hd
  refine sl_put Y C₂.K hx₂ (K.x _ _ ed) fun h' hs' hx' => ?_
  have k3 : ∀ b o, b ∉ [x] → s₂.heap.get? b = some o → h'.get? b = some o := fun b o hb e => (hs'.2 b (by simpa using hb)).trans e
  have F₂ := F.kp K
  refine k _ val (CxH.step C₂ hB hs') (F₂.turn hM (F₂.off hx₂ rfl hH) hs' ⟨_, hx', by simp⟩) (hV val s₁.heap h' r₁ fun b o hb e q => (hs'.2 b hb).trans (K₂.k b o e q)) hx' ((Kw.of_kh K).trans (Kw.of_but k3))
end
structure CombOk (x dx I T : Addr) : Prop where
  xI : x ≠ I
  tn : T ∉ [x, I]
  dn : dx ∉ [x, I]
structure CombAt (x dx I T : Addr) (few : List Int) (g : Nat) (first : Bool) (idx : List Int) (h : Heap) : Prop where
  ob : ∃ t, h.get? x = some (slO dx #[some (.bool first), some (.ref I), some (.ref T), some (.int (g : Nat) t), some (.bool false)])
  dd : ∃ od, h.get? dx = some od ∧ stay od = true
  ix : ∃ its, SeqAt h "list" I its ∧ IntsAre its.toList idx
  tp : ∃ vs, SeqAt h "tuple" T vs ∧ IntsAre vs.toList few
section
variable {w : World} {β : Pm} {n : Nat} {sc : Scope} {ρ ρ' : PVs} {M M' : List Addr} {env : Env} {H h h' : Heap} {s s' : Shared} {B : Heap} {prog : Pr} {A : Around} {pos : Pos}
theorem callT_wp {x : Str} {np : Pos} {f : String} {es : List Expr} {ps : List PV} {Q : Value → Shared → Prop} (hf : Ev w β n sc ρ (.Name x np) (.raw (.type f))) (he : Evs w β n sc ρ es ps) (hne : es ≠ []) (hA : Ok A n) (C : Cx w β s) (L : Ld M env sc s.heap ρ)
    (h : ∀ vs s₁, Cx w β s₁ → Kp s s₁ → RepL M s₁.heap vs ps → Wp prog w A (call (.type f) vs) Q s₁) : Wp prog w A (eval (.Call (.Name x np) es [] pos) env) Q s := by
  refine wpAny_Call_NameR (hf hA C L fun v s₁ C₁ K₁ r₁ => ?_)
  cases r₁.inv_raw
  refine PyProof.Rows.callWith_type (evs_plain he) ?_
  cases es with
  | nil => exact (hne rfl).elim
  | cons e rest =>
    have q : starEach (e :: rest) env = (false, eval e env) :: starEach rest env := by
      cases ps with
      | nil => exact he.elim
      | cons _ _ => exact he.1 env rest
    have run := evs_run (pos := pos) (prog := prog) (Q := fun vs s' => Wp prog w A (call (.type f) ([] ++ vs)) Q s') he hA C₁ (L.kp K₁) fun vs s' C' K' r' => h vs s' C' (kp_trans K₁ K') r'
    rw [q] at run ⊢
    exact Calls.evalArgs_plain run
theorem S1.expr {e : Expr} {p : PV} (h1 : Ev w β n sc ρ e p) (hf : sc.kind = .function) (hs : ∀ env, swapsWith e none pos.line env = pure false := by intro _; rfl) : S1 w β n sc ρ (.Expr e pos) (.inl ρ) := by
  intro prog A env s H M Q hA C F h
  refine wpAny_Expr_any (h1 hA C F.ld fun v s' C' K' r => h _ s' C' (Kb.of_kp K') ⟨rfl, F.kp K'⟩) ?_ (hs env)
  unfold interactive; rw [F.blk]; rfl
theorem cl_len_tup {xs : List PV} (hn : xs.length < 2 ^ 62) : Cl w β n (.builtin "len") [.tup xs] (.int xs.length) := by
  intro prog A s M vs Q hA C mx r h
  obtain ⟨v, rfl, r₁⟩ := r.one
  obtain ⟨a, its, rfl, _, hl, rl⟩ := r₁.inv_tup
  have hz : its.size = xs.length := by rw [← rl.at.1, Array.length_toList]
  obtain ⟨j, e⟩ := hl
  refine PyProof.Rows.len_tuple ⟨_, e, rfl, _, rfl⟩ (by rw [hz]; omega) ?_
  rw [hz]
  exact h _ _ (Cx.tk C) (kp_tok s _) (.int _ _)
theorem sl_all (a b c d e : Value) : slPut 4 e (slPut 0 d (slPut 3 c (slPut 1 b (slPut 2 a #[])))) = #[some d, some b, some a, some c, some e] := by
  kernel_rfl
set_option maxHeartbeats 1000000 in
theorem mk_comb {v u : Value} {few : List Int} {g : Nat} {Q : Value → Shared → Prop} (hf : few.length ≤ 100) (hg : g ≤ few.length) (hA : Ok A (n + 4)) (C : Cx w β s) (mx : Mx M s.heap) (rv : Rep M s.heap v (lI few)) (ru : Rep M s.heap u (.int g))
    (h : ∀ x dx I T s', Cx w β s' → Kp s s' → s.heap.get? x = none → s.heap.get? I = none → s.heap.get? dx = none → T ∉ M → CombOk x dx I T → CombAt x dx I T few g true (upto g) s'.heap → Q (.ref x) s') : Wp prog w A (call (.ref 140) [v, u]) Q s := by
  refine make_cls C hA (fI := 122) (by kernel_rfl) (by kernel_rfl) (by kernel_rfl) fun x dx s' A' hA' C' K' n1 n2 hne hx hdx => ?_
  refine code_def (binds := [(S "self", .ref x), (S "iterable", v), (S "r", u)]) o122 C' hA'.lt (by kernel_rfl) rfl (by kernel_rfl) (BindsTo.of_eq (by with_unfolding_all rfl)) (by kernel_rfl) (by kernel_rfl) (by kernel_rfl) (fun _ h => (nomatch h)) rfl .nil fun env s₁ _ _ _ _ C₁ F₁ => ?_
  have mN : ∀ y ∈ x :: M, y ∈ M ∨ s.heap.get? y = none := fun y hy => by
    rcases mcs hy with rfl | hy
    · exact .inr n1
    · exact .inl hy
  have hx₁ : s₁.heap.get? x = some (slO dx #[]) := F₁.kept.k _ _ hx (by simp)
  obtain ⟨od, hd₁, hod⟩ : ∃ od, s₁.heap.get? dx = some od ∧ stay od = true := by obtain ⟨es, ep, e', _⟩ := hdx; exact ⟨_, F₁.kept.k _ _ e' (by simp), rfl⟩
  have K₁ : Kh s.heap s₁.heap := K'.trans F₁.kept
  have F : FP (x :: M) β.H env (fdS (st2 9 1)) s.heap s₁.heap [(S "r", .int g), (S "iterable", lI few), (S "self", .raw (.ref x))] := by
    refine ⟨fun y hy => ?_, _, F₁.base K', .cons ((ru.more mN).mono (D.of_kh K₁)) (.cons ((rv.more mN).mono (D.of_kh K₁)) (.cons (.raw _) .nil))⟩
    rcases mcs hy with rfl | hy
    · exact ⟨_, hx₁, by simp⟩
    · exact (mx y hy).kh K₁
  have hA1 : Ok (A'.deeper env) (n + 2) := hA'.deeper
  have hB := C.new n1
  have hxM : x ∈ x :: M := List.mem_cons_self ..
  with_unfolding_all refine S1.step (ρ₁ := [(S "r", .int g), (S "iterable", lI few), (S "self", .raw (.ref x))]) ?_ hA1 C₁ F fun s₂ C₂ F₂ k₂ => ?_
  · exact S1.expr (Ev.callR (f := .ref 100) (ps := [.int g, .int 999999, .str (S "combinations: r")]) kg_whole (by walk_at "e") (by walk_at "es") (cl_whole (by omega))) rfl
  refine S1.step (ρ₁ := (S "pool", .tup (iL few)) :: [(S "r", .int g), (S "iterable", lI few), (S "self", .raw (.ref x))]) ?_ hA1 C₂ F₂ fun s₃ C₃ F₃ k₃ => ?_
  · exact S1.assign (.inl (by kernel_rfl)) (Ev.callT (f := "tuple") (ps := [.list (iL few)]) (by walk_at "e") (by walk_at "es") (by simp) (cl_tuple (by simp [iL]; omega)))
  refine S1.step (ρ₁ := (S "pool", .tup (iL few)) :: [(S "r", .int g), (S "iterable", lI few), (S "self", .raw (.ref x))]) ?_ hA1 C₃ F₃ fun s₄ C₄ F₄ k₄ => ?_
  · exact S1.if (c := false) (Tv.cmp (by walk_at "e") (by walk_at "e") (co_lt (decide_eq_false (by omega)))) (fun h => by cases h) fun _ => Sv.nil
  have kb4 : Kb env s₁.heap s₄.heap := k₂.trans (k₃.trans k₄)
  have hx₄ : s₄.heap.get? x = some (slO dx #[]) := F.stay kb4 hx₁ rfl
  have hd₄ : s₄.heap.get? dx = some od := F.stay kb4 hd₁ hod
  have hV : ∀ {p : PV} (val : Value) (g g' : Heap), Rep (x :: M) g val p → (∀ b o, b ≠ x → g.get? b = some o → o.cls ≠ .none → g'.get? b = some o) → Rep (x :: M) g' val p := fun val g g' V k => V.mono fun b o e q nb => k b o (fun z => nb (z ▸ hxM)) e (stay_ne q)
  -- self._pool = pool
  refine sl_step (fun val hp => Rep (x :: M) hp val (.tup (iL few))) (sl_pool _) hA1 C₄ F₄ hx₄ ⟨_, hd₄⟩ hxM n1 hB (fun Q' hq => Ev.name (by kernel_rfl) (by walk_at "lk") (by kernel_rfl) hA1 C₄ F₄.ld hq) (by walk_at "e") hV fun s₅ v5 C₅ F₅ V5 hx₅ k₅ => ?_
  obtain ⟨T, vs, rfl, hT, eT₅, rT⟩ := V5.inv_tup
  have iT := rT.toInts
  have nd : dx ∉ [x] := fun z => by rw [List.mem_singleton.mp z, hx₄] at hd₄; cases hd₄; exact absurd hdx (fun ⟨es, ep, e', _⟩ => by rw [List.mem_singleton.mp z] at e'; rw [hx] at e'; cases e')
  have hdc : od.cls ≠ .none := stay_ne hod
  have nT : T ∉ [x] := fun z => hT (List.mem_singleton.mp z ▸ hxM)
  have hd₅ : s₅.heap.get? dx = some od := k₅.k _ _ nd hd₄ hdc
  -- self._indices = list(range(r))
  refine sl_step (fun val hp => ∃ I its, val = .ref I ∧ s₅.heap.get? I = none ∧ SeqAt hp "list" I its ∧ IntsAre its.toList (upto g)) (sl_indices _) hA1 C₅ F₅ hx₅ ⟨_, hd₅⟩ hxM n1 hB (fun Q' hq => ?_) (by walk_at "e") (fun val g1 g2 V k => ?_) fun s₆ v6 C₆ F₆ V6 hx₆ k₆ => ?_
  · refine callT_wp (f := "list") (ps := [.rng 0 g]) (by walk_at "e") (Evs.cons (by kernel_rfl) (Ev.callT (f := "range") (ps := [.int g]) (by walk_at "e") (by walk_at "es") (by simp) (cl_range1 (by simp) (by omega))) Evs.nil) (by simp) hA1 C₅ F₅.ld fun vs' s6 C6 K6 r6 => ?_
    obtain ⟨v', rfl, r₁⟩ := r6.one
    cases r₁ with
    | rng hm hr hs hn =>
      refine call_list_range hA1.h hr hs hn (by omega) fun h' tk acc c' k' e it => ?_
      have K : Kp s6 { s6 with heap := h', toks := tk } := Kh.of k'
      refine hq _ _ (C6.kp k') (kp_trans K6 K) ⟨_, _, rfl, Kh.none K6 (none_of_ge (Nat.le_refl _)), ⟨_, e⟩, RepL.toInts (M := M) (h := h') (RepL.of ?_ fun i v x hv hx => ?_)⟩
      · rw [Array.length_toList, it.1]; simp [iL, upto_len]
      · rw [Array.getElem?_toList] at hv
        obtain ⟨t, rfl⟩ := it.2 i v hv
        simp only [iL, upto, List.map_map, List.getElem?_map] at hx
        obtain ⟨j, hj, rfl⟩ := Option.map_eq_some_iff.mp hx
        obtain ⟨q, hj⟩ := List.getElem?_eq_some_iff.mp hj
        rw [List.getElem_range] at hj
        subst hj
        rw [show (0 : Int) + (i : Int) * 1 = (i : Int) by omega]
        exact .int _ _
  · obtain ⟨I, its, rfl, nI, ⟨j, e⟩, ii⟩ := V
    exact ⟨I, its, rfl, nI, ⟨j, k _ _ (fun z => by rw [z, hx₅] at nI; cases nI) e (by simp)⟩, ii⟩
  obtain ⟨I, its, rfl, nI, ⟨jI, eI⟩, iI⟩ := V6
  have nxI : x ≠ I := fun z => by rw [← z, hx₅] at nI; cases nI
  have nI' : I ∉ [x] := fun z => nxI (List.mem_singleton.mp z).symm
  have hd₆ : s₆.heap.get? dx = some od := k₆.k _ _ nd hd₅ hdc
  obtain ⟨jT, eT⟩ := eT₅
  have nIT : I ≠ T := fun z => by rw [z, eT] at nI; cases nI
  have eT₆ := k₆.k _ _ nT eT (by simp)
  -- self._r = r + 0
  refine sl_step (fun val hp => ∃ t, val = .int (g : Nat) t) (sl_r _) hA1 C₆ F₆ hx₆ ⟨_, hd₆⟩ hxM n1 hB (fun Q' hq => ?_) (by walk_at "e") (fun val g1 g2 V k => V) fun s₇ v7 C₇ F₇ V7 hx₇ k₇ => ?_
  · refine Ev.conv (Ev.add (a := (g : Int)) (b := 0) (by walk_at "e") (by walk_at "e")) (by rw [Int.add_zero]) hA1 C₆ F₆.ld fun v s' C' K' r' => hq v s' C' K' r'.inv_int
  obtain ⟨t, rfl⟩ := V7
  have hd₇ : s₇.heap.get? dx = some od := k₇.k _ _ nd hd₆ hdc
  -- self._first = True
  refine sl_step (fun val hp => val = .bool true) (sl_first _) hA1 C₇ F₇ hx₇ ⟨_, hd₇⟩ hxM n1 hB (fun Q' hq => Ev.bool hA1 C₇ F₇.ld fun v s' C' K' r' => hq v s' C' K' r'.inv_bool) (by walk_at "e") (fun val g1 g2 V k => V) fun s₈ v8 C₈ F₈ V8 hx₈ k₈ => ?_
  subst V8
  have hd₈ : s₈.heap.get? dx = some od := k₈.k _ _ nd hd₇ hdc
  -- self._stopped = r > len(pool)
  refine sl_step (fun val hp => val = .bool false) (sl_stopped _) hA1 C₈ F₈ hx₈ ⟨_, hd₈⟩ hxM n1 hB (fun Q' hq => ?_) (by walk_at "e") (fun val g1 g2 V k => V) fun s₉ v9 C₉ F₉ V9 hx₉ k₉ => ?_
  · refine Ev.cmp (by walk_at "e") (Ev.callB (f := "len") (ps := [.tup (iL few)]) (by walk_at "e") (by walk_at "es") (by simp) (cl_len_tup (by simp [iL]; omega))) (co_gt (c := false) (decide_eq_false (by simp [iL]; omega))) (by with_unfolding_all rfl) hA1 C₈ F₈.ld fun v s' C' K' r' => hq v s' C' K' r'.inv_bool
  subst V9
  have hd₉ : s₉.heap.get? dx = some od := k₉.k _ _ nd hd₈ hdc
  rw [sl_all] at hx₉
  refine wpAny_execs_nil ⟨rfl, ?_⟩
  have kT : s₉.heap.get? T = some { cls := .type "tuple", data := .seq vs jT } := k₉.k _ _ nT (k₈.k _ _ nT (k₇.k _ _ nT eT₆ (by simp)) (by simp)) (by simp)
  have kI : s₉.heap.get? I = some { cls := .type "list", data := .seq its jI } := k₉.k _ _ nI' (k₈.k _ _ nI' (k₇.k _ _ nI' eI (by simp)) (by simp)) (by simp)
  refine h x dx I T s₉ C₉ F₉.kept n1 ?_ n2 (fun z => hT (List.mem_cons_of_mem _ z)) ⟨nxI, fun z => by
    rcases List.mem_cons.mp z with z | z
    · exact hT (z ▸ hxM)
    · exact nIT (List.mem_singleton.mp z).symm, fun z => by
    rcases List.mem_cons.mp z with z | z
    · exact nd (List.mem_singleton.mpr z)
    · rw [List.mem_singleton.mp z, nI] at hd₅; cases hd₅⟩ ⟨⟨t, hx₉⟩, ⟨od, hd₉, hod⟩, ⟨its, ⟨jI, kI⟩, iI⟩, ⟨vs, ⟨jT, kT⟩, iT⟩⟩
  exact Kh.none F₅.kept nI
end
section
variable {w : World} {β : Pm} {n : Nat} {sc : Scope} {ρ ρ' : PVs} {M M' : List Addr} {env : Env} {H h h' : Heap} {s s' : Shared} {B : Heap} {prog : Pr} {A : Around} {pos : Pos} {E : Value → Shared → Prop}
theorem list_putI {l : Addr} {items : Array Value} {k : Int} {t : Tok} {v : Value} {Q : Unit → Shared → Prop} (jn : Nat) (ho : s.heap.get? l = some { cls := .type "list", data := .seq items jn }) (hl : s.heap.IsList l items)
    (h0 : 0 ≤ k) (hfit : k < 2 ^ 63) (hn : k < items.size)
    (hQ : ∀ h', SeqAt h' "list" l (items.setIfInBounds k.toNat v) → Heap.SameBut l s.heap h' → Q () { s with heap := h' }) :
    wpAny (model prog.p w) A (setItem (.ref l) (.int k t) v) Q E s := by
  unfold setItem
  try with_reducible refine wpAny_holding ?_
  first | refine wpAny_bind (wpAny_pure ?_) | skip
  refine wpAny_bind (wpAny_sequenceKey hl.typeIs (by decide) ?_)
  refine wpAny_bind (wpAny_callSpecial?_slot (name := Str.ofString "__setitem__") hl.typeIs slot_list_setitem
    (wpAny_call_entry slot_list_setitem hl.typeIs entry_list_setitem ?_ (args_list_setitem _ _ _)))
  show wpAny _ _ (Builtin.List.listSubscript? (.int k t) >>= _) _ _ s
  refine wpAny_bind (wpAny_listSubscript_int (fitsIndex_of h0 hfit) ?_)
  clear hfit
  obtain ⟨j, rfl⟩ := Int.eq_ofNat_of_zero_le h0
  have hj : j < items.size := by omega
  have hx' : items[j]? = some items[j] := Array.getElem?_eq_getElem hj
  show wpAny _ _ ((seqItemAt l j >>= fun r => pure (r.map (j, ·))) >>= _) _ _ s
  refine wpAny_bind (wpAny_bind (wpAny_seqItemAt ho rfl (wpAny_pure ?_)))
  rw [hx']
  show wpAny _ _ (setSeqItemAt l j v >>= _) _ _ s
  have hfin : SeqAt (s.heap.update l (Obj.mapSeq (·.setIfInBounds j v))) "list" l (items.setIfInBounds j v) := by
    have := Heap.get?_update_self (Obj.mapSeq (·.setIfInBounds j v)) ho (by rfl)
    exact ⟨_, this⟩
  refine wpAny_bind (wpAny_setSeqItemAt ho rfl ?_)
  first
    | exact wpAny_bind (wpAny_pure (wpAny_pure ⟨.none, rfl, wpAny_pure (hQ _ hfin (Heap.SameBut.update ..))⟩))
    | exact wpAny_pure ⟨.none, rfl, wpAny_pure (hQ _ hfin (Heap.SameBut.update ..))⟩
theorem list_put {l : Addr} {items : Array Value} {j : Nat} {t : Tok} {v : Value} {Q : Unit → Shared → Prop} (hl : SeqAt s.heap "list" l items) (hj : j < items.size) (hz : items.size ≤ 1000)
    (hQ : ∀ h', SeqAt h' "list" l (items.setIfInBounds j v) → Heap.SameBut l s.heap h' → Q () { s with heap := h' }) :
    wpAny (model prog.p w) A (setItem (.ref l) (.int (j : Nat) t) v) Q E s := by
  obtain ⟨jn, ho⟩ := hl
  exact list_putI (k := (j : Nat)) jn ho ⟨_, ho, rfl, jn, rfl⟩ (by omega) (by omega) (by omega) hQ
theorem S1.stepE {st : Stmt} {rest : List Stmt} {ρ₁ : PVs} {Q : Flow → Shared → Prop} (h1 : S1 w β n sc ρ st (.inl ρ₁)) (hA : Ok A n) (C : Cx w β s) (F : FP M β.H env sc H s.heap ρ)
    (k : ∀ s₁, Cx w β s₁ → FP M β.H env sc H s₁.heap ρ₁ → Kb env s.heap s₁.heap → wpAny (model prog.p w) A (execs rest env) Q E s₁) : wpAny (model prog.p w) A (execs (st :: rest) env) Q E s := by
  refine wpAny_execs_cons (Wp.any (h1 hA C F fun fl s₁ C₁ D₁ R₁ => ?_))
  obtain ⟨rfl, F₁⟩ := R₁
  exact k s₁ C₁ F₁ D₁
theorem asg_wpE {x : Str} {xp pos : Pos} {e : Expr} {p : PV} {rest : List Stmt} {Q : Flow → Shared → Prop} (hk : sc.names.lookup x = some .local ∨ sc.names.lookup x = some .cell) (C : Cx w β s) (F : FP M β.H env sc H s.heap ρ)
    (he : ∀ Q' : Value → Shared → Prop, (∀ v s₁, Cx w β s₁ → Kp s s₁ → Rep M s₁.heap v p → Q' v s₁) → Wp prog w A (eval e env) Q' s)
    (k : ∀ s₁, Cx w β s₁ → FP M β.H env sc H s₁.heap ((x, p) :: ρ) → Kb env s.heap s₁.heap → wpAny (model prog.p w) A (execs rest env) Q E s₁)
    (hs : ∀ env : Env, env.kindOf x = sc.names.lookup x → swapsWith e (some (.Name x xp)) pos.line env = pure false := by intro _ _; rfl) : wpAny (model prog.p w) A (execs (.Assign [.Name x xp] e pos :: rest) env) Q E s := by
  refine wpAny_execs_cons (wpAny_Assign_Name (Wp.any (he _ fun v s₁ C₁ K₁ r => ?_)) (hs env (F.kind x)))
  exact Wp.any (prog := prog) (w := w) (store_p C₁ (F.kp K₁) r hk fun s₂ C₂ F₂ D₂ => k s₂ C₂ F₂ ((Kb.of_kp K₁).trans D₂))
theorem FP.baseH {H₀ : Heap} (k : Kh H₀ H) (F : FP M B env sc H h ρ) : FP M B env sc H₀ h ρ := let ⟨m, ρv, f, r⟩ := F; ⟨m, ρv, f.base k, r⟩
theorem CombAt.kb {x dx I T : Addr} {few idx : List Int} {g : Nat} {first : Bool} (K : CombAt x dx I T few g first idx h) (F : FP M B env sc H h ρ) (k : Kb env h h') : CombAt x dx I T few g first idx h' where
  ob := let ⟨t, e⟩ := K.ob; ⟨t, F.stay k e rfl⟩
  dd := let ⟨od, e, q⟩ := K.dd; ⟨od, F.stay k e q, q⟩
  ix := let ⟨its, ⟨j, e⟩, i⟩ := K.ix; ⟨its, ⟨j, F.stay k e rfl⟩, i⟩
  tp := let ⟨vs, ⟨j, e⟩, i⟩ := K.tp; ⟨vs, ⟨j, F.stay k e rfl⟩, i⟩
theorem CombAt.kh {x dx I T : Addr} {few idx : List Int} {g : Nat} {first : Bool} (K : CombAt x dx I T few g first idx h) (k : Kh h h') : CombAt x dx I T few g first idx h' where
  ob := let ⟨t, e⟩ := K.ob; ⟨t, k.k _ _ e (by simp)⟩
  dd := let ⟨od, e, q⟩ := K.dd; ⟨od, k.k _ _ e (stay_ne q), q⟩
  ix := let ⟨its, ⟨j, e⟩, i⟩ := K.ix; ⟨its, ⟨j, k.k _ _ e (by simp)⟩, i⟩
  tp := let ⟨vs, ⟨j, e⟩, i⟩ := K.tp; ⟨vs, ⟨j, k.k _ _ e (by simp)⟩, i⟩
noncomputable abbrev nxR (x I T : Addr) (few : List Int) (g : Nat) : PVs := [(S "r", .int g), (S "n", .int few.length), (S "indices", .raw (.ref I)), (S "pool", .raw (.ref T)), (S "self", .raw (.ref x))]
set_option maxHeartbeats 1000000 in
theorem next_pre {x dx I T : Addr} {few idx : List Int} {g : Nat} {first : Bool} {R : Result → Shared → Prop} (hf : few.length ≤ 100) (K : CombAt x dx I T few g first idx s.heap) (O : CombOk x dx I T) (hA : Ok A (n + 3)) (C : Cx w β s)
    (k : ∀ env s₁, env.frame = some env.locals → (∀ x c, env.cells.lookup x = some c → s.heap.get? c = none) → Cx w β s₁ → FP [x, I] β.H env (fdS (st2 9 3)) s.heap s₁.heap (nxR x I T few g) →
      wpAny (model prog.p w) (A.deeper env) (execs ((fdB (st2 9 3)).drop 5) env) (fun fl s'' => R (.ok (.ret (match fl with | .ret v => v | _ => .none))) s'')
        (fun e s'' => wpAny (model prog.p w) (A.deeper env) (leaving env e) (fun _ s₃ => R (.error e) s₃) (fun e' s₃ => R (.error e') s₃) s'') s₁) :
    codeAny (model prog.p w) A (.call (.ref 136) ⟨[.ref x], []⟩) R s := by
  refine code_defX (binds := [(S "self", .ref x)]) o136 C hA.lt (by kernel_rfl) rfl (by kernel_rfl) (BindsTo.of_eq (by with_unfolding_all rfl)) (by kernel_rfl) (by kernel_rfl) (by kernel_rfl) fun env s₁ _ e1 e2 C₁ F₁ => ?_
  have K₁ : CombAt x dx I T few g first idx s₁.heap := K.kh F₁.kept
  obtain ⟨t, ox₁⟩ := K₁.ob
  obtain ⟨its, ⟨jI, eI⟩, iI⟩ := K₁.ix
  obtain ⟨vs, ⟨jT, eT⟩, iT⟩ := K₁.tp
  obtain ⟨od, ed, qd⟩ := K.dd
  have ed₁ := F₁.kept.k _ _ ed (stay_ne qd)
  have F : FP [x, I] β.H env (fdS (st2 9 3)) s.heap s₁.heap [(S "self", .raw (.ref x))] := ⟨fun a ha => by
    rcases mcs ha with rfl | ha
    · exact ⟨_, ox₁, by simp⟩
    · cases List.mem_singleton.mp ha; exact ⟨_, eI, by simp⟩, _, F₁, .cons (.raw _) .nil⟩
  have hA1 : Ok (A.deeper env) (n + 2) := hA.deeper
  with_unfolding_all refine wpAny_execs_cons (wpAny_If (Wp.any (prog := prog) (w := w) (wpAny_isTrue_value (sl_attr (v := .bool false) (sl_stopped _) (by walk_at "e") hA1 C₁ F.ld ox₁ ⟨_, ed₁⟩ rfl rfl fun s₂ C₂ K₂ => wpAny_truthy_bool ?_) (by rfl))))
  simp only [Bool.false_eq_true, if_false]
  refine wpAny_execs_nil ?_
  dsimp only
  have F₂ := F.kp K₂
  refine asg_wpE (p := .raw (.ref T)) (.inl (by kernel_rfl)) C₂ F₂ (fun Q' hq => sl_attr (v := .ref T) (sl_pool _) (by walk_at "e") hA1 C₂ F₂.ld (K₂.k _ _ ox₁ (by simp)) ⟨_, K₂.k _ _ ed₁ (stay_ne qd)⟩ rfl rfl fun s' C' K' => hq _ s' C' K' (.raw _)) fun s₃ C₃ F₃ k₃ => ?_
  have kb₃ : Kb env s₁.heap s₃.heap := (Kb.of_kp K₂).trans k₃
  refine asg_wpE (p := .raw (.ref I)) (.inl (by kernel_rfl)) C₃ F₃ (fun Q' hq => sl_attr (v := .ref I) (sl_indices _) (by walk_at "e") hA1 C₃ F₃.ld (F.stay kb₃ ox₁ rfl) ⟨_, F.stay kb₃ ed₁ qd⟩ rfl rfl fun s' C' K' => hq _ s' C' K' (.raw _)) fun s₄ C₄ F₄ k₄ => ?_
  have kb₄ := kb₃.trans k₄
  have eT₄ := F.stay kb₄ eT rfl
  have rT : Rep [x, I] s₄.heap (.ref T) (.tup (iL few)) := Rep.of_tup O.tn ⟨jT, eT₄⟩ (RepL.of_ints iT)
  refine asg_wpE (p := .int few.length) (.inl (by kernel_rfl)) C₄ F₄ (fun Q' hq => ?_) fun s₅ C₅ F₅ k₅ => ?_
  · have L₄ := (F₄.re (x := S "pool") (by walk_at "lk") rT).ld
    refine Ev.conv (Ev.callB (f := "len") (ps := [.tup (iL few)]) (by walk_at "e") (by walk_at "es") (by simp) (cl_len_tup (by simp [iL]; omega))) (p' := .int few.length) (by simp [iL]) hA1 C₄ L₄ hq
  have kb₅ := kb₄.trans k₅
  refine asg_wpE (p := .int g) (.inl (by kernel_rfl)) C₅ F₅ (fun Q' hq => sl_attr (v := .int (g : Nat) t) (sl_r _) (by walk_at "e") hA1 C₅ F₅.ld (F.stay kb₅ ox₁ rfl) ⟨_, F.stay kb₅ ed₁ qd⟩ rfl rfl fun s' C' K' => hq _ s' C' K' (.int _ _)) fun s₆ C₆ F₆ k₆ => ?_
  exact k env s₆ e1 e2 C₆ F₆
theorem sl_stepE {x dx p : Addr} {sl : Array (Option Value)} {y : Str} {i : Nat} {np ap pos : Pos} {self : Str} {value : Expr} {rest : List Stmt} {Q : Flow → Shared → Prop} (v : Value) (Y : Sl w.params y p i) (hA : Ok A n) (C : Cx w β s) (F : FP M β.H env sc H s.heap ρ) (hx : s.heap.get? x = some (slO dx sl)) (hd : ∃ od, s.heap.get? dx = some od) (hM : x ∈ M) (hH : H.get? x = Option.none) (hB : β.H.get? x = Option.none)
    (hv : ∀ Q' : Value → Shared → Prop, (∀ s₁, Cx w β s₁ → Kp s s₁ → Q' v s₁) → Wp prog w A (eval value env) Q' s) (hs : Ev w β n sc ρ (.Name self np) (.raw (.ref x)))
    (k : ∀ s₁, Cx w β s₁ → FP M β.H env sc H s₁.heap ρ → s₁.heap.get? x = some (slO dx (slPut i v sl)) → Kw [x] s.heap s₁.heap → wpAny (model prog.p w) A (execs rest env) Q E s₁)
    (hsw : ∀ env, swapsWith value (some (.Attribute (.Name self np) y ap)) pos.line env = pure false := by intro _; rfl) :
    wpAny (model prog.p w) A (execs (.Assign [.Attribute (.Name self np) y ap] value pos :: rest) env) Q E s := by
  refine wpAny_execs_cons (plainObj_wpAny_Assign_Attribute (Wp.any (hv _ fun s₁ C₁ K₁ => Wp.any (prog := prog) (w := w) (hs hA C₁ (F.kp K₁).ld fun sv s₂ C₂ K₂ r₂ => ?_))) (hsw env))
  cases r₂.inv_raw
  have K := kp_trans K₁ K₂
  have hx₂ : s₂.heap.get? x = some (slO dx sl) := K.k _ _ hx (by simp)
  obtain ⟨od, ed⟩ := hd
  refine Wp.any (prog := prog) (w := w) (sl_put Y C₂.K hx₂ (K.x _ _ ed) fun h' hs' hx' => ?_)
  have k3 : ∀ b o, b ∉ [x] → s₂.heap.get? b = some o → h'.get? b = some o := fun b o hb e => (hs'.2 b (by simpa using hb)).trans e
  have F₂ := F.kp K
  exact k _ (CxH.step C₂ hB hs') (F₂.turn hM (F₂.off hx₂ rfl hH) hs' ⟨_, hx', by simp⟩) hx' ((Kw.of_kh K).trans (Kw.of_but k3))
theorem sl_turn (a b c d e v : Value) : slPut 0 v #[some a, some b, some c, some d, some e] = #[some v, some b, some c, some d, some e] := by kernel_rfl
theorem CombAt.put {x dx I T : Addr} {few idx idx' : List Int} {g : Nat} {first : Bool} {its : Array Value} (O : CombOk x dx I T) (K : CombAt x dx I T few g first idx h) (hs : Heap.SameBut I h h') (e : SeqAt h' "list" I its) (i : IntsAre its.toList idx') : CombAt x dx I T few g first idx' h' where
  ob := let ⟨t, e⟩ := K.ob; ⟨t, (hs.2 x O.xI).trans e⟩
  dd := let ⟨od, e, q⟩ := K.dd; ⟨od, (hs.2 dx fun z => O.dn (by rw [z]; simp)).trans e, q⟩
  ix := ⟨its, e, i⟩
  tp := let ⟨vs, ⟨j, e⟩, i⟩ := K.tp; ⟨vs, ⟨j, (hs.2 T fun z => O.tn (by rw [z]; simp)).trans e⟩, i⟩
theorem CombAt.unfirst {x dx I T : Addr} {few idx : List Int} {g : Nat} {first : Bool} (O : CombOk x dx I T) (K : CombAt x dx I T few g first idx h) (k : Kw [x] h h') (hx : ∃ t, h'.get? x = some (slO dx #[some (.bool false), some (.ref I), some (.ref T), some (.int (g : Nat) t), some (.bool false)])) : CombAt x dx I T few g false idx h' where
  ob := hx
  dd := let ⟨od, e, q⟩ := K.dd; ⟨od, k.k _ _ (fun z => O.dn (by rw [List.mem_singleton.mp z]; simp)) e (stay_ne q), q⟩
  ix := let ⟨its, ⟨j, e⟩, i⟩ := K.ix; ⟨its, ⟨j, k.k _ _ (fun z => O.xI (List.mem_singleton.mp z).symm) e (by simp)⟩, i⟩
  tp := let ⟨vs, ⟨j, e⟩, i⟩ := K.tp; ⟨vs, ⟨j, k.k _ _ (fun z => O.tn (by rw [List.mem_singleton.mp z]; simp)) e (by simp)⟩, i⟩
theorem ret_picked {x dx I T : Addr} {few idx pk : List Int} {g : Nat} {first : Bool} {Q : Flow → Shared → Prop} (hf : few.length ≤ 100) (hg : g ≤ few.length) (hi : idx.length = g) (hpk : pk.length = g) (hk : ∀ (j : Nat) (a : Int), pk[j]? = some a → ∃ i : Nat, idx[j]? = some (i : Int) ∧ few[i]? = some a) (hM : I ∉ M ∧ T ∉ M) (mx : Mx M s.heap)
    (K : CombAt x dx I T few g first idx s.heap) (hA : Ok A (n + 1)) (C : Cx w β s) (hfl : flatE ρ = true) (F : FP M' β.H env (fdS (st2 9 3)) H s.heap ρ) (hr1 : ρ.lookup (S "pool") = some (.raw (.ref T))) (hr2 : ρ.lookup (S "indices") = some (.raw (.ref I))) (hr3 : ρ.lookup (S "r") = some (.int g))
    (h : ∀ v s', Cx w β s' → Kp s s' → Rep M s'.heap v (.tup (iL pk)) → Q (.ret v) s') : wpAny (model prog.p w) A (execs ((fdB (st2 9 3)).drop 6) env) Q E s := by
  obtain ⟨its, eI, iI⟩ := K.ix
  obtain ⟨vs, eT, iT⟩ := K.tp
  have F₁ := F.flatM hfl mx
  have rI : Rep M s.heap (.ref I) (lI idx) := Rep.of_list hM.1 eI (RepL.of_ints iI)
  have rT : Rep M s.heap (.ref T) (.tup (iL few)) := Rep.of_tup hM.2 eT (RepL.of_ints iT)
  have F₂ := (F₁.re hr1 rT).re (x := S "indices") ((lk_next (by kernel_rfl) hr2)) rI
  with_unfolding_all refine wpAny_execs_cons (wpAny_Return_some (Wp.any (prog := prog) (w := w) ?_))
  subst hi
  exact Ev.callR (f := .ref 107) (ps := [.tup (iL few), lI idx, .int idx.length]) kg_picked (by walk_at "e") (Evs.cons (by kernel_rfl) (by walk_at "e") (Evs.cons (by kernel_rfl) (by walk_at "e") (Evs.cons (by kernel_rfl) (Ev.name (by kernel_rfl) (lk_next (by kernel_rfl) (lk_next (by kernel_rfl) hr3)) (by kernel_rfl)) Evs.nil))) (cl_picked hf (by omega) hpk hk) hA C F₂.ld h
end
noncomputable def runF (f : Nat → Bool) : Nat → Nat → Nat
  | 0, k => k
  | m + 1, k => if f k then runF f m (k + 1) else k
theorem runF_at (f : Nat → Bool) : ∀ (m k : Nat), k ≤ runF f m k ∧ runF f m k ≤ k + m ∧ (∀ j, k ≤ j → j < runF f m k → f j = true) ∧ (runF f m k < k + m → f (runF f m k) = false)
  | 0, k => ⟨Nat.le_refl _, Nat.le_refl _, fun j a b => absurd b (Nat.not_lt.mpr a), fun h => absurd h (Nat.lt_irrefl _)⟩
  | m + 1, k => by
    unfold runF
    cases e : f k with
    | true =>
      simp only [if_true]
      obtain ⟨a, b, c, d⟩ := runF_at f m (k + 1)
      refine ⟨by omega, by omega, fun j h1 h2 => ?_, fun h => d (by omega)⟩
      by_cases z : j = k
      · rw [z]; exact e
      · exact c j (by omega) h2
    | false =>
      simp only [Bool.false_eq_true, if_false]
      exact ⟨Nat.le_refl _, by omega, fun j a b => absurd b (Nat.not_lt.mpr a), fun _ => e⟩
noncomputable def atEnd (L g : Nat) (idx : List Int) (k : Nat) : Bool := idx.getD (g - 1 - k) 0 == ((g - 1 - k : Nat) : Int) + L - g
noncomputable def runK (L g : Nat) (idx : List Int) : Nat := runF (atEnd L g idx) g 0
noncomputable def bump (g p : Nat) (idx : List Int) : List Int := idx.take p ++ (List.range (g - p)).map fun t => idx.getD p 0 + 1 + (t : Nat)
noncomputable def nxt (L g : Nat) (idx : List Int) : Option (List Int) := if runK L g idx = g then none else some (bump g (g - 1 - runK L g idx) idx)
noncomputable def whT : Stmt → Expr
  | .While t _ _ _ => t
  | _ => default
noncomputable def ifE : Stmt → List Stmt
  | .If _ _ e _ => e
  | _ => []
noncomputable def elseB : List Stmt := ifE ((fdB (st2 9 3)).getD 5 (.Pass default))
section
variable {w : World} {β : Pm} {n : Nat} {sc : Scope} {ρ ρ' : PVs} {M M' : List Addr} {env : Env} {H h h' : Heap} {s s' : Shared} {B : Heap} {prog : Pr} {A : Around} {pos : Pos} {E : Value → Shared → Prop} {x dx I T : Addr} {few idx pk : List Int} {g : Nat}
theorem rd {a : List Int} {its : Array Value} (hfl : flatE ρ = true) (F : FP M' β.H env sc H s.heap ρ) (hI : ρ.lookup (S "indices") = some (.raw (.ref I))) (eI : SeqAt s.heap "list" I its) (iI : IntsAre its.toList a) : Ld [] env sc s.heap ((S "indices", lI a) :: ρ) :=
  ((F.flatM (M' := []) hfl (fun _ h => nomatch h)).re hI (Rep.of_list (fun h => nomatch h) eI (RepL.of_ints iI))).ld
theorem ip_sub {a b : Int} : Ip w β n .Sub (.int a) (.int b) (.int (a - b)) := by
  intro prog A s M x y Q hA C mx rx ry h
  obtain ⟨t, rfl⟩ := rx.inv_int
  obtain ⟨t', rfl⟩ := ry.inv_int
  exact P.isub_int (h _ _ C (kp_tok _ _) (.int _ _))
theorem at_getD {k : Nat} (h : k < idx.length) : (iL idx)[k]? = some (.int (idx.getD k 0)) := by
  unfold iL
  rw [List.getElem?_map, List.getElem?_eq_getElem h]
  simp [h]
theorem loop1 {t : Nat} (hi : idx.length = g) (hg : 0 < g) (hg2 : g ≤ 1000) (ht : t < g ∨ t = g) (hρ1 : ρ.lookup (S "i") = some (.int ((g : Int) - 1 - (t : Nat)))) (hρ2 : ρ.lookup (S "indices") = some (lI idx)) (hρ3 : ρ.lookup (S "n") = some (.int few.length)) (hρ4 : ρ.lookup (S "r") = some (.int g)) : Tv w β n (fdS (st2 9 3)) ρ (whT (elseB.getD 1 (.Pass default))) (decide (t < g) && (decide (t < g) && atEnd few.length g idx t)) := by
  with_unfolding_all refine Tv.and (Tv.cmp (Ev.name (by kernel_rfl) hρ1 (by kernel_rfl)) (by walk_at "e") (co_ge ?_)) fun hlt => ?_
  · rw [decide_eq_decide]; omega
  · have hlt' : t < g := of_decide_eq_true hlt
    have e : (g : Int) - 1 - (t : Nat) = ((g - 1 - t : Nat) : Int) := by omega
    refine Tv.cmp (a := .int (idx.getD (g - 1 - t) 0)) (b := .int (((g : Int) - 1 - (t : Nat)) + few.length - g)) (Ev.at (xs := iL idx) (k := g - 1 - t) (at_getD (by omega)) (by omega) (Ev.name (by kernel_rfl) hρ2 (by kernel_rfl)) (Ev.conv (Ev.name (by kernel_rfl) hρ1 (by kernel_rfl)) (by rw [e]))) (Ev.sub (Ev.add (Ev.name (by kernel_rfl) hρ1 (by kernel_rfl)) (Ev.name (by kernel_rfl) hρ3 (by kernel_rfl))) (Ev.name (by kernel_rfl) hρ4 (by kernel_rfl))) (co_eq ?_)
    rw [decide_eq_true hlt', Bool.true_and]
    unfold atEnd
    rw [e]
    by_cases z : idx.getD (g - 1 - t) 0 = ((g - 1 - t : Nat) : Int) + few.length - g
    · rw [decide_eq_true z]; simpa using z
    · rw [decide_eq_false z]; simpa using z
set_option maxHeartbeats 1000000 in
theorem next_down {Q : Flow → Shared → Prop} (O : CombOk x dx I T) (hi : idx.length = g) (hf : few.length ≤ 100) (hg : 0 < g ∧ g ≤ few.length) (K : CombAt x dx I T few g false idx s.heap) (hA : Ok A (n + 1)) (C : Cx w β s) (F : FP [x, I] β.H env (fdS (st2 9 3)) H s.heap (nxR x I T few g))
    (k : ∀ s₁, Cx w β s₁ → FP [x, I] β.H env (fdS (st2 9 3)) H s₁.heap ((S "i", .int ((g : Int) - 1 - (runK few.length g idx : Nat))) :: nxR x I T few g) → CombAt x dx I T few g false idx s₁.heap → wpAny (model prog.p w) A (execs (elseB.drop 2) env) Q E s₁) :
    wpAny (model prog.p w) A (execs elseB env) Q E s := by
  obtain ⟨-, h2, h3, h4⟩ := runF_at (atEnd few.length g idx) g 0
  rw [Nat.zero_add] at h2 h4
  with_unfolding_all refine S1.stepE (ρ₁ := (S "i", .int ((g : Int) - 1 - (0 : Nat))) :: nxR x I T few g) (S1.assign (.inl (by kernel_rfl)) (Ev.conv (Ev.sub (a := (g : Int)) (b := 1) (by walk_at "e") (by walk_at "e")) (by simp))) hA C F fun s₁ C₁ F₁ k₁ => ?_
  have K₁ := K.kb F k₁
  refine wpAny_execs_cons (wpAny_While (while_gen (prog := prog) (w := w) (runK few.length g idx) (fun t s' => Cx w β s' ∧ FP [x, I] β.H env (fdS (st2 9 3)) H s'.heap ((S "i", .int ((g : Int) - 1 - (t : Nat))) :: nxR x I T few g) ∧ CombAt x dx I T few g false idx s'.heap) ⟨C₁, F₁, K₁⟩ ?_ ?_))
  · rintro t s' ht ⟨C', F', K'⟩
    obtain ⟨its, eI, iI⟩ := K'.ix
    have ht' : t < g := by unfold runK at ht; omega
    have e1 : (decide (t < g) && (decide (t < g) && atEnd few.length g idx t)) = true := by rw [decide_eq_true ht', h3 t (Nat.zero_le _) ht]; rfl
    have tv := loop1 (w := w) (β := β) (n := n + 1) (few := few) (idx := idx) (t := t) (ρ := (S "indices", lI idx) :: (S "i", .int ((g : Int) - 1 - (t : Nat))) :: nxR x I T few g) hi hg.1 (by omega) (.inl ht') (by walk_at "lk") (by walk_at "lk") (by walk_at "lk") (by walk_at "lk")
    rw [e1] at tv
    refine tv hA C' (rd (by rfl) F' (by walk_at "lk") eI iI) fun s₂ C₂ K₂ => ⟨rfl, ?_⟩
    have F₂ := F'.kp K₂
    refine S1.step (ρ₁ := (S "i", .int ((g : Int) - 1 - ((t + 1 : Nat) : Int))) :: nxR x I T few g) ?_ hA C₂ F₂ fun s₃ C₃ F₃ k₃ => wpAny_execs_nil ⟨C₃, F₃, (K'.kh K₂).kb F₂ k₃⟩
    exact S1.sub (S1.aug (c := .int ((g : Int) - 1 - (t : Nat) - 1)) (.inl (by kernel_rfl)) (by walk_at "lk") (by walk_at "e") ip_sub) ⟨by rw [show (g : Int) - 1 - ((t + 1 : Nat) : Int) = (g : Int) - 1 - (t : Nat) - 1 by omega]; exact lk_here, by walk_at "lk", by walk_at "lk", by walk_at "lk", by walk_at "lk", by walk_at "lk", trivial⟩
  · rintro s' ⟨C', F', K'⟩
    obtain ⟨its, eI, iI⟩ := K'.ix
    have e1 : (decide (runK few.length g idx < g) && (decide (runK few.length g idx < g) && atEnd few.length g idx (runK few.length g idx))) = false := by
      by_cases z : runK few.length g idx < g
      · rw [show atEnd few.length g idx (runK few.length g idx) = false from h4 z, Bool.and_false, Bool.and_false]
      · rw [decide_eq_false z]; rfl
    have tv := loop1 (w := w) (β := β) (n := n + 1) (few := few) (idx := idx) (t := runK few.length g idx) (ρ := (S "indices", lI idx) :: (S "i", .int ((g : Int) - 1 - (runK few.length g idx : Nat))) :: nxR x I T few g) hi hg.1 (by omega) (by unfold runK; omega) (by walk_at "lk") (by walk_at "lk") (by walk_at "lk") (by walk_at "lk")
    rw [e1] at tv
    refine tv hA C' (rd (by rfl) F' (by walk_at "lk") eI iI) fun s₂ C₂ K₂ => ⟨rfl, ?_⟩
    exact k s₂ C₂ (F'.kp K₂) (K'.kh K₂)
end
theorem ints_set : ∀ {vs : List Value} {ns : List Int} {k : Nat} {a : Int} {t : Tok}, IntsAre vs ns → IntsAre (vs.set k (.int a t)) (ns.set k a)
  | _, _, _, _, _, .nil => .nil
  | _, _, 0, a, t, .cons n u r => .cons a t r
  | _, _, k + 1, a, t, .cons n u r => .cons n u (ints_set r)
noncomputable def bumpT (p : Nat) (idx : List Int) (t : Nat) : List Int := idx.take p ++ ((List.range t).map (fun u => idx.getD p 0 + 1 + ((u : Nat) : Int)) ++ idx.drop (p + t))
theorem bumpT_set {p t : Nat} {idx : List Int} (h : p + t < idx.length) : (bumpT p idx t).set (p + t) (idx.getD p 0 + 1 + (t : Nat)) = bumpT p idx (t + 1) := by
  unfold bumpT
  have hp : (idx.take p).length = p := by rw [List.length_take]; omega
  rw [List.set_append_right _ _ (by rw [hp]; omega), hp, show p + t - p = t by omega, List.set_append_right _ _ (by simp), List.length_map, List.length_range, Nat.sub_self, List.drop_eq_getElem_cons h, List.set_cons_zero, List.range_succ, List.map_append, List.append_assoc]
  rfl
theorem bumpT_get {p t : Nat} {idx : List Int} (h : p + t < idx.length) : (bumpT p idx (t + 1)).getD (p + t) 0 = idx.getD p 0 + 1 + (t : Nat) := by
  rw [← bumpT_set h]
  have : p + t < (bumpT p idx t).length := by
    unfold bumpT
    rw [List.length_append, List.length_append, List.length_take, List.length_map, List.length_range, List.length_drop]; omega
  rw [List.getD_eq_getElem?_getD, List.getElem?_set_self this]; rfl
theorem bumpT_len {p t : Nat} {idx : List Int} (h : p + t ≤ idx.length) : (bumpT p idx t).length = idx.length := by
  unfold bumpT
  rw [List.length_append, List.length_append, List.length_take, List.length_map, List.length_range, List.length_drop]; omega
theorem bumpT_end {g p : Nat} {idx : List Int} (h : p ≤ g) (hi : idx.length = g) : bumpT p idx (g - p) = bump g p idx := by
  unfold bumpT bump
  rw [show p + (g - p) = g by omega, List.drop_of_length_le (by omega), List.append_nil]
theorem bumpT_zero {p : Nat} {idx : List Int} : bumpT p idx 0 = idx := by
  unfold bumpT
  rw [List.range_zero, List.map_nil, List.nil_append, Nat.add_zero, List.take_append_drop]
noncomputable def whB : Stmt → List Stmt
  | .While _ b _ _ => b
  | _ => []
noncomputable def asV : Stmt → Expr
  | .Assign _ v _ => v
  | _ => default
noncomputable def whBody : List Stmt := whB (elseB.getD 5 (.Pass default))
section
variable {w : World} {β : Pm} {n : Nat} {sc : Scope} {ρ ρ' : PVs} {M M' : List Addr} {env : Env} {H h h' : Heap} {s s' : Shared} {B : Heap} {prog : Pr} {A : Around} {pos : Pos} {E : Value → Shared → Prop} {x dx I T : Addr} {few idx pk : List Int} {g : Nat}
theorem comb_put {a : List Int} {k : Nat} {v : Int} {t u : Tok} {Q : Unit → Shared → Prop} (O : CombOk x dx I T) (K : CombAt x dx I T few g false a s.heap) (hk : k < a.length) (ha : a.length ≤ 1000) (C : Cx w β s) (hIB : β.H.get? I = none) (hIH : H.get? I = none) (F : FP [x, I] β.H env sc H s.heap ρ)
    (h : ∀ s', Cx w β s' → FP [x, I] β.H env sc H s'.heap ρ → CombAt x dx I T few g false (a.set k v) s'.heap → Q () s') : wpAny (model prog.p w) A (setItem (.ref I) (.int (k : Nat) t) (.int v u)) Q E s := by
  obtain ⟨its, eI, iI⟩ := K.ix
  have hz : its.size = a.length := by rw [← iI.length, Array.length_toList]
  refine list_put eI (by omega) (by omega) fun h' e' hs => ?_
  obtain ⟨j, e0⟩ := eI
  have F' : FP [x, I] β.H env sc H h' ρ := F.turn (a := I) (by simp) (F.off e0 rfl hIH) hs (by obtain ⟨j', e2⟩ := e'; exact ⟨_, e2, by simp⟩)
  refine h _ (CxH.step C hIB hs) F' (K.put O hs e' ?_)
  rw [Array.toList_setIfInBounds]
  exact ints_set iI
set_option maxHeartbeats 1000000 in
theorem next_up {Q : Flow → Shared → Prop} (O : CombOk x dx I T) (hi : idx.length = g) (hf : few.length ≤ 100) (hg : 0 < g ∧ g ≤ few.length) (hlt : runK few.length g idx < g) (K : CombAt x dx I T few g false idx s.heap) (hA : Ok A (n + 1)) (C : Cx w β s) (hIB : β.H.get? I = none) (hIH : H.get? I = none) (F : FP [x, I] β.H env (fdS (st2 9 3)) H s.heap ((S "i", .int ((g : Int) - 1 - (runK few.length g idx : Nat))) :: nxR x I T few g))
    (k : ∀ s₁, Cx w β s₁ → FP [x, I] β.H env (fdS (st2 9 3)) H s₁.heap (nxR x I T few g) → CombAt x dx I T few g false (bump g (g - 1 - runK few.length g idx) idx) s₁.heap → Q .next s₁) :
    wpAny (model prog.p w) A (execs (elseB.drop 2) env) Q E s := by
  obtain ⟨p, hp⟩ : ∃ p : Nat, g - 1 - runK few.length g idx = p := ⟨_, rfl⟩
  have hp' : (g : Int) - 1 - (runK few.length g idx : Nat) = (p : Nat) := by omega
  rw [hp] at k
  rw [hp'] at F
  have hpg : p < g := by omega
  clear hp hp' hlt
  with_unfolding_all refine S1.stepE (ρ₁ := (S "i", .int (p : Nat)) :: nxR x I T few g) (S1.if (c := false) (Tv.cmp (by walk_at "e") (by walk_at "e") (co_lt (decide_eq_false (by omega)))) (fun h => by cases h) fun _ => Sv.nil) hA C F fun s₁ C₁ F₁ k₁ => ?_
  have K₁ := K.kb F k₁
  -- indices[i] += 1
  refine wpAny_execs_cons (wpAny_AugAssign_Subscript (Wp.any (prog := prog) (w := w) (Ev.name (p := .raw (.ref I)) (by kernel_rfl) (by walk_at "lk") (by kernel_rfl) hA C₁ F₁.ld fun ov s₂ C₂ K₂ r₂ => Wp.any (prog := prog) (w := w) (Ev.name (p := .int (p : Nat)) (by kernel_rfl) (by walk_at "lk") (by kernel_rfl) hA C₂ (F₁.kp K₂).ld fun iv s₃ C₃ K₃ r₃ => ?_))))
  cases r₂.inv_raw
  obtain ⟨t3, rfl⟩ := r₃.inv_int
  have K13 := kp_trans K₂ K₃
  have Kc₃ := K₁.kh K13
  obtain ⟨its, ⟨jI, eI⟩, iI⟩ := Kc₃.ix
  have hz : its.size = g := by rw [← hi, ← iI.length, Array.length_toList]
  have old : ∃ t, its[p]? = some (.int (idx.getD p 0) t) := by
    have rl : RepL [] s₃.heap its.toList (iL idx) := RepL.of_ints iI
    have := rl.at.2 p (its[p]'(by omega)) _ (by rw [Array.getElem?_toList, Array.getElem?_eq_getElem (by omega)]) (at_getD (by omega))
    obtain ⟨t, e⟩ := this.inv_int
    exact ⟨t, by rw [Array.getElem?_eq_getElem (by omega), e]⟩
  obtain ⟨t4, old⟩ := old
  refine wpAny_getItem_list (k := ((p : Nat) : Int)) ⟨_, eI, rfl, jI, rfl⟩ (by omega) (by omega) (x := .int (idx.getD p 0) t4) (by simpa using old) ?_
  refine Wp.any (prog := prog) (w := w) (Ev.int hA C₃ (F₁.kp K13).ld fun v s₄ C₄ K₄ r₄ => ?_)
  obtain ⟨t5, rfl⟩ := r₄.inv_int
  refine P.iadd_int ?_
  refine comb_put (k := p) (v := idx.getD p 0 + 1) O (Kc₃.kh K₄) (by omega) (by omega) (Cx.tk C₄) hIB hIH ((F₁.kp K13).kp K₄) fun s₅ C₅ F₅ K₅ => ?_
  dsimp only
  rw [show idx.set p (idx.getD p 0 + 1) = bumpT p idx 1 by
    have := bumpT_set (p := p) (t := 0) (idx := idx) (by omega)
    rw [bumpT_zero] at this
    simpa using this] at K₅
  refine S1.stepE (ρ₁ := (S "j", .int ((p + 1 + 0 : Nat) : Int)) :: (S "i", .int (p : Nat)) :: nxR x I T few g) (S1.assign (.inl (by kernel_rfl)) (Ev.conv (Ev.add (a := (p : Nat)) (b := 1) (by walk_at "e") (by walk_at "e")) (by simp))) hA C₅ F₅ fun s₆ C₆ F₆ k₆ => ?_
  refine wpAny_execs_cons (wpAny_While (while_gen (prog := prog) (w := w) (g - (p + 1)) (fun u s' => Cx w β s' ∧ FP [x, I] β.H env (fdS (st2 9 3)) H s'.heap ((S "j", .int ((p + 1 + u : Nat) : Int)) :: (S "i", .int (p : Nat)) :: nxR x I T few g) ∧ CombAt x dx I T few g false (bumpT p idx (u + 1)) s'.heap) ⟨C₆, F₆, K₅.kb F₅ k₆⟩ ?_ ?_))
  · rintro u s' hu ⟨C', F', K'⟩
    have hpu : p + u + 1 < idx.length := by omega
    have hl := bumpT_len (p := p) (t := u + 1) (idx := idx) (by omega)
    refine Tv.cmp (by walk_at "e") (by walk_at "e") (co_lt (c := true) (decide_eq_true (by omega))) (by with_unfolding_all rfl) hA C' F'.ld fun s₂ C₂ K₂ => ⟨rfl, ?_⟩
    have F₂ := F'.kp K₂
    have Kc₂ := K'.kh K₂
    obtain ⟨its', eI', iI'⟩ := Kc₂.ix
    refine wpAny_execs_cons (wpAny_Assign_Subscript ?_ (by rfl))
    have L := rd (ρ := (S "j", .int ((p + 1 + u : Nat) : Int)) :: (S "i", .int (p : Nat)) :: nxR x I T few g) (by rfl) F₂ (by walk_at "lk") eI' iI'
    have ev : Ev w β (n + 1) (fdS (st2 9 3)) ((S "indices", lI (bumpT p idx (u + 1))) :: (S "j", .int ((p + 1 + u : Nat) : Int)) :: (S "i", .int (p : Nat)) :: nxR x I T few g) (asV (whBody.getD 0 (.Pass default))) (.int (idx.getD p 0 + 1 + (u + 1 : Nat))) := by
      with_unfolding_all refine Ev.conv (Ev.add (a := (bumpT p idx (u + 1)).getD (p + u) 0) (b := 1) (Ev.at (xs := iL (bumpT p idx (u + 1))) (k := p + u) (at_getD (by omega)) (by omega) (by walk_at "e") (Ev.conv (Ev.sub (a := ((p + 1 + u : Nat) : Int)) (b := 1) (by walk_at "e") (by walk_at "e")) (by congr 1; omega))) (by walk_at "e")) ?_
      rw [bumpT_get (by omega)]
      congr 1
      push_cast
      omega
    refine ev hA C₂ L fun v s₃ C₃ K₃ r₃ => ?_
    obtain ⟨t3, rfl⟩ := r₃.inv_int
    refine Ev.name (p := .raw (.ref I)) (by kernel_rfl) (by walk_at "lk") (by kernel_rfl) hA C₃ (F₂.kp K₃).ld fun ov s₄ C₄ K₄ r₄ => ?_
    cases r₄.inv_raw
    refine Ev.name (p := .int ((p + 1 + u : Nat) : Int)) (by kernel_rfl) (by walk_at "lk") (by kernel_rfl) hA C₄ ((F₂.kp K₃).kp K₄).ld fun iv s₅ C₅ K₅ r₅ => ?_
    obtain ⟨t5, rfl⟩ := r₅.inv_int
    refine comb_put (k := p + 1 + u) (v := idx.getD p 0 + 1 + (u + 1 : Nat)) O (((Kc₂.kh K₃).kh K₄).kh K₅) (by omega) (by omega) C₅ hIB hIH (((F₂.kp K₃).kp K₄).kp K₅) fun s₆ C₆ F₆ K₆ => ?_
    dsimp only
    rw [show p + 1 + u = p + (u + 1) by omega, bumpT_set (by omega)] at K₆
    refine S1.step (ρ₁ := (S "j", .int ((p + 1 + (u + 1) : Nat) : Int)) :: (S "i", .int (p : Nat)) :: nxR x I T few g) ?_ hA C₆ F₆ fun s₇ C₇ F₇ k₇ => wpAny_execs_nil ⟨C₇, F₇, K₆.kb F₆ k₇⟩
    exact S1.sub (S1.aug (c := .int (((p + 1 + u : Nat) : Int) + 1)) (.inl (by kernel_rfl)) (by walk_at "lk") (by walk_at "e") ip_ii) ⟨lk_here, by walk_at "lk", by walk_at "lk", by walk_at "lk", by walk_at "lk", by walk_at "lk", by walk_at "lk", trivial⟩
  · rintro s' ⟨C', F', K'⟩
    refine Tv.cmp (by walk_at "e") (by walk_at "e") (co_lt (c := false) (decide_eq_false (by omega))) (by with_unfolding_all rfl) hA C' F'.ld fun s₂ C₂ K₂ => ⟨rfl, ?_⟩
    refine wpAny_execs_nil (k s₂ C₂ ((F'.kp K₂).sub ⟨by walk_at "lk", by walk_at "lk", by walk_at "lk", by walk_at "lk", by walk_at "lk", trivial⟩) ?_)
    have := K'.kh K₂
    rw [show g - (p + 1) + 1 = g - p by omega, bumpT_end (by omega) hi] at this
    exact this
end
section
variable {w : World} {β : Pm} {n : Nat} {sc : Scope} {ρ ρ' : PVs} {M M' : List Addr} {env : Env} {H h h' : Heap} {s s' : Shared} {B : Heap} {prog : Pr} {A : Around} {pos : Pos} {E : Value → Shared → Prop} {x dx I T : Addr} {few idx idx' pk : List Int} {g : Nat} {first : Bool} {l : List Env} {fr : List Addr}
theorem kw_hide {wr : List Addr} (k : Kh (hideAll h wr) h') : Kw wr h h' :=
  ⟨fun b o hb e c => k.k b o (hideAll_get _ e hb) c, fun b o hb e => k.x b o (hideAll_get _ e hb)⟩
set_option maxHeartbeats 1000000 in
theorem comb_item {Q : Value → Shared → Prop} (O : CombOk x dx I T) (hf : few.length ≤ 100) (hg : 0 < g ∧ g ≤ few.length) (hi : idx.length = g) (hn : (first = true ∧ idx' = idx) ∨ (first = false ∧ nxt few.length g idx = some idx')) (hi' : idx'.length = g) (hpk : pk.length = g) (hk : ∀ (j : Nat) (a : Int), pk[j]? = some a → ∃ i : Nat, idx'[j]? = some (i : Int) ∧ few[i]? = some a)
    (hM : I ∉ M ∧ T ∉ M) (mx : Mx M s.heap) (K : CombAt x dx I T few g first idx s.heap) (hA : Ok A (n + 3)) (C : Cx w β s) (hxB : β.H.get? x = none) (hIB : β.H.get? I = none)
    (h : ∀ v s', Cx w β s' → Kw [x, I] s.heap s'.heap → CombAt x dx I T few g false idx' s'.heap → Rep M s'.heap v (.tup (iL pk)) → Q v s') : Wp prog w A (call (.ref 136) [.ref x]) Q s := by
  refine wpAny_call (next_pre hf K O hA C fun env s₁ _ _ C₁ F₁ => ?_)
  have F₀ : FP [x, I] β.H env (fdS (st2 9 3)) (hideAll s.heap [x, I]) s₁.heap (nxR x I T few g) := F₁.baseH (Kh.of fun b o e => of_hideAll _ e)
  have hxH : (hideAll s.heap [x, I]).get? x = none := hideAll_none _ (by simp)
  have hIH : (hideAll s.heap [x, I]).get? I = none := hideAll_none _ (by simp)
  have K₁ := K.kh F₁.kept
  obtain ⟨t, ox⟩ := K₁.ob
  obtain ⟨od, ed, qd⟩ := K₁.dd
  have hA1 : Ok (A.deeper env) (n + 2) := hA.deeper
  have mxk : ∀ {s' : Shared} {ρ : PVs}, FP [x, I] β.H env (fdS (st2 9 3)) (hideAll s.heap [x, I]) s'.heap ρ → Mx M s'.heap := fun {s' ρ} F a ha => by
    have kw := kw_hide F.kept
    by_cases z : a ∈ [x, I]
    · exact F.1 a z
    · exact kw.nn (mx a ha) z
  have fin : ∀ {s' : Shared} {fst : Bool}, Cx w β s' → FP [x, I] β.H env (fdS (st2 9 3)) (hideAll s.heap [x, I]) s'.heap (nxR x I T few g) → CombAt x dx I T few g false idx' s'.heap → wpAny (model prog.p w) (A.deeper env) (execs ((fdB (st2 9 3)).drop 6) env) (fun fl s'' => wants Q noE (.ok (.ret (match fl with | .ret v => v | _ => .none))) s'')
        (fun e s'' => wpAny (model prog.p w) (A.deeper env) (leaving env e) (fun _ s₃ => wants Q noE (.error e) s₃) (fun e' s₃ => wants Q noE (.error e') s₃) s'') s' := fun {s'} _ C' F' K' => by
    refine ret_picked (n := n) hf hg.2 hi' hpk hk hM (mxk F') K' (hA1.le (by omega)) C' (by rfl) F' (by walk_at "lk") (by walk_at "lk") (by walk_at "lk") fun v s'' C'' K'' r'' => ?_
    exact h v s'' C'' (kw_hide (F'.kp K'').kept) (K'.kh K'') r''
  with_unfolding_all refine wpAny_execs_cons (wpAny_If (Wp.any (prog := prog) (w := w) (wpAny_isTrue_value (sl_attr (v := .bool first) (sl_first _) (by walk_at "e") hA1 C₁ F₀.ld ox ⟨_, ed⟩ rfl rfl fun s₂ C₂ K₂ => wpAny_truthy_bool ?_) (by rfl))))
  have F₂ := F₀.kp K₂
  have Kc₂ := K₁.kh K₂
  rcases hn with ⟨rfl, rfl⟩ | ⟨rfl, hn⟩
  · simp only [if_true]
    refine sl_stepE (.bool false) (sl_first _) hA1 C₂ F₂ (K₂.k _ _ ox (by simp)) ⟨_, K₂.k _ _ ed (stay_ne qd)⟩ (by simp) hxH hxB (fun Q' hq => Ev.bool hA1 C₂ F₂.ld fun v s' C' K' r' => by cases r'.inv_bool; exact hq s' C' K') (by walk_at "e") fun s₃ C₃ F₃ hx₃ k₃ => ?_
    rw [sl_turn] at hx₃
    refine wpAny_execs_nil ?_
    dsimp only
    with_unfolding_all exact fin (fst := true) C₃ F₃ (Kc₂.unfirst O k₃ ⟨t, hx₃⟩)
  · simp only [Bool.false_eq_true, if_false]
    have hlt : runK few.length g idx < g := by
      have := (runF_at (atEnd few.length g idx) g 0).2.1
      unfold nxt at hn
      by_cases z : runK few.length g idx = g
      · rw [if_pos z] at hn; cases hn
      · unfold runK at z ⊢; omega
    have e' : idx' = bump g (g - 1 - runK few.length g idx) idx := by
      unfold nxt at hn
      rw [if_neg (Nat.ne_of_lt hlt)] at hn
      exact (Option.some.inj hn).symm
    with_unfolding_all refine next_down (n := n + 1) O hi hf hg Kc₂ hA1 C₂ F₂ fun s₃ C₃ F₃ K₃ => ?_
    refine next_up (n := n + 1) O hi hf hg hlt K₃ hA1 C₃ hIB hIH F₃ fun s₄ C₄ F₄ K₄ => ?_
    dsimp only
    rw [← e'] at K₄
    with_unfolding_all exact fin (fst := true) C₄ F₄ K₄
end
section
variable {w : World} {β : Pm} {n : Nat} {sc : Scope} {ρ ρ' : PVs} {M M' : List Addr} {env : Env} {H h h' : Heap} {s s' : Shared} {B : Heap} {prog : Pr} {A : Around} {pos : Pos} {E : Value → Shared → Prop} {x dx I T : Addr} {few idx idx' pk : List Int} {g : Nat} {first : Bool} {l : List Env} {fr : List Addr}
theorem own_next {K : Frag} {C f : Addr} {ox : Obj} {od : Option Obj} {M : Model} {Q : Option Value → Shared → Prop} (X : K.In s.heap) (I : InstAt s.heap x ox C od) (hs : findIn K (.ref C) "__next__" = some (some (.ref f))) (hf : typeIn K (.ref f) = some (.type "function"))
    (h : wpAny M A (call (.ref f) [.ref x]) (fun v s' => Q (some v) s') (OwitStop M A Q E) s) : wpAny M A (pyNext (.ref x)) Q E s := by
  unfold pyNext
  refine wpAny_bind (wpAny_attempt (special_fn (name := "__next__") (args := []) X I hs hf (wpAny_mono h (fun v s' hq => ?_) (fun e s' he => ?_))))
  · exact wpAny_pure hq
  · refine wpAny_bind (wpAny_mono he (fun b s₂ hb => ?_) fun _ _ z => z)
    cases b with
    | true => exact wpAny_pure hb
    | false => exact wpAny_throw hb
theorem comb_inst (K : CombAt x dx I T few g first idx h) : ∃ ox od, InstAt h x ox 140 (some od) := by
  obtain ⟨t, e⟩ := K.ob
  obtain ⟨od, ed, _⟩ := K.dd
  exact ⟨_, od, e, rfl, rfl, ed⟩
set_option maxHeartbeats 1000000 in
theorem comb_stop {Q : Option Value → Shared → Prop} (O : CombOk x dx I T) (hf : few.length ≤ 100) (hg : 0 < g ∧ g ≤ few.length) (hi : idx.length = g) (hn : nxt few.length g idx = none) (K : CombAt x dx I T few g false idx s.heap) (hA : Ok A (n + 3)) (C : Cx w β s) (hxB : β.H.get? x = none) (hIB : β.H.get? I = none) (St : Stk β A s.heap l fr)
    (h : ∀ s', Cx w β s' → Kz fr (· ∈ [x, I]) s.heap s'.heap → Q none s') : Wp prog w A (pyNext (.ref x)) Q s := by
  obtain ⟨_, _, inst⟩ := comb_inst K
  refine own_next C.K inst (f := 136) (by kernel_rfl) (by kernel_rfl) ?_
  refine wpAny_call (next_pre hf K O hA C fun env s₁ hfr hcl C₁ F₁ => ?_)
  have F₀ : FP [x, I] β.H env (fdS (st2 9 3)) (hideAll s.heap [x, I]) s₁.heap (nxR x I T few g) := F₁.baseH (Kh.of fun b o e => of_hideAll _ e)
  have hxH : (hideAll s.heap [x, I]).get? x = none := hideAll_none _ (by simp)
  have K₁ := K.kh F₁.kept
  obtain ⟨t, ox⟩ := K₁.ob
  obtain ⟨od, ed, qd⟩ := K₁.dd
  have hA1 : Ok (A.deeper env) (n + 2) := hA.deeper
  have hK : runK few.length g idx = g := by
    unfold nxt at hn
    by_cases z : runK few.length g idx = g
    · exact z
    · rw [if_neg z] at hn; cases hn
  with_unfolding_all refine wpAny_execs_cons (wpAny_If (Wp.any (prog := prog) (w := w) (wpAny_isTrue_value (sl_attr (v := .bool false) (sl_first _) (by walk_at "e") hA1 C₁ F₀.ld ox ⟨_, ed⟩ rfl rfl fun s₂ C₂ K₂ => wpAny_truthy_bool ?_) (by rfl))))
  have F₂ := F₀.kp K₂
  have Kc₂ := K₁.kh K₂
  simp only [Bool.false_eq_true, if_false]
  with_unfolding_all refine next_down (n := n + 1) O hi hf hg Kc₂ hA1 C₂ F₂ fun s₃ C₃ F₃ K₃ => ?_
  rw [hK] at F₃
  with_unfolding_all refine wpAny_execs_cons (wpAny_If (Wp.any (prog := prog) (w := w) (Tv.cmp (by walk_at "e") (by walk_at "e") (co_lt (c := true) (decide_eq_true (by omega))) (by with_unfolding_all rfl) hA1 C₃ F₃.ld fun s₄ C₄ K₄ => ?_)))
  simp only [if_true]
  obtain ⟨t4, ox4⟩ := (K₃.kh K₄).ob
  obtain ⟨od4, ed4, qd4⟩ := (K₃.kh K₄).dd
  refine sl_stepE (.bool true) (sl_stopped _) hA1 C₄ (F₃.kp K₄) ox4 ⟨_, ed4⟩ (by simp) hxH hxB (fun Q' hq => Ev.bool hA1 C₄ (F₃.kp K₄).ld fun v s' C' K' r' => by cases r'.inv_bool; exact hq s' C' K') (by walk_at "e") fun s₅ C₅ F₅ hx₅ k₅ => ?_
  have L₅ := F₅.ld
  have kS := F₅.kind (S "StopIteration")
  rw [show (fdS (st2 9 3)).names.lookup (S "StopIteration") = some .globalImplicit by kernel_rfl] at kS
  have gs : nsIn (Kf w.params) mainGlobals (S "StopIteration") = some none := by kernel_rfl
  refine wpAny_execs_cons (owsi_raiseC hA1.h (wpAny_Name (ks_loadName_global L₅.kind kS (Calls.loadGlobal_builtin (by rw [L₅.glb]; exact C₅.g) (mg_none_of C₅.K C₅.g gs) (by rw [L₅.bns]; exact C₅.b) ((C₅.bi _ (by decide +kernel)).trans (by kernel_rfl)) ⟨rfl, rfl⟩)) (by kernel_rfl)) fun h' e he => ?_)
  have kw := kw_hide F₅.kept
  have nfr : ∀ b ∈ fr, b ∉ [x, I] := fun b hb z => by
    rcases mcs z with rfl | z
    · obtain ⟨t, e⟩ := K.ob
      have := St.there hb e
      cases this
    · cases List.mem_singleton.mp z
      obtain ⟨its, ⟨j, e⟩, _⟩ := K.ix
      have := St.there hb e
      simp at this
  have St₅ : Stk β A s₅.heap l fr := St.kz (Kz.of_kw kw) nfr
  obtain ⟨_, _, Fm₅, _⟩ := F₅
  obtain ⟨_, _, Fm₁, _⟩ := F₁
  refine leave_new (h := s₅.heap) (St₅.deeper Fm₅ hfr) C₅ ⟨l, rfl⟩ ⟨_, hfr⟩ he fun h'' C'' kz hex => ?_
  show OwitStop _ _ _ _ _ _
  unfold OwitStop
  refine wpAny_isInstance (T := "StopIteration") (b := true) hex isSubtype_stop ?_
  simp only [if_true]
  refine h _ C'' (((Kz.of_kw kw).trans (kz.wid fun y z => z.elim)).more (fun y z => .inl z) fun y hy => ?_)
  rcases mcs hy with rfl | hy
  · exact .inr Fm₁.lo.2
  · exact .inl hy
structure IterR (prog : Pr) (w : World) (β : Pm) (A : Around) (I : Addr) (n : Nat) (Rl : Heap → Heap → Prop) (P : Nat → Value → Heap → Prop) (J : Nat → Heap → Prop) : Prop where
  item : ∀ i (s : Shared) (Q : Option Value → Shared → Prop), i < n → J i s.heap → Cx w β s → (∀ v s', P i v s'.heap → J (i + 1) s'.heap → Cx w β s' → Rl s.heap s'.heap → Q (some v) s') → Wp prog w A (pyNext (.ref I)) Q s
  done : ∀ (s : Shared) (Q : Option Value → Shared → Prop), J n s.heap → Cx w β s → (∀ s', Cx w β s' → Rl s.heap s'.heap → Q none s') → Wp prog w A (pyNext (.ref I)) Q s
theorem IterOk.toR {k : Nat} {foot own : List Addr} {P : Nat → Value → Heap → Prop} {J : Nat → Heap → Prop} (T : IterOk prog w β A I k foot own P J) : IterR prog w β A I k (Kz fr (· ∈ own)) P J where
  item := fun i s Q hi j C h => T.item i s Q hi j C fun v s' a b c d => h v s' a b c (.of_kw d)
  done := fun s Q j C h => T.done s Q j C fun s' a b => h s' a (.of_kw b)
end
noncomputable def iterI (L g : Nat) : Nat → List Int → List (List Int)
  | 0, _ => []
  | f + 1, idx => idx :: match nxt L g idx with | none => [] | some idx' => iterI L g f idx'
noncomputable def combsI (L g : Nat) : List (List Int) := iterI L g 10 (upto g)
noncomputable def seqOk (L g : Nat) (cs : List (List Int)) : Bool :=
  cs.head? == some (upto g) && (List.range cs.length).all (fun i => nxt L g (cs.getD i []) == cs[i + 1]?) && cs.all fun c => c.length == g && c.all fun a => decide (0 ≤ a) && decide (a < L)
theorem seq_all : (List.range 5).all (fun L => (List.range (L + 1)).all fun g => g == 0 || seqOk L g (combsI L g)) = true := by decide +kernel
theorem seq_ok {L g : Nat} (hL : L ≤ 4) (hg : 0 < g ∧ g ≤ L) : seqOk L g (combsI L g) = true := by
  have := List.all_eq_true.mp (List.all_eq_true.mp seq_all L (by simp; omega)) g (by simp; omega)
  rcases Bool.or_eq_true_iff.mp this with z | z
  · have : g = 0 := by simpa using z
    omega
  · exact z
noncomputable def pickI (few : List Int) (c : List Int) : List Int := c.map fun a => few.getD a.toNat 0
section
variable {w : World} {β : Pm} {n : Nat} {sc : Scope} {ρ ρ' : PVs} {M M' : List Addr} {env : Env} {H h h' : Heap} {s s' : Shared} {B : Heap} {prog : Pr} {A : Around} {pos : Pos} {E : Value → Shared → Prop} {x dx I T : Addr} {few : List Int} {g : Nat} {first : Bool} {l : List Env} {fr : List Addr}
structure CombJ (β : Pm) (A : Around) (l : List Env) (fr : List Addr) (M : List Addr) (x dx I T : Addr) (few : List Int) (g : Nat) (i : Nat) (h : Heap) : Prop where
  at_ : CombAt x dx I T few g (decide (i = 0)) ((combsI few.length g).getD (i - 1) []) h
  st : Stk β A h l fr
  mx : Mx M h
theorem comb_walk (O : CombOk x dx I T) (hf : few.length ≤ 4) (hg : 0 < g ∧ g ≤ few.length) (hM : I ∉ M ∧ T ∉ M) (hxM : x ∉ M) (hA : Ok A (n + 3)) (hxB : β.H.get? x = none) (hIB : β.H.get? I = none) (hfr : ∀ b ∈ fr, b ∉ [x, I]) :
    IterR prog w β A x (combsI few.length g).length (Kz fr (· ∈ [x, I])) (fun i v h => Rep M h v (.tup (iL (pickI few ((combsI few.length g).getD i []))))) (CombJ β A l fr M x dx I T few g) := by
  have ok := seq_ok hf hg
  unfold seqOk at ok
  rw [Bool.and_eq_true, Bool.and_eq_true, List.all_eq_true, List.all_eq_true, beq_iff_eq] at ok
  obtain ⟨⟨o1, o2⟩, o3⟩ := ok
  generalize hcs : combsI few.length g = cs at *
  have nx : ∀ i, i < cs.length → nxt few.length g (cs.getD i []) = cs[i + 1]? := fun i hi => beq_iff_eq.mp (o2 i (by simpa using hi))
  have h0 : 0 < cs.length := by cases cs with | nil => simp at o1 | cons _ _ => simp
  have mem : ∀ i, i < cs.length → cs.getD i [] ∈ cs := fun i hi => by
    rw [List.getD_eq_getElem?_getD, List.getElem?_eq_getElem hi]; exact List.getElem_mem hi
  have len : ∀ i, i < cs.length → (cs.getD i []).length = g ∧ ∀ a ∈ cs.getD i [], 0 ≤ a ∧ a < (few.length : Int) := fun i hi => by
    have := o3 _ (mem i hi)
    rw [Bool.and_eq_true, beq_iff_eq, List.all_eq_true] at this
    exact ⟨this.1, fun a ha => by have := this.2 a ha; rw [Bool.and_eq_true, decide_eq_true_eq, decide_eq_true_eq] at this; exact this⟩
  refine ⟨fun i s Q hi J C h => ?_, fun s Q J C h => ?_⟩
  · obtain ⟨K, St, mx⟩ := J
    rw [hcs] at K
    obtain ⟨_, _, inst⟩ := comb_inst K
    refine own_next C.K inst (f := 136) (by kernel_rfl) (by kernel_rfl) (Wp.any (prog := prog) (w := w) ?_)
    have l1 := len i hi
    refine comb_item (idx' := cs.getD i []) (pk := pickI few (cs.getD i [])) O (by omega) hg (len (i - 1) (by omega)).1 ?_ l1.1 (by unfold pickI; rw [List.length_map]; exact l1.1) ?_ hM mx K hA C hxB hIB fun v s' C' k' K' r' => ?_
    · cases i with
      | zero => exact .inl ⟨rfl, rfl⟩
      | succ j =>
        refine .inr ⟨by simp, ?_⟩
        rw [Nat.add_sub_cancel, nx j (by omega), List.getD_eq_getElem?_getD, List.getElem?_eq_getElem hi]; rfl
    · intro j a hj
      unfold pickI at hj
      rw [List.getElem?_map] at hj
      obtain ⟨b, hb, rfl⟩ := Option.map_eq_some_iff.mp hj
      have := l1.2 b (List.mem_of_getElem? hb)
      refine ⟨b.toNat, by rw [hb, Int.toNat_of_nonneg this.1], ?_⟩
      rw [List.getD_eq_getElem?_getD, List.getElem?_eq_getElem (by omega)]; rfl
    · have kz : Kz fr (· ∈ [x, I]) s.heap s'.heap := .of_kw k'
      refine h v s' r' ⟨?_, St.kz kz hfr, fun a ha => k'.nn (mx a ha) fun z => ?_⟩ C' kz
      · rw [hcs]; simpa using K'
      · rcases mcs z with rfl | z
        · exact hxM ha
        · exact hM.1 (List.mem_singleton.mp z ▸ ha)
  · obtain ⟨K, St, mx⟩ := J
    rw [hcs, decide_eq_false (by omega)] at K
    refine comb_stop O (by omega) hg (len _ (by omega)).1 ?_ K hA C hxB hIB St h
    rw [nx _ (by omega), show cs.length - 1 + 1 = cs.length by omega, List.getElem?_eq_none (Nat.le_refl _)]
theorem cl_self : Cl w β (n + 1) (.ref 129) [.raw (.ref x)] (.raw (.ref x)) := by
  refine cl_fn o129 [S "self"] (by kernel_rfl) rfl (by kernel_rfl) ?_ (by kernel_rfl) (by kernel_rfl) (by kernel_rfl) rfl ?_
  · intro s vs h
    obtain ⟨a, rfl⟩ := len1 h
    exact BindsTo.of_eq (by with_unfolding_all rfl)
  show Sv _ _ _ _ [(S "self", .raw (.ref x))] _ _
  with_unfolding_all exact Sv.last (S1.ret (by walk_at "e"))
theorem comb_iter {idx : List Int} {Q : Value → Shared → Prop} (K : CombAt x dx I T few g first idx s.heap) (hA : Ok A (n + 1)) (C : Cx w β s) (h : ∀ s', Cx w β s' → Kp s s' → Q (.ref x) s') : Wp prog w A (pyIter (.ref x)) Q s := by
  obtain ⟨_, _, inst⟩ := comb_inst K
  refine own_iter C.K inst (f := 129) (by kernel_rfl) (by kernel_rfl) ?_
  refine cl_self hA C (M := []) (fun _ h => nomatch h) (.cons (.raw _) .nil) fun v s' C' K' r' => ?_
  cases r'.inv_raw
  obtain ⟨_, _, inst'⟩ := comb_inst (K.kh K')
  refine wpAny_bind (inst'.type.here ((looks_findIn (r := some (.ref 136)) C'.K (by kernel_rfl)).here ?_))
  exact ⟨rfl, h s' C' K'⟩
end
section
variable {w : World} {β : Pm} {n : Nat} {sc : Scope} {ρ ρ' : PVs} {M M' : List Addr} {env : Env} {H h h' : Heap} {s s' : Shared} {B : Heap} {prog : Pr} {A : Around} {pos : Pos} {E : Value → Shared → Prop} {l : List Env} {fr : List Addr}
theorem prof_iter {m : Nat} {ps : List PV} {v : Value} {Q : Value → Shared → Prop} (hA : Ok A (n + 2)) (C : Cx w β s) (mx : Mx M s.heap) (r : Rep M s.heap v (profV m (.list ps)))
    (h : ∀ it L its s', Cx w β s' → Kp s s' → s.heap.get? it = none → s'.heap.IsListIter it L 0 → SeqAt s'.heap "list" L its → L ∉ M → L ≠ it → RepL M s'.heap its.toList ps → Q (.ref it) s') : Wp prog w A (pyIter v) Q s := by
  obtain ⟨x, dx, m', vals, rfl, _, _, hx, hd, hv, hr, ha⟩ := id r.inv_obj
  obtain ⟨od, I, lk⟩ := obj_inst hx hd
  refine own_iter (f := 408) C.K I (by kernel_rfl) (by kernel_rfl) ?_
  refine call_def (binds := [(S "self", .ref x)]) o408 C hA.lt (by kernel_rfl) rfl (by kernel_rfl) (BindsTo.of_eq (by with_unfolding_all rfl)) (by kernel_rfl) (by kernel_rfl) (by kernel_rfl) (fun _ h => (nomatch h)) rfl .nil fun env s₁ _ _ _ _ C₁ F₁ => ?_
  have F : FP M β.H env (fdS (st2 17 11)) s.heap s₁.heap [(S "self", profV m (.list ps))] := ⟨fun a ha => (mx a ha).kh F₁.kept, _, F₁, .cons (r.mono (D.of_kh F₁.kept)) .nil⟩
  have hA1 : Ok (A.deeper env) (n + 1) := hA.deeper
  have bs : Ev w β (n + 1) (fdS (st2 17 11)) [(S "self", profV m (.list ps))] (.Name (S "iter") ⟨251, 15, 251, 19⟩) (.raw (.builtin "iter")) := by walk_at "e"
  with_unfolding_all refine wpAny_execs_cons (wpAny_Return_some (callB1 bs (fun _ _ => by rfl) hA1 C₁ F.ld fun s₂ C₂ K₂ => ?_))
  have ea : Ev w β (n + 1) (fdS (st2 17 11)) [(S "self", profV m (.list ps))] (.Attribute (.Name (S "self") ⟨251, 20, 251, 24⟩) (S "_voters") ⟨251, 20, 251, 32⟩) (.list ps) := Ev.attr clsP fo_voters rfl (by walk_at "e") (by walk_at "lk")
  refine ea hA1 C₂ (F.kp K₂).ld fun v s₃ C₃ K₃ r₃ => ?_
  obtain ⟨L, its, rfl, hm, hl, rl⟩ := r₃.inv_list
  refine call_iter_list hl ?_
  have K03 : Kp s s₃ := F₁.kept.trans (K₂.trans K₃)
  have hI : s₃.heap.get? s₃.heap.objs.size = none := none_of_ge (Nat.le_refl _)
  have hIs : s.heap.get? s₃.heap.objs.size = none := Kh.none K03 hI
  have hlt : L < s₃.heap.objs.size := by obtain ⟨n, e⟩ := hl; exact Heap.lt_size e
  refine wpAny_specialOf (T := "list_iterator") (r := some (.builtin "list_iterator.__next__")) ⟨_, Heap.get?_push_size _ rfl, rfl⟩ slot_listiter_next.lookup ⟨rfl, ?_⟩
  refine h _ L its _ (C₃.push _) (kp_trans K03 (kp_push s₃ _)) hIs ⟨_, Heap.get?_push_size _ rfl, rfl, rfl⟩ ?_ hm (Nat.ne_of_lt hlt) (rl.mono (D.of_kp (kp_push s₃ _)))
  obtain ⟨j, e⟩ := hl
  exact ⟨j, Heap.get?_push_of_some _ e⟩
theorem ctt {M : Model} {f : List (Code × Pos) → Bool} {Q : Bool → Shared → Prop} (h : ∀ b, Q b s) : wpAny M A stack (fun a s' => wpAny M A (pure (f a)) Q E s') E s := wpAny_stack_any fun st => wpAny_pure (h _)
theorem enum_new {v : Value} {Bv : Value → Shared → Prop} : MeetsIn prog.p w (Builtin.«enumerate.__new__» ⟨[.type "enumerate", v], []⟩) (fun A R s => Wp prog w A.in1 (pyIter v) (fun it s' => R (.ok (.ret (.ref s'.heap.objs.size))) { s' with heap := s'.heap.push { cls := .type "enumerate", data := .fields #[.none, .bool false, it, rawInt 0, .none, .none] } }) s) :=
  .of_wp fun A R s h => by
    have hsub := sub_enumerate
    obtain ⟨hp, g, d, tk, os⟩ := s
    wp_walk
    refine ctt fun b => ?_
    have lem : ∀ {Q : Value → Shared → Prop} {E : Value → Shared → Prop}, (∀ it s', R (.ok (.ret (.ref s'.heap.objs.size))) { s' with heap := s'.heap.push { cls := .type "enumerate", data := .fields #[.none, .bool false, it, rawInt 0, .none, .none] } } → Q it s') → wpAny (model prog.p w) A.in1 (pyIter v) Q E ⟨hp, g, d, tk, os⟩ := fun hQ => wpAny_mono (Wp.any h) hQ fun _ _ z => z
    have fin : ∀ it (s' : Shared), R (.ok (.ret (.ref s'.heap.objs.size))) { s' with heap := s'.heap.push { cls := .type "enumerate", data := .fields #[.none, .bool false, it, rawInt 0, .none, .none] } } →
      wpAny (model prog.p w) A.in1 (do
          let __do_lift ← Builtin.SmallTypes.newRecord (Value.type "enumerate") (Builtin.SmallTypes.ownedTupleFields ++ [it, rawInt 0, Value.none, Value.none])
          ret __do_lift) (fun fin s' => ∃ v, fin = Fin.done (Flow.ret v) ∧ R (Except.ok (Flow.ret v)) s') (fun e s' => R (Except.error e) s') s' := fun it s' q => by
      obtain ⟨hp, g, d, tk, os⟩ := s'
      wp_walk
      exact ⟨_, rfl, q⟩
    cases b
    · wp_walk using lem
      exact fin
    · wp_walk using lem
      exact fin
theorem mk_enum {m : Nat} {ps : List PV} {v : Value} {Q : Value → Shared → Prop} (hA : Ok A (n + 4)) (C : Cx w β s) (mx : Mx M s.heap) (r : Rep M s.heap v (profV m (.list ps)))
    (h : ∀ e it L its s', Cx w β s' → Kp s s' → s.heap.get? it = none → s.heap.get? e = none → e ≠ it → e ≠ L → L ≠ it → L ∉ M → IsEnum s'.heap e it 0 .none → s'.heap.IsListIter it L 0 → SeqAt s'.heap "list" L its → RepL M s'.heap its.toList ps → Q (.ref e) s') : Wp prog w A (call (.type "enumerate") [v]) Q s := by
  refine callType_newIn F.called_enumerate (by decide) (F.typeCall_enumerate_1 _) (F.newCall_enumerate_1 _) (fun obj => F.args_object_init_2 obj _) F.entry_enumerate_new
    (enum_new (Bv := fun _ _ => True)) (prof_iter hA.in1.in1 C mx r fun it L its s' C' K' n1 hi hl hm hne rl => ?_)
  have e1 : (s'.heap.push { cls := .type "enumerate", data := .fields #[.none, .bool false, .ref it, rawInt 0, .none, .none] }).get? s'.heap.objs.size = some { cls := .type "enumerate", data := .fields #[.none, .bool false, .ref it, rawInt 0, .none, .none] } := Heap.get?_push_size _ rfl
  have n2 : s'.heap.get? s'.heap.objs.size = none := none_of_ge (Nat.le_refl _)
  refine ⟨⟨_, e1, rfl⟩, ?_⟩
  obtain ⟨oi, ei, ci, di⟩ := hi
  obtain ⟨j, el⟩ := hl
  refine h _ it L its _ (C'.push _) (kp_trans K' (kp_push s' _)) n1 (Kh.none K' n2) (fun z => ?_) (fun z => ?_) hne hm e1 ⟨oi, Heap.get?_push_of_some _ ei, ci, di⟩ ⟨j, Heap.get?_push_of_some _ el⟩ (rl.mono (D.of_kp (kp_push s' _)))
  · rw [z, ei] at n2; cases n2
  · rw [z, el] at n2; cases n2
structure IterT (prog : Pr) (w : World) (β : Pm) (A : Around) (I : Addr) (n : Nat) (Rl : Heap → Heap → Prop) (Mid : Nat → Value → Heap → Prop) (J : Nat → Heap → Prop) : Prop where
  item : ∀ i (s : Shared) (Q : Option Value → Shared → Prop), i < n → J i s.heap → Cx w β s → (∀ v s', Mid i v s'.heap → Cx w β s' → Rl s.heap s'.heap → Q (some v) s') → Wp prog w A (pyNext (.ref I)) Q s
  done : ∀ (s : Shared) (Q : Option Value → Shared → Prop), J n s.heap → Cx w β s → (∀ s', Cx w β s' → Rl s.heap s'.heap → Q none s') → Wp prog w A (pyNext (.ref I)) Q s
theorem for_genT {I : Addr} {target : Expr} {body : List Stmt} {k : Nat} {Rl : Heap → Heap → Prop} {Mid : Nat → Value → Heap → Prop} {J : Nat → Heap → Prop} {R : Result → Shared → Prop} (Inv : Nat → Shared → Prop) (T : IterT prog w β A I k Rl Mid J) (j0 : J 0 s.heap) (i0 : Inv 0 s) (C : Cx w β s)
    (turn : ∀ i v s₀ s', i < k → Inv i s₀ → Cx w β s' → Rl s₀.heap s'.heap → Mid i v s'.heap → Wp prog w A (letOwnedTupleGo target (.ref I) v) (fun _ s₁ => Wp prog w A (assign target env v) (fun _ s₂ => Wp prog w A (execs body env) (fun f s₃ => match f with
      | .next | .cont => Inv (i + 1) s₃ ∧ J (i + 1) s₃.heap ∧ Cx w β s₃
      | .brk => False
      | .ret v => R (.ok (.ret v)) s₃) s₂) s₁) s')
    (fin : ∀ s₀ s', Inv k s₀ → Cx w β s' → Rl s₀.heap s'.heap → R (.ok .next) s') : codeAny (model prog.p w) A (.forLoop target (.ref I) body [] env) R s := by
  refine codeAny_forLoop_any (fun m s' => ∃ i, Inv i s' ∧ J i s'.heap ∧ Cx w β s' ∧ i ≤ k ∧ m = k + 1 - i) ?_ (k + 1) ⟨0, i0, j0, C, Nat.zero_le _, rfl⟩
  rintro m s' ⟨i, iv, j, C', hi, rfl⟩
  by_cases hlt : i < k
  · refine Wp.any (T.item i s' _ hlt j C' fun v s₁ hp C₁ k₁ => ?_)
    refine Wp.any ((turn i v s' s₁ hlt iv C₁ k₁ hp).mono fun _ s₂ h₂ => Wp.any (h₂.mono fun _ s₃ h₃ => Wp.any (h₃.mono fun f s₄ h₄ => ?_)))
    cases f with
    | next => exact ⟨k + 1 - (i + 1), dec1 hlt, i + 1, h₄.1, h₄.2.1, h₄.2.2, hlt, rfl⟩
    | cont => exact ⟨k + 1 - (i + 1), dec1 hlt, i + 1, h₄.1, h₄.2.1, h₄.2.2, hlt, rfl⟩
    | brk => exact h₄.elim
    | ret v => exact h₄
  · have hin : i = k := Nat.le_antisymm hi (Nat.not_lt.mp hlt)
    subst hin
    refine Wp.any (T.done s' _ j C' fun s₁ C₁ k₁ => ?_)
    exact wpAny_execs_nil (fin s' s₁ iv C₁ k₁)
theorem IterR.toT {I : Addr} {k : Nat} {Rl : Heap → Heap → Prop} {P : Nat → Value → Heap → Prop} {J : Nat → Heap → Prop} (T : IterR prog w β A I k Rl P J) : IterT prog w β A I k Rl (fun i v h => P i v h ∧ J (i + 1) h) J where
  item := fun i s Q hi j C h => T.item i s Q hi j C fun v s' a b c d => h v s' ⟨a, b⟩ c d
  done := T.done
end
theorem si_entry : entryFor table "set.intersection" = some Builtin.«frozenset.intersection» := entryFor_alias (id' := "frozenset.intersection") (by kernel_rfl) rfl (by decide +kernel) (by kernel_rfl)
theorem si_args : ∀ (a : Value) (rest : List Value), rest.length ≤ 4 → argsOk "set.intersection" ⟨a :: rest, []⟩
  | a, [], _ => by unfold argsOk; kernel_rfl
  | a, [b], _ => by unfold argsOk; kernel_rfl
  | a, [b, c], _ => by unfold argsOk; kernel_rfl
  | a, [b, c, d], _ => by unfold argsOk; kernel_rfl
  | a, [b, c, d, e], _ => by unfold argsOk; kernel_rfl
  | a, b :: c :: d :: e :: f :: r, h => absurd h (by simp)
theorem check_method {M : Model} {A : Around} {E : Value → Shared → Prop} {s : Shared} {i owner n : String} {self : Value} {rest : List Value} {kw : List (Str × Value)} {Q : Unit → Shared → Prop}
    (hk : builtinKind i = some .method) (hs : splitId i = some (owner, n)) (hi : Looks M s.heap (isInstance self (.type owner)) true) (ha : argsOk i ⟨self :: rest, kw⟩) (q : Q () s) :
    wpAny M A (checkBuiltinCall i ⟨self :: rest, kw⟩) Q E s := by
  simp only [checkBuiltinCall, hk, hs]
  refine wpAny_bind (hi.here ?_)
  simp only [Bool.not_true, Bool.false_eq_true, if_false]
  cases hsig : Manifest.signature? i with
  | none => exact wpAny_pure q
  | some sig =>
    simp only [argsOk, hsig] at ha
    have h2 : Bind.checkArgs i sig ⟨self :: rest, kw⟩ = pure () := ha
    show wpAny M A (Bind.checkArgs i sig ⟨self :: rest, kw⟩) Q E s
    rw [h2]; exact wpAny_pure q
noncomputable def meet (S : Nat) (r : List Nat) : Nat := r.foldl (· &&& ·) S
section
variable {w : World} {β : Pm} {n : Nat} {sc : Scope} {ρ ρ' : PVs} {M M' : List Addr} {env : Env} {H h h' : Heap} {s s' : Shared} {B : Heap} {prog : Pr} {A : Around} {pos : Pos} {E : Value → Shared → Prop} {l : List Env} {fr : List Addr}
theorem inter_fold {F : Value → Value → Sem (ForInStep Value)} (hF : ∀ o r, F o r = (do let r' ← holding [r] (do Builtin.Frozenset.intersection "frozenset.intersection" (← Builtin.Frozenset.addrOf r) o); pure (.yield r'))) :
    ∀ (vs : List Value) (Ss : List Nat) (v : Value) (own : Bool) (S : Nat) (s : Shared) (Q : Value → Shared → Prop), Cx w β s → Mx M s.heap → RepL M s.heap vs (Ss.map fun S => .set true (ledOf w) S) → Rep M s.heap v (.set own (ledOf w) S) → (vs = [] → own = false) →
      (∀ v' s', Cx w β s' → Kp s s' → Rep M s'.heap v' (.set false (ledOf w) (meet S Ss)) → Q v' s') → Wp prog w A (forIn vs v F) Q s
  | [], [], v, own, S, s, Q, C, mx, rl, r, ho, h => by
    rw [List.forIn_nil]
    rw [ho rfl] at r
    exact wpAny_pure (h v s C (kp_refl _) r)
  | o :: vs, S' :: Ss, v, own, S, s, Q, C, mx, rl, r, _, h => by
    rw [List.forIn_cons, hF]
    cases rl with
    | cons ro rl =>
      obtain ⟨x, d, tk, ep, rfl, _, hS, hx, _⟩ := id r.inv_set
      obtain ⟨y, d', tk', ep', rfl, _, hS', hy, _⟩ := id ro.inv_set
      refine wpAny_bind (wpAny_bind (wpAny_holding ?_))
      rw [addr_of]
      refine wpAny_bind (wpAny_pure ?_)
      refine inter_wp C mx hx hS hy hS' fun v' s' C' K' r' => wpAny_pure ?_
      exact inter_fold hF vs Ss v' false (S &&& S') s' Q C' (mx.kp K') (rl.mono (D.of_kp K')) r' (fun _ => rfl) fun v'' s'' C'' K'' r'' => h v'' s'' C'' (kp_trans K' K'') r''
  | [], _ :: _, _, _, _, _, _, _, _, rl, _, _, _ => by cases rl
  | _ :: _, [], _, _, _, _, _, _, _, rl, _, _, _ => by cases rl
theorem method_callS {x : Addr} {own led : Bool} {S : Nat} {d : Option Addr} {tk : Nat → Tok} {ep : Nat} {id nm : String} {Bi : Builtin} {rest : List Value} {Q : Value → Shared → Prop} (X : (Kf w.params).In s.heap) (ho : s.heap.get? x = some (setO (setC own) d led S tk ep)) (hk : builtinKind id = some .method) (hs : splitId id = some ("set", nm)) (hp : plainId id = true) (he : entryFor table id = some Bi) (ha : argsOk id ⟨.ref x :: rest, []⟩)
    (h : Wp prog w A.in1 (Bi ⟨.ref x :: rest, []⟩) (fun fin s' => ∃ v, fin = .done (.ret v) ∧ Q v s') s) : Wp prog w A (call (.builtin id) (.ref x :: rest)) Q s := by
  refine wpAny_call (codeAny_call_builtin hp he (check_method hk hs (set_inst X ho) ha ?_))
  refine wpAny_mono h (fun fin s' z => ?_) fun _ _ z => z.elim
  obtain ⟨v, rfl, q⟩ := z
  exact q
theorem si_kind : builtinKind "set.intersection" = some .method := by kernel_rfl
theorem si_split : splitId "set.intersection" = some ("set", "intersection") := by kernel_rfl
theorem cl_inter {S : Nat} {Ss : List Nat} (hn : Ss.length ≤ 4) : Cl w β n (.builtin "set.intersection") (.set true (ledOf w) S :: Ss.map fun S => .set true (ledOf w) S) (.set false (ledOf w) (meet S Ss)) := by
  intro prog A s M vs Q hA C mx rl h
  cases rl with
  | cons r rl =>
    rename_i v vs
    obtain ⟨x, d, tk, ep, rfl, _, hS, hx, _⟩ := id r.inv_set
    have hl : vs.length ≤ 4 := by rw [rl.at.1, List.length_map]; exact hn
    refine method_callS C.K hx si_kind si_split PySem.F.slot_set_intersection.plain si_entry (si_args _ _ hl) ?_
    unfold Builtin.«frozenset.intersection» Builtin.Frozenset.manyOthers
    refine wpAny_bind (m := Builtin.Frozenset.addrOf (.ref x) >>= fun a => pure (a, vs)) ?_
    rw [addr_of]
    refine wpAny_bind (wpAny_pure (wpAny_pure ?_))
    dsimp only
    by_cases he : vs = []
    · subst he
      have hSs : Ss = [] := by cases Ss with | nil => rfl | cons _ _ => cases rl
      subst hSs
      simp only [List.isEmpty_nil, if_true]
      refine wpAny_bind (wpAny_rule (wpAny_bind ?_))
      refine copy_of (led := true) (C.new (none_of_ge (Nat.le_refl _))) C mx.offN hx hS fun v' s' C' K' r' => wpAny_pure ?_
      exact ⟨_, rfl, h v' s' C' K' r'⟩
    · rw [if_neg (by simpa using he)]
      refine wpAny_bind (inter_fold (fun _ _ => rfl) vs Ss _ true S s _ C mx rl r (fun z => absurd z he) fun v' s' C' K' r' => wpAny_pure ?_)
      exact ⟨_, rfl, h v' s' C' K' r'⟩
end
section
variable {w : World} {β : Pm} {n : Nat} {sc : Scope} {ρ ρ' : PVs} {M M' : List Addr} {env : Env} {H h h' : Heap} {s s' : Shared} {B : Heap} {prog : Pr} {A : Around} {pos : Pos} {E : Value → Shared → Prop} {l : List Env} {fr : List Addr}
theorem sub_KX {K : Frag} {x C f : Addr} {ox : Obj} {od : Option Obj} {value slice : Expr} {i : Value} {Q : Value → Shared → Prop} (X : K.In s.heap) (I : InstAt s.heap x ox C od) (hs : findIn K (.ref C) "__getitem__" = some (some (.ref f))) (hf : fnIn K f = true) (hfn : isFn K (.ref f) = true)
    (h : wpAny (model prog.p w) A.in1 (call (.ref f) [.ref x, i]) Q E s)
    (hsl : subscripted slice true (.ref x) i = runValue (.builtin "lifetime.subscript" ⟨[.ref x, i], []⟩) := by with_unfolding_all rfl) :
    wpAny (model prog.p w) A (subscriptTail value slice (.ref x) i) Q E s := by
  unfold fnIn at hf
  split at hf
  · rename_i e
    unfold subscriptTail getitemInPython
    refine wpAny_bind (wpAny_bind (wpAny_bind (I.type.here ((looks_findIn X hs).here ?_))))
    dsimp only
    refine wpAny_bind (wpAny_load (X _ _ e) (wpAny_pure ?_))
    dsimp only
    rw [hsl]
    refine wpAny_bind (wpAny_runValue (codeAny_builtin PySem.W.entry_sub ?_))
    unfold Builtin.«lifetime.subscript»
    refine wpAny_bind (special_fn X I hs (beq_iff_eq.mp hfn) (wpAny_mono h (fun v s' z => ?_) fun _ _ z => z))
    refine wpAny_pure ?_
    show wpAny (model prog.p w) A (letTemporaryGo value (.ref x) v >>= fun _ => pure v) Q E s'
    exact wpAny_bind (wpAny_letTemporaryGo (wpAny_pure z))
  · cases hf
set_option maxHeartbeats 1000000 in
theorem getitem_wp {xp dxp L : Addr} {m : Str → Option Value} {its : Array Value} {k : Nat} {t : Tok} {v : Value} {Q : Value → Shared → Prop} (hroom : A.depth < recursionLimit) (X : (Kf w.params).In s.heap) (lim : s.heap.NoLimit)
    (hx : s.heap.get? xp = some (inst 453 dxp)) (hd : DictAt s.heap dxp m) (hv : m (S "_voters") = some (.ref L)) (hL : SeqAt s.heap "list" L its) (hk : its[k]? = some v) (hk1 : k < 1000)
    (hq : ∀ s', Keeps s s' → Q v s') : wpAny (model prog.p w) A (call (.ref 415) [.ref xp, .int (k : Nat) t]) Q E s := by
  refine wpAny_call (codeAny_call_def (binds := [(S "self", .ref xp), (S "i", .int (k : Nat) t)]) hroom (X 415 o415 (by kernel_rfl)) rfl lim (codeRec_of X (by kernel_rfl)) rfl (BindsTo.of_eq (by with_unfolding_all rfl)) (by with_unfolding_all decide) (fun y hy => by
    rcases mcs hy with rfl | hy
    · kernel_rfl
    · cases List.mem_singleton.mp hy; kernel_rfl) (fun h₁ hns hkeep => ?_) (by with_unfolding_all rfl) (by with_unfolding_all rfl) (by with_unfolding_all rfl))
  have hx₁ := hkeep _ _ hx
  have X₁ : (Kf w.params).In h₁ := X.keeps hkeep
  have hd₁ : DictAt h₁ dxp m := hd.at fun o e => hkeep _ _ e
  obtain ⟨j, eL⟩ := hL
  have eL₁ := hkeep _ _ eL
  have fin : ∀ (tk : Nat) (h₂ : Heap), (∀ b o, h₁.get? b = some o → h₂.get? b = some o) → Q v { s with heap := h₂, toks := tk } := fun tk h₂ k => hq _ ⟨h₂, tk, rfl, fun b o e => k b o (hkeep b o e)⟩
  with_unfolding_all refine wpAny_execs_cons (wpAny_Return_some (PyProof.Rows.Subscript_ (Attribute_any_ (wpAny_Name (wpAny_loadName_local rfl rfl hns rfl ?_) (by kernel_rfl)) (by with_unfolding_all rfl))))
  refine get_attrK X₁ clsP fo_voters rfl hx₁ hd₁ hv ?_
  refine wpAny_Name (wpAny_loadName_local (v := .int (k : Nat) t) rfl rfl hns rfl ?_) (by kernel_rfl)
  have hl : h₁.IsList L its := ⟨_, eL₁, rfl, j, rfl⟩
  refine sub_tail hl.typeIs list_getitem_lookup (wpAny_getItem_list hl (by omega) (by omega) (x := v) (by simpa using hk) ?_) (by with_unfolding_all rfl)
  exact fin _ h₁ fun _ _ e => e
theorem attr_typeX {T : String} {name : Str} {v : Value} {Q : Value → Shared → Prop} (X : (Kf w.params).In s.heap) (ht : typeOf (.type T) = pure (.type "type")) (hs : Manifest.isStub T = false)
    (e : findCls (Kf w.params) (.type T) (.type "type") name = some (.val v)) (hh : handedIn v = true) (h : Q v { s with toks := s.toks + 1 }) : wpAny (model prog.p w) A (getAttr (.type T) name true) Q E s := by
  have hstub : opaqueClassAbove (.type T) = pure none := by unfold opaqueClassAbove; dsimp only; rw [hs]; rfl
  have L0 : Looks (model prog.p w) s.heap (typeOf (.type T)) (.type "type") := Looks.of_pure ht
  have hg : findIn (Kf w.params) (.type "type") "__getattribute__" = some (some (.builtin "type.__getattribute__")) := type_tga
  have LO : Looks (model prog.p w) s.heap (opaqueClassAbove (.type T)) none := Looks.of_pure hstub
  refine cls_open X LO L0 hg (looks_hook X (r := none) (by rfl)) (by show subIn (Kf w.params) _ _ = _; rfl) e
    (wpAny_pure (by show wpAny _ _ (handedOut v) _ _ _; rw [handedOut_of hh]; exact wpAny_pure h))
theorem star_method {M : Model} {o : Expr} {name : Str} {apos pos : Pos} {args : List Expr} {Q : Value → Shared → Prop}
    (h : wpAny M A (eval o env) (fun ov s₁ => wpAny M A (getAttr ov name true) (fun f s₂ => wpAny M A (callWith pos f [] (backTo pos (starEach args env)) []) Q E s₂) E s₁) E s)
    (hbase : attributeBase o name env (eval o env) = eval o env) (hform : methodCallForm (args.length + ([] : List Keyword).length) (backTo pos (starEach args env)) (backToKw pos (keywordEach [] env)) = false) :
    wpAny M A (eval (.Call (.Attribute o name apos) args [] pos) env) Q E s := by
  rw [arm_eval_Call, hbase]
  refine wpAny_bind (wpAny_mono h (fun ov s₁ h₁ => ?_) fun _ _ x => x)
  refine wpAny_bind (wpAny_standAt ?_)
  have hpos : methodCallPos false o env apos pos = pure pos := by unfold methodCallPos; simp
  unfold methodCall
  rw [hform]
  unfold calleeOf
  simp only [Bool.false_eq_true, if_false]
  refine wpAny_bind (wpAny_holding (wpAny_bind (wpAny_mono h₁ (fun f s₂ h₂ => wpAny_pure ?_) fun _ _ x => x)))
  exact wpAny_bind (wpAny_of_eq hpos h₂)
noncomputable def setsAt (Ss : List Nat) (c : List Int) : List Nat := c.map fun a => Ss.getD a.toNat 0
set_option maxHeartbeats 1000000 in
theorem gen_cut {xp : Addr} {m : Nat} {Ss : List Nat} {c : List Int} {Q : Value → Shared → Prop} {p1 p2 p3 p4 p5 p6 p7 : Pos} {scope : Scope} (hscope : scope = { kind := .function, names := [(S ".0", .local), (S "vi", .local), (S "profile", .free)], isGenerator := true, isCoroutine := false, more := [] })
    (hA : Ok A (n + 4)) (C : Cx w β s) (L : Ld M env (fdS (st1 15)) s.heap ρ) (hcode : env.code = .ref 316) (hρ1 : ρ.lookup (S "profile") = some (.raw (.ref xp))) (hρ2 : ρ.lookup (S "combination") = some (.tup (iL c))) (hρ3 : ρ.lookup (S "vi") = none) (hρ4 : ρ.lookup (S ".0") = none)
    (rp : Rep M s.heap (.ref xp) (prof (ledOf w) m Ss)) (hc : ∀ a ∈ c, 0 ≤ a ∧ a < (Ss.length : Int)) (hn : Ss.length ≤ 100)
    (h : ∀ a s', Cx w β s' → Kp s s' → GenX prog.p w A s.heap a c.length (fun i u => ∃ S', (setsAt Ss c)[i]? = some S' ∧ Rep M s.heap u (.set true (ledOf w) S')) s' → Q (.ref a) s') :
    Wp prog w A (eval (.GeneratorExp (.Attribute (.Subscript (.Name (S "profile") p1) (.Name (S "vi") p2) p3) (S "approved") p4) [⟨.Name (S "vi") p5, .Name (S "combination") p6, [], 0⟩] scope p7) env) Q s := by
  subst hscope
  have hl : (iL c).length = c.length := by simp [iL]
  refine gen_rule (c := 316) (P := 312) (xs := iL c) (pi := .tup (iL c)) (F := fun i u => ∃ S', (setsAt Ss c)[i]? = some S' ∧ Rep M s.heap u (.set true (ledOf w) S')) (by decide) hA C L hcode ?_ (Ev.name (by kernel_rfl) hρ2 (by kernel_rfl)) (.inr rfl) ?_ fun a s₂ C₂ K₂ X => ?_
  · unfold genOk compOk
    simp only [List.all_cons, List.all_nil, hρ1, hρ3, hρ4]
    kernel_rfl
  · intro A' E' i v y s₂ m₂ cenv hA' hd hu hy r hns hm S' D
    have hy' := hy
    unfold iL at hy'
    rw [List.getElem?_map] at hy'
    obtain ⟨a, ha, rfl⟩ := Option.map_eq_some_iff.mp hy'
    obtain ⟨t, rfl⟩ := r.inv_int
    obtain ⟨a1, a2⟩ := hc a (List.mem_of_getElem? ha)
    obtain ⟨k, rfl⟩ : ∃ k : Nat, a = (k : Int) := ⟨a.toNat, by omega⟩
    have hk : k < Ss.length := by omega
    obtain ⟨xp', dxp, mp, valsp, e, hmx, hmd, hx, hdx, hv, hr, _⟩ := id rp.inv_obj
    cases e
    have rL := hr _ _ (lk_here (x := EJ.S "_voters") (v := PV.list (Ss.map (voter (ledOf w)))))
    have eL := hv _ _ (lk_here (x := EJ.S "_voters") (v := PV.list (Ss.map (voter (ledOf w)))))
    obtain ⟨Lp, its, eLp, hmL, hl1, rl⟩ := rL.inv_list
    rw [eLp] at eL
    have hz : its.size = Ss.length := by rw [← Array.length_toList, rl.at.1, List.length_map]
    have rv := rl.at.2 k its[k] (voter (ledOf w) Ss[k]) (by rw [Array.getElem?_toList]; exact Array.getElem?_eq_getElem (by omega)) (by rw [List.getElem?_map, List.getElem?_eq_getElem hk]; rfl)
    obtain ⟨xv, dv, mv, valsv, ev, hmxv, hmdv, hxv, hdv, hvv, hrv, _⟩ := id rv.inv_obj
    have hap : List.lookup (EJ.S "approved") [(EJ.S "weight", PV.int 1), (EJ.S "approved", PV.set true (ledOf w) Ss[k])] = some (.set true (ledOf w) Ss[k]) := by walk_at "lk"
    have ra := hrv _ _ hap
    have ea := hvv _ _ hap
    have toD : ∀ {a : Addr} {m : Str → Option Value}, DictAt s.heap a m → a ∉ M → DictAt s₂.heap a m := fun hd hn => hd.at fun o e => D _ o e (by obtain ⟨es, ep, q, _⟩ := hd; rw [q] at e; cases e; rfl) hn
    have hx₂ := D _ _ hx rfl hmx
    have hdx₂ := toD hdx hmd
    obtain ⟨jL, eLL⟩ := hl1
    have eL₂ : SeqAt s₂.heap "list" Lp its := ⟨jL, D _ _ eLL rfl hmL⟩
    have hxv₂ := D _ _ hxv rfl hmxv
    have hdv₂ := toD hdv hmdv
    obtain ⟨odp, Ip, lkp⟩ := obj_inst hx₂ hdx₂
    refine Attribute_any_ (PyProof.Rows.Subscript_ (gen_free S' rfl (by kernel_rfl) hρ1 (by kernel_rfl) (by kernel_rfl) fun u ru => ?_)) (by with_unfolding_all rfl)
    cases ru.inv_raw
    refine gen_name S' rfl (by kernel_rfl) hns hm (by kernel_rfl) ?_
    refine sub_KX (f := 415) S'.K Ip (by kernel_rfl) (by kernel_rfl) (by kernel_rfl) ?_ (by with_unfolding_all rfl)
    have hd' : A'.in1.depth < recursionLimit := by
      have := hA.d
      show A'.depth < 1000
      omega
    refine getitem_wp hd' S'.K S'.lim hx₂ hdx₂ eL eL₂ (v := its[k]) (Array.getElem?_eq_getElem (by omega)) (by omega) fun s₃ k₃ => ?_
    obtain ⟨h₃, tk, rfl, kk⟩ := k₃
    rw [ev]
    refine get_attrK (S'.K.keeps kk) clsV fo_approved (ra.handed rfl) (kk _ _ hxv₂) (hdv₂.at fun o e => kk _ o e) ea ⟨⟨Ss[k], ?_, ra⟩, _, _, rfl, kk⟩
    unfold setsAt
    rw [List.getElem?_map, ha]
    simp [List.getD_eq_getElem?_getD, hk]
  · rw [hl] at X
    exact h a s₂ C₂ K₂ X
theorem setsAt_len {Ss : List Nat} {c : List Int} : (setsAt Ss c).length = c.length := by simp [setsAt]
theorem gen_iter_slot : Slot "generator" "__iter__" "generator.__iter__" :=
  .of (owner := "generator") (n := "__iter__") (by rw [typeLookup_type, builtinLookup_eq_fast]; kernel_rfl) (by decide +kernel) (by decide +kernel) (by decide +kernel)
    (by first | exact .inl (by decide +kernel) | exact .inr (by decide +kernel)) (by rw [isSubtype_type]; kernel_rfl)
set_option maxHeartbeats 1000000 in
theorem cut_wp {xp : Addr} {m S₀ : Nat} {Ss rest : List Nat} {c : List Int} {Q : Value → Shared → Prop} {p0 p1 p2 p3 p4 p5 p6 p7 p8 p9 pos : Pos} {scope : Scope} (hscope : scope = { kind := .function, names := [(S ".0", .local), (S "vi", .local), (S "profile", .free)], isGenerator := true, isCoroutine := false, more := [] })
    (hA : Ok A (n + 4)) (C : Cx w β s) (L : Ld M env (fdS (st1 15)) s.heap ρ) (hcode : env.code = .ref 316) (hρ1 : ρ.lookup (S "profile") = some (.raw (.ref xp))) (hρ2 : ρ.lookup (S "combination") = some (.tup (iL c))) (hρ3 : ρ.lookup (S "vi") = none) (hρ4 : ρ.lookup (S ".0") = none)
    (rp : Rep M s.heap (.ref xp) (prof (ledOf w) m Ss)) (hc : ∀ a ∈ c, 0 ≤ a ∧ a < (Ss.length : Int)) (hn : Ss.length ≤ 100) (hcn : c.length ≤ 4) (hs0 : setsAt Ss c = S₀ :: rest)
    (h : ∀ v s', Cx w β s' → Kp s s' → Rep M s'.heap v (.set false (ledOf w) (meet S₀ rest)) → Q v s') :
    Wp prog w A (eval (.Call (.Attribute (.Name (S "set") p0) (S "intersection") p9) [.Starred (.GeneratorExp (.Attribute (.Subscript (.Name (S "profile") p1) (.Name (S "vi") p2) p3) (S "approved") p4) [⟨.Name (S "vi") p5, .Name (S "combination") p6, [], 0⟩] scope p7) p8] [] pos) env) Q s := by
  have nm : Ev w β (n + 4) (fdS (st1 15)) ρ (.Name (S "set") p0) (.raw (.type "set")) := by walk_at "e"
  refine star_method (nm hA C L fun v s₁ C₁ K₁ r₁ => ?_) (by rfl) (by rfl)
  cases r₁.inv_raw
  refine attr_typeX C₁.K (by kernel_rfl) (by kernel_rfl) (v := .builtin "set.intersection") (by kernel_rfl) (by kernel_rfl) ?_
  have C₂ : Cx w β { s₁ with toks := s₁.toks + 1 } := Cx.tk C₁
  have L₁ : Ld M env (fdS (st1 15)) s₁.heap ρ := L.kp K₁
  have rp₁ := rp.kp K₁
  rw [show starEach [.Starred (.GeneratorExp (.Attribute (.Subscript (.Name (S "profile") p1) (.Name (S "vi") p2) p3) (S "approved") p4) [⟨.Name (S "vi") p5, .Name (S "combination") p6, [], 0⟩] scope p7) p8] env = [(true, eval (.GeneratorExp (.Attribute (.Subscript (.Name (S "profile") p1) (.Name (S "vi") p2) p3) (S "approved") p4) [⟨.Name (S "vi") p5, .Name (S "combination") p6, [], 0⟩] scope p7) env)] by rfl]
  refine ks_call (P := fun _ => True) rfl (fun _ _ => ⟨.machine, .inr (.inl rfl), Looks.of_pure rfl⟩) (ks_lone ?_)
  refine gen_cut (s := { s₁ with toks := s₁.toks + 1 }) hscope hA C₂ L₁ hcode hρ1 hρ2 hρ3 hρ4 rp₁ hc hn fun a s₂ C₃ K₃ X => ?_
  obtain ⟨fp, wr, g, St, W, st, hfp, hw, hT, hin⟩ := X
  have W := W.in4_1
  unfold StarOf notIterableAtAll
  refine wpAny_bind (wpAny_specialOf (hT 0 s₂ st) gen_iter_slot.lookup (wpAny_pure ⟨rfl, ?_⟩))
  refine wpAny_collect_gen W hT st hfp hin (fun s' acc hm hacc => ⟨trivial, ?_⟩) (by simp [sizeLine]; omega)
  obtain ⟨C', K'⟩ := gen_moved C₂ C₃ K₃ hw hm
  have K' : Kp s₁ s' := K'
  have rl : RepL M s'.heap acc.toList ((setsAt Ss c).map fun S => .set true (ledOf w) S) := RepL.of (by rw [Array.length_toList, hacc.1, List.length_map, setsAt_len]) fun i v x hv hx => by
    rw [Array.getElem?_toList] at hv
    obtain ⟨S', h1, h2⟩ := hacc.2 i v hv
    rw [List.getElem?_map, h1] at hx
    cases hx
    exact h2.kp K'
  rw [hs0] at rl
  have hr4 : rest.length ≤ 4 := by
    have := congrArg List.length hs0
    rw [setsAt_len, List.length_cons] at this
    omega
  refine cl_inter hr4 hA C' ((L₁.kp K').mx) rl fun v s₄ C₄ K₄ r₄ => ?_
  exact h v s₄ C₄ (kp_trans K₁ (kp_trans K' K₄)) r₄
end
noncomputable def forB : Stmt → List Stmt
  | .For _ _ b _ _ => b
  | _ => []
noncomputable def ifT : Stmt → Expr
  | .If t _ _ _ => t
  | _ => default
noncomputable def Pe (env : Env) : Addr → Prop := fun b => b = env.locals ∨ ∃ x, env.cells.lookup x = some b
section
variable {w : World} {β : Pm} {n : Nat} {sc : Scope} {ρ ρ' : PVs} {M M' : List Addr} {env : Env} {H h h' : Heap} {s s' : Shared} {B : Heap} {prog : Pr} {A : Around} {pos : Pos} {E : Value → Shared → Prop} {l : List Env} {fr : List Addr}
theorem IterT.of_walksT {e : Addr} {fp wr : List Addr} {k : Nat} {Pt : Nat → Array Value → Prop} {St : Nat → Heap → Prop} {Mid : Nat → Addr → Heap → Prop} (W : WalksT prog.p w A e fp wr k Pt St Mid) (hwr : ∀ b ∈ wr, β.H.get? b = none) :
    IterT prog w β A e k (Kw wr) (fun i v h => ∃ T vals, v = .ref T ∧ h.IsTuple T vals ∧ Pt i vals ∧ Mid i T h) St where
  item := fun i s Q hi st C hQ => W.item i s Q _ hi st fun T vals h' tk hp hz ht hm k => hQ _ _ ⟨T, vals, rfl, ht, hp, hm⟩ (CxH.but C hwr fun b o hb e => k b o hb e) (Kw.of_but k)
  done := fun s Q st C hQ => W.done s Q _ st fun h' tk k => hQ _ (CxH.but C hwr fun b o hb e => k b o hb e) (Kw.of_but k)
theorem Rep.moreS (hM : ∀ a ∈ M', a ∈ M ∨ ∃ o, h.get? a = some o ∧ stay o = false) {v : Value} {p : PV} (r : Rep M h v p) : Rep M' h v p := by
  have key : ∀ {a : Addr} {o : Obj}, a ∉ M → h.get? a = some o → stay o = true → a ∉ M' := fun hm e q z => (hM _ z).elim hm fun ⟨o', e', q'⟩ => by rw [e] at e'; cases e'; rw [q] at q'; cases q'
  induction r with
  | any v => exact .any v
  | raw v => exact .raw v
  | int n t => exact .int n t
  | bool b => exact .bool b
  | str x t => exact .str x t
  | list hm hl hs he ih => obtain ⟨n, e⟩ := hl; exact .list (key hm e rfl) ⟨n, e⟩ hs ih
  | tup hm hl hs he ih => obtain ⟨n, e⟩ := hl; exact .tup (key hm e rfl) ⟨n, e⟩ hs ih
  | rng hm hr hs hn => exact .rng (key hm hr rfl) hr hs hn
  | frac hm hm' hx hd h1 h2 h3 => exact .frac (key hm hx rfl) (by obtain ⟨es, ep, q, _⟩ := id hd; exact key hm' q rfl) hx hd h1 h2 h3
  | set hm hS ho hd => exact .set (key hm ho stay_set) hS ho hd
  | obj hm hm' hx hd hv hr ha ih => exact .obj (key hm hx rfl) (by obtain ⟨es, ep, q, _⟩ := id hd; exact key hm' q rfl) hx hd hv ih ha
theorem assign_pair {x y : Str} {xp yp tp : Pos} {k : Nat} {t : Addr} {its : Array Value} {v1 v2 : Value} {a b : PV} {Q : Unit → Shared → Prop} (hA : Ok A n) (hx : sc.names.lookup x = some .local ∨ sc.names.lookup x = some .cell) (hy : sc.names.lookup y = some .local ∨ sc.names.lookup y = some .cell)
    (C : Cx w β s) (F : FP M β.H env sc H s.heap ρ) (ht : IsTup s.heap t its) (e1 : its.toList = [v1, v2]) (r1 : Rep M s.heap v1 a) (r2 : Rep M s.heap v2 b)
    (h : ∀ s', Cx w β s' → FP M β.H env sc H s'.heap ((y, b) :: (x, a) :: ρ) → Kb env s.heap s'.heap → Q () s') : Wp prog w A (assign (.Tuple [.Name x xp, .Name y yp] k tp) env (.ref t)) Q s := by
  have e2 : its.size = 2 := by rw [← Array.length_toList, e1]; rfl
  refine PyProof.Rows.assign_Tuple_tuple hA.h ht (by rw [e2]; rfl) (by rfl) fun h' hx' => ?_
  rw [e1]
  have kpf : ∀ b o, s.heap.get? b = some o → h'.get? b = some o := fun b o e => hx' b o (Nat.ne_of_lt (Heap.lt_size e)) e
  have K₂ : Kp s { s with heap := h' } := Kh.of kpf
  refine wpAny_assignInOrder_more (wpAny_assign_Name (store_p (C.kp kpf) (F.kp K₂) (r1.kp K₂) hx fun s₃ C₃ F₃ D₃ => ?_))
  refine wpAny_assignInOrder_more (wpAny_assign_Name (store_p C₃ F₃ ((r2.kp K₂).mono ((F.kp K₂).d D₃)) hy fun s₄ C₄ F₄ D₄ => wpAny_assignInOrder_none ?_))
  exact h s₄ C₄ F₄ ((Kb.of_kp K₂).trans (D₃.trans D₄))
noncomputable def fewN (e W : Nat) (Ss : List Nat) (t : Nat) : List Nat := (List.range t).filter fun v => decide ((els (Ss.getD v 0 &&& W)).length < e)
noncomputable def nI (ns : List Nat) : List Int := ns.map fun k => ((k : Nat) : Int)
theorem fewN_succ {e W : Nat} {Ss : List Nat} {t : Nat} : fewN e W Ss (t + 1) = fewN e W Ss t ++ (if (els (Ss.getD t 0 &&& W)).length < e then [t] else []) := by
  unfold fewN
  rw [List.range_succ, List.filter_append]
  congr 1
  by_cases h : (els (Ss.getD t 0 &&& W)).length < e
  · rw [if_pos h, List.filter_cons_of_pos (by simpa using h)]; rfl
  · rw [if_neg h, List.filter_cons_of_neg (by simpa using h)]; rfl
theorem fewN_len {e W : Nat} {Ss : List Nat} {t : Nat} : (fewN e W Ss t).length ≤ t := by
  unfold fewN
  exact Nat.le_trans (List.length_filter_le _ _) (by simp)
noncomputable abbrev NEW : Str := S "voters_less_than_ell_approved_candidates"
noncomputable abbrev WT : Str := S "voters_less_than_ell_approved_candidates_weight"
noncomputable abbrev bfB (w : World) (m W k : Nat) (a b : Int) (Ss : List Nat) : PVs := [(S "ell_upper_bound", .int k), (S "quota", .frac a b), (S "committee", .set true (ledOf w) W), (S "profile", prof (ledOf w) m Ss)]
set_option maxHeartbeats 2000000 in
theorem enum_loop {m W k e g : Nat} {a b : Int} {Ss : List Nat} {L : Addr} {rest : List Stmt} {Q : Flow → Shared → Prop} (hn : Ss.length ≤ 10) (hA : Ok A (n + 6)) (C : Cx w β s) (hLB : β.H.get? L = none) (hLH : H.get? L = none) (hL : SeqAt s.heap "list" L #[])
    (F : FP [L] β.H env (fdS (st1 15)) H s.heap ((WT, .int 0) :: (S "min_group_size", .int g) :: (NEW, .raw (.ref L)) :: (S "ell", .int e) :: bfB w m W k a b Ss)) 
    (h : ∀ s', Cx w β s' → FP [L] β.H env (fdS (st1 15)) H s'.heap ((WT, .int (fewN e W Ss Ss.length).length) :: (S "min_group_size", .int g) :: (NEW, .raw (.ref L)) :: (S "ell", .int e) :: bfB w m W k a b Ss) →
      Kz fr (fun b => Pe env b ∨ b = L) s.heap s'.heap → (∃ its, SeqAt s'.heap "list" L its ∧ IntsAre its.toList (nI (fewN e W Ss Ss.length))) → Wp prog w A (execs rest env) Q s') :
    Wp prog w A (execs ((forB ((fdB (st1 15)).getD 1 (.Pass default))).getD 3 (.Pass default) :: rest) env) Q s := by
  with_unfolding_all refine wpAny_execs_cons (wpAny_For ?_ (by intro _; rfl))
  refine callT_wp (f := "enumerate") (ps := [prof (ledOf w) m Ss]) (by walk_at "e") (by walk_at "es") (by simp) hA C F.ld fun vs s₁ C₁ K₁ r₁ => ?_
  obtain ⟨v, rfl, rv⟩ := r₁.one
  refine mk_enum (n := n + 2) hA C₁ (F.kp K₁).1 rv fun ee it Lp its s₂ C₂ K₂ nit nee hei heL hLi hLM he hi hl rl => ?_
  have K02 := kp_trans K₁ K₂
  have nit0 : s.heap.get? it = none := Kh.none K₁ nit
  have nee0 : s.heap.get? ee = none := Kh.none K₁ nee
  refine wpAny_pyIter_enum he ?_
  obtain ⟨jL, eL⟩ := hL
  have eL2 := K02.k _ _ eL (by simp)
  have F₂ := F.kp K02
  obtain ⟨jp, eLp⟩ := hl
  obtain ⟨oi, ei, ci, di⟩ := hi
  have hLe : L ≠ ee := fun z => by rw [z, nee0] at eL; cases eL
  have hLt : L ≠ it := fun z => by rw [z, nit0] at eL; cases eL
  have hLp : Lp ≠ L := fun z => hLM (z ▸ List.mem_singleton.mpr rfl)
  let MM : List Addr := [ee, it, L]
  have mMM : ∀ y ∈ MM, y ∈ [L] ∨ s.heap.get? y = none := fun y hy => by
    rcases mcs hy with rfl | hy
    · exact .inr nee0
    rcases mcs hy with rfl | hy
    · exact .inr nit0
    · exact .inl hy
  have F₃ : FP MM β.H env (fdS (st1 15)) H s₂.heap ((WT, .int 0) :: (S "min_group_size", .int g) :: (NEW, .raw (.ref L)) :: (S "ell", .int e) :: bfB w m W k a b Ss) := F.grow mMM K02 fun y hy => by
    rcases mcs hy with rfl | hy
    · exact ⟨_, he, by simp⟩
    rcases mcs hy with rfl | hy
    · exact ⟨_, ei, by rw [ci]; simp⟩
    · cases List.mem_singleton.mp hy; exact ⟨_, eL2, by simp⟩
  have rl₃ : RepL MM s₂.heap its.toList (Ss.map (voter (ledOf w))) := RepL.of (by rw [rl.at.1]) fun i v x hv hx => (rl.at.2 i v x hv hx).moreS fun y hy => by
    rcases mcs hy with rfl | hy
    · exact .inr ⟨_, he, rfl⟩
    rcases mcs hy with rfl | hy
    · exact .inr ⟨_, ei, by unfold stay; rw [ci]; rfl⟩
    · exact .inl hy
  have offE := F.offN nee0
  have offI := F.offN nit0
  have offL := F₃.offS eL2 rfl
  have offP := F₃.offS eLp rfl
  have WW := WalksT.enumerateD (prog := prog.p) (w := w) (A := A) (Draws.list (A := A.in1) hA.h it Lp hLi its) ee hei (by simp [hei, heL]) (by simp)
  have T := IterT.of_walksT (β := β) WW (fun b hb => by
    rcases mcs hb with rfl | hb
    · exact C.new nee0
    · cases List.mem_singleton.mp hb; exact C.new nit0)
  have hz : its.size = Ss.length := by rw [← Array.length_toList, rl.at.1, List.length_map]
  let PP : Addr → Prop := fun b => (Pe env b ∨ b = L) ∨ b = ee ∨ b = it
  refine for_genT (prog := prog) (w := w) (β := β) (fun t s' => FP MM β.H env (fdS (st1 15)) H s'.heap ((WT, .int (fewN e W Ss t).length) :: (S "min_group_size", .int g) :: (NEW, .raw (.ref L)) :: (S "ell", .int e) :: bfB w m W k a b Ss) ∧ Kz [] PP s₂.heap s'.heap ∧ (∃ ls, SeqAt s'.heap "list" L ls ∧ IntsAre ls.toList (nI (fewN e W Ss t))) ∧ RepL MM s'.heap its.toList (Ss.map (voter (ledOf w))))
    T ⟨⟨_, he⟩, ⟨oi, ei, ci, di⟩, ⟨_, eLp, rfl, jp, rfl⟩⟩ ⟨F₃, Kz.refl _ _ _, ⟨#[], ⟨jL, eL2⟩, .nil⟩, rl₃⟩ C₂ ?_ ?_
  · rintro t v s₀ s' ht ⟨F', kz, ⟨ls, el, il⟩, rv'⟩ C' kw ⟨T', vals, rfl, hT, ⟨tt, x, hx, rfl⟩, hmid⟩
    have htn : t < Ss.length := by omega
    refine WW.go _ _ _ t T' s' _ _ hmid fun h' st' kg => ?_
    have hTa : T' ∉ [ee, it] := WW.apart t T' s'.heap hmid
    have kw2 : Kw [ee, it] s₀.heap h' := kw.trans (Kw.of_but kg)
    have kwM : ∀ b ∈ [ee, it], b ∈ MM := fun b hb => by
      rcases mcs hb with rfl | hb
      · exact List.mem_cons_self ..
      · cases List.mem_singleton.mp hb; exact List.mem_cons_of_mem _ (List.mem_cons_self ..)
    have off : ∀ b ∈ [ee, it], b ≠ env.locals ∧ (∀ x c, env.cells.lookup x = some c → c ≠ b) ∧ H.get? b = none := fun b hb => by
      rcases mcs hb with rfl | hb
      · exact offE
      · cases List.mem_singleton.mp hb; exact offI
    obtain ⟨⟨old, hen⟩, ⟨oi', ei', ci', di'⟩, ⟨ol', el', cl', nl', dl'⟩⟩ := id st'
    have nLw : L ∉ [ee, it] := fun z => by
      rcases List.mem_cons.mp z with z | z
      · exact hLe z
      · exact hLt (List.mem_singleton.mp z)
    have nn : ∀ a ∈ [ee, it], NN h' a := fun a ha => by
      rcases mcs ha with rfl | ha
      · exact ⟨_, hen, by simp⟩
      · cases List.mem_singleton.mp ha; exact ⟨_, ei', by rw [ci']; simp⟩
    have F₄ : FP MM β.H env (fdS (st1 15)) H h' ((WT, .int (fewN e W Ss t).length) :: (S "min_group_size", .int g) :: (NEW, .raw (.ref L)) :: (S "ell", .int e) :: bfB w m W k a b Ss) := F'.kwd kwM off kw2 fun a ha => ⟨ha, by
      by_cases z : a ∈ [ee, it]
      · exact .inr (nn a z)
      · exact .inl z⟩
    have C₄ : CxH w β h' s'.gens s'.os := CxH.but C' (wr := [ee, it]) (fun b hb => by
      rcases mcs hb with rfl | hb
      · exact C.new nee0
      · cases List.mem_singleton.mp hb; exact C.new nit0) fun b o hb e => kg b o hb e
    have rv₄ : RepL MM h' its.toList (Ss.map (voter (ledOf w))) := rv'.mono (kw2.d kwM)
    obtain ⟨oT, eT, cT, nT, dT⟩ := hT
    have eT' := kg T' _ hTa eT
    obtain ⟨jl, el⟩ := el
    have el₄ : h'.get? L = some _ := kw2.k _ _ nLw el (by simp)
    have rx := rv₄.at.2 t x (voter (ledOf w) Ss[t]) (by rw [Array.getElem?_toList]; exact hx) (by rw [List.getElem?_map, List.getElem?_eq_getElem htn]; rfl)
    refine assign_pair (s := { s' with heap := h' }) (v1 := .int (t : Nat) tt) (v2 := x) (a := .int (t : Nat)) (b := voter (ledOf w) Ss[t]) hA (.inl (by kernel_rfl)) (.inl (by kernel_rfl)) C₄ F₄ ⟨_, eT', cT, nT, dT⟩ rfl (.int _ _) rx fun s₅ C₅ F₅ k₅ => ?_
    have hgd : Ss.getD t 0 = Ss[t] := by rw [List.getD_eq_getElem?_getD, List.getElem?_eq_getElem htn]; rfl
    have tv : Tv w β (n + 6) (fdS (st1 15)) ((S "voter", voter (ledOf w) Ss[t]) :: (S "i", .int (t : Nat)) :: (WT, .int (fewN e W Ss t).length) :: (S "min_group_size", .int g) :: (NEW, .raw (.ref L)) :: (S "ell", .int e) :: bfB w m W k a b Ss) (ifT ((forB ((forB ((fdB (st1 15)).getD 1 (.Pass default))).getD 3 (.Pass default))).getD 0 (.Pass default))) (decide ((els (Ss.getD t 0 &&& W)).length < e)) := by
      rw [hgd]
      with_unfolding_all refine Tv.cmp (Ev.callB (f := "len") (ps := [.set false (ledOf w) (Ss[t] &&& W)]) (by walk_at "e") (Evs.cons (by kernel_rfl) ?_ Evs.nil) (by simp) cl_len_set) (by walk_at "e") (co_lt (by rw [decide_eq_decide]; omega))
      exact Ev.bop (a := .set true (ledOf w) Ss[t]) (b := .set true (ledOf w) W) (Ev.attr clsV fo_approved rfl (by walk_at "e") (by walk_at "lk")) (by walk_at "e") (b1_and (fun h => h))
    refine wpAny_execs_cons (wpAny_If (tv hA C₅ F₅.ld fun s₆ C₆ K₆ => ?_))
    have F₆ := F₅.kp K₆
    have kb₆ : Kb env h' s₆.heap := k₅.trans (Kb.of_kp K₆)
    have el₆ := F₄.stay kb₆ el₄ rfl
    have fin : ∀ (s₉ : Shared) (ls' : Array Value), Cx w β s₉ → Kz [] (fun b => Pe env b ∨ b = L) h' s₉.heap → FP MM β.H env (fdS (st1 15)) H s₉.heap ((WT, .int (fewN e W Ss (t + 1)).length) :: (S "min_group_size", .int g) :: (NEW, .raw (.ref L)) :: (S "ell", .int e) :: bfB w m W k a b Ss) → SeqAt s₉.heap "list" L ls' → IntsAre ls'.toList (nI (fewN e W Ss (t + 1))) → RepL MM s₉.heap its.toList (Ss.map (voter (ledOf w))) →
        (FP MM β.H env (fdS (st1 15)) H s₉.heap ((WT, .int (fewN e W Ss (t + 1)).length) :: (S "min_group_size", .int g) :: (NEW, .raw (.ref L)) :: (S "ell", .int e) :: bfB w m W k a b Ss) ∧ Kz [] PP s₂.heap s₉.heap ∧ (∃ ls, SeqAt s₉.heap "list" L ls ∧ IntsAre ls.toList (nI (fewN e W Ss (t + 1)))) ∧ RepL MM s₉.heap its.toList (Ss.map (voter (ledOf w)))) ∧ ((∃ old, IsEnum s₉.heap ee it ((t + 1 : Nat) : Int) old) ∧ s₉.heap.IsListIter it Lp (t + 1) ∧ s₉.heap.IsList Lp its) ∧ Cx w β s₉ := fun s₉ ls' C₉ kz₉ F₉ e₉ i₉ r₉ => by
      have kept : ∀ b, ¬ Pe env b → b ≠ L → ∀ o, h'.get? b = some o → o.cls ≠ .none → s₉.heap.get? b = some o := fun b h1 h2 o e q => kz₉.k b o (fun z => z.elim h1 h2) (fun z => nomatch z) e q
      refine ⟨⟨F₉, kz.trans ((((Kz.of_kw kw2).wid fun y hy => ?_)).trans (kz₉.wid fun y hy => .inl hy)), ⟨ls', e₉, i₉⟩, r₉⟩, WW.frame _ _ _ st' fun b hb o e => ?_, C₉⟩
      · rcases mcs hy with rfl | hy
        · exact .inr (.inl rfl)
        · exact .inr (.inr (List.mem_singleton.mp hy))
      · rcases mcs hb with rfl | hb
        · exact kept _ (fun z => z.elim offE.1 fun ⟨x, q⟩ => offE.2.1 x _ q rfl) (Ne.symm hLe) o e (by rw [hen] at e; cases e; simp)
        rcases mcs hb with rfl | hb
        · exact kept _ (fun z => z.elim offI.1 fun ⟨x, q⟩ => offI.2.1 x _ q rfl) (Ne.symm hLt) o e (by rw [ei'] at e; cases e; rw [ci']; simp)
        · cases List.mem_singleton.mp hb
          exact kept _ (fun z => z.elim offP.1 fun ⟨x, q⟩ => offP.2 x _ q rfl) hLp o e (by rw [el'] at e; cases e; rw [cl']; simp)
    have rv₆ : RepL MM s₆.heap its.toList (Ss.map (voter (ledOf w))) := rv₄.mono ((F₄.d k₅).trans (D.of_kp K₆))
    cases hc : decide ((els (Ss.getD t 0 &&& W)).length < e) with
    | false =>
      simp only [Bool.false_eq_true, if_false]
      refine wpAny_execs_nil (wpAny_execs_nil ?_)
      have e1 : fewN e W Ss (t + 1) = fewN e W Ss t := by rw [fewN_succ, if_neg (of_decide_eq_false hc), List.append_nil]
      refine fin s₆ ls C₆ ((Kz.of_kb kb₆).wid fun y hy => .inl hy) ?_ ⟨jl, el₆⟩ (by rw [e1]; exact il) rv₆
      rw [e1]
      exact F₆.sub ⟨by walk_at "lk", by walk_at "lk", by walk_at "lk", by walk_at "lk", by walk_at "lk", by walk_at "lk", by walk_at "lk", by walk_at "lk", trivial⟩
    | true =>
      simp only [if_true]
      have e1 : fewN e W Ss (t + 1) = fewN e W Ss t ++ [t] := by rw [fewN_succ, if_pos (of_decide_eq_true hc)]
      have hls : ls.size ≤ 1000 := by
        have h1 : ls.toList.length = (nI (fewN e W Ss t)).length := il.length
        have := fewN_len (e := e) (W := W) (Ss := Ss) (t := t)
        rw [Array.length_toList] at h1
        unfold nI at h1
        rw [List.length_map] at h1
        omega
      with_unfolding_all refine wpAny_execs_cons (wpAny_Expr_any ?_ (by unfold interactive; rw [F₆.blk]; rfl))
      refine append_step (p := .int (t : Nat)) (by walk_at "e") (by walk_at "e") hA C₆ F₆ (List.mem_cons_of_mem _ (List.mem_cons_of_mem _ (List.mem_cons_self ..))) ⟨jl, el₆⟩ hls hLB hLH (fun u s₇ C₇ k₇ F₇ e₇ r₇ => ?_) (by rfl) (by rfl) (by rfl) (by rfl)
      obtain ⟨tu, rfl⟩ := r₇.inv_int
      refine S1.step (ρ₁ := (WT, .int (((fewN e W Ss t).length : Int) + 1)) :: (S "min_group_size", .int g) :: (NEW, .raw (.ref L)) :: (S "ell", .int e) :: bfB w m W k a b Ss) ?_ hA C₇ F₇ fun s₈ C₈ F₈ k₈ => wpAny_execs_nil (wpAny_execs_nil ?_)
      · exact S1.sub (S1.aug (c := .int (((fewN e W Ss t).length : Int) + 1)) (.inl (by kernel_rfl)) (by walk_at "lk") (Ev.conv (Ev.attr clsV fo_weight rfl (by walk_at "e") (by walk_at "lk")) rfl) ip_ii) ⟨by walk_at "lk", by walk_at "lk", by walk_at "lk", by walk_at "lk", by walk_at "lk", by walk_at "lk", by walk_at "lk", by walk_at "lk", trivial⟩
      · obtain ⟨j₇, q₇⟩ := e₇
        refine fin s₈ _ C₈ (((Kz.of_kb kb₆).wid fun y hy => .inl hy).trans (((Kz.of_kw k₇).wid fun y hy => .inr (List.mem_singleton.mp hy)).trans ((Kz.of_kb k₈).wid fun y hy => .inl hy))) ?_ ⟨j₇, F₇.stay k₈ q₇ rfl⟩ ?_ ?_
        · rw [e1, List.length_append, List.length_singleton]
          exact F₈
        · rw [e1, Array.toList_push]
          unfold nI
          rw [List.map_append]
          exact ints_snoc il
        · exact rv₆.mono ((k₇.d fun b hb => by cases List.mem_singleton.mp hb; exact List.mem_cons_of_mem _ (List.mem_cons_of_mem _ (List.mem_cons_self ..))).trans (F₇.d k₈))
  · rintro s₀ s' ⟨F', kz, ⟨ls, el, il⟩, rv'⟩ C' kw
    rw [hz] at F' il
    have kwM : ∀ b ∈ [ee, it], b ∈ MM := fun b hb => by
      rcases mcs hb with rfl | hb
      · exact List.mem_cons_self ..
      · cases List.mem_singleton.mp hb; exact List.mem_cons_of_mem _ (List.mem_cons_self ..)
    have off : ∀ b ∈ [ee, it], b ≠ env.locals ∧ (∀ x c, env.cells.lookup x = some c → c ≠ b) ∧ H.get? b = none := fun b hb => by
      rcases mcs hb with rfl | hb
      · exact offE
      · cases List.mem_singleton.mp hb; exact offI
    have nLw : L ∉ [ee, it] := fun z => by
      rcases List.mem_cons.mp z with z | z
      · exact hLe z
      · exact hLt (List.mem_singleton.mp z)
    obtain ⟨j, el⟩ := el
    refine h s' C' (F'.kwd kwM off kw fun a ha => ⟨List.mem_cons_of_mem _ (List.mem_cons_of_mem _ ha), .inl (List.mem_singleton.mp ha ▸ nLw)⟩) ?_ ⟨ls, ⟨j, kw.k _ _ nLw el (by simp)⟩, il⟩
    refine ((Kz.of_kh K02 (P := PP)).trans (kz.trans ((Kz.of_kw kw).wid fun y hy => ?_))).more (fun y hy => ?_) fun y hy => nomatch hy
    · rcases mcs hy with rfl | hy
      · exact .inr (.inl rfl)
      · exact .inr (.inr (List.mem_singleton.mp hy))
    · rcases hy with hy | rfl | rfl
      · exact .inl hy
      · exact .inr nee0
      · exact .inr nit0
end
noncomputable def gsz (N k e : Nat) : Nat := (e * N + k - 1) / k
noncomputable def qa (N k : Nat) : Nat := N / Nat.gcd N k
noncomputable def qb (N k : Nat) : Nat := k / Nat.gcd N k
theorem q_bound : (List.range 5).all (fun N => (List.range 4).all fun k => N == 0 || k == 0 || (((N * qb N k / Nat.gcd (N * qb N k) (qa N k * 1)) / (qa N k * 1 / Nat.gcd (N * qb N k) (qa N k * 1))) == k && decide (0 < qa N k * 1 / Nat.gcd (N * qb N k) (qa N k * 1)))) = true := by decide +kernel
noncomputable def m1 (N k e : Nat) : Nat := qa N k * e / Nat.gcd (qa N k * e) (qb N k * 1)
noncomputable def m2 (N k e : Nat) : Nat := qb N k * 1 / Nat.gcd (qa N k * e) (qb N k * 1)
theorem q_group : (List.range 5).all (fun N => (List.range 4).all fun k => (List.range (k + 1)).all fun e => N == 0 || k == 0 || e == 0 ||
    ((-((-((m1 N k e / Nat.gcd (m1 N k e) (m2 N k e) : Nat) : Int)).fdiv ((m2 N k e / Nat.gcd (m1 N k e) (m2 N k e) : Nat) : Int)) == ((gsz N k e : Nat) : Int)) && decide (0 < m2 N k e / Nat.gcd (m1 N k e) (m2 N k e)) && decide (0 < gsz N k e))) = true := by decide +kernel
section
variable {w : World} {β : Pm} {n : Nat} {sc : Scope} {ρ ρ' : PVs} {M M' : List Addr} {env : Env} {H h h' : Heap} {s s' : Shared} {B : Heap} {prog : Pr} {A : Around} {pos : Pos} {E : Value → Shared → Prop} {l : List Env} {fr : List Addr}
theorem getMethF {x f : Addr} {a b : Int} {name : Str} {pl : Sem Bool} {Q : Value × List Value → Shared → Prop} (C' : Cx w β s) (r : Rep M s.heap (.ref x) (.frac a b)) (hf : findIn (Kf w.params) (.ref 298) name = some (some (.ref f))) (ht : typeIn (Kf w.params) (.ref f) = some (.type "function")) (hn : name ≠ S "numerator" ∧ name ≠ S "denominator")
    (h : Q (.ref f, [.ref x]) s) : Wp prog w A (getMethod (.ref x) name pl) Q s := by
  obtain ⟨x', dx, m, e, hx, hd, h3⟩ := r.inv_frac3
  cases e
  obtain ⟨od, I, lk⟩ := obj_inst hx hd
  refine method_fn C'.K I clsF.ga clsF.gn hf ht ?_ h
  show (lookIn name od).map _ = _
  rw [lk]
  cases q : m name with
  | none => rfl
  | some v => exact absurd (h3 _ _ q) (fun z => z.elim hn.1 hn.2)
theorem Ev.methF {o : Expr} {name : Str} {ap pos : Pos} {pl : Env → Sem Bool} {f : Addr} {a b : Int} {r : PV} (hf : findIn (Kf w.params) (.ref 298) name = some (some (.ref f))) (ht : typeIn (Kf w.params) (.ref f) = some (.type "function")) (hk : keepIn (Kf w.params) (.ref f) = true) (hn : name ≠ S "numerator" ∧ name ≠ S "denominator")
    (h1 : Ev w β n sc ρ o (.frac a b)) (hc : Cl w β n (.ref f) [.frac a b] r)
    (he : ∀ env, eval (.Call (.Attribute o name ap) [] [] pos) env = (do
      let ov ← eval o env
      standAt ap.atName
      let (f, first) ← holding [ov] (getMethod ov name (pl env))
      callWith pos f first (backTo pos (starEach [] env)) []) := by intro _; rfl) : Ev w β n sc ρ (.Call (.Attribute o name ap) [] [] pos) r := by
  intro prog A env s M Q hA C' L h
  refine MethodCall_ (h1 hA C' L fun v s₁ C₁ K₁ r₁ => ?_) (he env)
  obtain ⟨x, dx, m, t, u, rfl, _⟩ := id r₁.inv_frac
  refine getMethF C₁ r₁ hf ht hn ?_
  refine callWith_of (P := fun h => (Kf w.params).In h) rfl (fun h X => keeps_K hk h X) ?_
  exact PyProof.Rows.evalArgs_nil3 ⟨C₁.K, hc hA C₁ (L.kp K₁).mx (.cons r₁ .nil) fun v s'' C'' K'' r'' => h v s'' C'' (kp_trans K₁ K'') r''⟩
noncomputable def asgV : Stmt → Expr
  | .Assign _ v _ => v
  | _ => default
theorem ev_bound {m W N k : Nat} {Ss : List Nat} (hN : Ss.length = N) (h1 : 1 ≤ N ∧ N ≤ 4) (h2 : 1 ≤ k ∧ k ≤ 3) : Ev w β (n + 6) (fdS (st1 15)) [(S "quota", fracOf N k), (S "committee", .set true (ledOf w) W), (S "profile", prof (ledOf w) m Ss)] (asgV ((fdB (st1 15)).getD 0 (.Pass default))) (.int k) := by
  have := List.all_eq_true.mp (List.all_eq_true.mp q_bound N (by simp; omega)) k (by simp; omega)
  simp only [Bool.or_eq_true, beq_iff_eq, Bool.and_eq_true, decide_eq_true_eq] at this
  obtain ⟨e1, e2⟩ : (N * qb N k / Nat.gcd (N * qb N k) (qa N k * 1) / (qa N k * 1 / Nat.gcd (N * qb N k) (qa N k * 1)) = k) ∧ 0 < qa N k * 1 / Nat.gcd (N * qb N k) (qa N k * 1) := by
    rcases this with (z | z) | z
    · omega
    · omega
    · exact z
  have b1 : qb N k ≤ 3 := Nat.le_trans (Nat.div_le_self _ _) h2.2
  have b2 : qa N k ≤ 4 := Nat.le_trans (Nat.div_le_self _ _) h1.2
  have b3 : N * qb N k ≤ 4 * 3 := Nat.mul_le_mul h1.2 b1
  have b4 : 0 < qa N k := Nat.div_pos (Nat.gcd_le_left _ (by omega)) (Nat.gcd_pos_of_pos_left _ (by omega))
  have b5 : qa N k * 1 / Nat.gcd (N * qb N k) (qa N k * 1) ≤ qa N k * 1 := Nat.div_le_self _ _
  with_unfolding_all refine Ev.methF (pl := fun _ => _) (f := 190) (by kernel_rfl) (by kernel_rfl) (by kernel_rfl) ⟨by decide +kernel, by decide +kernel⟩ (a := ((N * qb N k / Nat.gcd (N * qb N k) (qa N k * 1) : Nat) : Int)) (b := ((qa N k * 1 / Nat.gcd (N * qb N k) (qa N k * 1) : Nat) : Int)) ?_ ?_ (by intro _; rfl)
  · refine Ev.callR (f := .ref 298) (ps := [.int (N : Nat), .frac (qa N k : Nat) (qb N k : Nat)]) kgFraction (by walk_at "e") (Evs.cons (by kernel_rfl) ?_ (Evs.cons (by kernel_rfl) ?_ Evs.nil)) (cl_Frac2 (a := N) (b := 1) (c := qa N k) (d := qb N k) (.inl ⟨rfl, rfl⟩) (.inr rfl) (by omega) (by omega))
    · rw [← hN]
      exact Ev.meth (f := 380) (pl := fun _ => _) clsP (by kernel_rfl) (by kernel_rfl) (by kernel_rfl) (by kernel_rfl) (by walk_at "e") (by walk_at "es") (cl_total (by omega)) (by intro _; rfl)
    · exact Ev.conv (p := fracOf N k) (by walk_at "e") rfl
  · have := cl_floor (w := w) (β := β) (n := n + 5) (a := N * qb N k / Nat.gcd (N * qb N k) (qa N k * 1)) (b := qa N k * 1 / Nat.gcd (N * qb N k) (qa N k * 1)) ⟨e2, by omega⟩
    rw [e1] at this
    exact this
theorem ev_group {N k e : Nat} (h1 : 1 ≤ N ∧ N ≤ 4) (h2 : 1 ≤ k ∧ k ≤ 3) (h3 : 1 ≤ e ∧ e ≤ k) (hq : ρ.lookup (S "quota") = some (fracOf N k)) (he : ρ.lookup (S "ell") = some (.int e)) : Ev w β (n + 6) (fdS (st1 15)) ρ (asgV ((forB ((fdB (st1 15)).getD 1 (.Pass default))).getD 2 (.Pass default))) (.int (gsz N k e : Nat)) := by
  have := List.all_eq_true.mp (List.all_eq_true.mp (List.all_eq_true.mp q_group N (by simp; omega)) k (by simp; omega)) e (by simp; omega)
  simp only [Bool.or_eq_true, beq_iff_eq, Bool.and_eq_true, decide_eq_true_eq] at this
  obtain ⟨⟨e1, e2⟩, e3⟩ : (-((-((m1 N k e / Nat.gcd (m1 N k e) (m2 N k e) : Nat) : Int)).fdiv ((m2 N k e / Nat.gcd (m1 N k e) (m2 N k e) : Nat) : Int)) = ((gsz N k e : Nat) : Int) ∧ 0 < m2 N k e / Nat.gcd (m1 N k e) (m2 N k e)) ∧ 0 < gsz N k e := by
    rcases this with ((z | z) | z) | z
    · omega
    · omega
    · omega
    · exact z
  have b1 : qb N k ≤ 3 := Nat.le_trans (Nat.div_le_self _ _) h2.2
  have b2 : qa N k ≤ 4 := Nat.le_trans (Nat.div_le_self _ _) h1.2
  have b4 : 0 < qb N k := Nat.div_pos (Nat.gcd_le_right _ (by omega)) (Nat.gcd_pos_of_pos_left _ (by omega))
  have b3 : qa N k * e ≤ 4 * 3 := Nat.mul_le_mul b2 (by omega)
  have c1 : m1 N k e ≤ qa N k * e := Nat.div_le_self _ _
  have c2 : m2 N k e ≤ qb N k * 1 := Nat.div_le_self _ _
  have c3 : 0 < m2 N k e := by
    cases z : m2 N k e with
    | zero => rw [z] at e2; simp at e2
    | succ _ => omega
  have c4 : m2 N k e / Nat.gcd (m1 N k e) (m2 N k e) ≤ m2 N k e := Nat.div_le_self _ _
  with_unfolding_all refine Ev.methF (pl := fun _ => _) (f := 197) (by kernel_rfl) (by kernel_rfl) (by kernel_rfl) ⟨by decide +kernel, by decide +kernel⟩ (a := ((m1 N k e / Nat.gcd (m1 N k e) (m2 N k e) : Nat) : Int)) (b := ((m2 N k e / Nat.gcd (m1 N k e) (m2 N k e) : Nat) : Int)) ?_ ?_ (by intro _; rfl)
  · refine Ev.callR (f := .ref 298) (ps := [.frac (m1 N k e : Nat) (m2 N k e : Nat)]) kgFraction (by walk_at "e") (Evs.cons (by kernel_rfl) ?_ Evs.nil) (cl_Frac1 (a := m1 N k e) (b := m2 N k e) (.inr rfl) (by omega))
    refine Ev.conv (Ev.bop (a := .int (e : Nat)) (b := .frac (qa N k : Nat) (qb N k : Nat)) (c := fracOf (qa N k * e) (qb N k * 1)) (Ev.name (by kernel_rfl) he (by kernel_rfl)) (Ev.conv (p := fracOf N k) (Ev.name (by kernel_rfl) hq (by kernel_rfl)) rfl) (b1_imul (n := n + 1) (a := qa N k) (b := qb N k) (c := e) (by omega) (by omega))) rfl
  · have := cl_ceil (w := w) (β := β) (n := n + 5) (a := m1 N k e / Nat.gcd (m1 N k e) (m2 N k e)) (b := m2 N k e / Nat.gcd (m1 N k e) (m2 N k e)) ⟨e2, by omega⟩
    rw [e1] at this
    exact this
end
section
variable {w : World} {β : Pm} {n : Nat} {sc : Scope} {ρ ρ' : PVs} {M M' : List Addr} {env : Env} {H h h' : Heap} {s s' : Shared} {B : Heap} {prog : Pr} {A : Around} {pos : Pos} {E : Value → Shared → Prop} {l : List Env} {fr : List Addr}
theorem Ev.dict3 {k1 k2 k3 : Str} {j1 j2 j3 : Nat} {q1 q2 q3 : Pos} {e1 e2 e3 : Expr} {p1 p2 p3 : PV} (h1 : Ev w β n sc ρ e1 p1) (h2 : Ev w β n sc ρ e2 p2) (h3 : Ev w β n sc ρ e3 p3) :
    Ev w β n sc ρ (.Dict [some (.Constant (.str k1) j1 q1), some (.Constant (.str k2) j2 q2), some (.Constant (.str k3) j3 q3)] [e1, e2, e3] pos) .any := by
  intro prog A env s M Q hA C L h
  refine wpAny_Dict_walk (knd := PySem.strKind prog.p w) rfl rfl (by simp) (by simp) ?_
  have hn : s.heap.get? s.heap.objs.size = Option.none := none_of_ge (Nat.le_refl _)
  have K0 : Kp s { s with heap := s.heap.push { cls := .type "dict", data := .dict #[] } } := kp_push s _
  have e0 : (s.heap.push { cls := .type "dict", data := .dict #[] }).get? s.heap.objs.size = some { cls := .type "dict", data := .dict #[] } := Heap.get?_push_size _ rfl
  refine pairTrees_cons_walk (Ev.str hA (C.push _) (L.kp K0) fun v1 s₁ C₁ K₁ r₁ => ?_)
  refine h1 hA C₁ (L.kp (kp_trans K0 K₁)) fun u1 s₂ C₂ K₂ _ => ?_
  have K02 := kp_trans K0 (kp_trans K₁ K₂)
  refine pairTrees_cons_walk (Ev.str hA C₂ (L.kp K02) fun v2 s₃ C₃ K₃ r₃ => ?_)
  refine h2 hA C₃ (L.kp (kp_trans K02 K₃)) fun u2 s₄ C₄ K₄ _ => ?_
  have K04 := kp_trans K02 (kp_trans K₃ K₄)
  refine pairTrees_cons_walk (Ev.str hA C₄ (L.kp K04) fun v3 s₅ C₅ K₅ r₅ => ?_)
  refine h3 hA C₅ (L.kp (kp_trans K04 K₅)) fun u3 s₆ C₆ K₆ _ => pairTrees_nil_walk ?_
  have K06 := kp_trans K04 (kp_trans K₅ K₆)
  obtain ⟨t1, rfl⟩ := r₁.inv_str
  obtain ⟨t2, rfl⟩ := r₃.inv_str
  obtain ⟨t3, rfl⟩ := r₅.inv_str
  have e6 : s₆.heap.get? s.heap.objs.size = some { cls := .type "dict", data := .dict #[] } := K₆.k _ _ (K₅.k _ _ (K₄.k _ _ (K₃.k _ _ (K₂.k _ _ (K₁.k _ _ e0 (by simp)) (by simp)) (by simp)) (by simp)) (by simp)) (by simp)
  refine ⟨[(k1, u1), (k2, u2), (k3, u3)], ⟨by simp [PySem.strKind, Value.isStrOf], rfl, by simp [PySem.strKind, Value.isStrOf], rfl, by simp [PySem.strKind, Value.isStrOf], rfl, trivial⟩, ?_, fun h' _ hs => ?_⟩
  · exact (Heap.DictOf.new s.heap).at fun o e => by rw [e0] at e; cases e; exact e6
  · have k : ∀ b o, b ∉ [s.heap.objs.size] → s₆.heap.get? b = some o → h'.get? b = some o := fun b o hb e => (hs.2 b (by simpa using hb)).trans e
    refine h _ _ (CxH.but C₆ (wr := [s.heap.objs.size]) (fun b hb => by cases List.mem_singleton.mp hb; exact C.new hn) k) ?_ (.any _)
    exact Kw.kh (wr := [s.heap.objs.size]) K06 (Kw.of_but k) fun b hb => by cases List.mem_singleton.mp hb; exact hn
end
noncomputable def meetAll : List Nat → Nat
  | [] => 15
  | S :: r => meet S r
noncomputable def viol (k W : Nat) (Ss : List Nat) (e : Nat) : Bool :=
  decide (gsz Ss.length k e ≤ (fewN e W Ss Ss.length).length) && (combsI (fewN e W Ss Ss.length).length (gsz Ss.length k e)).any fun idx => decide (e ≤ (els (meetAll (setsAt Ss (pickI (nI (fewN e W Ss Ss.length)) idx)))).length)
theorem nI_len {l : List Nat} : (nI l).length = l.length := by simp [nI]
theorem Kz.step {fr fr' : List Addr} {P P' : Addr → Prop} {a b c : Heap} (x : Kz fr P a b) (y : Kz fr' P' b c) (h1 : ∀ z, P' z → P z ∨ a.get? z = none) (h2 : ∀ z ∈ fr', z ∈ fr ∨ P z ∨ a.get? z = none) : Kz fr P a c := by
  have n1 : ∀ {z o}, ¬ P z → a.get? z = some o → ¬ P' z := fun np e q => (h1 _ q).elim np fun q => by rw [q] at e; cases e
  have n2 : ∀ {z o}, ¬ P z → z ∉ fr → a.get? z = some o → z ∉ fr' := fun np nf e q => (h2 _ q).elim nf fun q => q.elim np fun q => by rw [q] at e; cases e
  refine ⟨fun z o np nf e c => y.k z o (n1 np e) (n2 np nf e) (x.k z o np nf e c) c, fun z o np nf e => ?_, fun z o np hf e c => ?_⟩
  · obtain ⟨o', e'⟩ := x.x z o np nf e
    exact y.x z o' (n1 np e) (n2 np nf e) e'
  · obtain ⟨sl, e'⟩ := x.f z o np hf e c
    by_cases q : z ∈ fr'
    · obtain ⟨sl', e2⟩ := y.f z _ (n1 np e) q e' c
      exact ⟨sl', e2⟩
    · exact ⟨sl, y.k z _ (n1 np e) q e' c⟩
theorem Kz.none {fr : List Addr} {P : Addr → Prop} {h h' : Heap} (k : Kz fr P h h') {a : Addr} (e : h'.get? a = none) (n1 : ¬ P a) (n2 : a ∉ fr) : h.get? a = none := by
  cases q : h.get? a with
  | none => rfl
  | some o => obtain ⟨o', e'⟩ := k.x a o n1 n2 q; rw [e] at e'; cases e'
section
variable {w : World} {β : Pm} {n : Nat} {sc : Scope} {ρ ρ' : PVs} {M M' : List Addr} {env : Env} {H h h' : Heap} {s s' : Shared} {B : Heap} {prog : Pr} {A : Around} {pos : Pos} {E : Value → Shared → Prop} {l : List Env} {fr : List Addr}
theorem callR_wp {x : Str} {np : Pos} {f : Value} {es : List Expr} {ps : List PV} {Q : Value → Shared → Prop} (hk : keepIn (Kf w.params) f = true) (hf : Ev w β n sc ρ (.Name x np) (.raw f)) (he : Evs w β n sc ρ es ps) (hA : Ok A n) (C : Cx w β s) (L : Ld M env sc s.heap ρ)
    (h : ∀ vs s₁, Cx w β s₁ → Kp s s₁ → RepL M s₁.heap vs ps → Wp prog w A (call f vs) Q s₁) : Wp prog w A (eval (.Call (.Name x np) es [] pos) env) Q s := by
  refine wpAny_Call_NameR (hf hA C L fun v s₁ C₁ K₁ r₁ => ?_)
  cases r₁.inv_raw
  refine callWith_of (P := fun h => (Kf w.params).In h) (by simp [evs_plain he]) (fun h X => keeps_K hk h X) ?_
  have fin : ∀ vs s', Cx w β s' → Kp s s' → RepL M s'.heap vs ps → (Kf w.params).In s'.heap ∧ Wp prog w A (call f ([] ++ vs)) Q s' := fun vs s' C' K' r' => ⟨C'.K, h vs s' C' K' r'⟩
  cases es with
  | nil =>
    cases ps with
    | nil => exact PyProof.Rows.evalArgs_nil3 (fin [] _ C₁ K₁ .nil)
    | cons _ _ => exact he.elim
  | cons e rest =>
    have q : starEach (e :: rest) env = (false, eval e env) :: starEach rest env := by
      cases ps with
      | nil => exact he.elim
      | cons _ _ => exact he.1 env rest
    have run := evs_run (pos := pos) (prog := prog) (Q := fun vs s' => (Kf w.params).In s'.heap ∧ Wp prog w A (call f ([] ++ vs)) Q s') he hA C₁ (L.kp K₁) fun vs s' C' K' r' => fin vs s' C' (kp_trans K₁ K') r'
    rw [q] at run ⊢
    exact Calls.evalArgs_plain run
structure Frm (β : Pm) (A : Around) (env : Env) (H : Heap) (h : Heap) (l : List Env) (fr : List Addr) : Prop where
  st : Stk β A h l fr
  own : env.frame = some env.locals
  ap : ∀ b ∈ fr, b ≠ env.locals ∧ ∀ x c, env.cells.lookup x = some c → c ≠ b
  hn : ∀ b ∈ fr, H.get? b = none
theorem Frm.kz (F : Frm β A env H h l fr) (k : Kz fr (Pe env) h h') : Frm β A env H h' l fr :=
  ⟨F.st.kz k fun b hb z => by
    rcases z with z | ⟨x, z⟩
    · exact (F.ap b hb).1 z
    · exact (F.ap b hb).2 x b z rfl, F.own, F.ap, F.hn⟩
theorem Frm.deep (Fr : Frm β A env H h l fr) (F : FP M β.H env sc H h ρ) : Stk β (A.deeper env) h (env :: l) (env.locals :: fr) := let ⟨_, _, f, _⟩ := F; Fr.st.deeper f Fr.own
set_option maxHeartbeats 4000000 in
theorem ell_body {m W k e : Nat} {Ss : List Nat} {Q : Flow → Shared → Prop} (h1 : 1 ≤ Ss.length ∧ Ss.length ≤ 4) (h2 : 1 ≤ k ∧ k ≤ 3) (h3 : 1 ≤ e ∧ e ≤ k) (Fr : Frm β A env H s.heap l fr) (hcode : env.code = .ref 316)
    (hA : Ok (A.deeper env) (n + 6)) (C : Cx w β s) (F : FP [] β.H env (fdS (st1 15)) H s.heap ((S "ell", .int e) :: bfB w m W k (qa Ss.length k) (qb Ss.length k) Ss))
    (hno : viol k W Ss e = false → ∀ fl s', (fl = .next ∨ fl = .cont) → Cx w β s' → FP [] β.H env (fdS (st1 15)) H s'.heap (bfB w m W k (qa Ss.length k) (qb Ss.length k) Ss) → Kz fr (Pe env) s.heap s'.heap → Q fl s')
    (hyes : viol k W Ss e = true → ∀ v s', Cx w β s' → FP [] β.H env (fdS (st1 15)) H s'.heap [] → Kz fr (Pe env) s.heap s'.heap → (∀ M, Mx M s.heap → (∀ a ∈ M, ¬ Pe env a) → Rep M s'.heap v (.tup [.bool false, .any])) → Q (.ret v) s') :
    Wp prog w (A.deeper env) (execs (forB ((fdB (st1 15)).getD 1 (.Pass default))) env) Q s := by
  obtain ⟨g, hg⟩ : ∃ g, gsz Ss.length k e = g := ⟨_, rfl⟩
  with_unfolding_all refine asg_nil (.inl (by kernel_rfl)) C F fun L s₁ nL C₁ F₁ k₁ e₁ => ?_
  have hLB := C.new nL
  have hLH := (F.offN nL).2.2
  refine S1.step (ρ₁ := (WT, .int 0) :: (NEW, .raw (.ref L)) :: (S "ell", .int e) :: bfB w m W k (qa Ss.length k) (qb Ss.length k) Ss) (S1.assign (.inl (by kernel_rfl)) (by walk_at "e")) hA C₁ F₁ fun s₂ C₂ F₂ k₂ => ?_
  refine S1.step (ρ₁ := (WT, .int 0) :: (S "min_group_size", .int g) :: (NEW, .raw (.ref L)) :: (S "ell", .int e) :: bfB w m W k (qa Ss.length k) (qb Ss.length k) Ss) ?_ hA C₂ F₂ fun s₃ C₃ F₃ k₃ => ?_
  · rw [← hg]
    refine S1.sub (S1.assign (.inl (by kernel_rfl)) (ev_group h1 h2 h3 (show _ = some (PV.frac (qa Ss.length k : Nat) (qb Ss.length k : Nat)) by walk_at "lk") (by walk_at "lk"))) ⟨by walk_at "lk", by walk_at "lk", by walk_at "lk", by walk_at "lk", by walk_at "lk", by walk_at "lk", by walk_at "lk", by walk_at "lk", trivial⟩
  obtain ⟨j₁, q₁⟩ := e₁
  have e₃ : SeqAt s₃.heap "list" L #[] := ⟨j₁, F₂.stay k₃ (F₁.stay k₂ q₁ rfl) rfl⟩
  have kz₃ : Kz fr (Pe env) s.heap s₃.heap := .of_kb (k₁.trans (k₂.trans k₃))
  have hn10 : Ss.length ≤ 10 := by omega
  with_unfolding_all refine enum_loop (fr := fr) hn10 hA C₃ hLB hLH e₃ F₃ fun s₄ C₄ F₄ k₄ e₄ => ?_
  have kz₄ : Kz fr (Pe env) s.heap s₄.heap := kz₃.step k₄ (fun z hz => hz.elim .inl fun q => .inr (by rw [q]; exact nL)) fun z hz => .inl hz
  obtain ⟨its, eL₄, iL₄⟩ := e₄
  have hfl : (fewN e W Ss Ss.length).length ≤ Ss.length := fewN_len
  have F₅ := (F₄.less (M' := []) (fun _ h => nomatch h)).re (x := NEW) (by walk_at "lk") (Rep.of_list (fun h => nomatch h) eL₄ (RepL.of_ints iL₄))
  have subB : ∀ {h : Heap} {ρ : PVs}, FP [] β.H env (fdS (st1 15)) H h ρ → PSub (bfB w m W k (qa Ss.length k) (qb Ss.length k) Ss) ρ → FP [] β.H env (fdS (st1 15)) H h (bfB w m W k (qa Ss.length k) (qb Ss.length k) Ss) := fun F k => F.sub k
  refine wpAny_execs_cons (wpAny_If (Tv.cmp (by walk_at "e") (by walk_at "e") (co_lt (c := decide ((fewN e W Ss Ss.length).length < g)) (by rw [decide_eq_decide]; omega)) (by with_unfolding_all rfl) hA C₄ F₅.ld fun s₅ C₅ K₅ => ?_))
  have F₆ := F₅.kp K₅
  have kz₅ : Kz fr (Pe env) s.heap s₅.heap := kz₄.trans (.of_kh K₅)
  cases hlt : decide ((fewN e W Ss Ss.length).length < g) with
  | true =>
    simp only [if_true]
    refine wpAny_execs_cons (wpAny_Continue (hno ?_ _ _ (.inr rfl) C₅ (F₆.sub ⟨by walk_at "lk", by walk_at "lk", by walk_at "lk", by walk_at "lk", trivial⟩) kz₅))
    unfold viol
    rw [hg, decide_eq_false (by have := of_decide_eq_true hlt; omega)]; rfl
  | false =>
    simp only [Bool.false_eq_true, if_false]
    refine wpAny_execs_nil ?_
    dsimp only
    have hge : g ≤ (fewN e W Ss Ss.length).length := by have := of_decide_eq_false hlt; omega
    have hg0 : 0 < g := by
      have := List.all_eq_true.mp (List.all_eq_true.mp (List.all_eq_true.mp q_group Ss.length (by simp; omega)) k (by simp; omega)) e (by simp; omega)
      simp only [Bool.or_eq_true, beq_iff_eq, Bool.and_eq_true, decide_eq_true_eq] at this
      rw [hg] at this
      omega
    have F₇ : FP [] β.H env (fdS (st1 15)) H s₅.heap ((NEW, lI (nI (fewN e W Ss Ss.length))) :: (S "min_group_size", .int g) :: (S "ell", .int e) :: bfB w m W k (qa Ss.length k) (qb Ss.length k) Ss) := F₆.sub ⟨by walk_at "lk", by walk_at "lk", by walk_at "lk", by walk_at "lk", by walk_at "lk", by walk_at "lk", by walk_at "lk", trivial⟩
    refine wpAny_execs_cons (wpAny_For (callR_wp (f := .ref 140) (ps := [lI (nI (fewN e W Ss Ss.length)), .int g]) kgcombinations (by walk_at "e") (by walk_at "es") hA C₅ F₇.ld fun vs s₆ C₆ K₆ r₆ => ?_) (by intro _; rfl))
    obtain ⟨v1, v2, rfl, r1, r2⟩ := r₆.two
    refine mk_comb (n := n + 2) (by rw [nI_len]; omega) (by rw [nI_len]; exact hge) hA C₆ ((F₇.kp K₆).1) r1 r2 fun x dx I T s₇ C₇ K₇ nx nI' ndx hTM O Kc => ?_
    refine comb_iter Kc hA C₇ fun s₈ C₈ K₈ => ?_
    have K58 : Kp s₅ s₈ := kp_trans K₆ (kp_trans K₇ K₈)
    have F₈ := F₇.kp K₆
    have kz₆ : Kz fr (Pe env) s.heap s₆.heap := kz₅.trans (.of_kh K₆)
    have Fr₆ := Fr.kz kz₆
    have newS : ∀ {a : Addr}, s₆.heap.get? a = none → s.heap.get? a = none ∧ ¬ Pe env a := fun {a} e => by
      have np : ¬ Pe env a := fun z => z.elim (F₈.offN e).1 fun ⟨x, q⟩ => (F₈.offN e).2.1 x a q rfl
      exact ⟨kz₆.none e np (fun z => by obtain ⟨o, q⟩ := Fr₆.st.has z; rw [e] at q; cases q), np⟩
    have nxs := newS nx
    have nIs := newS nI'
    have Kc₈ := Kc.kh K₈
    have kz₈ : Kz fr (Pe env) s.heap s₈.heap := kz₅.trans (.of_kh K58)
    have nnC : ∀ {first : Bool} {idx : List Int} {h : Heap}, CombAt x dx I T (nI (fewN e W Ss Ss.length)) g first idx h → ∀ a ∈ [x, I], NN h a := fun {_ _ h} K a ha => by
      rcases mcs ha with rfl | ha
      · obtain ⟨t, e⟩ := K.ob; exact ⟨_, e, by simp⟩
      · cases List.mem_singleton.mp ha
        obtain ⟨its, ⟨j, e⟩, _⟩ := K.ix
        exact ⟨_, e, by simp⟩
    have F₉ : FP [x, I] β.H env (fdS (st1 15)) H s₈.heap ((NEW, lI (nI (fewN e W Ss Ss.length))) :: (S "min_group_size", .int g) :: (S "ell", .int e) :: bfB w m W k (qa Ss.length k) (qb Ss.length k) Ss) := F₈.grow (fun a ha => by
      rcases mcs ha with rfl | ha
      · exact .inr nx
      · cases List.mem_singleton.mp ha; exact .inr nI') (kp_trans K₇ K₈) (nnC Kc₈)
    have offX : ∀ b ∈ [x, I], b ≠ env.locals ∧ (∀ x c, env.cells.lookup x = some c → c ≠ b) ∧ H.get? b = none := fun b hb => by
      rcases mcs hb with rfl | hb
      · exact F₈.offN nx
      · cases List.mem_singleton.mp hb; exact F₈.offN nI'
    have newX : ∀ b ∈ [x, I], s.heap.get? b = none := fun b hb => by
      rcases mcs hb with rfl | hb
      · exact nxs.1
      · cases List.mem_singleton.mp hb; exact nIs.1
    have offF : ∀ b ∈ env.locals :: fr, (∀ x c, env.cells.lookup x = some c → c ≠ b) ∧ H.get? b = none := fun b hb => by
      rcases mcs hb with rfl | hb
      · obtain ⟨_, _, f, _⟩ := F; exact ⟨f.off, f.lo.2⟩
      · exact ⟨(Fr.ap b hb).2, Fr.hn b hb⟩
    have nfr : ∀ b ∈ env.locals :: fr, b ∉ [x, I] := fun b hb z => by
      rcases mcs hb with rfl | hb
      · exact (offX _ z).1 rfl
      · obtain ⟨o, q⟩ := Fr.st.has hb; rw [newX b z] at q; cases q
    have T := comb_walk (prog := prog) (w := w) (β := β) (A := A.deeper env) (l := env :: l) (fr := env.locals :: fr) (M := []) (few := nI (fewN e W Ss Ss.length)) (g := g) O (by rw [nI_len]; omega) ⟨hg0, by rw [nI_len]; exact hge⟩ ⟨(fun h => nomatch h), (fun h => nomatch h)⟩ (fun h => nomatch h) (hA.le (show n + 3 ≤ n + 6 by omega)) (C.new nxs.1) (C.new nIs.1) nfr
    have cs0 : (combsI (nI (fewN e W Ss Ss.length)).length g).getD 0 [] = upto g := by
      have ok := seq_ok (L := (nI (fewN e W Ss Ss.length)).length) (g := g) (by rw [nI_len]; omega) ⟨hg0, by rw [nI_len]; exact hge⟩
      unfold seqOk at ok
      rw [Bool.and_eq_true, Bool.and_eq_true, beq_iff_eq] at ok
      have o1 := ok.1.1
      generalize combsI (nI (fewN e W Ss Ss.length)).length g = cs at o1
      cases cs with
      | nil => cases o1
      | cons a l => simpa using o1
    let bad : Nat → Bool := fun j => decide (e ≤ (els (meetAll (setsAt Ss (pickI (nI (fewN e W Ss Ss.length)) ((combsI (nI (fewN e W Ss Ss.length)).length g).getD j []))))).length)
    refine for_genT (prog := prog) (w := w) (β := β) (fun t s' => FP [x, I] β.H env (fdS (st1 15)) H s'.heap ((NEW, lI (nI (fewN e W Ss Ss.length))) :: (S "min_group_size", .int g) :: (S "ell", .int e) :: bfB w m W k (qa Ss.length k) (qb Ss.length k) Ss) ∧ Kz fr (Pe env) s.heap s'.heap ∧ ∀ j < t, bad j = false)
      T.toT ⟨by rw [show (0 - 1 : Nat) = 0 from rfl, cs0]; exact Kc₈, (Fr.kz kz₈).deep F₉, fun _ h => nomatch h⟩ ⟨F₉, kz₈, fun j h => absurd h (Nat.not_lt_zero _)⟩ C₈ ?_ ?_
    · rintro t v s₀ s' ht ⟨F', kz, hb⟩ C' kr ⟨rp, Jn⟩
      have mX : ∀ b, b ∈ [x, I] → b ∈ [x, I] := fun b h => h
      have F'' : FP [x, I] β.H env (fdS (st1 15)) H s'.heap _ := F'.kz ((Fr.kz kz).deep F') mX offX offF kr fun a ha => ⟨ha, .inr (nnC Jn.at_ a ha)⟩
      have kz' : Kz fr (Pe env) s.heap s'.heap := kz.step kr (fun z hz => .inr (newX z hz)) fun z hz => by
        rcases mcs hz with rfl | hz
        · exact .inr (.inl (.inl rfl))
        · exact .inl hz
      generalize hpk : pickI (nI (fewN e W Ss Ss.length)) ((combsI (nI (fewN e W Ss Ss.length)).length g).getD t []) = pk at rp
      have rv : Rep [x, I] s'.heap v (.tup (iL pk)) := by
        obtain ⟨a, its, rfl, _, ⟨j, ea⟩, rl⟩ := rp.inv_tup
        refine Rep.of_tup (fun z => ?_) ⟨j, ea⟩ (RepL.of_ints rl.toInts)
        rcases mcs z with rfl | z
        · obtain ⟨t, e⟩ := Jn.at_.ob; rw [ea] at e; cases e
        · cases List.mem_singleton.mp z
          obtain ⟨its, ⟨j, e⟩, _⟩ := Jn.at_.ix
          rw [ea] at e; simp at e
      have pkF : pk.length = g ∧ ∀ a ∈ pk, 0 ≤ a ∧ a < (Ss.length : Int) := by
        have ok := seq_ok (L := (nI (fewN e W Ss Ss.length)).length) (g := g) (by rw [nI_len]; omega) ⟨hg0, by rw [nI_len]; exact hge⟩
        unfold seqOk at ok
        rw [Bool.and_eq_true, Bool.and_eq_true] at ok
        have o3 := ok.2
        rw [List.all_eq_true] at o3
        have hm : (combsI (nI (fewN e W Ss Ss.length)).length g).getD t [] ∈ combsI (nI (fewN e W Ss Ss.length)).length g := by
          rw [List.getD_eq_getElem?_getD, List.getElem?_eq_getElem ht]; exact List.getElem_mem ht
        have := o3 _ hm
        rw [Bool.and_eq_true, beq_iff_eq, List.all_eq_true] at this
        refine ⟨by rw [← hpk]; unfold pickI; rw [List.length_map]; exact this.1, fun a ha => ?_⟩
        rw [← hpk] at ha
        unfold pickI at ha
        obtain ⟨b, hb, rfl⟩ := List.mem_map.mp ha
        have hb2 := this.2 b hb
        rw [Bool.and_eq_true, decide_eq_true_eq, decide_eq_true_eq] at hb2
        have hlt' : b.toNat < (nI (fewN e W Ss Ss.length)).length := by omega
        rw [List.getD_eq_getElem?_getD, List.getElem?_eq_getElem hlt', Option.getD_some]
        have hm2 := List.getElem_mem hlt'
        unfold nI at hm2
        obtain ⟨c, hc, e3⟩ := List.mem_map.mp hm2
        have e4 : (nI (fewN e W Ss Ss.length))[b.toNat] = ((c : Nat) : Int) := e3.symm
        rw [e4]
        unfold fewN at hc
        have := List.mem_range.mp (List.mem_filter.mp hc).1
        omega
      refine wpAny_pure (wpAny_assign_Name (store_p C' F'' rv (.inl (by kernel_rfl)) fun s₁ C₁ F₁ k₁ => ?_))
      obtain ⟨pv, rpv, F₂⟩ := F₁.unre (x := S "profile") (p := prof (ledOf w) m Ss) (by walk_at "lk")
      obtain ⟨xp, _, _, _, rfl, _⟩ := id rpv.inv_obj
      obtain ⟨S₀, rest, hs0⟩ : ∃ S₀ rest, setsAt Ss pk = S₀ :: rest := by
        cases q : setsAt Ss pk with
        | nil => have := congrArg List.length q; rw [setsAt_len, pkF.1] at this; simp at this; omega
        | cons a l => exact ⟨a, l, rfl⟩
      have hbad : bad t = decide (e ≤ (els (meet S₀ rest)).length) := by
        show decide _ = _
        rw [hpk, hs0]; rfl
      refine asg_wpE (p := .set false (ledOf w) (meet S₀ rest)) (.inl (by kernel_rfl)) C₁ F₂ (fun Q' hq => ?_) fun s₂ C₂ F₃ k₂ => ?_
      · exact cut_wp (n := n + 2) (by rfl) hA C₁ F₂.ld hcode (by walk_at "lk") (by walk_at "lk") (by kernel_rfl) (by kernel_rfl) rpv pkF.2 (by omega) (by rw [pkF.1]; omega) hs0 hq
      have kb₂ : Kb env s'.heap s₂.heap := k₁.trans k₂
      refine wpAny_execs_cons (wpAny_If (Tv.cmp (Ev.callB (f := "len") (ps := [.set false (ledOf w) (meet S₀ rest)]) (by walk_at "e") (by walk_at "es") (by simp) cl_len_set) (by walk_at "e") (co_ge (c := bad t) (by rw [hbad, decide_eq_decide]; omega)) (by with_unfolding_all rfl) hA C₂ F₃.ld fun s₃ C₃ K₃ => ?_))
      have kz₃ : Kz fr (Pe env) s.heap s₃.heap := (kz'.trans (.of_kb kb₂)).trans (.of_kh K₃)
      have F₃' := F₃.kp K₃
      cases hbt : bad t with
      | false =>
        simp only [Bool.false_eq_true, if_false]
        refine wpAny_execs_nil (wpAny_execs_nil ?_)
        have rp₃ : Rep [x, I] s₃.heap (.ref xp) (prof (ledOf w) m Ss) := rpv.mono ((F₂.d k₂).trans (D.of_kp K₃))
        have F₄ : FP [x, I] β.H env (fdS (st1 15)) H s₃.heap ((NEW, lI (nI (fewN e W Ss Ss.length))) :: (S "min_group_size", .int g) :: (S "ell", .int e) :: bfB w m W k (qa Ss.length k) (qb Ss.length k) Ss) := (F₃'.re (x := S "profile") (v := .ref xp) (by walk_at "lk") rp₃).sub ⟨by walk_at "lk", by walk_at "lk", by walk_at "lk", by walk_at "lk", by walk_at "lk", by walk_at "lk", by walk_at "lk", trivial⟩
        refine ⟨⟨F₄, kz₃, fun j hj => ?_⟩, ⟨(Jn.at_.kb F'' kb₂).kh K₃, (Fr.kz kz₃).deep F₄, fun _ h => nomatch h⟩, C₃⟩
        rcases Nat.lt_succ_iff_lt_or_eq.mp hj with z | rfl
        · exact hb j z
        · exact hbt
      | true =>
        simp only [if_true]
        refine S1.step (ρ₁ := [(S "detailed_information", .any)]) (S1.sub (S1.assign (.inl (by kernel_rfl)) (Ev.dict3 (p1 := lI (nI (fewN e W Ss Ss.length))) (p2 := .int e) (p3 := .set false (ledOf w) (meet S₀ rest)) (by walk_at "e") (by walk_at "e") (by walk_at "e"))) ⟨lk_here, trivial⟩) hA C₃ F₃' fun s₄ C₄ F₄ k₄ => ?_
        have F₅ : FP [] β.H env (fdS (st1 15)) H s₄.heap [(S "detailed_information", .any)] := F₄.less fun _ h => nomatch h
        refine wpAny_execs_cons (wpAny_Return_some (wpAny_Tuple (evs_run (ps := [.bool false, .any]) (by walk_at "es") hA C₄ F₅.ld fun vs s₅ C₅ K₅ r₅ => ⟨by rw [r₅.at.1]; simp [sizeLine], ?_⟩)))
        refine hyes ?_ _ _ (C₅.push _) (((F₅.kp K₅).kp (kp_push _ _)).sub trivial) (((kz₃.trans (.of_kb k₄)).trans (.of_kh K₅)).trans (.of_kh (kp_push _ _))) fun M mx hp => ?_
        · unfold viol
          rw [hg, decide_eq_true hge, Bool.true_and, List.any_eq_true]
          refine ⟨(combsI (nI (fewN e W Ss Ss.length)).length g).getD t [], ?_, hbt⟩
          rw [← nI_len, List.getD_eq_getElem?_getD, List.getElem?_eq_getElem ht]
          exact List.getElem_mem ht
        · have kk : Kz fr (Pe env) s.heap s₅.heap := (kz₃.trans (.of_kb k₄)).trans (.of_kh K₅)
          have mx₅ : Mx M s₅.heap := fun a ha => kk.nn (mx a ha) (hp a ha)
          refine Rep.of_tup mx₅.offN ⟨_, Heap.get?_push_size _ rfl⟩ ?_
          obtain ⟨u1, u2, e1, q1, q2⟩ := r₅.two
          rw [e1]
          exact .cons (q1.flat rfl) (.cons (q2.flat rfl) .nil)
    · rintro s₀ s' ⟨F', kz, hb⟩ C' kr
      have F'' : FP [] β.H env (fdS (st1 15)) H s'.heap ((NEW, lI (nI (fewN e W Ss Ss.length))) :: (S "min_group_size", .int g) :: (S "ell", .int e) :: bfB w m W k (qa Ss.length k) (qb Ss.length k) Ss) := F'.kz ((Fr.kz kz).deep F') (fun b h => h) offX offF kr fun a ha => nomatch ha
      have kz' : Kz fr (Pe env) s.heap s'.heap := kz.step kr (fun z hz => .inr (newX z hz)) fun z hz => by
        rcases mcs hz with rfl | hz
        · exact .inr (.inl (.inl rfl))
        · exact .inl hz
      refine wpAny_execs_nil (hno ?_ _ _ (.inl rfl) C' (F''.sub ⟨by walk_at "lk", by walk_at "lk", by walk_at "lk", by walk_at "lk", trivial⟩) kz')
      unfold viol
      rw [hg, decide_eq_true hge, Bool.true_and, List.any_eq_false]
      intro idx hidx hx
      rw [← nI_len] at hidx
      obtain ⟨j, hj, rfl⟩ := List.mem_iff_getElem.mp hidx
      have := hb j hj
      have e2 : (combsI (nI (fewN e W Ss Ss.length)).length g).getD j [] = (combsI (nI (fewN e W Ss Ss.length)).length g)[j] := by rw [List.getD_eq_getElem?_getD, List.getElem?_eq_getElem hj]; rfl
      show False
      have e3 : bad j = decide (e ≤ (els (meetAll (setsAt Ss (pickI (nI (fewN e W Ss Ss.length)) ((combsI (nI (fewN e W Ss Ss.length)).length g).getD j []))))).length) := rfl
      rw [this, e2] at e3
      rw [← e3] at hx
      cases hx
end
noncomputable def bruteB (k W : Nat) (Ss : List Nat) : Bool := !((List.range k).any fun j => viol k W Ss (j + 1))
section
variable {w : World} {β : Pm} {n : Nat} {sc : Scope} {ρ ρ' : PVs} {M M' : List Addr} {env : Env} {H h h' : Heap} {s s' : Shared} {B : Heap} {prog : Pr} {A : Around} {pos : Pos} {E : Value → Shared → Prop} {l : List Env} {fr : List Addr}
theorem Ev.dict0 : Ev w β n sc ρ (.Dict [] [] pos) .any := by
  intro prog A env s M Q hA C L h
  exact wpAny_Dict_empty (h _ _ (C.push _) (kp_push s _) (.any _))
theorem FP.moreS (F : FP M B env sc H h ρ) (mx : Mx M' h) (hM : ∀ a ∈ M', a ∈ M ∨ ∃ o, h.get? a = some o ∧ EJ.stay o = false) : FP M' B env sc H h ρ := by
  obtain ⟨m, ρv, f, r⟩ := F
  refine ⟨mx, ρv, f, ?_⟩
  clear f
  induction r with
  | nil => exact .nil
  | cons a _ ih => exact .cons (a.moreS hM) ih
set_option maxHeartbeats 4000000 in
theorem brute_wp {m W k : Nat} {Ss : List Nat} {v1 v2 v3 : Value} {Q : Value → Shared → Prop} (h1 : 1 ≤ Ss.length ∧ Ss.length ≤ 4) (h2 : 1 ≤ k ∧ k ≤ 3) (hA : Ok A (n + 7)) (C : Cx w β s) (St : Stk β A s.heap l fr) (mx : Mx M s.heap)
    (r1 : Rep M s.heap v1 (prof (ledOf w) m Ss)) (r2 : Rep M s.heap v2 (.set true (ledOf w) W)) (r3 : Rep M s.heap v3 (fracOf Ss.length k))
    (h : ∀ v s', Cx w β s' → Kz fr (fun _ => False) s.heap s'.heap → Rep M s'.heap v (.tup [.bool (bruteB k W Ss), .any]) → Q v s') : Wp prog w A (call (.ref 317) [v1, v2, v3]) Q s := by
  refine call_defX (binds := [(S "profile", v1), (S "committee", v2), (S "quota", v3)]) o317 C hA.lt (by kernel_rfl) rfl (by kernel_rfl) (BindsTo.of_eq (by with_unfolding_all rfl)) (by kernel_rfl) (by kernel_rfl) (by kernel_rfl) fun env s₁ hcode hfr hcl C₁ F₁ => ?_
  have F : FP [] β.H env (fdS (st1 15)) (hideAll s.heap fr) s₁.heap [(S "quota", fracOf Ss.length k), (S "committee", .set true (ledOf w) W), (S "profile", prof (ledOf w) m Ss)] :=
    ⟨(fun _ h => nomatch h), _, F₁.base (Kh.of fun b o e => of_hideAll _ e), .cons ((r3.more (M' := []) (fun _ h => nomatch h)).mono (D.of_kh F₁.kept)) (.cons ((r2.more (M' := []) (fun _ h => nomatch h)).mono (D.of_kh F₁.kept)) (.cons ((r1.more (M' := []) (fun _ h => nomatch h)).mono (D.of_kh F₁.kept)) .nil))⟩
  have newP : ∀ y, Pe env y → s.heap.get? y = none := fun y hy => hy.elim (fun z => z ▸ F₁.lo.2) fun ⟨x, z⟩ => hcl x y z
  have ap : ∀ b ∈ fr, b ≠ env.locals ∧ ∀ x c, env.cells.lookup x = some c → c ≠ b := fun b hb => by
    obtain ⟨o, e⟩ := St.has hb
    refine ⟨fun z => ?_, fun x c q z => ?_⟩
    · rw [z, F₁.lo.2] at e; cases e
    · rw [← z, hcl x c q] at e; cases e
  have Fr : Frm β A env (hideAll s.heap fr) s₁.heap l fr := ⟨St.kh F₁.kept, hfr, ap, fun b hb => hideAll_none _ hb⟩
  have hA1 : Ok (A.deeper env) (n + 6) := hA.deeper
  with_unfolding_all refine S1.step (ρ₁ := bfB w m W k (qa Ss.length k) (qb Ss.length k) Ss) (S1.assign (.inl (by kernel_rfl)) (ev_bound rfl h1 h2)) hA1 C₁ F fun s₂ C₂ F₂ k₂ => ?_
  have kz₂ : Kz fr (Pe env) s₁.heap s₂.heap := .of_kb k₂
  refine wpAny_execs_cons (wpAny_For (Ev.callT (f := "range") (ps := [.int 1, .int ((k : Int) + 1)]) (r := .rng 1 k) (by walk_at "e") (Evs.cons (by kernel_rfl) (by walk_at "e") (Evs.cons (by kernel_rfl) (Ev.add (by walk_at "e") (by walk_at "e")) Evs.nil)) (by simp) (cl_range2 (by omega) (by omega) (by omega)) hA1 C₂ F₂.ld fun v s₃ C₃ K₃ r₃ => ?_) (by intro _; rfl))
  refine it_walks (xs := (List.range k).map fun (i : Nat) => PV.int (1 + (i : Int))) hA1.h C₃ r₃ rfl (by simp [sizeLine]; omega) fun I s₄ fp P St' W₄ st₀ C₄ K₄ nI hfp hIfp hfp2 hnn hP => ?_
  have hz : ((List.range k).map fun (i : Nat) => PV.int (1 + (i : Int))).length = k := by simp
  rw [hz] at W₄
  have kz₄ : Kz fr (Pe env) s₁.heap s₄.heap := (kz₂.trans (.of_kh K₃)).trans (.of_kh K₄)
  have F₃ := F₂.kp K₃
  have F₄ := F₃.kp K₄
  have offI := F₃.offN nI
  obtain ⟨⟨oI, eI, qI⟩, nnI⟩ := hnn 0 _ st₀
  have hIB : β.H.get? I = none := C₃.new nI
  have nPI : ¬ Pe env I := fun z => z.elim offI.1 fun ⟨x, q⟩ => offI.2.1 x I q rfl
  have nfrI : I ∉ fr := fun z => by
    have Fr₃ := Fr.kz (kz₂.trans (.of_kh K₃))
    obtain ⟨o, e⟩ := Fr₃.st.has z
    rw [nI] at e; cases e
  have nI1 : s₁.heap.get? I = none := (kz₂.trans (.of_kh K₃)).none nI nPI nfrI
  have T := (IterOk.of_walks (β := β) W₄ hIB fun i h st => (hnn i h st).2).toR (fr := fr)
  have kz₃ : Kz fr (Pe env) s₁.heap s₃.heap := kz₂.trans (.of_kh K₃)
  have frameJ : ∀ (i : Nat) (a b : Heap), St' i a → Kz fr (Pe env) s₃.heap a → Kz fr (Pe env) a b → St' i b := fun i a b st ka kab => W₄.frame _ _ _ st fun c hc o e => by
    have nn : NN a c := (hnn i a st).2 c hc
    by_cases z : c = I
    · subst z
      exact kab.k _ o nPI nfrI e (by obtain ⟨o', e', q⟩ := nn; rw [e] at e'; cases e'; exact q)
    · obtain ⟨o₃, e₃, q⟩ := (hfp2 c hc).resolve_left z
      have off := F₃.offS e₃ q
      have np : ¬ Pe env c := fun y => y.elim off.1 fun ⟨x, q⟩ => off.2 x c q rfl
      have nf : c ∉ fr := fun y => by
        have := (Fr.kz kz₃).st.there y e₃
        rw [show stay o₃ = false by unfold stay; rw [this]; rfl] at q
        cases q
      have ea := ka.k c o₃ np nf e₃ (stay_ne q)
      rw [ea] at e; cases e
      exact kab.k c _ np nf ea (stay_ne q)
  have F₅ : FP [I] β.H env (fdS (st1 15)) (hideAll s.heap fr) s₄.heap (bfB w m W k (qa Ss.length k) (qb Ss.length k) Ss) := F₃.grow (fun a ha => .inr (List.mem_singleton.mp ha ▸ nI)) K₄ fun a ha => by
    cases List.mem_singleton.mp ha; exact nnI I hIfp
  have tot : ∀ {b : Heap}, Kz fr (Pe env) s₃.heap b → Kz fr (fun _ => False) s.heap b := fun kb => Kz.from F₁.kept (kz₃.trans kb) newP
  refine for_genT (prog := prog) (w := w) (β := β) (fun t s' => FP [I] β.H env (fdS (st1 15)) (hideAll s.heap fr) s'.heap (bfB w m W k (qa Ss.length k) (qb Ss.length k) Ss) ∧ Kz fr (Pe env) s₃.heap s'.heap ∧ ∀ j < t, viol k W Ss (j + 1) = false)
    T.toT st₀ ⟨F₅, .of_kh K₄, fun j h => absurd h (Nat.not_lt_zero _)⟩ C₄ ?_ ?_
  · rintro t v s₀ s' ht ⟨F', kz, hb⟩ C' kr ⟨hp, Jn⟩
    have kz' : Kz fr (Pe env) s₃.heap s'.heap := kz.step kr (fun z hz => .inr (List.mem_singleton.mp hz ▸ nI)) fun z hz => .inl hz
    have F'' : FP [] β.H env (fdS (st1 15)) (hideAll s.heap fr) s'.heap (bfB w m W k (qa Ss.length k) (qb Ss.length k) Ss) := F'.kz ((Fr.kz kz₃).kz kz).st (fun b h => h) (fun b hb => by cases List.mem_singleton.mp hb; exact offI) (fun b hb => ⟨(ap b hb).2, hideAll_none _ hb⟩) kr fun a ha => nomatch ha
    obtain ⟨x, hx, rx⟩ := hP t v hp
    have rx' : Rep [] s'.heap v (.int ((t + 1 : Nat) : Int)) := by
      rw [List.getElem?_map, List.getElem?_range ht] at hx
      cases hx
      obtain ⟨tt, rfl⟩ := rx.inv_int
      rw [show (1 : Int) + (t : Nat) = ((t + 1 : Nat) : Int) by omega]
      exact .int _ _
    refine wpAny_pure (wpAny_assign_Name (store_p C' F'' rx' (.inl (by kernel_rfl)) fun s₅ C₅ F₅ k₅ => ?_))
    have kz₅ : Kz fr (Pe env) s₃.heap s₅.heap := kz'.trans (.of_kb k₅)
    with_unfolding_all refine ell_body (e := t + 1) h1 h2 ⟨by omega, by omega⟩ ((Fr.kz kz₃).kz kz₅) hcode hA1 C₅ F₅ (fun hv fl s₆ hfl C₆ F₆ k₆ => ?_) fun hv u s₆ C₆ F₆ k₆ hu => ?_
    · have kz₆ := kz₅.trans k₆
      have J₆ : St' (t + 1) s₆.heap := frameJ _ _ _ Jn kz' ((Kz.of_kb k₅).trans k₆)
      have F₇ : FP [I] β.H env (fdS (st1 15)) (hideAll s.heap fr) s₆.heap (bfB w m W k (qa Ss.length k) (qb Ss.length k) Ss) := F₆.moreS (fun a ha => by cases List.mem_singleton.mp ha; exact (hnn _ _ J₆).2 I hIfp) fun a ha => .inr (by cases List.mem_singleton.mp ha; exact (hnn _ _ J₆).1)
      have res : (FP [I] β.H env (fdS (st1 15)) (hideAll s.heap fr) s₆.heap (bfB w m W k (qa Ss.length k) (qb Ss.length k) Ss) ∧ Kz fr (Pe env) s₃.heap s₆.heap ∧ ∀ j < t + 1, viol k W Ss (j + 1) = false) ∧ St' (t + 1) s₆.heap ∧ Cx w β s₆ := ⟨⟨F₇, kz₆, fun j hj => by
        rcases Nat.lt_succ_iff_lt_or_eq.mp hj with z | rfl
        · exact hb j z
        · exact hv⟩, J₆, C₆⟩
      rcases hfl with rfl | rfl <;> exact res
    · have kz₆ := kz₅.trans k₆
      have hbr : bruteB k W Ss = false := by
        unfold bruteB
        rw [show ((List.range k).any fun j => viol k W Ss (j + 1)) = true from List.any_eq_true.mpr ⟨t, by simpa using ht, hv⟩]; rfl
      refine h u s₆ C₆ (tot kz₆) ?_
      rw [hbr]
      exact hu M (fun a ha => (tot kz₅).nn (mx a ha) fun z => z) fun a ha z => by
        obtain ⟨o, e, _⟩ := mx a ha
        rw [newP a z] at e; cases e
  · rintro s₀ s' ⟨F', kz, hb⟩ C' kr
    have kz' : Kz fr (Pe env) s₃.heap s'.heap := kz.step kr (fun z hz => .inr (List.mem_singleton.mp hz ▸ nI)) fun z hz => .inl hz
    have F'' : FP [] β.H env (fdS (st1 15)) (hideAll s.heap fr) s'.heap (bfB w m W k (qa Ss.length k) (qb Ss.length k) Ss) := F'.kz ((Fr.kz kz₃).kz kz).st (fun b h => h) (fun b hb => by cases List.mem_singleton.mp hb; exact offI) (fun b hb => ⟨(ap b hb).2, hideAll_none _ hb⟩) kr fun a ha => nomatch ha
    refine S1.step (ρ₁ := [(S "detailed_information", .any)]) (S1.sub (S1.assign (.inl (by kernel_rfl)) Ev.dict0) ⟨lk_here, trivial⟩) hA1 C' F'' fun s₅ C₅ F₅ k₅ => ?_
    refine wpAny_execs_cons (wpAny_Return_some (wpAny_Tuple (evs_run (ps := [.bool true, .any]) (by walk_at "es") hA1 C₅ F₅.ld fun vs s₆ C₆ K₆ r₆ => ⟨by rw [r₆.at.1]; simp [sizeLine], ?_⟩)))
    have kz₆ : Kz fr (Pe env) s₃.heap s₆.heap := (kz'.trans (.of_kb k₅)).trans (.of_kh K₆)
    have hbr : bruteB k W Ss = true := by
      unfold bruteB
      rw [show ((List.range k).any fun j => viol k W Ss (j + 1)) = false from List.any_eq_false.mpr fun j hj => by rw [hb j (by simpa using hj)]; simp]; rfl
    refine h _ _ (C₆.push _) (tot (kz₆.trans (.of_kh (kp_push _ _)))) ?_
    rw [hbr]
    have mx₆ : Mx M s₆.heap := fun a ha => (tot kz₆).nn (mx a ha) fun z => z
    refine Rep.of_tup mx₆.offN ⟨_, Heap.get?_push_size _ rfl⟩ ?_
    obtain ⟨u1, u2, e1, q1, q2⟩ := r₆.two
    rw [e1]
    exact .cons (q1.flat rfl) (.cons (q2.flat rfl) .nil)
end
section
variable {w : World} {β : Pm} {n : Nat} {sc : Scope} {ρ ρ' : PVs} {M M' : List Addr} {env : Env} {H h h' : Heap} {s s' : Shared} {B : Heap} {prog : Pr} {A : Around} {pos : Pos} {E : Value → Shared → Prop} {l : List Env} {fr : List Addr}
set_option maxHeartbeats 2000000 in
theorem check_wp {m : Nat} {ns Ss : List Nat} {v1 v2 v3 : Value} {Q : Value → Shared → Prop} (hm : m ≤ 10) (h1 : 1 ≤ Ss.length ∧ Ss.length ≤ 4) (h2 : 1 ≤ ns.length ∧ ns.length ≤ 3) (hlt : ∀ k ∈ ns, k < 4) (hltm : ∀ k ∈ ns, k < m) (hd : (els (maskOf ns)).length = ns.length)
    (hA : Ok A (n + 8)) (C : Cx w β s) (St : Stk β A s.heap l fr) (mx : Mx M s.heap) (r1 : Rep M s.heap v1 (prof (ledOf w) m Ss)) (r2 : Rep M s.heap v2 (.list (nL ns))) (r3 : Rep M s.heap v3 (.str (S "brute-force")))
    (h : ∀ s', Cx w β s' → Kz fr (fun _ => False) s.heap s'.heap → Q (.bool (bruteB ns.length (maskOf ns) Ss)) s') : Wp prog w A (call (.ref 310) [v1, v2] [(S "algorithm", v3)]) Q s := by
  refine call_defX (binds := [(S "profile", v1), (S "committee", v2), (S "quota", .none), (S "algorithm", v3)]) o310 C hA.lt (by kernel_rfl) rfl (by kernel_rfl) (BindsTo.of_defaults rfl (C.K 303 _ (by kernel_rfl)) (o := o303) rfl rfl rfl) (by kernel_rfl) (by kernel_rfl) (by kernel_rfl) fun env s₁ hcode hfr hcl C₁ F₁ => ?_
  have F : FP [] β.H env (fdS (st1 14)) (hideAll s.heap fr) s₁.heap [(S "algorithm", .str (S "brute-force")), (S "quota", .raw .none), (S "committee", .list (nL ns)), (S "profile", prof (ledOf w) m Ss)] :=
    ⟨(fun _ h => nomatch h), _, F₁.base (Kh.of fun b o e => of_hideAll _ e), .cons ((r3.more (M' := []) (fun _ h => nomatch h)).mono (D.of_kh F₁.kept)) (.cons (.raw _) (.cons ((r2.more (M' := []) (fun _ h => nomatch h)).mono (D.of_kh F₁.kept)) (.cons ((r1.more (M' := []) (fun _ h => nomatch h)).mono (D.of_kh F₁.kept)) .nil)))⟩
  have newP : ∀ y, Pe env y → s.heap.get? y = none := fun y hy => hy.elim (fun z => z ▸ F₁.lo.2) fun ⟨x, z⟩ => hcl x y z
  have ap : ∀ b ∈ fr, b ≠ env.locals ∧ ∀ x c, env.cells.lookup x = some c → c ≠ b := fun b hb => by
    obtain ⟨o, e⟩ := St.has hb
    refine ⟨fun z => ?_, fun x c q z => ?_⟩
    · rw [z, F₁.lo.2] at e; cases e
    · rw [← z, hcl x c q] at e; cases e
  have Fr : Frm β A env (hideAll s.heap fr) s₁.heap l fr := ⟨St.kh F₁.kept, hfr, ap, fun b hb => hideAll_none _ hb⟩
  have hA1 : Ok (A.deeper env) (n + 7) := hA.deeper
  with_unfolding_all refine S1.step (ρ₁ := [(S "quota", fracOf Ss.length ns.length), (S "algorithm", .str (S "brute-force")), (S "committee", .list (nL ns)), (S "profile", prof (ledOf w) m Ss)]) ?_ hA1 C₁ F fun s₂ C₂ F₂ k₂ => ?_
  · refine S1.if (c := true) (Tv.cmp (a := .raw .none) (b := .raw .none) (by walk_at "e") (by walk_at "e") (co_is_none fun M h v r => by rw [r.inv_raw]; rfl)) (fun _ => ?_) (fun h => by cases h)
    refine Sv.asg (.bool true) (.inl (by kernel_rfl)) (by walk_at "e") ?_
    refine Sv.sub (Sv.asg (fracOf Ss.length ns.length) (.inl (by kernel_rfl)) (Ev.callR (f := .ref 298) (ps := [.int (Ss.length : Nat), .int (ns.length : Nat)]) kgFraction (by walk_at "e") (Evs.cons (by kernel_rfl) ?_ (Evs.cons (by kernel_rfl) ?_ Evs.nil)) (cl_Frac_ints (by omega))) Sv.nil) ⟨by walk_at "lk", by walk_at "lk", by walk_at "lk", by walk_at "lk", trivial⟩
    · exact Ev.meth (f := 380) (pl := fun _ => _) clsP (by kernel_rfl) (by kernel_rfl) (by kernel_rfl) (by kernel_rfl) (by walk_at "e") (by walk_at "es") (cl_total (by omega)) (by intro _; rfl)
    · exact Ev.conv (Ev.callB (f := "len") (ps := [.list (nL ns)]) (by walk_at "e") (by walk_at "es") (by simp) (cl_len (by simp [nL]; omega))) (by simp [nL])
  refine S1.step (ρ₁ := [(S "committee", .set true (ledOf w) (maskOf ns)), (S "quota", fracOf Ss.length ns.length), (S "algorithm", .str (S "brute-force")), (S "profile", prof (ledOf w) m Ss)]) ?_ hA1 C₂ F₂ fun s₃ C₃ F₃ k₃ => ?_
  · exact S1.sub (S1.assign (.inl (by kernel_rfl)) (Ev.callRK (f := .ref 75) kgCandidateSet (by walk_at "e") (by walk_at "es") (by simp) (Ev.num_cand hm (by walk_at "e")) (clk_CS hlt hltm hd))) ⟨by walk_at "lk", by walk_at "lk", by walk_at "lk", by walk_at "lk", trivial⟩
  refine S1.step (ρ₁ := [(S "committee", .set true (ledOf w) (maskOf ns)), (S "quota", fracOf Ss.length ns.length), (S "algorithm", .str (S "brute-force")), (S "profile", prof (ledOf w) m Ss)]) ?_ hA1 C₃ F₃ fun s₄ C₄ F₄ k₄ => ?_
  · exact S1.if (c := false) (Tv.cmp (by walk_at "e") (by walk_at "e") (co_eqs (by kernel_rfl))) (fun h => by cases h) fun _ => Sv.nil
  refine wpAny_execs_cons (wpAny_If (Tv.cmp (by walk_at "e") (by walk_at "e") (co_eqs (c := true) (by kernel_rfl)) (by with_unfolding_all rfl) hA1 C₄ F₄.ld fun s₅ C₅ K₅ => ?_))
  simp only [if_true]
  have F₅ := F₄.kp K₅
  have kz₅ : Kz fr (Pe env) s₁.heap s₅.heap := (Kz.of_kb (k₂.trans (k₃.trans k₄))).trans (.of_kh K₅)
  refine wpAny_execs_cons (PyProof.Rows.Assign_Tuple (callR_wp (f := .ref 317) (ps := [prof (ledOf w) m Ss, .set true (ledOf w) (maskOf ns), fracOf Ss.length ns.length]) kg_check_EJR_brute_force (by walk_at "e") (by walk_at "es") hA1 C₅ F₅.ld fun vs s₆ C₆ K₆ r₆ => ?_) (by rfl) (by rw [sw_same (env' := e0 (fdS (st1 14))) (by unfold Env.blockKind; rw [F₅.blk]; rfl) (F₅.kind _) (F₅.kind _)]; kernel_rfl))
  obtain ⟨u1, u2, u3, rfl, q1, q2, q3⟩ : ∃ u1 u2 u3, vs = [u1, u2, u3] ∧ Rep [] s₆.heap u1 (prof (ledOf w) m Ss) ∧ Rep [] s₆.heap u2 (.set true (ledOf w) (maskOf ns)) ∧ Rep [] s₆.heap u3 (fracOf Ss.length ns.length) := by
    cases r₆ with
    | cons a rl => cases rl with
      | cons b rl => cases rl with
        | cons c rl => cases rl; exact ⟨_, _, _, rfl, a, b, c⟩
  have F₆ := F₅.kp K₆
  have kz₆ := kz₅.trans (.of_kh K₆)
  have Fr₆ := Fr.kz kz₆
  refine brute_wp (n := n) (M := []) h1 h2 hA1 C₆ (Fr₆.deep F₆) (fun _ h => nomatch h) q1 q2 q3 fun v s₇ C₇ k₇ r₇ => ?_
  have offF : ∀ b ∈ env.locals :: fr, (∀ x c, env.cells.lookup x = some c → c ≠ b) ∧ (hideAll s.heap fr).get? b = none := fun b hb => by
    rcases mcs hb with rfl | hb
    · obtain ⟨_, _, f, _⟩ := F; exact ⟨f.off, f.lo.2⟩
    · exact ⟨(ap b hb).2, hideAll_none _ hb⟩
  have F₇ := F₆.kz (M' := []) (Fr₆.deep F₆) (fun b h => h.elim) (fun b h => h.elim) offF k₇ (fun a ha => nomatch ha)
  have kz₇ : Kz fr (Pe env) s₁.heap s₇.heap := kz₆.step k₇ (fun z hz => hz.elim) fun z hz => by
    rcases mcs hz with rfl | hz
    · exact .inr (.inl (.inl rfl))
    · exact .inl hz
  obtain ⟨t, its, rfl, _, ⟨j, et⟩, rl⟩ := r₇.inv_tup
  obtain ⟨w1, w2, e1, z1, z2⟩ := rl.two
  refine assign_pair (v1 := w1) (v2 := w2) (a := .bool (bruteB ns.length (maskOf ns) Ss)) (b := .any) hA1 (.inl (by kernel_rfl)) (.inl (by kernel_rfl)) C₇ F₇ ⟨_, et, rfl, _, rfl⟩ e1 z1 z2 fun s₈ C₈ F₈ k₈ => ?_
  refine wpAny_execs_nil ?_
  dsimp only
  refine wpAny_execs_cons (wpAny_Return_some (Ev.name (p := .bool (bruteB ns.length (maskOf ns) Ss)) (by kernel_rfl) (by walk_at "lk") (by kernel_rfl) hA1 C₈ F₈.ld fun v s₉ C₉ K₉ r₉ => ?_))
  cases r₉.inv_bool
  exact h s₉ C₉ (Kz.from F₁.kept ((kz₇.trans (.of_kb k₈)).trans (.of_kh K₉)) newP)
end
noncomputable abbrev pc (S : Nat) : Nat := (els S).length
noncomputable def bW (S : Nat) : List Int := nI (els S)
noncomputable def nbrW (m W : Nat) : List Nat := (els W).flatMap fun old => ((List.range m).filter fun c => !W.testBit c).map fun new => (W ^^^ 2 ^ old) ||| 2 ^ new
noncomputable def okW (m W : Nat) : Bool := decide (W < 2 ^ m) && decide (1 ≤ pc W) && decide (pc W ≤ 3)
theorem nbr_all : [3, 4].all (fun m => (List.range 16).all fun W => !okW m W || (nbr (bW W) m == (nbrW m W).map bW && (nbrW m W).all fun o => okW m o && pc o == pc W)) = true := by decide +kernel
theorem sc_all : (List.range 16).all (fun S => (List.range 16).all fun W => decide (3 < pc W) || (sc4.getD ((bW S).filter (· ∈ bW W)).length 0 == ((w6 (pc (W &&& S)) : Nat) : Int) && decide (((bW S).filter (· ∈ bW W)).length ≤ 3) && decide (pc (W &&& S) ≤ 3))) = true := by decide +kernel
theorem okW_at {m W : Nat} (h : okW m W = true) : W < 2 ^ m ∧ 1 ≤ pc W ∧ pc W ≤ 3 := by
  unfold okW at h
  rw [Bool.and_eq_true, Bool.and_eq_true, decide_eq_true_eq, decide_eq_true_eq, decide_eq_true_eq] at h
  exact ⟨h.1.1, h.1.2, h.2⟩
theorem okW_lt {m W : Nat} (hm : m = 3 ∨ m = 4) (h : okW m W = true) : W < 16 := by
  have := (okW_at h).1
  rcases hm with rfl | rfl <;> omega
theorem nbr_mask {m W : Nat} (hm : m = 3 ∨ m = 4) (h : okW m W = true) : nbr (bW W) m = (nbrW m W).map bW ∧ ∀ o ∈ nbrW m W, okW m o = true ∧ pc o = pc W := by
  have := List.all_eq_true.mp (List.all_eq_true.mp nbr_all m (by rcases hm with rfl | rfl <;> simp)) W (by simpa using okW_lt hm h)
  rw [h, Bool.not_true, Bool.false_or, Bool.and_eq_true, beq_iff_eq, List.all_eq_true] at this
  refine ⟨this.1, fun o ho => ?_⟩
  have := this.2 o ho
  rw [Bool.and_eq_true, beq_iff_eq] at this
  exact this
theorem sc_at {S W : Nat} (hS : S < 16) (hW : W < 16) (h3 : pc W ≤ 3) : sc4.getD ((bW S).filter (· ∈ bW W)).length 0 = ((w6 (pc (W &&& S)) : Nat) : Int) ∧ ((bW S).filter (· ∈ bW W)).length ≤ 3 ∧ pc (W &&& S) ≤ 3 := by
  have := List.all_eq_true.mp (List.all_eq_true.mp sc_all S (by simpa using hS)) W (by simpa using hW)
  rw [decide_eq_false (by omega), Bool.false_or, Bool.and_eq_true, Bool.and_eq_true, beq_iff_eq, decide_eq_true_eq, decide_eq_true_eq] at this
  exact ⟨this.1.1, this.1.2, this.2⟩
theorem score_mask {Ss : List Nat} {W : Nat} (hS : ∀ S ∈ Ss, S < 16) (hW : W < 16) (h3 : pc W ≤ 3) : score (Ss.map bW) (bW W) = ((sc6 W Ss : Nat) : Int) := by
  unfold score sc6
  induction Ss with
  | nil => rfl
  | cons S l ih =>
    have e := (sc_at (hS S (List.mem_cons_self ..)) hW h3).1
    have := ih fun S h => hS S (List.mem_cons_of_mem _ h)
    simp only [List.map_cons, List.sum_cons]
    rw [e, this]
    unfold pc
    omega
theorem bW_len {S : Nat} : (bW S).length = pc S := by simp [bW, nI]
theorem bok {Ss : List Nat} {m : Nat} (hn : Ss.length ≤ 4) (hm : m = 3 ∨ m = 4) : BOk (Ss.map bW) m :=
  ⟨by rw [List.length_map]; exact hn, by omega, fun b hb => by obtain ⟨S, _, rfl⟩ := List.mem_map.mp hb; rw [bW_len]; exact els_le⟩
noncomputable def betterW (Ss : List Nat) (W : Nat) (s : Nat × Int) (o : Nat) : Nat × Int :=
  if 6 * (Ss.length : Int) ≤ ((sc6 o Ss : Int) - sc6 W Ss) * pc W * pc W ∧ s.2 < (sc6 o Ss : Int) - sc6 W Ss then (o, (sc6 o Ss : Int) - sc6 W Ss) else s
noncomputable def liftW (Ss : List Nat) (m W : Nat) : Nat := ((nbrW m W).foldl (betterW Ss W) (W, 0)).1
theorem fold_mask {Ss : List Nat} {m W : Nat} (hS : ∀ S ∈ Ss, S < 16) (hm : m = 3 ∨ m = 4) (hW : okW m W = true) : ∀ (l : List Nat) (b : Nat) (g : Int), (∀ o ∈ l, okW m o = true) → (l.map bW).foldl (better (Ss.map bW) (bW W)) (bW b, g) = (bW (l.foldl (betterW Ss W) (b, g)).1, (l.foldl (betterW Ss W) (b, g)).2)
  | [], _, _, _ => rfl
  | o :: l, b, g, h => by
    have ho := h o (List.mem_cons_self ..)
    have e1 := score_mask hS (okW_lt hm ho) (okW_at ho).2.2
    have e2 := score_mask hS (okW_lt hm hW) (okW_at hW).2.2
    rw [List.map_cons, List.foldl_cons, List.foldl_cons]
    have st : better (Ss.map bW) (bW W) (bW b, g) (bW o) = (bW (betterW Ss W (b, g) o).1, (betterW Ss W (b, g) o).2) := by
      unfold better betterW
      rw [e1, e2, bW_len, List.length_map]
      split <;> rfl
    rw [st]
    exact fold_mask hS hm hW l _ _ fun o ho => h o (List.mem_cons_of_mem _ ho)
theorem lifted_mask {Ss : List Nat} {m W : Nat} (hS : ∀ S ∈ Ss, S < 16) (hm : m = 3 ∨ m = 4) (hW : okW m W = true) : lifted (Ss.map bW) m (bW W) = bW (liftW Ss m W) := by
  unfold lifted liftW
  rw [(nbr_mask hm hW).1, fold_mask hS hm hW _ _ _ fun o ho => ((nbr_mask hm hW).2 o ho).1]
theorem fold_inv {Ss : List Nat} {W : Nat} : ∀ (l : List Nat) (b : Nat) (g : Int), ((b = W ∧ g = 0) ∨ (0 < g ∧ g = (sc6 b Ss : Int) - sc6 W Ss)) →
    (((l.foldl (betterW Ss W) (b, g)).1 = W ∧ (l.foldl (betterW Ss W) (b, g)).2 = 0) ∨ (0 < (l.foldl (betterW Ss W) (b, g)).2 ∧ (l.foldl (betterW Ss W) (b, g)).2 = (sc6 (l.foldl (betterW Ss W) (b, g)).1 Ss : Int) - sc6 W Ss)) ∧
    g ≤ (l.foldl (betterW Ss W) (b, g)).2 ∧ ((l.foldl (betterW Ss W) (b, g)).1 = b ∨ (l.foldl (betterW Ss W) (b, g)).1 ∈ l) ∧
    ∀ o ∈ l, 6 * (Ss.length : Int) ≤ ((sc6 o Ss : Int) - sc6 W Ss) * pc W * pc W → (sc6 o Ss : Int) - sc6 W Ss ≤ (l.foldl (betterW Ss W) (b, g)).2
  | [], b, g, h => ⟨h, Int.le_refl _, .inl rfl, fun o h => nomatch h⟩
  | o :: l, b, g, h => by
    rw [List.foldl_cons]
    have h' : ((betterW Ss W (b, g) o).1 = W ∧ (betterW Ss W (b, g) o).2 = 0) ∨ (0 < (betterW Ss W (b, g) o).2 ∧ (betterW Ss W (b, g) o).2 = (sc6 (betterW Ss W (b, g) o).1 Ss : Int) - sc6 W Ss) := by
      unfold betterW
      split
      · rename_i q
        refine .inr ⟨?_, rfl⟩
        have := q.2
        simp only at this ⊢
        rcases h with ⟨_, h⟩ | ⟨h, _⟩ <;> omega
      · exact h
    obtain ⟨i1, i2, i3, i4⟩ := fold_inv l (betterW Ss W (b, g) o).1 (betterW Ss W (b, g) o).2 h'
    rw [show ((betterW Ss W (b, g) o).1, (betterW Ss W (b, g) o).2) = betterW Ss W (b, g) o from rfl] at i1 i2 i3 i4
    have st : g ≤ (betterW Ss W (b, g) o).2 ∧ ((betterW Ss W (b, g) o).1 = b ∨ (betterW Ss W (b, g) o).1 = o) ∧ (6 * (Ss.length : Int) ≤ ((sc6 o Ss : Int) - sc6 W Ss) * pc W * pc W → (sc6 o Ss : Int) - sc6 W Ss ≤ (betterW Ss W (b, g) o).2) := by
      unfold betterW
      split
      · rename_i q
        have := q.2
        refine ⟨?_, .inr rfl, fun _ => Int.le_refl _⟩
        simp only at this ⊢
        omega
      · rename_i q
        refine ⟨Int.le_refl _, .inl rfl, fun z => ?_⟩
        have : ¬ (g < (sc6 o Ss : Int) - sc6 W Ss) := fun y => q ⟨z, y⟩
        simp only
        omega
    refine ⟨i1, by omega, ?_, fun o' ho' z => ?_⟩
    · rcases i3 with i3 | i3
      · rcases st.2.1 with z | z
        · exact .inl (i3.trans z)
        · exact .inr (by rw [i3, z]; exact List.mem_cons_self ..)
      · exact .inr (List.mem_cons_of_mem _ i3)
    · rcases mcs ho' with rfl | ho'
      · have := st.2.2 z; omega
      · exact i4 o' ho' z
theorem liftW_ok {Ss : List Nat} {m W : Nat} (hm : m = 3 ∨ m = 4) (hW : okW m W = true) : okW m (liftW Ss m W) = true ∧ pc (liftW Ss m W) = pc W := by
  have := (fold_inv (Ss := Ss) (W := W) (nbrW m W) W 0 (.inl ⟨rfl, rfl⟩)).2.2.1
  rcases this with z | z
  · unfold liftW; rw [z]; exact ⟨hW, rfl⟩
  · exact (nbr_mask hm hW).2 _ z
theorem liftW_up {Ss : List Nat} {m W : Nat} (h : liftW Ss m W ≠ W) : sc6 W Ss < sc6 (liftW Ss m W) Ss := by
  have := (fold_inv (Ss := Ss) (W := W) (nbrW m W) W 0 (.inl ⟨rfl, rfl⟩)).1
  rcases this with z | z
  · exact absurd z.1 h
  · unfold liftW; omega
theorem liftW_top {Ss : List Nat} {m W : Nat} (h : liftW Ss m W = W) (o : Nat) (ho : o ∈ nbrW m W) (hn : 0 < Ss.length) (hk : 1 ≤ pc W) : ¬ 6 * (Ss.length : Int) ≤ ((sc6 o Ss : Int) - sc6 W Ss) * pc W * pc W := fun z => by
  obtain ⟨i1, _, _, i4⟩ := fold_inv (Ss := Ss) (W := W) (nbrW m W) W 0 (.inl ⟨rfl, rfl⟩)
  have h4 := i4 o ho z
  have e : ((nbrW m W).foldl (betterW Ss W) (W, 0)).1 = W := h
  have pos : (sc6 o Ss : Int) - sc6 W Ss ≤ 0 := by
    rcases i1 with i1 | i1
    · omega
    · rw [e] at i1; omega
  have : ((sc6 o Ss : Int) - sc6 W Ss) * pc W * pc W ≤ 0 := by
    have h1 : ((sc6 o Ss : Int) - sc6 W Ss) * pc W ≤ 0 := Int.mul_nonpos_of_nonpos_of_nonneg pos (by omega)
    exact Int.mul_nonpos_of_nonpos_of_nonneg h1 (by omega)
  omega
noncomputable def eW (Ss : List Nat) (m W : Nat) : Nat → Nat
  | 0 => W
  | i + 1 => liftW Ss m (eW Ss m W i)
theorem eW_ok {Ss : List Nat} {m W : Nat} (hm : m = 3 ∨ m = 4) (hW : okW m W = true) : ∀ i, okW m (eW Ss m W i) = true ∧ pc (eW Ss m W i) = pc W
  | 0 => ⟨hW, rfl⟩
  | i + 1 => by
    obtain ⟨a, b⟩ := eW_ok hm hW i
    obtain ⟨c, d⟩ := liftW_ok (Ss := Ss) hm a
    exact ⟨c, d.trans b⟩
theorem eW_stop {Ss : List Nat} {m W : Nat} (hn : Ss.length ≤ 4) : ∃ k, eW Ss m W (k + 1) = eW Ss m W k ∧ ∀ j < k, eW Ss m W (j + 1) ≠ eW Ss m W j := by
  have up : ∀ k, (∀ j < k, eW Ss m W (j + 1) ≠ eW Ss m W j) → k ≤ sc6 (eW Ss m W k) Ss := by
    intro k
    induction k with
    | zero => intro _; exact Nat.zero_le _
    | succ k ih =>
      intro h
      have := ih fun j hj => h j (by omega)
      have := liftW_up (Ss := Ss) (m := m) (W := eW Ss m W k) (h k (by omega))
      show k + 1 ≤ sc6 (liftW Ss m (eW Ss m W k)) Ss
      omega
  have ex : ∃ k, eW Ss m W (k + 1) = eW Ss m W k := by
    refine Classical.byContradiction fun z => ?_
    have h1 := up 50 fun j _ q => z ⟨j, q⟩
    have h2 := sc6_le (eW Ss m W 50) Ss
    have : 11 * Ss.length ≤ 44 := by omega
    omega
  obtain ⟨K, hK⟩ := ex
  have : ∀ K, eW Ss m W (K + 1) = eW Ss m W K → ∃ k, eW Ss m W (k + 1) = eW Ss m W k ∧ ∀ j < k, eW Ss m W (j + 1) ≠ eW Ss m W j := by
    intro K
    induction K using Nat.strongRecOn with
    | ind K ih =>
      intro hK
      by_cases h : ∃ j, j < K ∧ eW Ss m W (j + 1) = eW Ss m W j
      · obtain ⟨j, hj, e⟩ := h; exact ih j hj e
      · exact ⟨K, hK, fun j hj e => h ⟨j, hj, e⟩⟩
  exact this K hK
noncomputable def mN (xs : List Int) : Nat := 3 + ((drw xs 0).fmod 2).toNat
noncomputable def sN (xs : List Int) : Nat := 1 + ((drw xs 1).fmod 3).toNat
noncomputable def fN (xs : List Int) : Nat := (((drw xs 1).fdiv 3).fmod ((mN xs : Int) - sN xs + 1)).toNat
noncomputable def hN (xs : List Int) : Nat := 4 + (((drw xs 0).fdiv 2).fmod 3).toNat
noncomputable def bm (m : Nat) (d : Int) : Nat := (d % (2 ^ m : Nat)).toNat
noncomputable def dsl (xs : List Int) : List Int := ((drws xs 6).drop 2).take (hN xs - 2)
noncomputable def Sx (xs : List Int) : List Nat := (dsl xs).map (bm (mN xs))
noncomputable def W0 (xs : List Int) : Nat := maskOf ((List.range (sN xs)).map (fN xs + ·))
theorem drw_pos {xs : List Int} {k : Nat} : 0 ≤ drw xs k := by
  unfold drw
  rw [Int.fmod_eq_emod_of_nonneg _ (by decide)]
  omega
theorem fmN {d : Int} (c k : Nat) (hk : 0 < k) : ((c + (d.fmod k).toNat : Nat) : Int) = c + d.fmod k ∧ c ≤ c + (d.fmod k).toNat ∧ c + (d.fmod k).toNat < c + k := by
  have h1 := Int.fmod_nonneg_of_pos d (Int.natCast_pos.mpr hk)
  have h2 := Int.fmod_lt_of_pos d (Int.natCast_pos.mpr hk)
  refine ⟨by rw [Int.natCast_add, Int.toNat_of_nonneg h1], Nat.le_add_right .., Nat.add_lt_add_left ((Int.toNat_lt h1).mpr h2) c⟩
theorem m_is {xs : List Int} : ((mN xs : Nat) : Int) = 3 + (drw xs 0).fmod 2 ∧ (mN xs = 3 ∨ mN xs = 4) := by
  have h := fmN (d := drw xs 0) 3 2 (by decide)
  refine ⟨h.1, ?_⟩
  rcases Nat.lt_or_eq_of_le (Nat.le_of_lt_succ h.2.2) with z | z
  · exact .inl (Nat.le_antisymm (Nat.le_of_lt_succ z) h.2.1)
  · exact .inr z
theorem s_is {xs : List Int} : ((sN xs : Nat) : Int) = 1 + (drw xs 1).fmod 3 ∧ 1 ≤ sN xs ∧ sN xs ≤ 3 := by
  have h := fmN (d := drw xs 1) 1 3 (by decide)
  exact ⟨h.1, h.2.1, Nat.le_of_lt_succ h.2.2⟩
theorem f_is {xs : List Int} : ((fN xs : Nat) : Int) = ((drw xs 1).fdiv 3).fmod ((mN xs : Int) - sN xs + 1) ∧ fN xs + sN xs ≤ mN xs := by
  unfold fN
  have h1 := @m_is xs
  have h2 := @s_is xs
  have p : (0 : Int) < (mN xs : Int) - sN xs + 1 := by omega
  rw [Int.fmod_eq_emod_of_nonneg _ (Int.le_of_lt p)]
  have a := Int.emod_nonneg ((drw xs 1).fdiv 3) (Int.ne_of_gt p)
  have b := Int.emod_lt_of_pos ((drw xs 1).fdiv 3) p
  omega
theorem h_is {xs : List Int} : ((hN xs : Nat) : Int) = 4 + ((drw xs 0).fdiv 2).fmod 3 ∧ 4 ≤ hN xs ∧ hN xs ≤ 6 := by
  have h := fmN (d := (drw xs 0).fdiv 2) 4 3 (by decide)
  exact ⟨h.1, h.2.1, Nat.le_of_lt_succ h.2.2⟩
theorem dsl_len {xs : List Int} : (dsl xs).length = hN xs - 2 := by
  have := @h_is xs
  unfold dsl drws
  rw [List.length_take, List.length_drop, List.length_map, List.length_range]
  exact Nat.min_eq_left (Nat.sub_le_sub_right this.2.2 2)
theorem Sx_len {xs : List Int} : 2 ≤ (Sx xs).length ∧ (Sx xs).length ≤ 4 := by
  have := @h_is xs
  unfold Sx
  rw [List.length_map, dsl_len]
  exact ⟨Nat.le_sub_of_add_le this.2.1, Nat.sub_le_sub_right this.2.2 2⟩
theorem bm_lt {m : Nat} {d : Int} : bm m d < 2 ^ m := by
  have h : (0 : Int) < ((2 ^ m : Nat) : Int) := Int.natCast_pos.mpr (Nat.two_pow_pos m)
  exact (Int.toNat_lt (Int.emod_nonneg d (Int.ne_of_gt h))).mpr (Int.emod_lt_of_pos d h)
theorem bal_small : ((List.range 8).all (fun r => bal 3 (r : Nat) == bW r) && (List.range 16).all (fun r => bal 4 (r : Nat) == bW r)) = true := by decide +kernel
theorem emod_div (d : Int) (a b : Nat) (ha : 0 < a) : d % ((a * b : Nat) : Int) / (a : Int) = d / (a : Int) % (b : Int) := by
  have h0 : (a : Int) ≠ 0 := Int.ne_of_gt (Int.natCast_pos.mpr ha)
  rw [Int.emod_def, Int.emod_def, Int.natCast_mul, Int.mul_assoc, Int.sub_mul_ediv_left _ _ h0, Int.ediv_mul, if_neg fun z => absurd z.1 (Int.not_lt.mpr (Int.natCast_nonneg a)), Int.add_zero]
theorem bal_mod {m : Nat} {d : Int} (_ : m = 3 ∨ m = 4) : bal m d = bal m ((bm m d : Nat) : Int) := by
  unfold bal
  congr 1
  refine List.filter_congr fun c hc => ?_
  have hc := List.mem_range.mp hc
  rw [decide_eq_decide]
  have e : ((bm m d : Nat) : Int) = d % (2 ^ m : Nat) := Int.toNat_of_nonneg (Int.emod_nonneg d (Int.ne_of_gt (Int.natCast_pos.mpr (Nat.two_pow_pos m))))
  rw [e]
  have p2 : ∀ a : Int, a.fmod 2 = a % 2 := fun a => Int.fmod_eq_emod_of_nonneg _ (by decide)
  have pd : ∀ a b : Int, 0 ≤ b → a.fdiv b = a / b := fun a b h => Int.fdiv_eq_ediv_of_nonneg _ h
  have hp : (2 ^ m : Nat) = 2 ^ c * 2 ^ (m - c) := by rw [← Nat.pow_add, Nat.add_sub_cancel' (Nat.le_of_lt hc)]
  have hc2 : ((2 : Int) ^ c) = ((2 ^ c : Nat) : Int) := by rw [Int.natCast_pow]; rfl
  have dv : (2 : Int) ∣ ((2 ^ (m - c) : Nat) : Int) := Int.natCast_dvd_natCast.mpr (Nat.dvd_of_pow_dvd (Nat.sub_pos_of_lt hc) (Nat.dvd_refl _))
  rw [p2, p2, hp, hc2, pd _ _ (Int.natCast_nonneg (2 ^ c)), pd _ _ (Int.natCast_nonneg (2 ^ c)), emod_div _ _ _ (Nat.two_pow_pos c), Int.emod_emod_of_dvd _ dv]
theorem bal_mask {m : Nat} {d : Int} (hm : m = 3 ∨ m = 4) : bal m d = bW (bm m d) := by
  rw [bal_mod hm]
  have lt := @bm_lt m d
  have := bal_small
  rw [Bool.and_eq_true, List.all_eq_true, List.all_eq_true] at this
  rcases hm with rfl | rfl
  · exact beq_iff_eq.mp (this.1 _ (by simpa using lt))
  · exact beq_iff_eq.mp (this.2 _ (by simpa using lt))
theorem w0_all : [3, 4].all (fun m => (List.range 4).all fun s => (List.range 5).all fun f => s == 0 || decide (m < f + s) || (okW m (maskOf ((List.range s).map (f + ·))) && pc (maskOf ((List.range s).map (f + ·))) == s && els (maskOf ((List.range s).map (f + ·))) == (List.range s).map (f + ·))) = true := by decide +kernel
theorem w0_ok {xs : List Int} : okW (mN xs) (W0 xs) = true ∧ pc (W0 xs) = sN xs ∧ els (W0 xs) = (List.range (sN xs)).map (fN xs + ·) := by
  have h1 := @m_is xs
  have h2 := @s_is xs
  have h3 := @f_is xs
  have := List.all_eq_true.mp (List.all_eq_true.mp (List.all_eq_true.mp w0_all (mN xs) (by rcases h1.2 with z | z <;> rw [z] <;> simp)) (sN xs) (by simp <;> omega)) (fN xs) (by simp <;> omega)
  rw [Bool.or_eq_true, Bool.or_eq_true, beq_iff_eq, decide_eq_true_eq, Bool.and_eq_true, Bool.and_eq_true, beq_iff_eq, beq_iff_eq] at this
  rcases this with (z | z) | z
  · omega
  · omega
  · exact ⟨z.1.1, z.1.2, z.2⟩
theorem lI_nI {ns : List Nat} : lI (nI ns) = .list (nL ns) := by
  unfold lI iL nI nL
  rw [List.map_map]; rfl
theorem bW_list {W : Nat} : lI (bW W) = .list (nL (els W)) := lI_nI
theorem els_all : (List.range 16).all (fun W => maskOf (els W) == W && (els W).all fun k => decide (k < 4)) = true := by decide +kernel
theorem els_at {W : Nat} (h : W < 16) : maskOf (els W) = W ∧ ∀ k ∈ els W, k < 4 := by
  have := List.all_eq_true.mp els_all W (by simpa using h)
  rw [Bool.and_eq_true, beq_iff_eq, List.all_eq_true] at this
  exact ⟨this.1, fun k hk => by simpa using this.2 k hk⟩
theorem bW_inj {a b : Nat} (ha : a < 16) (hb : b < 16) (e : bW a = bW b) : a = b := by
  have e2 : els a = els b := by
    have back : ∀ l : List Nat, (nI l).map Int.toNat = l := fun l => by
      unfold nI; rw [List.map_map]; exact (List.map_congr_left fun x _ => by simp).trans (List.map_id _)
    unfold bW at e
    rw [← back (els a), ← back (els b), e]
  rw [← (els_at ha).1, ← (els_at hb).1, e2]
theorem elsm_all : [3, 4].all (fun m => (List.range 16).all fun W => decide (2 ^ m ≤ W) || (els W).all fun k => decide (k < m)) = true := by decide +kernel
theorem els_m {m W : Nat} (hm : m = 3 ∨ m = 4) (h : W < 2 ^ m) : ∀ k ∈ els W, k < m := by
  have := List.all_eq_true.mp (List.all_eq_true.mp elsm_all m (by rcases hm with rfl | rfl <;> simp)) W (by rcases hm with rfl | rfl <;> simp <;> omega)
  rw [Bool.or_eq_true, decide_eq_true_eq, List.all_eq_true] at this
  rcases this with z | z
  · omega
  · exact fun k hk => by simpa using z k hk
section
variable {w : World} {β : Pm} {n : Nat} {sc : Scope} {ρ ρ' : PVs} {M M' : List Addr} {env : Env} {H h h' : Heap} {s s' : Shared} {B : Heap} {prog : Pr} {A : Around} {pos : Pos} {E : Value → Shared → Prop} {l : List Env} {fr : List Addr}
theorem meth_raw {o : Expr} {name : Str} {ap pos : Pos} {es : List Expr} {ps : List PV} {pl : Env → Sem Bool} {C f x : Addr} {fs : PVs} {Q : Value → Shared → Prop} (O : ClsOk w.params C) (hf : findIn (Kf w.params) (.ref C) name = some (some (.ref f))) (ht : typeIn (Kf w.params) (.ref f) = some (.type "function")) (hk : keepIn (Kf w.params) (.ref f) = true) (hn : fs.lookup name = Option.none)
    (h1 : Ev w β n sc ρ o (.raw (.ref x))) (hes : Evs w β n sc ρ es ps) (hA : Ok A n) (C' : Cx w β s) (L : Ld M env sc s.heap ρ) (rx : Rep M' s.heap (.ref x) (.obj C fs))
    (h : ∀ vs s₁, Cx w β s₁ → Kp s s₁ → RepL M s₁.heap vs ps → Wp prog w A (call (.ref f) (.ref x :: vs)) Q s₁)
    (he : ∀ env, eval (.Call (.Attribute o name ap) es [] pos) env = (do
      let ov ← eval o env
      standAt ap.atName
      let (f, first) ← holding [ov] (getMethod ov name (pl env))
      callWith pos f first (backTo pos (starEach es env)) []) := by intro _; rfl) : Wp prog w A (eval (.Call (.Attribute o name ap) es [] pos) env) Q s := by
  refine MethodCall_ (h1 hA C' L fun v s₁ C₁ K₁ r₁ => ?_) (he env)
  cases r₁.inv_raw
  refine getMeth O C₁ (rx.kp K₁) hf ht hn ?_
  refine callWith_of (P := fun h => (Kf w.params).In h) (by simp [evs_plain hes]) (fun h X => keeps_K hk h X) ?_
  have fin : ∀ vs s', Cx w β s' → Kp s₁ s' → RepL M s'.heap vs ps → (Kf w.params).In s'.heap ∧ Wp prog w A (call (.ref f) ([.ref x] ++ vs)) Q s' := fun vs s' C' K' r' =>
    ⟨C'.K, h vs s' C' (kp_trans K₁ K') r'⟩
  cases es with
  | nil =>
    cases ps with
    | nil => exact PyProof.Rows.evalArgs_nil3 (fin [] _ C₁ (kp_refl _) .nil)
    | cons _ _ => exact hes.elim
  | cons e rest =>
    have q : starEach (e :: rest) env = (false, eval e env) :: starEach rest env := by
      cases ps with
      | nil => exact hes.elim
      | cons _ _ => exact hes.1 env rest
    have run := evs_run (pos := pos) (prog := prog) (Q := fun vs s' => (Kf w.params).In s'.heap ∧ Wp prog w A (call (.ref f) ([.ref x] ++ vs)) Q s') hes hA C₁ (L.kp K₁) fun vs s' C' K' r' => fin vs s' C' K' r'
    rw [q] at run ⊢
    exact Calls.evalArgs_plain run
theorem callRK_wp {x k : Str} {np pos kp : Pos} {f : Value} {es : List Expr} {ps : List PV} {ke : Expr} {q : PV} {Q : Value → Shared → Prop} (hk : keepIn (Kf w.params) f = true) (hf : Ev w β n sc ρ (.Name x np) (.raw f)) (he : Evs w β n sc ρ es ps) (hne : es ≠ []) (hke : Ev w β n sc ρ ke q) (hA : Ok A n) (C : Cx w β s) (L : Ld M env sc s.heap ρ)
    (hc : ∀ vs u s₁, Cx w β s₁ → Kp s s₁ → RepL M s₁.heap vs ps → Rep M s₁.heap u q → Wp prog w A (call f vs [(k, u)]) Q s₁) : Wp prog w A (eval (.Call (.Name x np) es [⟨some k, ke, kp⟩] pos) env) Q s := by
  refine wpAny_Call_Name_kw (hf hA C L fun v s₁ C₁ K₁ r₁ => ?_)
  cases r₁.inv_raw
  cases es with
  | nil => exact (hne rfl).elim
  | cons e rest =>
    have q' : starEach (e :: rest) env = (false, eval e env) :: starEach rest env := by
      cases ps with
      | nil => exact he.elim
      | cons _ _ => exact he.1 env rest
    refine callWith_of (P := fun h => (Kf w.params).In h) ?_ (fun h X => keeps_K hk h X) (evalArgs_kw2 (by rfl) ?_ q')
    · rw [evs_plain he]; rfl
    · refine evs_run he hA C₁ (L.kp K₁) fun vs s₂ C₂ K₂ r₂ => ?_
      refine wpAny_evalAll_cons (wpAny_bind (hke hA C₂ (L.kp (kp_trans K₁ K₂)) fun u s₃ C₃ K₃ r₃ => wpAny_bind (wpAny_standAt (wpAny_pure (wpAny_evalAll_nil ⟨C₃.K, ?_⟩)))))
      have K := kp_trans K₁ (kp_trans K₂ K₃)
      exact hc vs u s₃ C₃ K (r₂.mono (D.of_kp K₃)) r₃
theorem frac_six {K : Nat} (h : 0 < K) : fracOf (K / Nat.gcd K 6 * 6) (6 / Nat.gcd K 6 * 1) = .frac (K : Nat) (1 : Nat) := by
  have hg : 0 < Nat.gcd K 6 := Nat.gcd_pos_of_pos_left _ h
  have g6 : Nat.gcd K 6 ≤ 6 := Nat.gcd_le_right _ (by decide)
  have b3 : 0 < 6 / Nat.gcd K 6 := Nat.div_pos g6 hg
  have e1 : K / Nat.gcd K 6 * 6 = K * (6 / Nat.gcd K 6) := by
    have a := Nat.div_mul_cancel (Nat.gcd_dvd_left K 6)
    have b := Nat.div_mul_cancel (Nat.gcd_dvd_right K 6)
    generalize K / Nat.gcd K 6 = x at *
    generalize 6 / Nat.gcd K 6 = y at *
    generalize Nat.gcd K 6 = g at *
    rw [← a, ← b]
    rw [Nat.mul_assoc, Nat.mul_comm g y]
  rw [e1, Nat.mul_comm (6 / Nat.gcd K 6) 1, frac_scale b3]
  unfold fracOf
  simp
theorem tv_score {e f : Expr} {K : Nat} (hK : K ≤ 1000) (h1 : Ev w β (n + 4) sc ρ e (scP K)) (h2 : Ev w β (n + 4) sc ρ f (.int (K : Nat))) {j : Nat} {q1 q2 q3 : Pos} (hm : behindInMarks .Eq f = false := by with_unfolding_all rfl) : Tv w β (n + 4) sc ρ (.Compare (.BinOp e .Mult (.Constant (.int 6) j q1) q2) [.Eq] [f] q3) true := by
  by_cases h0 : K = 0
  · subst h0
    exact Tv.cmp (Ev.mul (a := 0) (b := 6) (IntMulOk.of_right (by decide +kernel)) (Ev.conv h1 rfl) Ev.int) h2 (co_eq (by decide)) hm
  · have hg : 0 < Nat.gcd K 6 := Nat.gcd_pos_of_pos_left _ (by omega)
    have b1 : K / Nat.gcd K 6 ≤ K := Nat.div_le_self _ _
    have b2 : 6 / Nat.gcd K 6 ≤ 6 := Nat.div_le_self _ _
    have b3 : 0 < 6 / Nat.gcd K 6 := Nat.div_pos (Nat.gcd_le_right _ (by decide)) hg
    have e1 : scP K = .frac ((K / Nat.gcd K 6 : Nat) : Int) ((6 / Nat.gcd K 6 : Nat) : Int) := by unfold scP; rw [if_neg h0]; rfl
    refine Tv.cmp (a := .frac (K : Nat) (1 : Nat)) (b := .int (K : Nat)) (Ev.conv (Ev.bop (a := .frac ((K / Nat.gcd K 6 : Nat) : Int) ((6 / Nat.gcd K 6 : Nat) : Int)) (b := .int (6 : Nat)) (Ev.conv h1 e1) (Ev.conv Ev.int rfl) (b1_muli (n := n) (a := K / Nat.gcd K 6) (b := 6 / Nat.gcd K 6) (c := 6) (by omega) (by omega))) (frac_six (by omega))) h2 (co_feq (n := n + 2) (a := K) (b := 1) (c := K) (by simp)) hm
end
section
variable {w : World} {β : Pm} {n : Nat} {sc : Scope} {ρ ρ' : PVs} {M M' : List Addr} {env : Env} {H h h' : Heap} {s s' : Shared} {B : Heap} {prog : Pr} {A : Around} {pos : Pos} {E : Value → Shared → Prop} {l : List Env} {fr : List Addr}
theorem drws_at {xs : List Int} {k : Nat} (h : k < 6) : (iL (drws xs 6))[k]? = some (.int (drw xs k)) := by
  unfold iL drws
  rw [List.getElem?_map, List.getElem?_map, List.getElem?_range h]; rfl
set_option maxHeartbeats 4000000 in
theorem law_pre {xs : List Int} {Q : Flow → Shared → Prop} (hxs : xs.length ≤ 1000) (hA : Ok A (n + 12)) (C : Cx w β s) (F : FP [] β.H env (fdS (st1 38)) H s.heap [(S "script", lI xs)])
    (k : ∀ s₁, Cx w β s₁ → FP [] β.H env (fdS (st1 38)) H s₁.heap [(S "ballots", .list ((Sx xs).map fun S => lI (bW S))), (S "start", lI (bW (W0 xs))), (S "m", .int (mN xs))] → Wp prog w A (execs ((fdB (st1 38)).drop 6) env) Q s₁) : Wp prog w A (execs (fdB (st1 38)) env) Q s := by
  have hm := @m_is xs
  have hs := @s_is xs
  have hf := @f_is xs
  have hh := @h_is xs
  have lenD : (drws xs 6).length = 6 := by unfold drws; simp
  with_unfolding_all refine S1.step (ρ₁ := [(S "draws", lI (drws xs 6))]) (S1.sub (S1.assign (.inl (by kernel_rfl)) (Ev.callR (f := .ref 585) (ps := [lI xs, .int ((6 : Nat) : Int)]) kg_law_draws (by walk_at "e") (Evs.cons (by kernel_rfl) (by walk_at "e") (Evs.cons (by kernel_rfl) (Ev.conv Ev.int rfl) Evs.nil)) (cl_draws hxs (by decide)))) ⟨lk_here, trivial⟩) hA C F fun s₁ C₁ F₁ k₁ => ?_
  refine S1.step (ρ₁ := [(S "m", .int (mN xs)), (S "draws", lI (drws xs 6))]) ?_ hA C₁ F₁ fun s₂ C₂ F₂ k₂ => ?_
  · refine S1.assign (.inl (by kernel_rfl)) (Ev.conv (Ev.add Ev.int (Ev.mod (a := drw xs 0) (b := 2) (by decide) (Ev.at (xs := iL (drws xs 6)) (k := 0) (drws_at (by decide)) (by decide) (by walk_at "e") (Ev.conv Ev.int rfl)) Ev.int)) (by rw [hm.1]))
  refine S1.step (ρ₁ := [(S "size", .int (sN xs)), (S "m", .int (mN xs)), (S "draws", lI (drws xs 6))]) ?_ hA C₂ F₂ fun s₃ C₃ F₃ k₃ => ?_
  · refine S1.assign (.inl (by kernel_rfl)) (Ev.conv (Ev.add Ev.int (Ev.mod (a := drw xs 1) (b := 3) (by decide) (Ev.at (xs := iL (drws xs 6)) (k := 1) (drws_at (by decide)) (by decide) (by walk_at "e") (Ev.conv Ev.int rfl)) Ev.int)) (by rw [hs.1]))
  refine S1.step (ρ₁ := [(S "first", .int (fN xs)), (S "size", .int (sN xs)), (S "m", .int (mN xs)), (S "draws", lI (drws xs 6))]) ?_ hA C₃ F₃ fun s₄ C₄ F₄ k₄ => ?_
  · refine S1.assign (.inl (by kernel_rfl)) (Ev.conv (Ev.mod (a := (drw xs 1).fdiv 3) (b := (mN xs : Int) - sN xs + 1) (by omega) (Ev.fdiv (a := drw xs 1) (b := 3) (by decide) (small_div (by decide)) (Ev.at (xs := iL (drws xs 6)) (k := 1) (drws_at (by decide)) (by decide) (by walk_at "e") (Ev.conv Ev.int rfl)) Ev.int) (Ev.add (Ev.sub (by walk_at "e") (by walk_at "e")) Ev.int)) (by rw [hf.1]))
  refine S1.step (ρ₁ := [(S "start", lI (bW (W0 xs))), (S "m", .int (mN xs)), (S "draws", lI (drws xs 6))]) ?_ hA C₄ F₄ fun s₅ C₅ F₅ k₅ => ?_
  · refine S1.sub (S1.assignComp (List.range (sN xs)) (fun (i : Nat) => .int ((fN xs : Int) + (i : Nat))) (fun _ => true) (fun (i : Nat) => .int ((fN xs : Int) + (i : Nat))) (pi := .rng (fN xs) (sN xs)) (by kernel_rfl) (by kernel_rfl) ?_ ?_ rfl (by simp [sizeLine]; omega) (fun _ _ _ => rfl) (fun i y hy _ => by walk_at "e")) ⟨?_, by walk_at "lk", by walk_at "lk", trivial⟩
    · intro env h1 h2
      unfold swapsWith
      simp only [Env.blockKind, h1, h2]
      rfl
    · exact Ev.callT (f := "range") (ps := [.int (fN xs), .int ((fN xs : Int) + sN xs)]) (by walk_at "e") (Evs.cons (by kernel_rfl) (by walk_at "e") (Evs.cons (by kernel_rfl) (Ev.add (by walk_at "e") (by walk_at "e")) Evs.nil)) (by simp) (cl_range2 (by omega) (by omega) (by omega))
    · have e : (PV.list (((List.range (sN xs)).filter fun _ => true).map fun (i : Nat) => PV.int ((fN xs : Int) + (i : Nat)))) = lI (bW (W0 xs)) := by
        unfold bW
        rw [(@w0_ok xs).2.2]
        unfold lI iL nI
        rw [List.filter_eq_self.mpr (fun _ _ => rfl), List.map_map, List.map_map]
        congr 1
      rw [e]
      exact lk_here
  refine S1.step (ρ₁ := [(S "ballots", .list ((Sx xs).map fun S => lI (bW S))), (S "start", lI (bW (W0 xs))), (S "m", .int (mN xs))]) ?_ hA C₅ F₅ fun s₆ C₆ F₆ k₆ => ?_
  · refine S1.sub (S1.assign (p := .list ((Sx xs).map fun S => lI (bW S))) (.inl (by kernel_rfl)) (Ev.conv (Ev.callR (f := .ref 590) (ps := [lI (dsl xs), .int (mN xs)]) kg_law_ballots (by walk_at "e") (Evs.cons (by kernel_rfl) ?_ (Evs.cons (by kernel_rfl) (by walk_at "e") Evs.nil)) (cl_ballots (by rw [dsl_len]; omega) (by omega))) ?_)) ⟨lk_here, by walk_at "lk", by walk_at "lk", trivial⟩
    · refine Ev.conv (Ev.slice (xs := iL (drws xs 6)) (a := some 2) (b := some (hN xs)) (by simp [iL, lenD, sizeLine]) (by walk_at "e") (EvO.some' (Ev.conv Ev.int rfl)) (EvO.some' (Ev.conv (Ev.add Ev.int (Ev.mod (a := (drw xs 0).fdiv 2) (b := 3) (by decide) (Ev.fdiv (a := drw xs 0) (b := 2) (by decide) (small_div (by decide)) (Ev.at (xs := iL (drws xs 6)) (k := 0) (drws_at (by decide)) (by decide) (by walk_at "e") (Ev.conv Ev.int rfl)) Ev.int) Ev.int)) (by rw [hh.1])))) ?_
      have l6 : (iL (drws xs 6)).length = 6 := by simp [iL, lenD]
      rw [l6]
      simp only [Option.elim]
      rw [show min 2 6 = 2 from rfl, show min (hN xs) 6 = hN xs by omega]
      unfold dsl lI iL
      rw [List.map_take, List.map_drop]
    · unfold Sx
      rw [List.map_map, List.map_map]
      congr 1
      refine List.map_congr_left fun d _ => ?_
      show lI (bal (mN xs) d) = lI (bW (bm (mN xs) d))
      rw [bal_mask hm.2]
  with_unfolding_all exact k s₆ C₆ F₆
end
section
variable {w : World} {β : Pm} {n : Nat} {sc : Scope} {ρ ρ' : PVs} {M M' : List Addr} {env : Env} {H h h' : Heap} {s s' : Shared} {B : Heap} {prog : Pr} {A : Around} {pos : Pos} {E : Value → Shared → Prop} {l : List Env} {fr : List Addr}
noncomputable abbrev lawR (w : World) (m W₀ : Nat) (Ss : List Nat) : PVs := [(S "profile", prof (ledOf w) m Ss), (S "ballots", .list (Ss.map fun S => lI (bW S))), (S "start", lI (bW W₀)), (S "m", .int m)]
set_option maxHeartbeats 4000000 in
theorem law_prof {m W₀ : Nat} {Ss : List Nat} {Q : Flow → Shared → Prop} (hm : m = 3 ∨ m = 4) (hS : ∀ S ∈ Ss, S < 2 ^ m) (hn : Ss.length ≤ 10) (hA : Ok A (n + 12)) (C : Cx w β s) (F : FP [] β.H env (fdS (st1 38)) H s.heap [(S "ballots", .list (Ss.map fun S => lI (bW S))), (S "start", lI (bW W₀)), (S "m", .int m)])
    (k : ∀ s₁, Cx w β s₁ → FP [] β.H env (fdS (st1 38)) H s₁.heap (lawR w m W₀ Ss) → Wp prog w A (execs ((fdB (st1 38)).drop 8) env) Q s₁) : Wp prog w A (execs ((fdB (st1 38)).drop 6) env) Q s := by
  have hS16 : ∀ S ∈ Ss, S < 16 := fun S h => by have := hS S h; rcases hm with rfl | rfl <;> omega
  with_unfolding_all refine wpAny_execs_cons (wpAny_Assign_Name (callR_wp (f := .ref 453) (ps := [.int m]) kgProfile (by walk_at "e") (by walk_at "es") hA C F.ld fun vs s₁ C₁ K₁ r₁ => ?_) (by rfl))
  obtain ⟨v, rfl, rv⟩ := r₁.one
  refine mk_profile (n := n + 9) (M := []) (by rcases hm with rfl | rfl <;> omega) hA C₁ (fun _ h => nomatch h) rv fun x L s₂ C₂ K₂ hnL rx eL => ?_
  have F₁ := F.kp K₁
  obtain ⟨j, qL⟩ := eL
  have F₂ : FP [L] β.H env (fdS (st1 38)) H s₂.heap [(S "ballots", .list (Ss.map fun S => lI (bW S))), (S "start", lI (bW W₀)), (S "m", .int m)] := F₁.grow (fun a ha => .inr (List.mem_singleton.mp ha ▸ hnL)) K₂ fun a ha => by
    cases List.mem_singleton.mp ha; exact ⟨_, qL, by simp⟩
  have hLB := C₁.new hnL
  have hLH := (F₁.offN hnL).2.2
  refine store_p C₂ F₂ (.raw (.ref x)) (.inl (by kernel_rfl)) fun s₃ C₃ F₃ k₃ => ?_
  have rx₃ := rx.mono (F₂.d k₃)
  have qL₃ := F₂.stay k₃ qL rfl
  dsimp only
  refine wpAny_execs_cons (wpAny_Expr_any (meth_raw (f := 373) (pl := fun _ => _) (ps := [.list (Ss.map fun S => lI (bW S))]) clsP (by kernel_rfl) (by kernel_rfl) (by kernel_rfl) (by kernel_rfl) (by walk_at "e") (by walk_at "es") hA C₃ F₃.ld rx₃ (fun vs s₄ C₄ K₄ r₄ => ?_) (by intro _; rfl)) (by unfold interactive; rw [F₃.blk]; rfl))
  obtain ⟨u, rfl, ru⟩ := r₄.one
  have F₄ := F₃.kp K₄
  have e1 : (Ss.map fun S => lI (bW S)) = (Ss.map els).map fun ns => PV.list (nL ns) := by
    rw [List.map_map]
    refine List.map_congr_left fun S _ => ?_
    exact bW_list
  rw [e1] at ru
  refine add_voters (n := n + 4) (nss := Ss.map els) (by rcases hm with rfl | rfl <;> omega) (fun ns hns => ?_) (by rw [List.length_map]; omega) hA C₄ F₄.1 (List.mem_singleton.mpr rfl) (rx₃.kp K₄) ru ⟨j, K₄.k _ _ qL₃ (by simp)⟩ hLB fun its s₅ C₅ k₅ e₅ r₅ => ?_
  · obtain ⟨S', hS', rfl⟩ := List.mem_map.mp hns
    have h16 := hS16 S' hS'
    exact ⟨(els_at h16).2, els_m hm (hS S' hS'), by rw [(els_at h16).1]⟩
  have e2 : ((Ss.map els).map fun ns => voter (ledOf w) (maskOf ns)) = Ss.map (voter (ledOf w)) := by
    rw [List.map_map]
    refine List.map_congr_left fun S hS => ?_
    show voter (ledOf w) (maskOf (els S)) = _
    rw [(els_at (hS16 S hS)).1]
  rw [e2] at r₅
  obtain ⟨j₅, q₅⟩ := id e₅
  have F₅ := F₄.kw (wr := [L]) (fun b hb => hb) (F₄.off (K₄.k _ _ qL₃ (by simp)) rfl hLH) k₅ fun b hb => by cases List.mem_singleton.mp hb; exact ⟨_, q₅, by simp⟩
  have rp : Rep [] s₅.heap (.ref x) (prof (ledOf w) m Ss) := prof_done (fun h => nomatch h) ((rx₃.kp K₄).mono (k₅.d fun b hb => hb)) e₅ (RepL.of r₅.at.1 fun i v x a b => (r₅.at.2 i v x a b).more (M' := []) fun a ha => nomatch ha)
  have F₆ := ((F₅.less (M' := []) (fun _ h => nomatch h)).re (x := S "profile") (by walk_at "lk") rp).sub (ρ' := lawR w m W₀ Ss) ⟨by walk_at "lk", by walk_at "lk", by walk_at "lk", by walk_at "lk", trivial⟩
  with_unfolding_all exact k s₅ C₅ F₆
end
section
variable {w : World} {β : Pm} {n : Nat} {sc : Scope} {ρ ρ' : PVs} {M M' : List Addr} {env : Env} {H h h' : Heap} {s s' : Shared} {B : Heap} {prog : Pr} {A : Around} {pos : Pos} {E : Value → Shared → Prop} {l : List Env} {fr : List Addr}
noncomputable def bpv (Ss : List Nat) (m W₀ : Nat) : Nat → PV
  | 0 => .raw .none
  | i + 1 => lI (bW (eW Ss m W₀ i))
theorem lift_cl {m W : Nat} {Ss : List Nat} (hm : m = 3 ∨ m = 4) (hS : ∀ S ∈ Ss, S < 2 ^ m) (hn : Ss.length ≤ 4) (hW : okW m W = true) : Cl w β (n + 2) (.ref 617) [.list (Ss.map fun S => lI (bW S)), .int m, lI (bW W)] (lI (bW (liftW Ss m W))) := by
  have hS16 : ∀ S ∈ Ss, S < 16 := fun S h => by have := hS S h; rcases hm with rfl | rfl <;> omega
  have all : ∀ c ∈ bW W :: nbr (bW W) m, ∃ o, okW m o = true ∧ c = bW o := fun c hc => by
    rcases mcs hc with rfl | hc
    · exact ⟨W, hW, rfl⟩
    · rw [(nbr_mask hm hW).1] at hc
      obtain ⟨o, ho, rfl⟩ := List.mem_map.mp hc
      exact ⟨o, ((nbr_mask hm hW).2 o ho).1, rfl⟩
  have := cl_lifted (w := w) (β := β) (n := n) (bs := Ss.map bW) (m := m) (com := bW W) (bok hn hm) (by rw [bW_len]; exact (okW_at hW).2.2) (fun b hb c hc => by
    obtain ⟨S', hS', rfl⟩ := List.mem_map.mp hb
    obtain ⟨o, ho, rfl⟩ := all c hc
    exact (sc_at (hS16 S' hS') (okW_lt hm ho) (okW_at ho).2.2).2.1) (fun c hc => by
    obtain ⟨o, ho, rfl⟩ := all c (List.mem_cons_of_mem _ hc)
    rw [bW_len]; exact (okW_at ho).2.2)
  rw [lifted_mask hS16 hm hW, List.map_map] at this
  exact this
set_option maxHeartbeats 4000000 in
theorem law_search {m W₀ : Nat} {Ss : List Nat} {Q : Flow → Shared → Prop} (hm : m = 3 ∨ m = 4) (hS : ∀ S ∈ Ss, S < 2 ^ m) (hn : Ss.length ≤ 4) (hW : okW m W₀ = true) (hA : Ok A (n + 12)) (C : Cx w β s) (F : FP [] β.H env (fdS (st1 38)) H s.heap (lawR w m W₀ Ss))
    (k : ∀ We s₁, okW m We = true → pc We = pc W₀ → liftW Ss m We = We → (We = W₀ → liftW Ss m W₀ = W₀) → Cx w β s₁ → FP [] β.H env (fdS (st1 38)) H s₁.heap ((S "end", lI (bW We)) :: lawR w m W₀ Ss) → Wp prog w A (execs ((fdB (st1 38)).drop 11) env) Q s₁) : Wp prog w A (execs ((fdB (st1 38)).drop 8) env) Q s := by
  have hS16 : ∀ S ∈ Ss, S < 16 := fun S h => by have := hS S h; rcases hm with rfl | rfl <;> omega
  obtain ⟨K, hK, hd⟩ := eW_stop (Ss := Ss) (m := m) (W := W₀) hn
  have ok := eW_ok (Ss := Ss) hm hW
  with_unfolding_all refine S1.step (ρ₁ := (S "before", bpv Ss m W₀ 0) :: (S "end", lI (bW (eW Ss m W₀ 0))) :: lawR w m W₀ Ss) ?_ hA C F fun s₁ C₁ F₁ k₁ => ?_
  · exact S1.sub (S1.asg2 (lI (bW W₀)) (.raw .none) (.inl (by kernel_rfl)) (.inl (by kernel_rfl)) (by kernel_rfl) (by kernel_rfl) (.inr (by kernel_rfl)) (Ev.tup (by simp [sizeLine]) (by walk_at "es"))) ⟨lk_next (by kernel_rfl) lk_here, lk_here, by walk_at "lk", by walk_at "lk", by walk_at "lk", by walk_at "lk", trivial⟩
  refine S1.step (ρ₁ := (S "before", bpv Ss m W₀ (K + 1)) :: (S "end", lI (bW (eW Ss m W₀ (K + 1)))) :: lawR w m W₀ Ss) ?_ hA C₁ F₁ fun s₂ C₂ F₂ k₂ => ?_
  · refine S1.while (fun i => (S "before", bpv Ss m W₀ i) :: (S "end", lI (bW (eW Ss m W₀ i))) :: lawR w m W₀ Ss) (K + 1) ⟨by walk_at "lk", by walk_at "lk", by walk_at "lk", by walk_at "lk", by walk_at "lk", by walk_at "lk", trivial⟩ (fun i hi => ?_) (fun i hi => ?_) ?_
    · cases i with
      | zero => exact Tv.cmp (a := lI (bW (eW Ss m W₀ 0))) (b := .raw .none) (by walk_at "e") (Ev.name (by kernel_rfl) lk_here (by kernel_rfl)) co_nel_none
      | succ j =>
        refine Tv.cmp (a := lI (bW (eW Ss m W₀ (j + 1)))) (b := lI (bW (eW Ss m W₀ j))) (by walk_at "e") (Ev.name (by kernel_rfl) lk_here (by kernel_rfl)) (co_nel (decide_eq_true fun z => ?_))
        exact hd j (by omega) (bW_inj (okW_lt hm (ok (j + 1)).1) (okW_lt hm (ok j).1) z)
    · refine Sv.sub (Sv.cons (S1.asg2 (lI (bW (eW Ss m W₀ i))) (lI (bW (eW Ss m W₀ (i + 1)))) (.inl (by kernel_rfl)) (.inl (by kernel_rfl)) (by kernel_rfl) (by kernel_rfl) (.inr (by kernel_rfl)) (Ev.tup (by simp [sizeLine]) (Evs.cons (by kernel_rfl) (by walk_at "e") (Evs.cons (by kernel_rfl) ?_ Evs.nil)))) Sv.nil) ⟨lk_here, by walk_at "lk", by walk_at "lk", by walk_at "lk", by walk_at "lk", by walk_at "lk", trivial⟩
      exact Ev.callR (f := .ref 617) kg_law_lifted (by walk_at "e") (by walk_at "es") (lift_cl hm hS hn (ok i).1)
    · refine Tv.cmp (a := lI (bW (eW Ss m W₀ (K + 1)))) (b := lI (bW (eW Ss m W₀ K))) (by walk_at "e") (Ev.name (by kernel_rfl) lk_here (by kernel_rfl)) (co_nel (decide_eq_false fun z => z (by rw [hK])))
  obtain ⟨We, hWe⟩ : ∃ We, eW Ss m W₀ (K + 1) = We := ⟨_, rfl⟩
  have okE := ok (K + 1)
  rw [hWe] at okE
  have topE : liftW Ss m We = We := by
    have : liftW Ss m (eW Ss m W₀ K) = eW Ss m W₀ (K + 1) := rfl
    rw [← hWe]
    show liftW Ss m (eW Ss m W₀ (K + 1)) = _
    rw [hK]; exact hK
  rw [hWe] at F₂
  have nb := nbr_mask hm okE.1
  have okL : ∀ o ∈ We :: (nbrW m We).take 2, okW m o = true := fun o ho => by
    rcases mcs ho with rfl | ho
    · exact okE.1
    · exact (nb.2 o (List.mem_of_mem_take ho)).1
  refine S1.step (ρ₁ := (S "end", lI (bW We)) :: lawR w m W₀ Ss) ?_ hA C₂ F₂ fun s₃ C₃ F₃ k₃ => ?_
  · refine S1.for (xs := (We :: (nbrW m We).take 2).map fun o => lI (bW o)) (fun _ => (S "end", lI (bW We)) :: lawR w m W₀ Ss) (fun _ => none) (.inl (by kernel_rfl)) (pi := .list ((We :: (nbrW m We).take 2).map fun o => lI (bW o))) ?_ rfl ?_ ⟨by walk_at "lk", by walk_at "lk", by walk_at "lk", by walk_at "lk", by walk_at "lk", trivial⟩ ?_ (fun _ => rfl) (fun _ _ _ _ h => by cases h)
    · have l2 : ((nbr (bW We) m).map lI).length ≤ 1000 := by
        rw [List.length_map]
        refine Nat.le_trans (nbr_len _ _ _) ?_
        rw [bW_len]
        have := (okW_at okE.1).2.2
        exact Nat.le_trans (Nat.mul_le_mul this (show m ≤ 4 by omega)) (by decide)
      refine Ev.conv (Ev.cat (a := [lI (bW We)]) (b := ((nbr (bW We) m).map lI).take 2) (by rw [List.length_take]; simp [sizeLine]; omega) (Ev.disp (by simp [sizeLine]) (by walk_at "es")) (Ev.conv (Ev.slice (xs := (nbr (bW We) m).map lI) (a := none) (b := some 2) (by simp [sizeLine] at l2 ⊢; omega) (Ev.callR (f := .ref 610) (ps := [lI (bW We), .int m]) kg_law_neighbours (by walk_at "e") (by walk_at "es") (cl_neighbours (by rw [bW_len]; have := (okW_at okE.1).2.2; omega) (by omega))) EvO.none' (EvO.some' (Ev.conv Ev.int rfl))) ?_)) ?_
      · simp only [Option.elim]
        rw [List.drop_zero, Nat.sub_zero]
        congr 1
        by_cases z : 2 ≤ ((nbr (bW We) m).map lI).length
        · rw [Nat.min_eq_left z]
        · rw [Nat.min_eq_right (by omega), List.take_of_length_le (Nat.le_refl _), List.take_of_length_le (by omega)]
      · rw [nb.1, List.map_map, List.map_cons, List.map_take]; rfl
    · rw [List.length_map, List.length_cons, List.length_take]; simp [sizeLine]; omega
    · intro i y hy _
      rw [List.getElem?_map] at hy
      obtain ⟨o, ho, rfl⟩ := Option.map_eq_some_iff.mp hy
      have oo := okL o (List.mem_of_getElem? ho)
      have o16 := okW_lt hm oo
      have o3 := (okW_at oo).2.2
      have o1 := els_at o16
      refine Sv.sub (Sv.cons (S1.if (c := !true) (Tv.not (tv_score (n := n + 8) (K := sc6 o Ss) (by have := sc6_le o Ss; omega) ?_ ?_)) (fun h => by cases h) fun _ => Sv.nil) Sv.nil) ⟨by walk_at "lk", by walk_at "lk", by walk_at "lk", by walk_at "lk", by walk_at "lk", trivial⟩
      · have e1 := cl_thiele (w := w) (β := β) (n := n + 6) (m := m) (ns := els o) (Ss := Ss) (by omega) (by omega) o1.2 (by have := @els_le o; omega) (fun S' hS' => by rw [o1.1]; exact (sc_at (hS16 S' hS') o16 o3).2.2)
        rw [o1.1, ← bW_list] at e1
        exact Ev.callR (f := .ref 531) (ps := [.str (S "pav"), prof (ledOf w) m Ss, lI (bW o)]) kgthiele_score (by walk_at "e") (by walk_at "es") e1
      · have e2 := cl_score (w := w) (β := β) (n := n + 11) (bs := Ss.map bW) (com := bW o) (by rw [List.length_map]; omega) (fun b hb => by
          obtain ⟨S', hS', rfl⟩ := List.mem_map.mp hb
          refine ⟨by rw [bW_len]; have := @els_le S'; unfold pc; omega, ?_⟩
          exact (sc_at (hS16 S' hS') o16 o3).2.1)
        rw [score_mask hS16 o16 o3, List.map_map] at e2
        exact Ev.callR (f := .ref 600) (ps := [.list (Ss.map fun S => lI (bW S)), lI (bW o)]) kg_law_score (by walk_at "e") (by walk_at "es") e2
  with_unfolding_all exact k We s₃ okE.1 okE.2 topE (fun h => h ▸ topE) C₃ F₃
end
section
variable {w : World} {β : Pm} {n : Nat} {sc : Scope} {ρ ρ' : PVs} {M M' : List Addr} {env : Env} {H h h' : Heap} {s s' : Shared} {B : Heap} {prog : Pr} {A : Around} {pos : Pos} {E : Value → Shared → Prop} {l : List Env} {fr : List Addr}
theorem law_check {m W : Nat} {Ss : List Nat} {y : Str} {np p1 p2 p3 pos kp : Pos} {kk : Nat} {Q : Value → Shared → Prop} (hm : m = 3 ∨ m = 4) (hS : ∀ S ∈ Ss, S < 2 ^ m) (hn : 2 ≤ Ss.length ∧ Ss.length ≤ 4) (hW : okW m W = true) (hA : Ok (A.deeper env) (n + 12)) (C : Cx w β s) (Sk : Stk β A s.heap [] []) (hfr : env.frame = some env.locals)
    (F : FP [] β.H env (fdS (st1 38)) H s.heap ρ) (hf : Ev w β (n + 12) (fdS (st1 38)) ρ (.Name (S "check_EJR") np) (.raw (.ref 310))) (h1 : Ev w β (n + 12) (fdS (st1 38)) ρ (.Name (S "profile") p1) (prof (ledOf w) m Ss)) (h2 : Ev w β (n + 12) (fdS (st1 38)) ρ (.Name y p2) (lI (bW W)))
    (h : ∀ s', Cx w β s' → FP [] β.H env (fdS (st1 38)) H s'.heap ρ → Stk β A s'.heap [] [] → Q (.bool (bruteB (pc W) W Ss)) s') :
    Wp prog w (A.deeper env) (eval (.Call (.Name (S "check_EJR") np) [.Name (S "profile") p1, .Name y p2] [⟨some (S "algorithm"), .Constant (.str (S "brute-force")) kk p3, kp⟩] pos) env) Q s := by
  refine callRK_wp (ps := [prof (ledOf w) m Ss, lI (bW W)]) (q := .str (S "brute-force")) kgcheck_EJR hf (Evs.cons rfl h1 (Evs.cons rfl h2 Evs.nil)) (by simp) Ev.str hA C F.ld fun vs u s₁ C₁ K₁ r₁ ru => ?_
  obtain ⟨v1, v2, rfl, q1, q2⟩ := r₁.two
  have o16 := okW_lt hm hW
  have oe := els_at o16
  rw [bW_list] at q2
  have F₁ := F.kp K₁
  obtain ⟨_, _, f₁, _⟩ := id F₁
  have offF : ∀ b ∈ [env.locals], (∀ x c, env.cells.lookup x = some c → c ≠ b) ∧ H.get? b = none := fun b hb => by
    cases List.mem_singleton.mp hb; exact ⟨f₁.off, f₁.lo.2⟩
  have St : Stk β (A.deeper env) s₁.heap [env] [env.locals] := (Sk.kh K₁).deeper f₁ hfr
  refine check_wp (n := n + 4) (M := []) (by omega) (by omega) ⟨(okW_at hW).2.1, (okW_at hW).2.2⟩ oe.2 (els_m hm (okW_at hW).1) (by rw [oe.1]) hA C₁ St (fun _ h => nomatch h) q1 q2 ru fun s₂ C₂ k₂ => ?_
  rw [oe.1]
  exact h s₂ C₂ (F₁.kz St (fun b h => h.elim) (fun b h => h.elim) offF k₂ fun a ha => nomatch ha) ⟨Sk.st, Sk.le, Sk.km, fun b hb => nomatch hb⟩
set_option maxHeartbeats 4000000 in
theorem law_end {m W₀ We : Nat} {Ss : List Nat} {Q : Flow → Shared → Prop} (hm : m = 3 ∨ m = 4) (hS : ∀ S ∈ Ss, S < 2 ^ m) (hn : 2 ≤ Ss.length ∧ Ss.length ≤ 4) (hW : okW m W₀ = true) (hE : okW m We = true) (top : liftW Ss m We = We)
    (g1 : ∀ W, okW m W = true → gives (Ss.map bW) m (bW W) = bruteB (pc W) W Ss) (g2 : ∀ W, okW m W = true → liftW Ss m W = W → bruteB (pc W) W Ss = true)
    (hA : Ok (A.deeper env) (n + 12)) (C : Cx w β s) (Sk : Stk β A s.heap [] []) (hfr : env.frame = some env.locals) (F : FP [] β.H env (fdS (st1 38)) H s.heap ((S "end", lI (bW We)) :: lawR w m W₀ Ss))
    (k : ∀ s₁, Cx w β s₁ → Q (.ret (.bool true)) s₁) : Wp prog w (A.deeper env) (execs ((fdB (st1 38)).drop 11) env) Q s := by
  with_unfolding_all refine wpAny_execs_cons (wpAny_Assign_Name (law_check (n := n) (W := W₀) hm hS hn hW hA C Sk hfr F (by walk_at "e") (by walk_at "e") (by walk_at "e") fun s₁ C₁ F₁ Sk₁ => ?_) (by rfl))
  refine store_p C₁ F₁ (.bool _) (.inl (by kernel_rfl)) fun s₂ C₂ F₂ k₂ => ?_
  dsimp only
  have Sk₂ : Stk β A s₂.heap [] [] := ⟨Sk.st, Sk.le, Sk.km, fun b hb => nomatch hb⟩
  have tv : ∀ (e : Bool), e = bruteB (pc W₀) W₀ Ss → (false || (!e && decide (bW We = bW W₀))) = false := fun e he => by
    rw [Bool.false_or, Bool.and_eq_false_iff]
    by_cases z : bW We = bW W₀
    · left
      have := bW_inj (okW_lt hm hE) (okW_lt hm hW) z
      subst this
      rw [he, g2 _ hE top]; rfl
    · right; exact decide_eq_false z
  refine S1.step (ρ₁ := (S "end", lI (bW We)) :: lawR w m W₀ Ss) ?_ hA C₂ F₂ fun s₃ C₃ F₃ k₃ => ?_
  · refine S1.sub (S1.if (c := false || (!(bruteB (pc W₀) W₀ Ss) && decide (bW We = bW W₀))) (Tv.or (a := false) (Tv.cmp (a := .bool (bruteB (pc W₀) W₀ Ss)) (b := .bool (bruteB (pc W₀) W₀ Ss)) (by walk_at "e") ?_ (co_neb (by simp))) fun _ => Tv.and (Tv.not (Tv.bool (by walk_at "e"))) fun _ => Tv.cmp (by walk_at "e") (by walk_at "e") (co_eql rfl)) (fun h => by rw [tv _ rfl] at h; cases h) fun _ => Sv.nil) ⟨by walk_at "lk", by walk_at "lk", by walk_at "lk", by walk_at "lk", by walk_at "lk", trivial⟩
    have e1 := cl_gives (w := w) (β := β) (n := n + 10) (bs := Ss.map bW) (m := m) (com := bW W₀) (bok hn.2 hm) (by rw [bW_len]; exact (okW_at hW).2.2)
    rw [g1 _ hW, List.map_map] at e1
    exact Ev.callR (f := .ref 605) (ps := [.list (Ss.map fun S => lI (bW S)), .int m, lI (bW W₀)]) kg_law_gives (by walk_at "e") (by walk_at "es") e1
  have Sk₃ : Stk β A s₃.heap [] [] := ⟨Sk.st, Sk.le, Sk.km, fun b hb => nomatch hb⟩
  refine wpAny_execs_cons (wpAny_Return_some (law_check (n := n) (W := We) hm hS hn hE hA C₃ Sk₃ hfr F₃ (by walk_at "e") (by walk_at "e") (by walk_at "e") fun s₄ C₄ F₄ Sk₄ => ?_))
  rw [g2 _ hE top]
  exact k s₄ C₄
end
structure Plain (m : Nat) (Ss : List Nat) : Prop where
  g1 : ∀ W, okW m W = true → gives (Ss.map bW) m (bW W) = bruteB (pc W) W Ss
  g2 : ∀ W, okW m W = true → liftW Ss m W = W → bruteB (pc W) W Ss = true
section
variable {w : World} {β : Pm} {n : Nat} {s : Shared} {prog : Pr} {A : Around}
theorem law_wp {xs : List Int} {v : Value} {Q : Value → Shared → Prop} (hxs : xs.length ≤ 1000) (hA : Ok A (n + 13)) (C : Cx w β s) (hfr : A.frames = some []) (r : Rep [] s.heap v (lI xs)) (G : Plain (mN xs) (Sx xs))
    (h : ∀ s', Cx w β s' → Q (.bool true) s') : Wp prog w A (call (.ref 622) [v]) Q s := by
  have hm := (@m_is xs).2
  have hS : ∀ S ∈ Sx xs, S < 2 ^ mN xs := fun S hS => by
    unfold Sx at hS
    obtain ⟨d, _, rfl⟩ := List.mem_map.mp hS
    exact bm_lt
  have hn := @Sx_len xs
  have hW := (@w0_ok xs).1
  refine call_defX (binds := [(S "script", v)]) o622 C hA.lt (by kernel_rfl) rfl (by kernel_rfl) (BindsTo.of_eq (by with_unfolding_all rfl)) (by kernel_rfl) (by kernel_rfl) (by kernel_rfl) fun env s₁ _ e2 _ C₁ F₁ => ?_
  have F : FP [] β.H env (fdS (st1 38)) s.heap s₁.heap [(S "script", lI xs)] := ⟨(fun _ h => nomatch h), _, F₁, .cons (r.mono (D.of_kh F₁.kept)) .nil⟩
  have hA1 : Ok (A.deeper env) (n + 12) := hA.deeper
  refine law_pre hxs hA1 C₁ F fun s₂ C₂ F₂ => ?_
  refine law_prof hm hS (by omega) hA1 C₂ F₂ fun s₃ C₃ F₃ => ?_
  refine law_search hm hS hn.2 hW hA1 C₃ F₃ fun We s₄ okE pcE top _ C₄ F₄ => ?_
  refine law_end hm hS hn hW okE top G.g1 G.g2 hA1 C₄ ⟨hfr, rfl, (fun _ h => nomatch h), fun _ h => nomatch h⟩ e2 F₄ fun s₅ C₅ => ?_
  exact h s₅ C₅
end
end
noncomputable abbrev gt (Ss : List Nat) (v : Nat) : Nat := Ss.getD v 0
noncomputable def cov (Ss : List Nat) (G c : Nat) : Bool := (els G).all fun v => (gt Ss v).testBit c
noncomputable def low (W e : Nat) (Ss : List Nat) (v : Nat) : Bool := decide (pc (gt Ss v &&& W) < e)
noncomputable def covN (Ss : List Nat) (G : Nat) : List Nat := [0, 1, 2, 3].filter (cov Ss G)
theorem gt_lt {Ss : List Nat} {m v : Nat} (hS : ∀ S ∈ Ss, S < 2 ^ m) : gt Ss v < 2 ^ m := by
  by_cases h : v < Ss.length
  · rw [gt, List.getD_eq_getElem?_getD, List.getElem?_eq_getElem h]; exact hS _ (List.getElem_mem h)
  · rw [gt, List.getD_eq_getElem?_getD, List.getElem?_eq_none (by omega)]; exact Nat.two_pow_pos m
theorem meet_bit {S c : Nat} : ∀ {r : List Nat}, (meet S r).testBit c = (S.testBit c && r.all (·.testBit c))
  | [] => by simp [meet]
  | a :: r => by
    have := @meet_bit (S &&& a) c r
    unfold meet at this ⊢
    rw [List.foldl_cons, this, Nat.testBit_and, List.all_cons, Bool.and_assoc]
theorem els_ne : ∀ {G : Nat}, 1 ≤ G → G < 16 → els G ≠ [] := by
  have : (List.range 16).all (fun G => G == 0 || !(els G == [])) = true := by decide +kernel
  intro G h1 h2 z
  have := List.all_eq_true.mp this G (by simpa using h2)
  rw [z] at this
  simp at this
  omega
theorem meet_cov {Ss : List Nat} {G : Nat} (h1 : 1 ≤ G) (h2 : G < 16) : els (meetAll (setsAt Ss (bW G))) = covN Ss G := by
  have e : setsAt Ss (bW G) = (els G).map (gt Ss) := by
    unfold setsAt bW nI
    rw [List.map_map]
    rfl
  rw [e]
  have ne := els_ne h1 h2
  unfold covN
  show [0, 1, 2, 3].filter _ = _
  refine List.filter_congr fun c _ => ?_
  unfold cov
  generalize els G = l at ne
  cases l with
  | nil => exact absurd rfl ne
  | cons a r =>
    rw [List.map_cons]
    show (meet _ _).testBit c = _
    rw [meet_bit, List.all_cons, List.all_map]
    rfl
theorem at_g {Ss : List Nat} {v : Nat} : at' (Ss.map bW) ((v : Nat) : Int) = bW (gt Ss v) := by
  unfold at' gt
  rw [Int.toNat_natCast, List.getD_eq_getElem?_getD, List.getD_eq_getElem?_getD, List.getElem?_map]
  cases Ss[v]? <;> rfl
theorem mem_bW {S c : Nat} : ((c : Nat) : Int) ∈ bW S ↔ c ∈ els S := by
  unfold bW nI
  rw [List.mem_map]
  constructor
  · rintro ⟨a, ha, e⟩; rw [← Int.ofNat_inj.mp e]; exact ha
  · intro h; exact ⟨c, h, rfl⟩
theorem mem_elsb {S c : Nat} (hc : c < 4) : c ∈ els S ↔ S.testBit c = true := by
  unfold els
  rw [List.mem_filter]
  constructor
  · exact fun h => h.2
  · intro h
    refine ⟨?_, h⟩
    have : c = 0 ∨ c = 1 ∨ c = 2 ∨ c = 3 := lt4 (by assumption)
    rcases this with rfl | rfl | rfl | rfl <;> simp
theorem shr_len {Ss : List Nat} {m G : Nat} (hm : m = 3 ∨ m = 4) (hS : ∀ S ∈ Ss, S < 2 ^ m) (h1 : 1 ≤ G) (h2 : G < 16) : (shr (Ss.map bW) m (bW G)).length = (covN Ss G).length := by
  unfold shr upto
  rw [List.filter_map, List.length_map]
  have st : ((List.range m).filter ((fun c : Int => decide (((bW G).filter fun v => decide (c ∉ at' (Ss.map bW) v)) = [])) ∘ fun (i : Nat) => (i : Int))) = (List.range m).filter (cov Ss G) := by
    refine List.filter_congr fun c hc => ?_
    have hc := List.mem_range.mp hc
    rw [Function.comp_apply, Bool.eq_iff_iff, decide_eq_true_eq, List.filter_eq_nil_iff]
    unfold cov
    rw [List.all_eq_true]
    constructor
    · intro h v hv
      have := h _ (mem_bW.mpr hv)
      rw [decide_eq_true_eq, Decidable.not_not, at_g, mem_bW, mem_elsb (by omega)] at this
      exact this
    · intro h v hv
      unfold bW nI at hv
      obtain ⟨v, hv', rfl⟩ := List.mem_map.mp hv
      rw [decide_eq_true_eq, Decidable.not_not, at_g, mem_bW, mem_elsb (by omega)]
      exact h v hv'
  rw [st]
  unfold covN
  rcases hm with rfl | rfl
  · have no3 : cov Ss G 3 = false := by
      have ne := els_ne h1 h2
      unfold cov
      generalize els G = l at ne
      cases l with
      | nil => exact absurd rfl ne
      | cons a r =>
        rw [List.all_cons, Nat.testBit_lt_two_pow (gt_lt hS), Bool.false_and]
    rw [show [0, 1, 2, 3] = List.range 3 ++ [3] from rfl, List.filter_append, List.filter_cons_of_neg (by simp [no3])]
    simp
  · rfl
theorem cnt_all : (List.range 16).all (fun S => (List.range 16).all fun W => ((bW S).filter fun c => decide (c ∈ bW W)).length == pc (S &&& W)) = true := by decide +kernel
theorem cnt_is {Ss : List Nat} {W v : Nat} (hg : gt Ss v < 16) (hW : W < 16) : cnt (Ss.map bW) (bW W) ((v : Nat) : Int) = ((pc (gt Ss v &&& W) : Nat) : Int) := by
  unfold cnt
  rw [at_g]
  have := List.all_eq_true.mp (List.all_eq_true.mp cnt_all (gt Ss v) (by simpa using hg)) W (by simpa using hW)
  rw [beq_iff_eq] at this
  rw [this]
theorem max_lt {l : List Int} {e : Int} : ∀ {a : Int}, l.foldl max a < e ↔ a < e ∧ ∀ x ∈ l, x < e := by
  induction l with
  | nil => intro a; simp
  | cons y l ih =>
    intro a
    rw [List.foldl_cons, ih, Int.max_lt]
    simp only [List.mem_cons, forall_eq_or_imp, and_assoc]
theorem sts_lt {Ss : List Nat} {W G e : Nat} (hS : ∀ v, gt Ss v < 16) (hW : W < 16) (he : 1 ≤ e) : sts (Ss.map bW) (bW W) (bW G) < (e : Int) ↔ (els G).all (low W e Ss) = true := by
  unfold sts maxI
  rw [max_lt, List.all_eq_true]
  constructor
  · intro h v hv
    have := h.2 _ (List.mem_map.mpr ⟨_, mem_bW.mpr hv, rfl⟩)
    rw [cnt_is (hS v) hW] at this
    unfold low
    rw [decide_eq_true_eq]; omega
  · intro h
    refine ⟨by omega, fun x hx => ?_⟩
    obtain ⟨y, hy, rfl⟩ := List.mem_map.mp hx
    unfold bW nI at hy
    obtain ⟨v, hv, rfl⟩ := List.mem_map.mp hy
    rw [cnt_is (hS v) hW]
    have := h v hv
    unfold low at this
    rw [decide_eq_true_eq] at this; omega
theorem gsz_le {N k e p : Nat} (hk : 1 ≤ k) : gsz N k e ≤ p ↔ e * N ≤ p * k := by
  unfold gsz
  rw [← Nat.lt_succ_iff, Nat.div_lt_iff_lt_mul (by omega), Nat.succ_mul]
  omega
noncomputable def BadG (k W : Nat) (Ss : List Nat) (e G : Nat) : Prop := gsz Ss.length k e ≤ pc G ∧ e ≤ (covN Ss G).length ∧ (els G).all (low W e Ss) = true
theorem wi_all : (List.range 5).all (fun n => (wi (upto n)).drop 1 == (List.range' 1 (2 ^ n - 1)).map bW) = true := by decide +kernel
theorem gives_iff {Ss : List Nat} {m W : Nat} (hm : m = 3 ∨ m = 4) (hS : ∀ S ∈ Ss, S < 2 ^ m) (hn : Ss.length ≤ 4) (hW : okW m W = true) :
    gives (Ss.map bW) m (bW W) = false ↔ ∃ e G, 1 ≤ e ∧ e ≤ pc W ∧ 1 ≤ G ∧ G < 2 ^ Ss.length ∧ BadG (pc W) W Ss e G := by
  have h16 : ∀ v, gt Ss v < 16 := fun v => by have := @gt_lt Ss m v hS; rcases hm with rfl | rfl <;> omega
  have hW16 := okW_lt hm hW
  have h2n : 2 ^ Ss.length ≤ 16 := Nat.pow_le_pow_right (n := 2) (by omega) hn
  have key : ∀ (e G : Nat), 1 ≤ e → 1 ≤ G → G < 16 → ((decide ((e : Int) * ((Ss.map bW).length : Nat) ≤ ((bW G).length : Int) * (bW W).length) && (decide ((e : Int) ≤ ((shr (Ss.map bW) m (bW G)).length : Int)) && decide (sts (Ss.map bW) (bW W) (bW G) < (e : Int)))) = true ↔ BadG (pc W) W Ss e G) := by
    intro e G he h1 h2
    rw [Bool.and_eq_true, Bool.and_eq_true, decide_eq_true_eq, decide_eq_true_eq, decide_eq_true_eq, sts_lt h16 hW16 he, shr_len hm hS h1 h2, bW_len, bW_len, List.length_map]
    unfold BadG
    rw [gsz_le (okW_at hW).2.1, ← Int.natCast_mul, ← Int.natCast_mul, Int.ofNat_le, Int.ofNat_le]
  have ew : (wi (upto (Ss.map bW).length)).drop 1 = (List.range' 1 (2 ^ Ss.length - 1)).map bW := by
    rw [List.length_map]
    exact beq_iff_eq.mp (List.all_eq_true.mp wi_all Ss.length (by simp; omega))
  unfold gives
  rw [ew, List.all_eq_false]
  constructor
  · rintro ⟨g, hg, hb⟩
    obtain ⟨G, hG, rfl⟩ := List.mem_map.mp hg
    rw [List.mem_range'_1] at hG
    rw [decide_eq_true_eq] at hb
    unfold bads at hb
    rw [List.filter_eq_nil_iff] at hb
    have : ∃ x ∈ upto1 (bW W).length, (decide (x * ((Ss.map bW).length : Nat) ≤ ((bW G).length : Int) * (bW W).length) && (decide (x ≤ ((shr (Ss.map bW) m (bW G)).length : Int)) && decide (sts (Ss.map bW) (bW W) (bW G) < x))) = true := Classical.byContradiction fun z => hb fun x hx y => z ⟨x, hx, y⟩
    obtain ⟨x, hx, hb⟩ := this
    unfold upto1 at hx
    obtain ⟨i, hi, rfl⟩ := List.mem_map.mp hx
    have hi := List.mem_range.mp hi
    rw [bW_len] at hi
    refine ⟨i + 1, G, by omega, by omega, hG.1, by omega, ?_⟩
    refine (key (i + 1) G (by omega) hG.1 (by omega)).mp ?_
    rw [show ((i + 1 : Nat) : Int) = 1 + (i : Int) by omega]
    exact hb
  · rintro ⟨e, G, he, hek, h1, h2, hb⟩
    refine ⟨bW G, List.mem_map.mpr ⟨G, by rw [List.mem_range'_1]; omega, rfl⟩, ?_⟩
    rw [decide_eq_true_eq]
    unfold bads
    rw [List.filter_eq_nil_iff]
    intro z
    refine z (e : Int) ?_ ((key e G he h1 (by omega)).mpr hb)
    unfold upto1
    rw [bW_len]
    exact List.mem_map.mpr ⟨e - 1, by rw [List.mem_range]; omega, by omega⟩
theorem mask_tab : ∀ n < 5, ∀ b0 b1 b2 b3 : Bool, (List.range (2 ^ n)).any (fun F => els F == (List.range n).filter fun i => [b0, b1, b2, b3].getD i false) = true := by decide +kernel
theorem mask_of {p : Nat → Bool} {n : Nat} (h : n ≤ 4) : ∃ F, F < 2 ^ n ∧ els F = (List.range n).filter p := by
  obtain ⟨F, hF, e⟩ := List.any_eq_true.mp (mask_tab n (Nat.lt_succ_of_le h) (p 0) (p 1) (p 2) (p 3))
  refine ⟨F, List.mem_range.mp hF, (beq_iff_eq.mp e).trans (List.filter_congr fun i hi => ?_)⟩
  exact all4 (P := fun i => [p 0, p 1, p 2, p 3].getD i false = p i) rfl rfl rfl rfl (Nat.lt_of_lt_of_le (List.mem_range.mp hi) h)
theorem comb_all : (List.range 16).all (fun F => (List.range (pc F + 1)).all fun g => g == 0 || (((combsI (pc F) g).all fun idx => (List.range 16).any fun G => pickI (nI (els F)) idx == bW G && (els G).all (· ∈ els F) && pc G == g && decide (1 ≤ G)) && (List.range 16).all fun G => !((els G).all (· ∈ els F) && pc G == g) || (combsI (pc F) g).any fun idx => pickI (nI (els F)) idx == bW G)) = true := by decide +kernel
theorem sub_all : (List.range 16).all (fun G => (List.range (pc G + 1)).all fun g => (List.range 16).any fun G' => (els G').all (· ∈ els G) && pc G' == g) = true := by decide +kernel
theorem mask_all : (List.range 16).all (fun G => (List.range 16).all fun F => !((els G).all (· ∈ els F)) || decide (pc G ≤ pc F)) = true := by decide +kernel
theorem mask_le {G F : Nat} (hG : G < 16) (hF : F < 16) (h : (els G).all (· ∈ els F) = true) : pc G ≤ pc F := by
  have := List.all_eq_true.mp (List.all_eq_true.mp mask_all G (by simpa using hG)) F (by simpa using hF)
  rw [h, Bool.not_true, Bool.false_or, decide_eq_true_eq] at this
  exact this
theorem few_low {e W : Nat} {Ss : List Nat} {v : Nat} : v ∈ fewN e W Ss Ss.length ↔ v < Ss.length ∧ low W e Ss v = true := by
  unfold fewN low
  rw [List.mem_filter, List.mem_range]
theorem gsz_pos {N k e : Nat} (hN : 1 ≤ N) (hk : 1 ≤ k) (he : 1 ≤ e) : 1 ≤ gsz N k e := by
  rcases Nat.lt_or_ge 0 (gsz N k e) with h | h
  · exact h
  · have := (gsz_le (N := N) (e := e) (p := 0) hk).mp h
    have := Nat.mul_pos he hN
    omega
theorem viol_iff {k W : Nat} {Ss : List Nat} {e : Nat} (hn : 1 ≤ Ss.length ∧ Ss.length ≤ 4) (hk : 1 ≤ k) (he : 1 ≤ e) :
    viol k W Ss e = true ↔ ∃ G, 1 ≤ G ∧ G < 16 ∧ (∀ v ∈ els G, v < Ss.length) ∧ pc G = gsz Ss.length k e ∧ BadG k W Ss e G := by
  obtain ⟨F, hF, eF⟩ := mask_of (p := fun v => decide ((els (Ss.getD v 0 &&& W)).length < e)) hn.2
  have eF : fewN e W Ss Ss.length = els F := eF.symm
  have h2n : 2 ^ Ss.length ≤ 16 := Nat.pow_le_pow_right (n := 2) (by omega) hn.2
  have g1 := gsz_pos (N := Ss.length) (k := k) (e := e) hn.1 hk he
  unfold viol
  rw [eF]
  generalize hg : gsz Ss.length k e = g at g1
  have C : g ≤ pc F → ((combsI (pc F) g).all fun idx => (List.range 16).any fun G => pickI (nI (els F)) idx == bW G && (els G).all (· ∈ els F) && pc G == g && decide (1 ≤ G)) = true ∧ ((List.range 16).all fun G => !((els G).all (· ∈ els F) && pc G == g) || (combsI (pc F) g).any fun idx => pickI (nI (els F)) idx == bW G) = true := by
    intro hgF
    have := List.all_eq_true.mp (List.all_eq_true.mp comb_all F (by simp; omega)) g (by simp; omega)
    rw [Bool.or_eq_true, beq_iff_eq, Bool.and_eq_true] at this
    exact this.resolve_left (by omega)
  have mF : ∀ {v}, v ∈ els F ↔ v < Ss.length ∧ low W e Ss v = true := fun {v} => by rw [← eF]; exact few_low
  rw [Bool.and_eq_true, decide_eq_true_eq, List.any_eq_true]
  constructor
  · rintro ⟨hgF, idx, hi, hb⟩
    have := List.all_eq_true.mp (C hgF).1 idx hi
    obtain ⟨G, hG, q⟩ := List.any_eq_true.mp this
    rw [Bool.and_eq_true, Bool.and_eq_true, Bool.and_eq_true, beq_iff_eq, beq_iff_eq, List.all_eq_true, decide_eq_true_eq] at q
    obtain ⟨⟨⟨q1, q2⟩, q3⟩, q4⟩ := q
    have hG16 : G < 16 := by simpa using hG
    rw [q1, decide_eq_true_eq, meet_cov q4 hG16] at hb
    have q2 : ∀ v ∈ els G, v ∈ els F := fun v hv => of_decide_eq_true (q2 v hv)
    exact ⟨G, q4, hG16, fun v hv => (mF.mp (q2 v hv)).1, q3, by rw [hg, q3]; exact Nat.le_refl _, hb, List.all_eq_true.mpr fun v hv => (mF.mp (q2 v hv)).2⟩
  · rintro ⟨G, h1, h16, hv, hp, b1, b2, b3⟩
    have q2 : (els G).all (· ∈ els F) = true := List.all_eq_true.mpr fun v h => decide_eq_true (mF.mpr ⟨hv v h, List.all_eq_true.mp b3 v h⟩)
    have hgF : g ≤ pc F := by
      rw [← hp]
      exact mask_le h16 (by omega) q2
    refine ⟨hgF, ?_⟩
    have := List.all_eq_true.mp (C hgF).2 G (by simpa using h16)
    rw [q2, hp, beq_self_eq_true, Bool.true_and, Bool.not_true, Bool.false_or] at this
    obtain ⟨idx, hi, q⟩ := List.any_eq_true.mp this
    rw [beq_iff_eq] at q
    exact ⟨idx, hi, by rw [q, decide_eq_true_eq, meet_cov h1 h16]; exact b2⟩
theorem covN_mono {Ss : List Nat} {G G' : Nat} (h : (els G').all (· ∈ els G) = true) : (covN Ss G).length ≤ (covN Ss G').length := by
  unfold covN
  rw [← List.countP_eq_length_filter, ← List.countP_eq_length_filter]
  refine List.countP_mono_left fun c _ hc => ?_
  unfold cov at hc ⊢
  rw [List.all_eq_true] at hc h ⊢
  exact fun v hv => hc v (of_decide_eq_true (h v hv))
theorem els_rng : (List.range 5).all (fun n => (List.range (2 ^ n)).all fun G => (els G).all fun v => decide (v < n)) = true := by decide +kernel
theorem els_le16 : (List.range 16).all (fun G => (List.range 5).all fun n => !((els G).all fun v => decide (v < n)) || decide (G < 2 ^ n)) = true := by decide +kernel
theorem els_in {n G v : Nat} (hn : n ≤ 4) (hG : G < 2 ^ n) (h : v ∈ els G) : v < n := of_decide_eq_true (List.all_eq_true.mp (List.all_eq_true.mp (List.all_eq_true.mp els_rng n (by simp; omega)) G (by simpa using hG)) v h)
theorem els_small {n G : Nat} (hn : n ≤ 4) (hG : G < 16) (h : ∀ v ∈ els G, v < n) : G < 2 ^ n := by
  have := List.all_eq_true.mp (List.all_eq_true.mp els_le16 G (by simpa using hG)) n (by simp; omega)
  rw [show ((els G).all fun v => decide (v < n)) = true from List.all_eq_true.mpr fun v hv => decide_eq_true (h v hv), Bool.not_true, Bool.false_or, decide_eq_true_eq] at this
  exact this
theorem plain_g1 {Ss : List Nat} {m W : Nat} (hm : m = 3 ∨ m = 4) (hS : ∀ S ∈ Ss, S < 2 ^ m) (hn : 1 ≤ Ss.length ∧ Ss.length ≤ 4) (hW : okW m W = true) : gives (Ss.map bW) m (bW W) = bruteB (pc W) W Ss := by
  have k1 := (okW_at hW).2.1
  have h2n : 2 ^ Ss.length ≤ 16 := Nat.pow_le_pow_right (n := 2) (by omega) hn.2
  have key : gives (Ss.map bW) m (bW W) = false ↔ bruteB (pc W) W Ss = false := by
    rw [gives_iff hm hS hn.2 hW]
    unfold bruteB
    rw [Bool.not_eq_false', List.any_eq_true]
    constructor
    · rintro ⟨e, G, he, hek, h1, h2, b1, b2, b3⟩
      refine ⟨e - 1, by rw [List.mem_range]; omega, ?_⟩
      rw [show e - 1 + 1 = e by omega, viol_iff hn k1 he]
      have g1 := gsz_pos (N := Ss.length) (k := pc W) (e := e) hn.1 k1 he
      have := List.all_eq_true.mp (List.all_eq_true.mp sub_all G (by simp; omega)) (gsz Ss.length (pc W) e) (by simp; omega)
      obtain ⟨G', hG', q⟩ := List.any_eq_true.mp this
      rw [Bool.and_eq_true, beq_iff_eq] at q
      have sub : ∀ v ∈ els G', v ∈ els G := fun v hv => of_decide_eq_true (List.all_eq_true.mp q.1 v hv)
      have hne : 1 ≤ G' := by
        rcases Nat.eq_zero_or_pos G' with z | z
        · have := q.2; rw [z] at this; have e0 : pc 0 = 0 := by decide
          omega
        · exact z
      exact ⟨G', hne, by simpa using hG', fun v hv => els_in hn.2 h2 (sub v hv), q.2, by rw [q.2]; exact Nat.le_refl _, Nat.le_trans b2 (covN_mono q.1), List.all_eq_true.mpr fun v hv => List.all_eq_true.mp b3 v (sub v hv)⟩
    · rintro ⟨j, hj, hv⟩
      have hj := List.mem_range.mp hj
      rw [viol_iff hn k1 (by omega)] at hv
      obtain ⟨G, h1, h2, h3, h4, hb⟩ := hv
      exact ⟨j + 1, G, by omega, by omega, h1, els_small hn.2 h2 h3, hb⟩
  cases h1 : gives (Ss.map bW) m (bW W) <;> cases h2 : bruteB (pc W) W Ss
  · rfl
  · rw [key.mp h1] at h2; exact absurd h2 (by simp)
  · rw [key.mpr h2] at h1; exact absurd h1 (by simp)
  · rfl
noncomputable abbrev xch (W c w : Nat) : Nat := (W ^^^ 2 ^ w) ||| 2 ^ c
noncomputable def dv (W c S w : Nat) : Int := ((w6 (pc (xch W c w &&& S)) : Nat) : Int) - ((w6 (pc (W &&& S)) : Nat) : Int)
noncomputable def tv (W c S : Nat) : Int := ((els W).map (dv W c S)).sum
noncomputable def good (W c e S : Nat) : Bool := S.testBit c && decide (pc (S &&& W) < e)
theorem tvx_all : (List.range 16).all (fun W => (List.range 4).all fun c => pc W == 0 || decide (3 < pc W) || W.testBit c || (List.range 16).all fun S => decide (-6 ≤ tv W c S) && (List.range 4).all fun e => decide (pc W < e) || !(good W c e S) || decide (6 * ((pc W : Nat) : Int) + 6 - 6 * (e : Nat) ≤ (e : Nat) * tv W c S)) = true := by decide +kernel
theorem sum_add {l : List Nat} {f g : Nat → Int} : (l.map fun x => f x + g x).sum = (l.map f).sum + (l.map g).sum := by
  induction l with
  | nil => rfl
  | cons a l ih => simp only [List.map_cons, List.sum_cons, ih]; omega
theorem sum_zero {l : List Nat} : (l.map fun _ => (0 : Int)).sum = 0 := by
  induction l with
  | nil => rfl
  | cons a l ih => simp only [List.map_cons, List.sum_cons, ih]; omega
theorem sc6_cons {C S : Nat} {Ss : List Nat} : ((sc6 C (S :: Ss) : Nat) : Int) = ((w6 (pc (C &&& S)) : Nat) : Int) + ((sc6 C Ss : Nat) : Int) := by
  unfold sc6
  rw [List.map_cons, List.sum_cons, Int.natCast_add]
theorem tot_sum {W c : Nat} : ∀ {Ss : List Nat}, ((els W).map fun w => ((sc6 (xch W c w) Ss : Nat) : Int) - ((sc6 W Ss : Nat) : Int)).sum = (Ss.map (tv W c)).sum
  | [] => by
    show ((els W).map fun w => ((0 : Nat) : Int) - ((0 : Nat) : Int)).sum = 0
    exact sum_zero
  | S :: Ss => by
    have ih := @tot_sum W c Ss
    rw [List.map_cons, List.sum_cons, ← ih]
    unfold tv
    rw [← sum_add]
    congr 1
    refine List.map_congr_left fun w _ => ?_
    rw [sc6_cons, sc6_cons]
    unfold dv
    omega
theorem tot_low {W c e : Nat} : ∀ {Ss : List Nat}, (∀ S ∈ Ss, -6 ≤ tv W c S ∧ (good W c e S = true → 6 * ((pc W : Nat) : Int) + 6 - 6 * (e : Nat) ≤ (e : Nat) * tv W c S)) →
    6 * (((pc W : Nat) : Int) + 1) * (Ss.filter (good W c e)).length - 6 * (e : Nat) * Ss.length ≤ (e : Nat) * (Ss.map (tv W c)).sum
  | [], _ => by simp
  | S :: Ss, h => by
    have ih := tot_low (Ss := Ss) fun T hT => h T (List.mem_cons_of_mem _ hT)
    obtain ⟨a, b⟩ := h S (List.mem_cons_self ..)
    have e1 : (e : Int) * ((S :: Ss).map (tv W c)).sum = (e : Int) * tv W c S + (e : Int) * (Ss.map (tv W c)).sum := by rw [List.map_cons, List.sum_cons, Int.mul_add]
    have e2 : 6 * (e : Int) * ((S :: Ss).length : Nat) = 6 * (e : Int) * (Ss.length : Nat) + 6 * (e : Int) := by rw [List.length_cons, Int.natCast_add, Int.mul_add]; simp
    rw [e1, e2]
    by_cases q : good W c e S = true
    · have e3 : 6 * (((pc W : Nat) : Int) + 1) * (((S :: Ss).filter (good W c e)).length : Nat) = 6 * (((pc W : Nat) : Int) + 1) * ((Ss.filter (good W c e)).length : Nat) + 6 * (((pc W : Nat) : Int) + 1) := by
        rw [List.filter_cons_of_pos q, List.length_cons, Int.natCast_add, Int.mul_add]; simp
      rw [e3]
      have := b q
      generalize (e : Int) * tv W c S = X at *
      generalize (e : Int) * (Ss.map (tv W c)).sum = Y at *
      generalize 6 * (((pc W : Nat) : Int) + 1) * ((Ss.filter (good W c e)).length : Nat) = Z at *
      generalize 6 * (e : Int) * (Ss.length : Nat) = U at *
      omega
    · rw [List.filter_cons_of_neg q]
      have : (e : Int) * (-6) ≤ (e : Int) * tv W c S := Int.mul_le_mul_of_nonneg_left a (by omega)
      generalize (e : Int) * tv W c S = X at *
      generalize (e : Int) * (Ss.map (tv W c)).sum = Y at *
      generalize 6 * (((pc W : Nat) : Int) + 1) * ((Ss.filter (good W c e)).length : Nat) = Z at *
      generalize 6 * (e : Int) * (Ss.length : Nat) = U at *
      omega
theorem good_len {W c e G : Nat} {Ss : List Nat} (hn : Ss.length ≤ 4) (hG : ∀ v ∈ els G, v < Ss.length ∧ good W c e (gt Ss v) = true) : pc G ≤ (Ss.filter (good W c e)).length := by
  have es : (List.range Ss.length).map (gt Ss) = Ss := by
    refine List.ext_getElem (by simp) fun i h1 h2 => ?_
    rw [List.getElem_map, List.getElem_range, gt, List.getD_eq_getElem?_getD, List.getElem?_eq_getElem h2]; rfl
  have e1 : (Ss.filter (good W c e)).length = ((List.range Ss.length).filter (good W c e ∘ gt Ss)).length := by
    conv => lhs; rw [← es, List.filter_map, List.length_map]
  rw [e1]
  unfold pc els
  have e2 : ([0, 1, 2, 3].filter fun x => G.testBit x).length ≤ ((List.range 4).filter fun v => decide (v < Ss.length) && (good W c e ∘ gt Ss) v).length := by
    rw [← List.countP_eq_length_filter, ← List.countP_eq_length_filter]
    refine List.countP_mono_left fun v hv hb => ?_
    have := hG v (by unfold els; exact List.mem_filter.mpr ⟨hv, hb⟩)
    rw [Bool.and_eq_true, decide_eq_true_eq]
    exact this
  refine Nat.le_trans e2 ?_
  generalize good W c e ∘ gt Ss = p
  have : Ss.length = 0 ∨ Ss.length = 1 ∨ Ss.length = 2 ∨ Ss.length = 3 ∨ Ss.length = 4 := (by decide : ∀ n ≤ 4, n = 0 ∨ n = 1 ∨ n = 2 ∨ n = 3 ∨ n = 4) _ hn
  rcases this with z | z | z | z | z <;> rw [z] <;> simp [List.range, List.range.loop, List.filter]
theorem sum_lt {l : List Nat} {f : Nat → Int} {K N : Int} : (∀ x ∈ l, f x * K < N) → l ≠ [] → (l.map f).sum * K < N * l.length := by
  induction l with
  | nil => intro _ h; exact absurd rfl h
  | cons a l ih =>
    intro h _
    have ha := h a (List.mem_cons_self ..)
    rw [List.map_cons, List.sum_cons, Int.add_mul, List.length_cons, Int.natCast_add, Int.mul_add]
    cases l with
    | nil => simp; omega
    | cons b l =>
      have := ih (fun x hx => h x (List.mem_cons_of_mem _ hx)) (by simp)
      generalize f a * K = X at *
      generalize (List.map f (b :: l)).sum * K = Y at *
      generalize N * ((b :: l).length : Nat) = Z at *
      omega
theorem plain_g2 {Ss : List Nat} {m W : Nat} (hm : m = 3 ∨ m = 4) (hS : ∀ S ∈ Ss, S < 2 ^ m) (hn : 1 ≤ Ss.length ∧ Ss.length ≤ 4) (hW : okW m W = true) (top : liftW Ss m W = W) : bruteB (pc W) W Ss = true := by
  obtain ⟨hWm, k1, k3⟩ := okW_at hW
  have hW16 := okW_lt hm hW
  cases hb : bruteB (pc W) W Ss with
  | true => rfl
  | false =>
  exfalso
  unfold bruteB at hb
  rw [Bool.not_eq_false', List.any_eq_true] at hb
  obtain ⟨j, hj, hv⟩ := hb
  have hj := List.mem_range.mp hj
  obtain ⟨e, he⟩ : ∃ e, e = j + 1 := ⟨_, rfl⟩
  rw [← he, viol_iff hn k1 (by omega)] at hv
  obtain ⟨G, h1, h2, h3, h4, b1, b2, b3⟩ := hv
  -- a candidate that all of the group want, outside the committee
  have hc : ∃ c, c < 4 ∧ cov Ss G c = true ∧ W.testBit c = false := by
    refine Classical.byContradiction fun z => ?_
    have ne := els_ne h1 h2
    cases hl : els G with
    | nil => exact ne hl
    | cons v l =>
      have hvG : v ∈ els G := by rw [hl]; exact List.mem_cons_self ..
      have lo := List.all_eq_true.mp b3 v hvG
      unfold low at lo
      rw [decide_eq_true_eq] at lo
      have : (covN Ss G).length ≤ pc (gt Ss v &&& W) := by
        unfold covN pc els
        rw [← List.countP_eq_length_filter, ← List.countP_eq_length_filter]
        refine List.countP_mono_left fun c hc4 hcv => ?_
        have c4 : c < 4 := by simp at hc4; omega
        rw [Nat.testBit_and, Bool.and_eq_true]
        refine ⟨List.all_eq_true.mp hcv v hvG, ?_⟩
        cases hw : W.testBit c with
        | true => rfl
        | false => exact absurd ⟨c, c4, hcv, hw⟩ z
      omega
  obtain ⟨c, c4, hcv, hcW⟩ := hc
  have hcm : c < m := by
    refine Decidable.byContradiction fun z => ?_
    have ne := els_ne h1 h2
    cases hl : els G with
    | nil => exact ne hl
    | cons v l =>
      have := List.all_eq_true.mp hcv v (by rw [hl]; exact List.mem_cons_self ..)
      rw [Nat.testBit_lt_two_pow (Nat.lt_of_lt_of_le (gt_lt hS) (Nat.pow_le_pow_right (by omega) (by omega)))] at this
      cases this
  have S16 : ∀ S ∈ Ss, S < 16 := fun S h => by have := hS S h; rcases hm with rfl | rfl <;> omega
  have per : ∀ S ∈ Ss, -6 ≤ tv W c S ∧ (good W c e S = true → 6 * ((pc W : Nat) : Int) + 6 - 6 * (e : Nat) ≤ (e : Nat) * tv W c S) := by
    intro S hSs
    have := List.all_eq_true.mp (List.all_eq_true.mp tvx_all W (by simpa using hW16)) c (by simpa using c4)
    rw [hcW, Bool.or_false, Bool.or_eq_true, Bool.or_eq_true, beq_iff_eq, decide_eq_true_eq] at this
    have := List.all_eq_true.mp (this.resolve_left (by omega)) S (by simpa using S16 S hSs)
    rw [Bool.and_eq_true, decide_eq_true_eq] at this
    refine ⟨this.1, fun q => ?_⟩
    have := List.all_eq_true.mp this.2 e (by simp; omega)
    rw [q, Bool.not_true, Bool.or_false, Bool.or_eq_true, decide_eq_true_eq, decide_eq_true_eq] at this
    exact this.resolve_left (by omega)
  have L1 := tot_low per
  have L2 : pc G ≤ (Ss.filter (good W c e)).length := good_len hn.2 fun v hv => by
    refine ⟨h3 v hv, ?_⟩
    have a := List.all_eq_true.mp hcv v hv
    have b := List.all_eq_true.mp b3 v hv
    unfold low at b
    unfold good
    rw [a, b]; rfl
  have L3 : e * Ss.length ≤ pc G * pc W := (gsz_le k1).mp b1
  rw [← tot_sum] at L1
  have hne : els W ≠ [] := fun z => by unfold pc at k1; rw [z] at k1; simp at k1
  have low1 : ∀ x ∈ els W, (((sc6 (xch W c x) Ss : Nat) : Int) - ((sc6 W Ss : Nat) : Int)) * (((pc W : Nat) : Int) * ((pc W : Nat) : Int)) < 6 * (Ss.length : Int) := by
    intro x hx
    have ho : xch W c x ∈ nbrW m W := by
      unfold nbrW
      refine List.mem_flatMap.mpr ⟨x, hx, List.mem_map.mpr ⟨c, List.mem_filter.mpr ⟨List.mem_range.mpr hcm, by rw [hcW]; rfl⟩, rfl⟩⟩
    have := liftW_top top _ ho (by omega) k1
    rw [Int.mul_assoc] at this
    omega
  have L4 := sum_lt low1 hne
  generalize ((els W).map fun w => ((sc6 (xch W c w) Ss : Nat) : Int) - ((sc6 W Ss : Nat) : Int)).sum = T at L1 L4
  -- the arithmetic: k and e are small
  have L4 : T * (((pc W : Nat) : Int) * ((pc W : Nat) : Int)) < 6 * (Ss.length : Int) * ((pc W : Nat) : Int) := L4
  generalize (Ss.filter (good W c e)).length = g at L1 L2
  generalize pc G = p at L2 L3
  generalize Ss.length = N at *
  have L3 : (e : Int) * N ≤ (p : Int) * ((pc W : Nat) : Int) := by exact_mod_cast L3
  generalize hk : pc W = k at *
  have f3 : ∀ n ≤ 3, 1 ≤ n → n = 1 ∨ n = 2 ∨ n = 3 := by decide
  have hek : e = 1 ∨ e = 2 ∨ e = 3 := f3 e (by omega) (by omega)
  have hkk : k = 1 ∨ k = 2 ∨ k = 3 := f3 k (by omega) (by omega)
  rcases hkk with rfl | rfl | rfl <;> rcases hek with rfl | rfl | rfl <;> simp at L1 L3 L4 <;> omega
theorem plain {xs : List Int} : Plain (mN xs) (Sx xs) := by
  have hm := (@m_is xs).2
  have hS : ∀ S ∈ Sx xs, S < 2 ^ mN xs := fun S hS => by
    unfold Sx at hS
    obtain ⟨d, _, rfl⟩ := List.mem_map.mp hS
    exact bm_lt
  have hn := @Sx_len xs
  exact ⟨fun W hW => plain_g1 hm hS ⟨by omega, hn.2⟩ hW, fun W hW top => plain_g2 hm hS ⟨by omega, hn.2⟩ hW top⟩
theorem in_kf {P : Params} {h : Heap} (X : (Kt2 P).In h) : (Kf P).In h := fun a o e => by
  refine X a o ?_
  unfold Kt2 Kt
  rw [List.append_assoc, List.lookup_append, e]; rfl
theorem code_at {P : Params} {h : Heap} {c T : Addr} {vs : Array Value} (e1 : h.get? c = some ⟨.type "code", none, .fields vs, [].toArray⟩) (e2 : h.get? T = some ⟨.none, none, .fields [].toArray, [].toArray⟩) (q : vs[11]? = some (.ref T)) : h.TableAt c T #[] :=
  ⟨⟨_, vs, e1, rfl, rfl, q⟩, e2⟩
theorem isC {P : Params} {h : Heap} {c T : Addr} {vs : Array Value} (e1 : h.get? c = some ⟨.type "code", none, .fields vs, [].toArray⟩) (e2 : h.get? T = some ⟨.none, none, .fields [].toArray, [].toArray⟩) (q1 : vs.getD 11 .none = .ref T)
    (q2 : (match vs.getD 18 .none with | .str _ _ => true | _ => false) = true) (q3 : (match vs.getD 7 .none with | .int _ _ => true | _ => false) = true) (q4 : (match vs.getD 9 .none with | .bool _ => true | _ => false) = true) (q5 : (match vs.getD 10 .none with | .int _ _ => true | _ => false) = true) (ne : c ≠ T) : h.IsCode c T #[] := by
  split at q2
  · rename_i e18
    split at q3
    · rename_i e7
      split at q4
      · rename_i e9
        split at q5
        · rename_i e10
          exact ⟨_, vs, _, _, _, _, _, _, _, _, e1, rfl, q1, e18, e7, e9, e10, e2, rfl, trivial, ne⟩
        · cases q5
      · cases q4
    · cases q3
  · cases q2
theorem cx0 {w : World} {s : Shared} {mg mb : Str → Option Value} (X : (Kt2 w.params).In s.heap) (g : s.heap.Ns mainGlobals mg) (b : s.heap.Ns builtinsNs mb) (nl : s.heap.NoLimit) (bi : ∀ x : Str, x ≠ "__name__" → mb x = bootBuiltins x) (hg : s.gens = #[]) : Cx w ⟨s.heap, mg, mb, s.os⟩ s := by
  have k := in_kf X
  have t1 : s.heap.TableAt 56 52 #[] := code_at (P := w.params) (k 56 o56 (by kernel_rfl)) (X 52 o52 (by kernel_rfl)) (by kernel_rfl)
  have t2 : s.heap.TableAt 379 375 #[] := code_at (P := w.params) (k 379 o379 (by kernel_rfl)) (X 375 o375 (by kernel_rfl)) (by kernel_rfl)
  have t3 : s.heap.TableAt 316 312 #[] := code_at (P := w.params) (k 316 o316 (by kernel_rfl)) (X 312 o312 (by kernel_rfl)) (by kernel_rfl)
  obtain ⟨mc, n, _⟩ := id nl
  refine ⟨k, g, b, nl, t1, t2, t3, k, g, b, nl, ⟨mc, n, ns_none_of X n (by kernel_rfl)⟩, bi, OldK.refl _, ⟨#[], ?_, t1⟩, ⟨#[], ?_, t2⟩, ⟨#[], ?_, t3⟩, AllBare.of_eq hg, rfl⟩
  · exact isC (P := w.params) (k 56 o56 (by kernel_rfl)) (X 52 o52 (by kernel_rfl)) (by kernel_rfl) (by kernel_rfl) (by kernel_rfl) (by kernel_rfl) (by kernel_rfl) (by decide)
  · exact isC (P := w.params) (k 379 o379 (by kernel_rfl)) (X 375 o375 (by kernel_rfl)) (by kernel_rfl) (by kernel_rfl) (by kernel_rfl) (by kernel_rfl) (by kernel_rfl) (by decide)
  · exact isC (P := w.params) (k 316 o316 (by kernel_rfl)) (X 312 o312 (by kernel_rfl)) (by kernel_rfl) (by kernel_rfl) (by kernel_rfl) (by kernel_rfl) (by kernel_rfl) (by decide)
theorem lay_ints {R : WRecords} {cl : Str → Option Addr} {P : Params} {ord : List DictEntry → List DictEntry} : ∀ {ds : List WData} {s : Shared} {r : List Value × Shared}, layAllW R cl P ord ds s = some r → (∀ d ∈ ds, ∃ i, d = .int i) → ∃ xs : List Int, ds.length = xs.length ∧ IntsAre r.1 xs
  | [], s, r, h, _ => by
    unfold layAllW at h
    cases h
    exact ⟨[], rfl, .nil⟩
  | d :: ds, s, r, h, hi => by
    obtain ⟨i, rfl⟩ := hi d (List.mem_cons_self ..)
    unfold layAllW layW at h
    dsimp only at h
    cases e : layAllW R cl P ord ds { s with toks := s.toks + 1 } with
    | none => rw [e] at h; cases h
    | some r' =>
      rw [e] at h
      cases h
      obtain ⟨xs, hl, hx⟩ := lay_ints e fun d hd => hi d (List.mem_cons_of_mem _ hd)
      exact ⟨i :: xs, by simp [hl], .cons i _ hx⟩
theorem lay_list {R : WRecords} {cl : Str → Option Addr} {P : Params} {ord : List DictEntry → List DictEntry} {ds : List WData} {s s' : Shared} {vs : List Value} (h : layAllW R cl P ord [.list ds] s = some (vs, s')) (hi : ∀ d ∈ ds, ∃ i, d = .int i) :
    ∃ (a : Addr) (xs : List Int), vs = [.ref a] ∧ ds.length = xs.length ∧ Rep [] s'.heap (.ref a) (lI xs) := by
  unfold layAllW layW at h
  cases e : layAllW R cl P ord ds s with
  | none => rw [e] at h; cases h
  | some r =>
    rw [e] at h
    dsimp only at h
    unfold layAllW at h
    dsimp only at h
    obtain ⟨xs, hl, hx⟩ := lay_ints e hi
    cases h
    exact ⟨_, xs, rfl, hl, Rep.of_list (fun h => nomatch h) ⟨_, Heap.get?_push_size _ rfl⟩ (RepL.of_ints (by simpa using hx))⟩
noncomputable def prW : Pr := ⟨PySem.Challenge.pw_ba0003_01, by kernel_rfl, by kernel_rfl⟩
theorem ok_caller : Ok callerA (0 + 13) := ⟨rfl, by decide, by decide⟩
theorem pre_len {ds : List WData} (h : (OpenLaw.pre PySem.Challenge.rw_ba0003_01).holds [] { args := [.list ds] } = true) : ds.length ≤ 63 := by
  have v : (OpenLaw.pre PySem.Challenge.rw_ba0003_01).value [] { args := [.list ds] } = some (.bool (!decide ((63 : Int) < ds.length) && true)) := by
    unfold OpenLaw.pre
    show (match (match (some (WData.bool _) : Option WData) with | some (.bool b) => some (WData.bool (!b)) | _ => none) with | some (.bool false) => some (WData.bool false) | some (.bool true) => _ | _ => none) = _
    cases decide ((63 : Int) < ds.length) <;> rfl
  rw [holdsW_of_value v, Bool.and_true, Bool.not_eq_true', decide_eq_false_iff_not] at h
  omega
theorem walkX {d : DefRec} {kwd : List (Str × Expr)} (hd : d.name = S "law") : WalkX Vw Lo (XL Vw []) (Hook.obs hkK) (Hook.val hkK) PySem.Challenge.rw_ba0003_01.row.toRowW d kwd fun f vs => PySem.call f vs := by
  intro w s₀ s₁ mg mb G Y a o pm cd doc dV kV ho hfd hcd hD hmg hg args vals as L hpre hlay hrd hwl hlo
  have X : (Kt2 w.params).In s₁.heap := (kIn_of (hkK.of w s₀ Y)).keeps L.keeps
  rw [hd] at hmg
  have e : mg (S "law") = some (.ref 622) := mg_of X G.T.g (by kernel_rfl)
  have ea : a = 622 := by rw [e] at hmg; cases hmg; rfl
  subst ea
  obtain ⟨hsh, hcond⟩ := pre_splitW hpre
  obtain ⟨dt, rest, rfl, h1, h2⟩ := hasAllW_cons hsh
  obtain rfl := hasAllW_nil h2
  obtain ⟨ds, rfl, hit⟩ := hasW_list h1
  have hlen := pre_len hcond
  obtain ⟨ord, _, hl⟩ := L.laid
  obtain ⟨b, xs, rfl, hx, r⟩ := lay_list hl fun d hd => hasW_int (hasItemsW_at hit d hd)
  refine wpAny_mono (law_wp (prog := prW) (n := 0) (A := callerA) (β := ⟨s₁.heap, mg, mb, s₁.os⟩) (Q := fun v s' => v = .bool true ∧ Cx w ⟨s₁.heap, mg, mb, s₁.os⟩ s') (by omega) ok_caller (cx0 X G.T.g G.T.b G.T.nolimit G.T.builtins hg) rfl r plain fun s' C => ⟨rfl, C⟩) (fun v s' z => ?_) fun _ _ z => z.elim
  obtain ⟨rfl, C⟩ := z
  refine ⟨.inl ⟨.bool true, .bool true, [], rfl, fun _ => rfl, .bool true, postW_of rfl rfl (same_self (.bool true)), fun _ => ⟨List.nodup_nil, fun a h => nomatch h⟩⟩, C.old, C.os, C.bare⟩
end
end EJ
set_option maxRecDepth 100000 in
set_option maxHeartbeats 8000000 in
theorem PySem.Challenge.cw_ba0003_01_holds : PySem.Challenge.rw_ba0003_01.Holds := by
  refine holds_law EJ.h_said fun said => ?_
  refine holds_openX (q := EJ.Vw) (loose := EJ.Lo) (Xt := EJ.Xt) (XP := XL EJ.Vw []) (Yf := Hook.obs EJ.hkK) (Ya := Hook.val EJ.hkK) (N := 7418) EJ.h_left (fun s e => xl_of s (Bool.and_eq_true_iff.mp e).1) XL.keeps (by rfl) (by rfl) (by rfl) (fun s e => recFacts_of (Bool.and_eq_true_iff.mp e).2) (by rfl) said (by decide +kernel) ⟨rfl, rfl, rfl, rfl, rfl, by decide +kernel⟩ ⟨[.list []], by decide +kernel, by decide +kernel⟩ (EJ.walkX rfl)
