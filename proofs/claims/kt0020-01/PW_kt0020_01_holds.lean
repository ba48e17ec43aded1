import PyProof.Rows.All
import Wide.All
import OpenK.AllK
import Wide.FinOn
import Lean
import PySem.Challenge.RW_kt0020_01

section
open PySem PySem.W PyProof.Rows
set_option Elab.async false
set_option maxRecDepth 1000000
set_option maxHeartbeats 8000000
namespace Mine

noncomputable def noStmt : Stmt := .Pass default
noncomputable def stAt (i : Nat) : Stmt := Challenge.pw_kt0020_01.main.body.getD i noStmt
noncomputable def stIn (k : Nat) : Stmt := match stAt 11 with
  | .ClassDef _ _ _ b .. => b.getD k noStmt
  | s => s
noncomputable def fArgs : Stmt → Arguments
  | .FunctionDef _ a .. => a
  | _ => ⟨[], [], none, [], [], none, []⟩
noncomputable def fBody : Stmt → List Stmt
  | .FunctionDef _ _ b .. => b
  | _ => []
noncomputable def fScope : Stmt → Scope
  | .FunctionDef _ _ _ _ _ _ sc .. => sc
  | _ => { kind := .function, names := [], isGenerator := false, isCoroutine := false }

noncomputable def KF : Params → Frag := fun P =>
  (nat_lit 3, (Obj.mk (Value.type "dict") none (Data.dict #[(DictEntry.mk (PyData.keyHash P (Str.ofString "__name__")) (Value.str (Str.ofString "__name__") 165) (Value.str (Str.ofString "law_kt0020_01") 609)), (DictEntry.mk (PyData.keyHash P (Str.ofString "__doc__")) (Value.str (Str.ofString "__doc__") 166) Value.none), (DictEntry.mk (PyData.keyHash P (Str.ofString "__package__")) (Value.str (Str.ofString "__package__") 167) Value.none), (DictEntry.mk (PyData.keyHash P (Str.ofString "__loader__")) (Value.str (Str.ofString "__loader__") 168) (Value.builtin "__main__.__loader__#opaque")), (DictEntry.mk (PyData.keyHash P (Str.ofString "__spec__")) (Value.str (Str.ofString "__spec__") 169) Value.none), (DictEntry.mk (PyData.keyHash P (Str.ofString "__annotations__")) (Value.str (Str.ofString "__annotations__") 170) (Value.ref 6)), (DictEntry.mk (PyData.keyHash P (Str.ofString "__builtins__")) (Value.str (Str.ofString "__builtins__") 171) (Value.ref 4)), (DictEntry.mk (PyData.keyHash P (Str.ofString "__file__")) (Value.str (Str.ofString "__file__") 173) (Value.str (Str.ofString "/claim/cut.py") 172)), (DictEntry.mk (PyData.keyHash P (Str.ofString "__cached__")) (Value.str (Str.ofString "__cached__") 174) Value.none), (DictEntry.mk (PyData.keyHash P (Str.ofString "_sre")) (Value.str (Str.ofString "_sre") 275) (Value.ref 12)), (DictEntry.mk (PyData.keyHash P (Str.ofString "_twin_re_1")) (Value.str (Str.ofString "_twin_re_1") 321) (Value.ref 36)), (DictEntry.mk (PyData.keyHash P (Str.ofString "translate")) (Value.str (Str.ofString "translate") 330) (Value.ref 43)), (DictEntry.mk (PyData.keyHash P (Str.ofString "_special_chars_map")) (Value.str (Str.ofString "_special_chars_map") 478) (Value.ref 45)), (DictEntry.mk (PyData.keyHash P (Str.ofString "escape")) (Value.str (Str.ofString "escape") 485) (Value.ref 55)), (DictEntry.mk (PyData.keyHash P (Str.ofString "_translate")) (Value.str (Str.ofString "_translate") 506) (Value.ref 62)), (DictEntry.mk (PyData.keyHash P (Str.ofString "_join_translated_parts")) (Value.str (Str.ofString "_join_translated_parts") 519) (Value.ref 69)), (DictEntry.mk (PyData.keyHash P (Str.ofString "filterfalse")) (Value.str (Str.ofString "filterfalse") 571) (Value.ref 102)), (DictEntry.mk (PyData.keyHash P (Str.ofString "_filter")) (Value.str (Str.ofString "_filter") 581) (Value.ref 113)), (DictEntry.mk (PyData.keyHash P (Str.ofString "_MAX_LENGTH")) (Value.str (Str.ofString "_MAX_LENGTH") 585) (Value.int 80 584)), (DictEntry.mk (PyData.keyHash P (Str.ofString "safe_repr")) (Value.str (Str.ofString "safe_repr") 594) (Value.ref 121)), (DictEntry.mk (PyData.keyHash P (Str.ofString "sorted_list_difference")) (Value.str (Str.ofString "sorted_list_difference") 608) (Value.ref 128)), (DictEntry.mk (PyData.keyHash P (Str.ofString "_law_rows")) (Value.str (Str.ofString "_law_rows") 620) (Value.ref 135)), (DictEntry.mk (PyData.keyHash P (Str.ofString "_law_told")) (Value.str (Str.ofString "_law_told") 626) (Value.ref 140)), (DictEntry.mk (PyData.keyHash P (Str.ofString "_law_items")) (Value.str (Str.ofString "_law_items") 636) (Value.ref 147)), (DictEntry.mk (PyData.keyHash P (Str.ofString "_law_signs")) (Value.str (Str.ofString "_law_signs") 642) (Value.ref 152)), (DictEntry.mk (PyData.keyHash P (Str.ofString "law")) (Value.str (Str.ofString "law") 648) (Value.ref 157))] 26) #[])) ::
  (nat_lit 6, (Obj.mk (Value.type "dict") none (Data.dict #[] 0) #[])) ::
  (nat_lit 11, (Obj.mk (Value.type "dict") none (Data.dict #[(DictEntry.mk (PyData.keyHash P (Str.ofString "__name__")) (Value.str (Str.ofString "__name__") 247) (Value.str (Str.ofString "_sre") 246)), (DictEntry.mk (PyData.keyHash P (Str.ofString "__doc__")) (Value.str (Str.ofString "__doc__") 248) Value.none), (DictEntry.mk (PyData.keyHash P (Str.ofString "__package__")) (Value.str (Str.ofString "__package__") 250) (Value.str (Str.ofString "") 249)), (DictEntry.mk (PyData.keyHash P (Str.ofString "__loader__")) (Value.str (Str.ofString "__loader__") 251) (Value.builtin "off-the-table:_sre.__loader__:shared#opaque")), (DictEntry.mk (PyData.keyHash P (Str.ofString "__spec__")) (Value.str (Str.ofString "__spec__") 252) (Value.builtin "off-the-table:_sre.__spec__:shared#opaque")), (DictEntry.mk (PyData.keyHash P (Str.ofString "compile")) (Value.str (Str.ofString "compile") 253) (Value.builtin "_sre.compile")), (DictEntry.mk (PyData.keyHash P (Str.ofString "template")) (Value.str (Str.ofString "template") 254) (Value.builtin "off-the-table:_sre.template:shared#opaque")), (DictEntry.mk (PyData.keyHash P (Str.ofString "getcodesize")) (Value.str (Str.ofString "getcodesize") 255) (Value.builtin "off-the-table:_sre.getcodesize:shared#opaque")), (DictEntry.mk (PyData.keyHash P (Str.ofString "ascii_iscased")) (Value.str (Str.ofString "ascii_iscased") 256) (Value.builtin "off-the-table:_sre.ascii_iscased:shared#opaque")), (DictEntry.mk (PyData.keyHash P (Str.ofString "unicode_iscased")) (Value.str (Str.ofString "unicode_iscased") 257) (Value.builtin "off-the-table:_sre.unicode_iscased:shared#opaque")), (DictEntry.mk (PyData.keyHash P (Str.ofString "ascii_tolower")) (Value.str (Str.ofString "ascii_tolower") 258) (Value.builtin "off-the-table:_sre.ascii_tolower:shared#opaque")), (DictEntry.mk (PyData.keyHash P (Str.ofString "unicode_tolower")) (Value.str (Str.ofString "unicode_tolower") 259) (Value.builtin "off-the-table:_sre.unicode_tolower:shared#opaque")), (DictEntry.mk (PyData.keyHash P (Str.ofString "MAGIC")) (Value.str (Str.ofString "MAGIC") 261) (Value.int 20230612 260)), (DictEntry.mk (PyData.keyHash P (Str.ofString "CODESIZE")) (Value.str (Str.ofString "CODESIZE") 263) (Value.int 4 262)), (DictEntry.mk (PyData.keyHash P (Str.ofString "MAXREPEAT")) (Value.str (Str.ofString "MAXREPEAT") 265) (Value.int 4294967295 264)), (DictEntry.mk (PyData.keyHash P (Str.ofString "MAXGROUPS")) (Value.str (Str.ofString "MAXGROUPS") 267) (Value.int 1073741823 266)), (DictEntry.mk (PyData.keyHash P (Str.ofString "copyright")) (Value.str (Str.ofString "copyright") 269) (Value.str (Str.ofString " SRE 2.2.2 Copyright (c) 1997-2002 by Secret Labs AB ") 268))] 17) #[])) ::
  (nat_lit 12, (Obj.mk (Value.type "module") (some 11) Data.plain #[])) ::
  (nat_lit 35, (Obj.mk (Value.type "tuple") none (Data.seq #[(Value.int 14 0), (Value.int 14 0), (Value.int 4 0), (Value.int 1 0), (Value.int 1 0), (Value.int 9 0), (Value.int 0 0), (Value.int 64 0), (Value.int 0 0), (Value.int 1342177280 0), (Value.int 0 0), (Value.int 0 0), (Value.int 0 0), (Value.int 0 0), (Value.int 0 0), (Value.int 17 0), (Value.int 0 0), (Value.int 13 0), (Value.int 11 0), (Value.int 9 0), (Value.int 0 0), (Value.int 64 0), (Value.int 0 0), (Value.int 1342177280 0), (Value.int 0 0), (Value.int 0 0), (Value.int 0 0), (Value.int 0 0), (Value.int 0 0), (Value.int 17 0), (Value.int 1 0), (Value.int 1 0)] 0) #[])) ::
  (nat_lit 36, (Obj.mk (Value.type "re.Pattern") none (Data.fields #[(Value.str (Str.ofString "([&~|])") 285), (Value.int 32 320), (Value.int 1 0), Value.none, Value.none, (Value.ref 35), (Value.int 0 0)]) #[])) ::
  (nat_lit 37, (Obj.mk (Value.type "tuple") none (Data.seq #[] 0) #[])) ::
  (nat_lit 39, (Obj.mk (Value.type "tuple") none (Data.seq #[(Value.str (Str.ofString "pat") 325), (Value.str (Str.ofString "STAR") 326), (Value.str (Str.ofString "parts") 327)] 0) #[])) ::
  (nat_lit 40, (Obj.mk (Value.type "tuple") none (Data.seq #[] 0) #[])) ::
  (nat_lit 42, (Obj.mk (Value.type "code") none (Data.fields #[(Value.str (Str.ofString "translate") 322), (Value.str (Str.ofString "translate") 323), (Value.str (Str.ofString "/claim/cut.py") 324), (Value.int 4 0), (Value.int 1 0), (Value.int 0 0), (Value.int 0 0), (Value.int 3 0), (Value.ref 37), (Value.bool Bool.true), (Value.int 276 0), (Value.ref 38), Value.none, (Value.ref 39), (Value.ref 40), (Value.ref 41), (Value.int 328 0), (Value.int 4 0), (Value.str (Str.ofString "/claim/cut.py") 329)]) #[])) ::
  (nat_lit 43, (Obj.mk (Value.type "function") none (Data.func (FuncData.mk (Str.ofString "translate") (Str.ofString "translate") (fArgs (stAt 3)) (.stmts (fBody (stAt 3))) (fScope (stAt 3)) 3 [] Value.none Value.none Value.none (Value.str (Str.ofString "cpy313.fnmatch") 282) none (Value.ref 42) Value.none 0)) #[])) ::
  (nat_lit 45, (Obj.mk (Value.type "dict") none (Data.dict #[(DictEntry.mk 40 (Value.int 40 334) (Value.str (Str.ofString "\\(") 338)), (DictEntry.mk 41 (Value.int 41 340) (Value.str (Str.ofString "\\)") 344)), (DictEntry.mk 91 (Value.int 91 346) (Value.str (Str.ofString "\\[") 350)), (DictEntry.mk 93 (Value.int 93 352) (Value.str (Str.ofString "\\]") 356)), (DictEntry.mk 123 (Value.int 123 358) (Value.str (Str.ofString "\\{") 362)), (DictEntry.mk 125 (Value.int 125 364) (Value.str (Str.ofString "\\}") 368)), (DictEntry.mk 63 (Value.int 63 370) (Value.str (Str.ofString "\\?") 374)), (DictEntry.mk 42 (Value.int 42 376) (Value.str (Str.ofString "\\*") 380)), (DictEntry.mk 43 (Value.int 43 382) (Value.str (Str.ofString "\\+") 386)), (DictEntry.mk 45 (Value.int 45 388) (Value.str (Str.ofString "\\-") 392)), (DictEntry.mk 124 (Value.int 124 394) (Value.str (Str.ofString "\\|") 398)), (DictEntry.mk 94 (Value.int 94 400) (Value.str (Str.ofString "\\^") 404)), (DictEntry.mk 36 (Value.int 36 406) (Value.str (Str.ofString "\\$") 410)), (DictEntry.mk 92 (Value.int 92 412) (Value.str (Str.ofString "\\\\") 416)), (DictEntry.mk 46 (Value.int 46 418) (Value.str (Str.ofString "\\.") 422)), (DictEntry.mk 38 (Value.int 38 424) (Value.str (Str.ofString "\\&") 428)), (DictEntry.mk 126 (Value.int 126 430) (Value.str (Str.ofString "\\~") 434)), (DictEntry.mk 35 (Value.int 35 436) (Value.str (Str.ofString "\\#") 440)), (DictEntry.mk 32 (Value.int 32 442) (Value.str (Str.ofString "\\ ") 446)), (DictEntry.mk 9 (Value.int 9 448) (Value.str (Str.ofString "\\\t") 452)), (DictEntry.mk 10 (Value.int 10 454) (Value.str (Str.ofString "\\\n") 458)), (DictEntry.mk 13 (Value.int 13 460) (Value.str (Str.ofString "\\\x0d") 464)), (DictEntry.mk 11 (Value.int 11 466) (Value.str (Str.ofString "\\\x0b") 470)), (DictEntry.mk 12 (Value.int 12 472) (Value.str (Str.ofString "\\\x0c") 476))] 24) #[])) ::
  (nat_lit 49, (Obj.mk (Value.type "tuple") none (Data.seq #[] 0) #[])) ::
  (nat_lit 51, (Obj.mk (Value.type "tuple") none (Data.seq #[(Value.str (Str.ofString "pattern") 482)] 0) #[])) ::
  (nat_lit 52, (Obj.mk (Value.type "tuple") none (Data.seq #[] 0) #[])) ::
  (nat_lit 54, (Obj.mk (Value.type "code") none (Data.fields #[(Value.str (Str.ofString "escape") 479), (Value.str (Str.ofString "escape") 480), (Value.str (Str.ofString "/claim/cut.py") 481), (Value.int 10 0), (Value.int 1 0), (Value.int 0 0), (Value.int 0 0), (Value.int 3 0), (Value.ref 49), (Value.bool Bool.true), (Value.int 276 0), (Value.ref 50), Value.none, (Value.ref 51), (Value.ref 52), (Value.ref 53), (Value.int 483 0), (Value.int 10 0), (Value.str (Str.ofString "/claim/cut.py") 484)]) #[])) ::
  (nat_lit 55, (Obj.mk (Value.type "function") none (Data.func (FuncData.mk (Str.ofString "escape") (Str.ofString "escape") (fArgs (stAt 6)) (.stmts (fBody (stAt 6))) (fScope (stAt 6)) 3 [] Value.none Value.none Value.none (Value.str (Str.ofString "re") 331) none (Value.ref 54) Value.none 0)) #[])) ::
  (nat_lit 56, (Obj.mk (Value.type "tuple") none (Data.seq #[] 0) #[])) ::
  (nat_lit 58, (Obj.mk (Value.type "tuple") none (Data.seq #[(Value.str (Str.ofString "pat") 491), (Value.str (Str.ofString "STAR") 492), (Value.str (Str.ofString "QUESTION_MARK") 493), (Value.str (Str.ofString "res") 494), (Value.str (Str.ofString "add") 495), (Value.str (Str.ofString "i") 496), (Value.str (Str.ofString "n") 497), (Value.str (Str.ofString "c") 498), (Value.str (Str.ofString "j") 499), (Value.str (Str.ofString "stuff") 500), (Value.str (Str.ofString "chunks") 501), (Value.str (Str.ofString "k") 502), (Value.str (Str.ofString "chunk") 503)] 0) #[])) ::
  (nat_lit 59, (Obj.mk (Value.type "tuple") none (Data.seq #[] 0) #[])) ::
  (nat_lit 61, (Obj.mk (Value.type "code") none (Data.fields #[(Value.str (Str.ofString "_translate") 488), (Value.str (Str.ofString "_translate") 489), (Value.str (Str.ofString "/claim/cut.py") 490), (Value.int 17 0), (Value.int 3 0), (Value.int 0 0), (Value.int 0 0), (Value.int 3 0), (Value.ref 56), (Value.bool Bool.true), (Value.int 276 0), (Value.ref 57), Value.none, (Value.ref 58), (Value.ref 59), (Value.ref 60), (Value.int 504 0), (Value.int 17 0), (Value.str (Str.ofString "/claim/cut.py") 505)]) #[])) ::
  (nat_lit 62, (Obj.mk (Value.type "function") none (Data.func (FuncData.mk (Str.ofString "_translate") (Str.ofString "_translate") (fArgs (stAt 8)) (.stmts (fBody (stAt 8))) (fScope (stAt 8)) 3 [] Value.none Value.none Value.none (Value.str (Str.ofString "cpy313.fnmatch") 486) none (Value.ref 61) Value.none 0)) #[])) ::
  (nat_lit 63, (Obj.mk (Value.type "tuple") none (Data.seq #[] 0) #[])) ::
  (nat_lit 65, (Obj.mk (Value.type "tuple") none (Data.seq #[(Value.str (Str.ofString "inp") 510), (Value.str (Str.ofString "STAR") 511), (Value.str (Str.ofString "res") 512), (Value.str (Str.ofString "add") 513), (Value.str (Str.ofString "i") 514), (Value.str (Str.ofString "n") 515), (Value.str (Str.ofString "fixed") 516)] 0) #[])) ::
  (nat_lit 66, (Obj.mk (Value.type "tuple") none (Data.seq #[] 0) #[])) ::
  (nat_lit 68, (Obj.mk (Value.type "code") none (Data.fields #[(Value.str (Str.ofString "_join_translated_parts") 507), (Value.str (Str.ofString "_join_translated_parts") 508), (Value.str (Str.ofString "/claim/cut.py") 509), (Value.int 79 0), (Value.int 2 0), (Value.int 0 0), (Value.int 0 0), (Value.int 3 0), (Value.ref 63), (Value.bool Bool.true), (Value.int 276 0), (Value.ref 64), Value.none, (Value.ref 65), (Value.ref 66), (Value.ref 67), (Value.int 517 0), (Value.int 79 0), (Value.str (Str.ofString "/claim/cut.py") 518)]) #[])) ::
  (nat_lit 69, (Obj.mk (Value.type "function") none (Data.func (FuncData.mk (Str.ofString "_join_translated_parts") (Str.ofString "_join_translated_parts") (fArgs (stAt 9)) (.stmts (fBody (stAt 9))) (fScope (stAt 9)) 3 [] Value.none Value.none Value.none (Value.str (Str.ofString "cpy313.fnmatch") 486) none (Value.ref 68) Value.none 0)) #[])) ::
  (nat_lit 77, (Obj.mk (Value.type "tuple") none (Data.seq #[(Value.str (Str.ofString "_it") 534), (Value.str (Str.ofString "_func") 535)] 0) #[])) ::
  (nat_lit 78, (Obj.mk (Value.type "tuple") none (Data.seq #[] 0) #[])) ::
  (nat_lit 80, (Obj.mk (Value.type "tuple") none (Data.seq #[(Value.str (Str.ofString "self") 540), (Value.str (Str.ofString "function") 541), (Value.str (Str.ofString "iterable") 542)] 0) #[])) ::
  (nat_lit 81, (Obj.mk (Value.type "tuple") none (Data.seq #[] 0) #[])) ::
  (nat_lit 83, (Obj.mk (Value.type "code") none (Data.fields #[(Value.str (Str.ofString "__init__") 537), (Value.str (Str.ofString "filterfalse.__init__") 538), (Value.str (Str.ofString "/claim/cut.py") 539), (Value.int 110 0), (Value.int 3 0), (Value.int 3 0), (Value.int 0 0), (Value.int 3 0), (Value.ref 78), (Value.bool Bool.true), (Value.int 276 0), (Value.ref 79), Value.none, (Value.ref 80), (Value.ref 81), (Value.ref 82), (Value.int 543 0), (Value.int 110 0), (Value.str (Str.ofString "/claim/cut.py") 544)]) #[])) ::
  (nat_lit 84, (Obj.mk (Value.type "function") none (Data.func (FuncData.mk (Str.ofString "__init__") (Str.ofString "filterfalse.__init__") (fArgs (stIn 1)) (.stmts (fBody (stIn 1))) (fScope (stIn 1)) 3 [] Value.none Value.none Value.none (Value.str (Str.ofString "itertools") 520) none (Value.ref 83) Value.none 0)) #[])) ::
  (nat_lit 85, (Obj.mk (Value.type "tuple") none (Data.seq #[] 0) #[])) ::
  (nat_lit 87, (Obj.mk (Value.type "tuple") none (Data.seq #[(Value.str (Str.ofString "self") 549)] 0) #[])) ::
  (nat_lit 88, (Obj.mk (Value.type "tuple") none (Data.seq #[] 0) #[])) ::
  (nat_lit 90, (Obj.mk (Value.type "code") none (Data.fields #[(Value.str (Str.ofString "__iter__") 546), (Value.str (Str.ofString "filterfalse.__iter__") 547), (Value.str (Str.ofString "/claim/cut.py") 548), (Value.int 114 0), (Value.int 1 0), (Value.int 0 0), (Value.int 0 0), (Value.int 3 0), (Value.ref 85), (Value.bool Bool.true), (Value.int 276 0), (Value.ref 86), Value.none, (Value.ref 87), (Value.ref 88), (Value.ref 89), (Value.int 550 0), (Value.int 114 0), (Value.str (Str.ofString "/claim/cut.py") 551)]) #[])) ::
  (nat_lit 91, (Obj.mk (Value.type "function") none (Data.func (FuncData.mk (Str.ofString "__iter__") (Str.ofString "filterfalse.__iter__") (fArgs (stIn 2)) (.stmts (fBody (stIn 2))) (fScope (stIn 2)) 3 [] Value.none Value.none Value.none (Value.str (Str.ofString "itertools") 520) none (Value.ref 90) Value.none 0)) #[])) ::
  (nat_lit 92, (Obj.mk (Value.type "tuple") none (Data.seq #[] 0) #[])) ::
  (nat_lit 94, (Obj.mk (Value.type "tuple") none (Data.seq #[(Value.str (Str.ofString "self") 556), (Value.str (Str.ofString "func") 557), (Value.str (Str.ofString "item") 558)] 0) #[])) ::
  (nat_lit 95, (Obj.mk (Value.type "tuple") none (Data.seq #[] 0) #[])) ::
  (nat_lit 97, (Obj.mk (Value.type "code") none (Data.fields #[(Value.str (Str.ofString "__next__") 553), (Value.str (Str.ofString "filterfalse.__next__") 554), (Value.str (Str.ofString "/claim/cut.py") 555), (Value.int 117 0), (Value.int 1 0), (Value.int 0 0), (Value.int 0 0), (Value.int 3 0), (Value.ref 92), (Value.bool Bool.true), (Value.int 276 0), (Value.ref 93), Value.none, (Value.ref 94), (Value.ref 95), (Value.ref 96), (Value.int 559 0), (Value.int 117 0), (Value.str (Str.ofString "/claim/cut.py") 560)]) #[])) ::
  (nat_lit 98, (Obj.mk (Value.type "function") none (Data.func (FuncData.mk (Str.ofString "__next__") (Str.ofString "filterfalse.__next__") (fArgs (stIn 3)) (.stmts (fBody (stIn 3))) (fScope (stIn 3)) 3 [] Value.none Value.none Value.none (Value.str (Str.ofString "itertools") 520) none (Value.ref 97) Value.none 0)) #[])) ::
  (nat_lit 99, (Obj.mk (Value.type "tuple") none (Data.seq #[(Value.str (Str.ofString "_func") 562), (Value.str (Str.ofString "_it") 563)] 0) #[])) ::
  (nat_lit 101, (Obj.mk (Value.type "dict") none (Data.dict #[(DictEntry.mk (PyData.keyHash P (Str.ofString "__module__")) (Value.str (Str.ofString "__module__") 529) (Value.str (Str.ofString "itertools") 520)), (DictEntry.mk (PyData.keyHash P (Str.ofString "__firstlineno__")) (Value.str (Str.ofString "__firstlineno__") 533) (Value.int 107 532)), (DictEntry.mk (PyData.keyHash P (Str.ofString "__slots__")) (Value.str (Str.ofString "__slots__") 536) (Value.ref 77)), (DictEntry.mk (PyData.keyHash P (Str.ofString "__init__")) (Value.str (Str.ofString "__init__") 545) (Value.ref 84)), (DictEntry.mk (PyData.keyHash P (Str.ofString "__iter__")) (Value.str (Str.ofString "__iter__") 552) (Value.ref 91)), (DictEntry.mk (PyData.keyHash P (Str.ofString "__next__")) (Value.str (Str.ofString "__next__") 561) (Value.ref 98)), (DictEntry.mk (PyData.keyHash P (Str.ofString "__static_attributes__")) (Value.str (Str.ofString "__static_attributes__") 564) (Value.ref 99)), (DictEntry.mk (PyData.keyHash P (Str.ofString "_func")) (Value.str (Str.ofString "_func") 566) (Value.ref 103)), (DictEntry.mk (PyData.keyHash P (Str.ofString "_it")) (Value.str (Str.ofString "_it") 568) (Value.ref 104)), (DictEntry.mk (PyData.keyHash P (Str.ofString "__doc__")) (Value.str (Str.ofString "__doc__") 569) Value.none)] 4) #[])) ::
  (nat_lit 102, (Obj.mk (Value.type "type") none (Data.cls (ClassData.mk (Str.ofString "filterfalse") [(Value.type "object")] [(Value.ref 102), (Value.type "object")] 101 (Str.ofString "filterfalse") Bool.false [(Str.ofString "_func"), (Str.ofString "_it")] [] Bool.false none Bool.false)) #[none, none, (some (Value.str (Str.ofString "filterfalse") 522)), (some (Value.str (Str.ofString "filterfalse") 530)), (some (Value.builtin "object.__new__")), (some (Value.bool Bool.false))])) ::
  (nat_lit 103, (Obj.mk (Value.type "member_descriptor") none (Data.fields #[(Value.str (Str.ofString "_func") 565), (Value.ref 102), (Value.builtin "proto.slot"), (Value.builtin "proto.slot#set"), (Value.int 1 0)]) #[])) ::
  (nat_lit 104, (Obj.mk (Value.type "member_descriptor") none (Data.fields #[(Value.str (Str.ofString "_it") 567), (Value.ref 102), (Value.builtin "proto.slot"), (Value.builtin "proto.slot#set"), (Value.int 0 0)]) #[])) ::
  (nat_lit 107, (Obj.mk (Value.type "tuple") none (Data.seq #[] 0) #[])) ::
  (nat_lit 109, (Obj.mk (Value.type "tuple") none (Data.seq #[(Value.str (Str.ofString "flist") 577), (Value.str (Str.ofString "skip") 578)] 0) #[])) ::
  (nat_lit 110, (Obj.mk (Value.type "tuple") none (Data.seq #[] 0) #[])) ::
  (nat_lit 112, (Obj.mk (Value.type "code") none (Data.fields #[(Value.str (Str.ofString "_filter") 574), (Value.str (Str.ofString "_filter") 575), (Value.str (Str.ofString "/claim/cut.py") 576), (Value.int 127 0), (Value.int 2 0), (Value.int 0 0), (Value.int 0 0), (Value.int 3 0), (Value.ref 107), (Value.bool Bool.true), (Value.int 276 0), (Value.ref 108), Value.none, (Value.ref 109), (Value.ref 110), (Value.ref 111), (Value.int 579 0), (Value.int 127 0), (Value.str (Str.ofString "/claim/cut.py") 580)]) #[])) ::
  (nat_lit 113, (Obj.mk (Value.type "function") none (Data.func (FuncData.mk (Str.ofString "_filter") (Str.ofString "_filter") (fArgs (stAt 13)) (.stmts (fBody (stAt 13))) (fScope (stAt 13)) 3 [] Value.none Value.none Value.none (Value.str (Str.ofString "cpy313.filecmp") 572) none (Value.ref 112) Value.none 0)) #[])) ::
  (nat_lit 114, (Obj.mk (Value.type "tuple") none (Data.seq #[(Value.bool Bool.false)] 0) #[])) ::
  (nat_lit 115, (Obj.mk (Value.type "tuple") none (Data.seq #[] 0) #[])) ::
  (nat_lit 117, (Obj.mk (Value.type "tuple") none (Data.seq #[(Value.str (Str.ofString "obj") 589), (Value.str (Str.ofString "short") 590), (Value.str (Str.ofString "result") 591)] 0) #[])) ::
  (nat_lit 118, (Obj.mk (Value.type "tuple") none (Data.seq #[] 0) #[])) ::
  (nat_lit 120, (Obj.mk (Value.type "code") none (Data.fields #[(Value.str (Str.ofString "safe_repr") 586), (Value.str (Str.ofString "safe_repr") 587), (Value.str (Str.ofString "/claim/cut.py") 588), (Value.int 131 0), (Value.int 2 0), (Value.int 0 0), (Value.int 0 0), (Value.int 3 0), (Value.ref 115), (Value.bool Bool.true), (Value.int 276 0), (Value.ref 116), Value.none, (Value.ref 117), (Value.ref 118), (Value.ref 119), (Value.int 592 0), (Value.int 131 0), (Value.str (Str.ofString "/claim/cut.py") 593)]) #[])) ::
  (nat_lit 121, (Obj.mk (Value.type "function") none (Data.func (FuncData.mk (Str.ofString "safe_repr") (Str.ofString "safe_repr") (fArgs (stAt 16)) (.stmts (fBody (stAt 16))) (fScope (stAt 16)) 3 [] (Value.ref 114) Value.none Value.none (Value.str (Str.ofString "cpy313.unittest.util") 582) none (Value.ref 120) Value.none 0)) #[])) ::
  (nat_lit 122, (Obj.mk (Value.type "tuple") none (Data.seq #[] 0) #[])) ::
  (nat_lit 124, (Obj.mk (Value.type "tuple") none (Data.seq #[(Value.str (Str.ofString "expected") 598), (Value.str (Str.ofString "actual") 599), (Value.str (Str.ofString "i") 600), (Value.str (Str.ofString "j") 601), (Value.str (Str.ofString "missing") 602), (Value.str (Str.ofString "unexpected") 603), (Value.str (Str.ofString "e") 604), (Value.str (Str.ofString "a") 605)] 0) #[])) ::
  (nat_lit 125, (Obj.mk (Value.type "tuple") none (Data.seq #[] 0) #[])) ::
  (nat_lit 127, (Obj.mk (Value.type "code") none (Data.fields #[(Value.str (Str.ofString "sorted_list_difference") 595), (Value.str (Str.ofString "sorted_list_difference") 596), (Value.str (Str.ofString "/claim/cut.py") 597), (Value.int 139 0), (Value.int 2 0), (Value.int 0 0), (Value.int 0 0), (Value.int 3 0), (Value.ref 122), (Value.bool Bool.true), (Value.int 276 0), (Value.ref 123), Value.none, (Value.ref 124), (Value.ref 125), (Value.ref 126), (Value.int 606 0), (Value.int 139 0), (Value.str (Str.ofString "/claim/cut.py") 607)]) #[])) ::
  (nat_lit 128, (Obj.mk (Value.type "function") none (Data.func (FuncData.mk (Str.ofString "sorted_list_difference") (Str.ofString "sorted_list_difference") (fArgs (stAt 17)) (.stmts (fBody (stAt 17))) (fScope (stAt 17)) 3 [] Value.none Value.none Value.none (Value.str (Str.ofString "cpy313.unittest.util") 582) none (Value.ref 127) Value.none 0)) #[])) ::
  (nat_lit 129, (Obj.mk (Value.type "tuple") none (Data.seq #[] 0) #[])) ::
  (nat_lit 131, (Obj.mk (Value.type "tuple") none (Data.seq #[(Value.str (Str.ofString "script") 614), (Value.str (Str.ofString "rows") 615), (Value.str (Str.ofString "x") 616), (Value.str (Str.ofString "number") 617)] 0) #[])) ::
  (nat_lit 132, (Obj.mk (Value.type "tuple") none (Data.seq #[] 0) #[])) ::
  (nat_lit 134, (Obj.mk (Value.type "code") none (Data.fields #[(Value.str (Str.ofString "_law_rows") 611), (Value.str (Str.ofString "_law_rows") 612), (Value.str (Str.ofString "/claim/cut.py") 613), (Value.int 172 0), (Value.int 1 0), (Value.int 0 0), (Value.int 0 0), (Value.int 3 0), (Value.ref 129), (Value.bool Bool.true), (Value.int 276 0), (Value.ref 130), Value.none, (Value.ref 131), (Value.ref 132), (Value.ref 133), (Value.int 618 0), (Value.int 172 0), (Value.str (Str.ofString "/claim/cut.py") 619)]) #[])) ::
  (nat_lit 135, (Obj.mk (Value.type "function") none (Data.func (FuncData.mk (Str.ofString "_law_rows") (Str.ofString "_law_rows") (fArgs (stAt 19)) (.stmts (fBody (stAt 19))) (fScope (stAt 19)) 3 [] Value.none Value.none Value.none (Value.str (Str.ofString "law_kt0020_01") 609) none (Value.ref 134) Value.none 0)) #[])) ::
  (nat_lit 136, (Obj.mk (Value.type "tuple") none (Data.seq #[] 0) #[])) ::
  (nat_lit 139, (Obj.mk (Value.type "code") none (Data.fields #[(Value.str (Str.ofString "_law_told") 621), (Value.str (Str.ofString "_law_told") 622), (Value.str (Str.ofString "/claim/cut.py") 623), (Value.int 181 0), (Value.int 2 0), (Value.int 0 0), (Value.int 0 0), (Value.int 3 0), (Value.ref 136), (Value.bool Bool.true), (Value.int 276 0), (Value.ref 137), Value.none, Value.none, Value.none, (Value.ref 138), (Value.int 624 0), (Value.int 181 0), (Value.str (Str.ofString "/claim/cut.py") 625)]) #[])) ::
  (nat_lit 140, (Obj.mk (Value.type "function") none (Data.func (FuncData.mk (Str.ofString "_law_told") (Str.ofString "_law_told") (fArgs (stAt 20)) (.stmts (fBody (stAt 20))) (fScope (stAt 20)) 3 [] Value.none Value.none Value.none (Value.str (Str.ofString "law_kt0020_01") 609) none (Value.ref 139) Value.none 0)) #[])) ::
  (nat_lit 141, (Obj.mk (Value.type "tuple") none (Data.seq #[] 0) #[])) ::
  (nat_lit 143, (Obj.mk (Value.type "tuple") none (Data.seq #[(Value.str (Str.ofString "rows") 630), (Value.str (Str.ofString "items") 631), (Value.str (Str.ofString "last") 632), (Value.str (Str.ofString "k") 633)] 0) #[])) ::
  (nat_lit 144, (Obj.mk (Value.type "tuple") none (Data.seq #[] 0) #[])) ::
  (nat_lit 146, (Obj.mk (Value.type "code") none (Data.fields #[(Value.str (Str.ofString "_law_items") 627), (Value.str (Str.ofString "_law_items") 628), (Value.str (Str.ofString "/claim/cut.py") 629), (Value.int 202 0), (Value.int 1 0), (Value.int 0 0), (Value.int 0 0), (Value.int 3 0), (Value.ref 141), (Value.bool Bool.true), (Value.int 276 0), (Value.ref 142), Value.none, (Value.ref 143), (Value.ref 144), (Value.ref 145), (Value.int 634 0), (Value.int 202 0), (Value.str (Str.ofString "/claim/cut.py") 635)]) #[])) ::
  (nat_lit 147, (Obj.mk (Value.type "function") none (Data.func (FuncData.mk (Str.ofString "_law_items") (Str.ofString "_law_items") (fArgs (stAt 21)) (.stmts (fBody (stAt 21))) (fScope (stAt 21)) 3 [] Value.none Value.none Value.none (Value.str (Str.ofString "law_kt0020_01") 609) none (Value.ref 146) Value.none 0)) #[])) ::
  (nat_lit 148, (Obj.mk (Value.type "tuple") none (Data.seq #[] 0) #[])) ::
  (nat_lit 151, (Obj.mk (Value.type "code") none (Data.fields #[(Value.str (Str.ofString "_law_signs") 637), (Value.str (Str.ofString "_law_signs") 638), (Value.str (Str.ofString "/claim/cut.py") 639), (Value.int 218 0), (Value.int 1 0), (Value.int 0 0), (Value.int 0 0), (Value.int 3 0), (Value.ref 148), (Value.bool Bool.true), (Value.int 276 0), (Value.ref 149), Value.none, Value.none, Value.none, (Value.ref 150), (Value.int 640 0), (Value.int 218 0), (Value.str (Str.ofString "/claim/cut.py") 641)]) #[])) ::
  (nat_lit 152, (Obj.mk (Value.type "function") none (Data.func (FuncData.mk (Str.ofString "_law_signs") (Str.ofString "_law_signs") (fArgs (stAt 22)) (.stmts (fBody (stAt 22))) (fScope (stAt 22)) 3 [] Value.none Value.none Value.none (Value.str (Str.ofString "law_kt0020_01") 609) none (Value.ref 151) Value.none 0)) #[])) ::
  (nat_lit 153, (Obj.mk (Value.type "tuple") none (Data.seq #[] 0) #[])) ::
  (nat_lit 156, (Obj.mk (Value.type "code") none (Data.fields #[(Value.str (Str.ofString "law") 643), (Value.str (Str.ofString "law") 644), (Value.str (Str.ofString "/claim/cut.py") 645), (Value.int 243 0), (Value.int 1 0), (Value.int 0 0), (Value.int 0 0), (Value.int 3 0), (Value.ref 153), (Value.bool Bool.true), (Value.int 276 0), (Value.ref 154), Value.none, Value.none, Value.none, (Value.ref 155), (Value.int 646 0), (Value.int 243 0), (Value.str (Str.ofString "/claim/cut.py") 647)]) #[])) ::
  (nat_lit 157, (Obj.mk (Value.type "function") none (Data.func (FuncData.mk (Str.ofString "law") (Str.ofString "law") (fArgs (stAt 23)) (.stmts (fBody (stAt 23))) (fScope (stAt 23)) 3 [] Value.none Value.none Value.none (Value.str (Str.ofString "law_kt0020_01") 609) none (Value.ref 156) Value.none 0)) #[])) :: []


noncomputable def vw : Program := view Challenge.pw_kt0020_01 [0, 2, 3, 5, 6, 8, 9, 11, 13, 15, 17, 19, 20, 21, 22, 23]
noncomputable abbrev loose0 : List Str := [Str.ofString "_twin_re_1", Str.ofString "_special_chars_map", Str.ofString "filterfalse", Str.ofString "safe_repr"]
noncomputable abbrev as0 : List Addr := 3 :: 6 :: 11 :: 12 :: 35 :: 36 :: 37 :: 39 :: 40 :: 42 :: 43 :: 45 :: 49 :: 51 :: 52 :: 54 :: 55 :: 56 :: 58 :: 59 :: 61 :: 62 :: 63 :: 65 :: 66 :: 68 :: 69 :: 77 :: 78 :: 80 :: 81 :: 83 :: 84 :: 85 :: 87 :: 88 :: 90 :: 91 :: 92 :: 94 :: 95 :: 97 :: 98 :: 99 :: 101 :: 102 :: 103 :: 104 :: 107 :: 109 :: 110 :: 112 :: 113 :: 114 :: 115 :: 117 :: 118 :: 120 :: 121 :: 122 :: 124 :: 125 :: 127 :: 128 :: 129 :: 131 :: 132 :: 134 :: 135 :: 136 :: 139 :: 140 :: 141 :: 143 :: 144 :: 146 :: 147 :: 148 :: 151 :: 152 :: 153 :: 156 :: 157 :: []
noncomputable abbrev hook0 : Hook := kmHook KF as0 (fun _ => by kernel_rfl) [57]
noncomputable abbrev Xt0 (s : Shared) : Bool := xlAt vw [] s && recOk (RowW.records (Challenge.rw_kt0020_01.row.toRowW)) s
noncomputable abbrev PW (w : World) : Prop := (openEnds treeTable Challenge.rw_kt0020_01.row.prog w 4322).map (fun s => (openSeen vw loose0 (importedModules Challenge.rw_kt0020_01.row.prog.main.body) Xt0 true s, hook0.obs s)) = some (openGood vw loose0, hook0.val w)
theorem pw00 (w : World) : PW ((w.withFollow "special-get-raises" false).withFollow "comprehension-iter-twice" false) := by
  unfold PW openEnds fencedOpening topFrom
  rw [Fast.te10274390034422433532, Fast.te14364793385576792824, Fast.te14289696077712309145, Fast.te1435165496053646825, Fast.te14082659384304107361, Fast.te8920871248978507458, Fast.te4187177175401517315]
  kernel_rfl
theorem pw01 (w : World) : PW ((w.withFollow "special-get-raises" true).withFollow "comprehension-iter-twice" false) := by
  unfold PW openEnds fencedOpening topFrom
  rw [Fast.te10274390034422433532, Fast.te14364793385576792824, Fast.te14289696077712309145, Fast.te1435165496053646825, Fast.te14082659384304107361, Fast.te8920871248978507458, Fast.te4187177175401517315]
  kernel_rfl
theorem pw10 (w : World) : PW ((w.withFollow "special-get-raises" false).withFollow "comprehension-iter-twice" true) := by
  unfold PW openEnds fencedOpening topFrom
  rw [Fast.te10274390034422433532, Fast.te14364793385576792824, Fast.te14289696077712309145, Fast.te1435165496053646825, Fast.te14082659384304107361, Fast.te8920871248978507458, Fast.te4187177175401517315]
  kernel_rfl
theorem pw11 (w : World) : PW ((w.withFollow "special-get-raises" true).withFollow "comprehension-iter-twice" true) := by
  unfold PW openEnds fencedOpening topFrom
  rw [Fast.te10274390034422433532, Fast.te14364793385576792824, Fast.te14289696077712309145, Fast.te1435165496053646825, Fast.te14082659384304107361, Fast.te8920871248978507458, Fast.te4187177175401517315]
  kernel_rfl
theorem left0 : LeftO Challenge.rw_kt0020_01.row.prog vw loose0 Xt0 hook0.obs hook0.val 4322 :=
  byRow2 "comprehension-iter-twice" (P := PW) (byRow2 "special-get-raises" (P := fun w => PW (w.withFollow "comprehension-iter-twice" false)) pw00 pw01) (byRow2 "special-get-raises" (P := fun w => PW (w.withFollow "comprehension-iter-twice" true)) pw10 pw11)
end Mine
end

section
open PySem PySem.W PyProof.Rows PySem.Calls
set_option Elab.async false
set_option maxRecDepth 100000
set_option maxHeartbeats 4000000
set_option linter.unusedVariables false
namespace Mine

inductive AV where
  | none | bool (b : Bool) | int (i : Int) | str (s : List Nat)
  | list (xs : List AV) | tup (xs : List AV)
  | ref (a : Addr) | bi (id : String) | ty (n : String)
  | bm (T id : String) (self : AV)

noncomputable abbrev PH := Addr → Option Obj

noncomputable def lob (items : Array Value) (n : Nat) (sl : Array (Option Value)) : Obj := { cls := .type "list", data := .seq items n, slots := sl }
noncomputable def bob (T id : String) (self : Value) : Obj := { cls := .type T, data := .fields #[.builtin id, self] }
noncomputable def tob (items : Array Value) (n : Nat) (sl : Array (Option Value)) : Obj := { cls := .type "tuple", data := .seq items n, slots := sl }

mutual
inductive Conc (φ : PH) : AV → Value → Prop
  | none : Conc φ .none .none
  | bool (b : Bool) : Conc φ (.bool b) (.bool b)
  | int (i : Int) (t : Tok) : Conc φ (.int i) (.int i t)
  | str (s : List Nat) (t : Tok) : Conc φ (.str s) (.str ⟨s.toArray⟩ t)
  | list {xs : List AV} {a : Addr} {items : Array Value} {n : Nat} {sl : Array (Option Value)} (h : φ a = some (lob items n sl)) (hs : Concs φ xs items.toList) : Conc φ (.list xs) (.ref a)
  | tup {xs : List AV} {a : Addr} {items : Array Value} {n : Nat} {sl : Array (Option Value)} (h : φ a = some (tob items n sl)) (hs : Concs φ xs items.toList) : Conc φ (.tup xs) (.ref a)
  | ref (a : Addr) : Conc φ (.ref a) (.ref a)
  | bi (id : String) : Conc φ (.bi id) (.builtin id)
  | ty (n : String) : Conc φ (.ty n) (.type n)
  | bm {T id : String} {self : AV} {a : Addr} {v : Value} (h : φ a = some (bob T id v)) (hs : Conc φ self v) : Conc φ (.bm T id self) (.ref a)
inductive Concs (φ : PH) : List AV → List Value → Prop
  | nil : Concs φ [] []
  | cons {x : AV} {v : Value} {xs : List AV} {vs : List Value} (h : Conc φ x v) (hs : Concs φ xs vs) : Concs φ (x :: xs) (v :: vs)
end

noncomputable def PLe (φ φ' : PH) : Prop := ∀ a o, φ a = some o → φ' a = some o
theorem PLe.refl (φ : PH) : PLe φ φ := fun _ _ e => e
theorem PLe.trans {a b c : PH} (x : PLe a b) (y : PLe b c) : PLe a c := fun _ _ e => y _ _ (x _ _ e)

theorem Conc.mono {φ φ' : PH} (k : PLe φ φ') {x : AV} {v : Value} (h : Conc φ x v) : Conc φ' x v :=
  Conc.rec (motive_1 := fun x v _ => Conc φ' x v) (motive_2 := fun xs vs _ => Concs φ' xs vs) .none .bool .int .str (fun h _ ih => .list (k _ _ h) ih) (fun h _ ih => .tup (k _ _ h) ih) .ref .bi .ty (fun h _ ih => .bm (k _ _ h) ih) .nil (fun _ _ a b => .cons a b) h
theorem Concs.recL {φ : PH} {P : List AV → List Value → Prop} (n : P [] []) (c : ∀ {x v xs vs}, Conc φ x v → Concs φ xs vs → P xs vs → P (x :: xs) (v :: vs)) {xs : List AV} {vs : List Value} (h : Concs φ xs vs) : P xs vs :=
  Concs.rec (motive_1 := fun _ _ _ => True) (motive_2 := fun xs vs _ => P xs vs) trivial (fun _ => trivial) (fun _ _ => trivial) (fun _ _ => trivial) (fun _ _ _ => trivial) (fun _ _ _ => trivial) (fun _ => trivial) (fun _ => trivial) (fun _ => trivial) (fun _ _ _ => trivial) n (fun h hs _ ih => c h hs ih) h
theorem Concs.mono {φ φ' : PH} (k : PLe φ φ') {x : List AV} {v : List Value} (h : Concs φ x v) : Concs φ' x v := h.recL (P := fun x v => Concs φ' x v) .nil fun h _ ih => .cons (h.mono k) ih

theorem Concs.length {φ : PH} {xs vs} (h : Concs φ xs vs) : vs.length = xs.length := h.recL (P := fun xs vs => vs.length = xs.length) rfl fun _ _ ih => congrArg Nat.succ ih
theorem Concs.append {φ : PH} {xs vs ys ws} (h : Concs φ xs vs) (h' : Concs φ ys ws) : Concs φ (xs ++ ys) (vs ++ ws) := h.recL (P := fun xs vs => Concs φ (xs ++ ys) (vs ++ ws)) h' fun h _ ih => .cons h ih
theorem Concs.get {φ : PH} {xs vs} (h : Concs φ xs vs) : ∀ (i : Nat) (x : AV), xs[i]? = some x → ∃ v, vs[i]? = some v ∧ Conc φ x v :=
  h.recL (P := fun xs vs => ∀ (i : Nat) (x : AV), xs[i]? = some x → ∃ v, vs[i]? = some v ∧ Conc φ x v) (fun i x e => by cases e) fun h _ ih i x e => by
    cases i with
    | zero => cases e; exact ⟨_, rfl, h⟩
    | succ i => exact ih i x e
theorem Concs.get' {φ : PH} {xs vs} (h : Concs φ xs vs) : ∀ (i : Nat) (v : Value), vs[i]? = some v → ∃ x, xs[i]? = some x ∧ Conc φ x v :=
  h.recL (P := fun xs vs => ∀ (i : Nat) (v : Value), vs[i]? = some v → ∃ x, xs[i]? = some x ∧ Conc φ x v) (fun i x e => by cases e) fun h _ ih i x e => by
    cases i with
    | zero => cases e; exact ⟨_, rfl, h⟩
    | succ i => exact ih i x e
theorem Concs.take {φ : PH} {xs vs} (h : Concs φ xs vs) : ∀ n, Concs φ (xs.take n) (vs.take n) :=
  h.recL (P := fun xs vs => ∀ n, Concs φ (xs.take n) (vs.take n)) (fun n => by cases n <;> exact .nil) fun h _ ih n => by
    cases n with
    | zero => exact .nil
    | succ n => exact .cons h (ih n)
theorem Concs.drop {φ : PH} {xs vs} (h : Concs φ xs vs) : ∀ n, Concs φ (xs.drop n) (vs.drop n) :=
  h.recL (P := fun xs vs => ∀ n, Concs φ (xs.drop n) (vs.drop n)) (fun n => by cases n <;> exact .nil) fun h hs ih n => by
    cases n with
    | zero => exact .cons h hs
    | succ n => exact ih n
theorem Concs.set {φ : PH} {xs vs} (h : Concs φ xs vs) : ∀ (n : Nat) {x v}, Conc φ x v → Concs φ (xs.set n x) (vs.set n v) :=
  h.recL (P := fun xs vs => ∀ (n : Nat) {x v}, Conc φ x v → Concs φ (xs.set n x) (vs.set n v)) (fun n _ _ _ => by cases n <;> exact .nil) fun h hs ih n _ _ c => by
    cases n with
    | zero => exact .cons c hs
    | succ n => exact .cons h (ih n c)
theorem Concs.eraseIdx {φ : PH} {xs vs} (h : Concs φ xs vs) : ∀ (n : Nat), Concs φ (xs.eraseIdx n) (vs.eraseIdx n) :=
  h.recL (P := fun xs vs => ∀ (n : Nat), Concs φ (xs.eraseIdx n) (vs.eraseIdx n)) (fun n => by cases n <;> exact .nil) fun h hs ih n => by
    cases n with
    | zero => exact hs
    | succ n => exact .cons h (ih n)

structure St where
  m : Str → Option AV
  mu : Addr → Option (List AV)

noncomputable def St.set (σ : St) (x : Str) (a : AV) : St := { σ with m := fun y => if y = x then some a else σ.m y }
noncomputable def St.put (σ : St) (a : Addr) (xs : List AV) : St := { σ with mu := fun b => if b = a then some xs else σ.mu b }
@[simp] theorem St.set_mu (σ : St) (x a) : (σ.set x a).mu = σ.mu := rfl
@[simp] theorem St.put_m (σ : St) (x a) : (σ.put x a).m = σ.m := rfl
theorem St.set_get (σ : St) (x a) : (σ.set x a).m x = some a := by simp [St.set]
theorem St.set_get_ne (σ : St) {x y : Str} (a) (h : y ≠ x) : (σ.set x a).m y = σ.m y := by simp [St.set, h]
theorem St.put_get (σ : St) (x a) : (σ.put x a).mu x = some a := by simp [St.put]
theorem St.put_get_ne (σ : St) {x y : Addr} (a) (h : y ≠ x) : (σ.put x a).mu y = σ.mu y := by simp [St.put, h]

structure Cx where
  prog : Program
  w : World
  h₀ : Heap
  outs : List Addr
  os : OsState
  A : Around
  env : Env
  E : Value → Shared → Prop
  own : List Addr
  q : Bool

noncomputable def tabC : Addr := 61
noncomputable def tabP : Addr := 57

noncomputable def MC (φ : PH) (xs : List AV) (o : Obj) : Prop := ∃ items n, o = lob items n #[] ∧ Concs φ xs items.toList
theorem MC.mono {φ φ' : PH} (k : PLe φ φ') {xs o} (h : MC φ xs o) : MC φ' xs o := let ⟨i, n, e, hs⟩ := h; ⟨i, n, e, hs.mono k⟩

structure Rel0 (c : Cx) (φ : PH) (σ : St) (s : Shared) : Prop where
  base : ∀ a o, c.h₀.get? a = some o → φ a = some o
  keep : ∀ a o, φ a = some o → s.heap.get? a = some o
  ns : ∃ m, s.heap.Ns c.env.locals m ∧ ∀ x a, σ.m x = some a → c.env.kindOf x = some .local → ∃ v, m x = some v ∧ Conc φ a v
  cells : ∀ p ∈ c.env.cells, ∃ ob v, s.heap.get? p.2 = some ob ∧ ob.data = .cell v ∧ ∀ a, σ.m p.1 = some a → c.env.kindOf p.1 = some .cell → ∃ u, v = some u ∧ Conc φ a u
  cdist : ∀ p ∈ c.env.cells, ∀ q ∈ c.env.cells, p.2 = q.2 → p.1 = q.1
  own : ∀ a ∈ c.own, φ a = none ∧ σ.mu a = none ∧ (s.heap.get? a).isSome = true
  outs : ∀ a ∈ c.outs, φ a = none ∧ σ.mu a = none ∧ (s.heap.get? a).isSome = true ∧ a ∉ c.own
  mu : ∀ a xs, σ.mu a = some xs → φ a = none ∧ ∃ o, s.heap.get? a = some o ∧ MC φ xs o
  tab : ∃ ps, s.heap.IsCode tabC tabP ps ∧ s.heap.TableAt tabC tabP ps
  gens : c.q = false → AllBare s.gens
  os : s.os = c.os
  pt : φ tabP = none

structure Rel (c : Cx) (φ : PH) (σ : St) (s : Shared) : Prop extends Rel0 c φ σ s where
  tk : 0 < s.toks

structure Ext (c : Cx) (φ : PH) (σ : St) (s : Shared) (φ' : PH) (σ' : St) (s' : Shared) : Prop where
  le : PLe φ φ'
  fr : ∀ a o, a ≠ tabP → a ∉ c.own → a ∉ c.outs → σ.mu a = none → s.heap.get? a = some o → s'.heap.get? a = some o
  fo : ∀ a o, a ∈ c.outs → s.heap.get? a = some o → ∃ sl, s'.heap.get? a = some { o with slots := sl }
  al : ∀ a, (s.heap.get? a).isSome = true → (s'.heap.get? a).isSome = true
  nφ : ∀ a, φ a = none → φ' a ≠ none → s.heap.get? a = none
  nm : ∀ a, σ.mu a = none → σ'.mu a ≠ none → s.heap.get? a = none
  gd : c.q = true → s'.gens = s.gens ∧ s'.drawn = s.drawn ∧ ∀ o, s.heap.get? tabP = some o → s'.heap.get? tabP = some o

theorem Ext.refl (c : Cx) (φ σ s) : Ext c φ σ s φ σ s :=
  ⟨PLe.refl _, fun _ _ _ _ _ _ e => e, fun _ o _ e => ⟨o.slots, e⟩, fun _ e => e, fun _ h h' => absurd h h', fun _ h h' => absurd h h', fun _ => ⟨rfl, rfl, fun _ e => e⟩⟩

theorem isSome_of {α} {o : Option α} {a : α} (h : o = some a) : o.isSome = true := by rw [h]; rfl

theorem Ext.trans {c : Cx} {φ σ s φ₁ σ₁ s₁ φ₂ σ₂ s₂} (x : Ext c φ σ s φ₁ σ₁ s₁) (y : Ext c φ₁ σ₁ s₁ φ₂ σ₂ s₂) : Ext c φ σ s φ₂ σ₂ s₂ := by
  have back : ∀ a, s₁.heap.get? a = none → s.heap.get? a = none := fun a h => by
    cases q : s.heap.get? a with
    | none => rfl
    | some o => have := x.al a (isSome_of q); rw [h] at this; cases this
  refine ⟨x.le.trans y.le, fun a o h0 h1 h2 h3 e => ?_, fun a o h e => ?_, fun a e => y.al _ (x.al _ e), fun a h h' => ?_, fun a h h' => ?_, fun q => ⟨(y.gd q).1.trans (x.gd q).1, (y.gd q).2.1.trans (x.gd q).2.1, fun o e => (y.gd q).2.2 o ((x.gd q).2.2 o e)⟩⟩
  · refine y.fr a o h0 h1 h2 ?_ (x.fr a o h0 h1 h2 h3 e)
    cases q : σ₁.mu a with
    | none => rfl
    | some xs => have := x.nm a h3 (by rw [q]; simp); rw [this] at e; cases e
  · obtain ⟨sl, e₁⟩ := x.fo a o h e
    obtain ⟨sl', e₂⟩ := y.fo a _ h e₁
    exact ⟨sl', e₂⟩
  · cases q : φ₁ a with
    | none => exact back a (y.nφ a q h')
    | some o => exact x.nφ a h (by rw [q]; simp)
  · cases q : σ₁.mu a with
    | none => exact back a (y.nm a q h')
    | some o => exact x.nm a h (by rw [q]; simp)

noncomputable def Post (c : Cx) (φ : PH) (σ : St) (s : Shared) {α β : Type} (C : PH → α → β → Prop) (Q : α → St → Prop) : β → Shared → Prop :=
  fun v s' => ∃ φ' σ' a, Ext c φ σ s φ' σ' s' ∧ Rel c φ' σ' s' ∧ C φ' a v ∧ Q a σ'

noncomputable def Post0 (c : Cx) (φ : PH) (σ : St) (s : Shared) {α β : Type} (C : PH → α → β → Prop) (Q : α → St → Prop) : β → Shared → Prop :=
  fun v s' => ∃ φ' σ' a, Ext c φ σ s φ' σ' s' ∧ Rel0 c φ' σ' s' ∧ C φ' a v ∧ Q a σ'

noncomputable def Wp (c : Cx) {β : Type} (t : Sem β) (Q : β → Shared → Prop) (s : Shared) : Prop := wpAny (model c.prog c.w) c.A t Q c.E s

theorem Post.after {c : Cx} {φ σ s φ' σ' s'} {α β : Type} {C : PH → α → β → Prop} {Q : α → St → Prop} (x : Ext c φ σ s φ' σ' s') {v s''} (h : Post c φ' σ' s' C Q v s'') : Post c φ σ s C Q v s'' := by
  obtain ⟨φ'', σ'', a', x', R', hc', hq'⟩ := h
  exact ⟨φ'', σ'', a', x.trans x', R', hc', hq'⟩
theorem Wp.after {c : Cx} {φ σ s φ' σ' s'} {α β : Type} {C : PH → α → β → Prop} {Q : α → St → Prop} {t : Sem β} {s₁} (x : Ext c φ σ s φ' σ' s') (h : Wp c t (Post c φ' σ' s' C Q) s₁) : Wp c t (Post c φ σ s C Q) s₁ :=
  wpAny_mono h (fun _ _ z => z.after x) fun _ _ z => z
theorem Post.mono {c : Cx} {φ σ s} {α β : Type} {C : PH → α → β → Prop} {Q Q' : α → St → Prop} (k : ∀ a σ', Q a σ' → Q' a σ') {v s''} (h : Post c φ σ s C Q v s'') : Post c φ σ s C Q' v s'' := by
  obtain ⟨φ'', σ'', a', x', R', hc', hq'⟩ := h
  exact ⟨φ'', σ'', a', x', R', hc', k _ _ hq'⟩

noncomputable def CEq {α : Type} : PH → α → α → Prop := fun _ a b => b = a

inductive AF where
  | next | brk | cont | ret (v : AV)
inductive CFl (φ : PH) : AF → Flow → Prop
  | next : CFl φ .next .next
  | brk : CFl φ .brk .brk
  | cont : CFl φ .cont .cont
  | ret {a v} (h : Conc φ a v) : CFl φ (.ret a) (.ret v)
noncomputable def Ev (c : Cx) (e : Expr) (σ : St) (Q : AV → St → Prop) : Prop := ∀ φ s, Rel c φ σ s → Wp c (eval e c.env) (Post c φ σ s Conc Q) s
noncomputable def Ts (c : Cx) (e : Expr) (σ : St) (Q : Bool → St → Prop) : Prop := ∀ φ s, Rel c φ σ s → Wp c (isTrue e c.env (eval e c.env)) (Post c φ σ s CEq Q) s
noncomputable def Ex (c : Cx) (st : Stmt) (σ : St) (Q : AF → St → Prop) : Prop := ∀ φ s, Rel c φ σ s → Wp c (exec st c.env) (Post c φ σ s CFl Q) s
noncomputable def Exs (c : Cx) (st : List Stmt) (σ : St) (Q : AF → St → Prop) : Prop := ∀ φ s, Rel c φ σ s → Wp c (execs st c.env) (Post c φ σ s CFl Q) s
noncomputable def Evs (c : Cx) (es : List Expr) (σ : St) (Q : List AV → St → Prop) : Prop := ∀ φ s pos, Rel c φ σ s → Wp c (spliced (backTo pos (starEach es c.env))) (Post c φ σ s Concs Q) s
noncomputable def Op1 (c : Cx) (f : Value → Sem Value) (a : AV) (σ : St) (Q : AV → St → Prop) : Prop := ∀ φ s v, Rel c φ σ s → Conc φ a v → Wp c (f v) (Post c φ σ s Conc Q) s
noncomputable def Op2 (c : Cx) (f : Value → Value → Sem Value) (a b : AV) (σ : St) (Q : AV → St → Prop) : Prop := ∀ φ s v u, Rel c φ σ s → Conc φ a v → Conc φ b u → Wp c (f v u) (Post c φ σ s Conc Q) s
noncomputable def Tr (c : Cx) (a : AV) (σ : St) (Q : Bool → St → Prop) : Prop := ∀ φ s v, Rel c φ σ s → Conc φ a v → Wp c (truthy v) (Post c φ σ s CEq Q) s
noncomputable def Cl (c : Cx) (f : AV) (as : List AV) (σ : St) (Q : AV → St → Prop) : Prop := ∀ φ s fv vs, Rel c φ σ s → Conc φ f fv → Concs φ as vs → Wp c (call fv vs) (Post c φ σ s Conc Q) s
noncomputable def Asg (c : Cx) (t : Expr) (a : AV) (σ : St) (Q : St → Prop) : Prop := ∀ φ s v, Rel c φ σ s → Conc φ a v → Wp c (assign t c.env v) (Post c φ σ s (CEq (α := Unit)) (fun _ => Q)) s

theorem post_same {c : Cx} {φ σ s} {α β : Type} {C : PH → α → β → Prop} {Q : α → St → Prop} {a : α} {v : β} (R : Rel0 c φ σ s) (hc : C φ a v) (hq : Q a σ) : Post0 c φ σ s C Q v s := ⟨φ, σ, a, Ext.refl .., R, hc, hq⟩
theorem post_here {c : Cx} {φ σ s} {α β : Type} {C : PH → α → β → Prop} {Q : α → St → Prop} {a : α} {v : β} (R : Rel c φ σ s) (hc : C φ a v) (hq : Q a σ) : Post c φ σ s C Q v s := ⟨φ, σ, a, Ext.refl .., R, hc, hq⟩

theorem Post0.after {c : Cx} {φ σ s φ' σ' s'} {α β : Type} {C : PH → α → β → Prop} {Q : α → St → Prop} (x : Ext c φ σ s φ' σ' s') {v s''} (h : Post0 c φ' σ' s' C Q v s'') : Post0 c φ σ s C Q v s'' := by
  obtain ⟨φ'', σ'', a', x', R', hc', hq'⟩ := h
  exact ⟨φ'', σ'', a', x.trans x', R', hc', hq'⟩
theorem lift {c : Cx} {φ σ s} {s₁ : Shared} (tk : 0 < s₁.toks) {α β : Type} {C : PH → α → β → Prop} {Q : α → St → Prop} {t : Sem β} (h : Wp c t (Post0 c φ σ s C Q) s₁) : Wp c t (Post c φ σ s C Q) s₁ := fun Γ p hΓ =>
  Sem.wp_mono _ Γ _ (fun _ _ s' ⟨ht, φ', σ', a, x, R, hc, hq⟩ => ⟨φ', σ', a, x, ⟨R, ht⟩, hc, hq⟩) (fun _ _ _ z => z.2) p s₁ (Sem.wp_toks _ Γ 1 _ _ _ p s₁ tk (h Γ p hΓ))

theorem Rel0.toks {c : Cx} {φ σ s} (R : Rel0 c φ σ s) (tk : Nat) : Rel0 c φ σ { s with toks := tk } := ⟨R.base, R.keep, R.ns, R.cells, R.cdist, R.own, R.outs, R.mu, R.tab, R.gens, R.os, R.pt⟩
theorem Ext.toks (c : Cx) (φ σ s) (tk : Nat) : Ext c φ σ s φ σ { s with toks := tk } :=
  ⟨PLe.refl _, fun _ _ _ _ _ _ e => e, fun _ o _ e => ⟨o.slots, e⟩, fun _ e => e, fun _ h h' => absurd h h', fun _ h h' => absurd h h', fun _ => ⟨rfl, rfl, fun _ e => e⟩⟩
theorem post_toks {c : Cx} {φ σ s} {tk : Nat} {α β : Type} {C : PH → α → β → Prop} {Q : α → St → Prop} {a : α} {v : β} (R : Rel0 c φ σ s) (hc : C φ a v) (hq : Q a σ) : Post0 c φ σ s C Q v { s with toks := tk } :=
  ⟨φ, σ, a, Ext.toks .., R.toks tk, hc, hq⟩

end Mine
end

section
open PySem PySem.W PyProof.Rows PySem.Calls
set_option Elab.async false
set_option maxRecDepth 100000
set_option maxHeartbeats 4000000
set_option linter.unusedVariables false
namespace Mine

section
variable {c : Cx} {φ : PH} {σ : St} {s : Shared}

theorem Rel0.tabL (R : Rel0 c φ σ s) : tabC ≠ c.env.locals ∧ tabP ≠ c.env.locals := by
  obtain ⟨m, ⟨oL, es, ep, hoL, hLd, _⟩, _⟩ := R.ns
  obtain ⟨ps, h1, h2⟩ := R.tab
  refine ⟨fun q => ?_, fun q => ?_⟩
  · obtain ⟨o, vs, file, tf, flags, tg, inF, text, tt, op, ho, hd, _⟩ := h1
    rw [q, hoL] at ho; cases ho; rw [hLd] at hd; cases hd
  · have := h2.2; rw [q, hoL] at this; cases this; cases hLd
theorem Rel0.tabMu (R : Rel0 c φ σ s) {a : Addr} {xs : List AV} (e : σ.mu a = some xs) : tabC ≠ a ∧ tabP ≠ a := by
  obtain ⟨hφ, oa, hoa, ma⟩ := R.mu a xs e
  obtain ⟨it, n, hlob, _⟩ := ma
  obtain ⟨ps, h1, h2⟩ := R.tab
  refine ⟨fun q => ?_, fun q => ?_⟩
  · obtain ⟨o, vs, file, tf, flags, tg, inF, text, tt, op, ho, hd, _⟩ := h1
    rw [q, hoa, hlob] at ho; cases ho; cases hd
  · have := h2.2; rw [q, hoa, hlob] at this; cases this
theorem Rel0.tabNew' (R : Rel0 c φ σ s) {a : Addr} (h : s.heap.get? a = none) : a ≠ tabP := fun w => by
  obtain ⟨ps, h1, h2⟩ := R.tab
  have := h2.2; rw [← w, h] at this; cases this
theorem Rel0.own_alive (R : Rel0 c φ σ s) {a : Addr} (h : a ∈ c.own) : (s.heap.get? a).isSome = true := (R.own a h).2.2

structure Fresh (c : Cx) (φ : PH) (σ : St) (s : Shared) (a : Addr) : Prop where
  φ : φ a = none
  mu : σ.mu a = none
  own : a ∉ c.own
  outs : a ∉ c.outs
  heap : s.heap.get? a = none

theorem Rel0.fresh (R : Rel0 c φ σ s) {a : Addr} (h : s.heap.get? a = none) : Fresh c φ σ s a := by
  refine ⟨?_, ?_, fun q => ?_, fun q => ?_, h⟩
  · cases q : φ a with
    | none => rfl
    | some o => have := R.keep _ _ q; rw [h] at this; cases this
  · cases q : σ.mu a with
    | none => rfl
    | some o => obtain ⟨_, o', e, _⟩ := R.mu _ _ q; rw [h] at e; cases e
  · have := R.own_alive q; rw [h] at this; cases this
  · have := (R.outs a q).2.2.1; rw [h] at this; cases this
theorem Rel0.fresh_size (R : Rel0 c φ σ s) : Fresh c φ σ s s.heap.objs.size := R.fresh (Heap.get?_none_of_le (Nat.le_refl _))

theorem Rel0.grow (R : Rel0 c φ σ s) {h' : Heap} {tk : Nat} (k : ∀ b o, s.heap.get? b = some o → h'.get? b = some o) : Rel0 c φ σ { s with heap := h', toks := tk } := by
  refine ⟨R.base, fun a o e => k _ _ (R.keep _ _ e), ?_, fun p hp => ?_, R.cdist, fun a ha => ?_, fun a ha => ?_, fun a xs e => ?_, ?_, R.gens, R.os, R.pt⟩
  · obtain ⟨m, hn, h⟩ := R.ns; exact ⟨m, hn.keeps k, h⟩
  · obtain ⟨ob, v, e, r⟩ := R.cells p hp; exact ⟨ob, v, k _ _ e, r⟩
  · obtain ⟨h1, h2, h3⟩ := R.own a ha
    obtain ⟨o, e⟩ := Option.isSome_iff_exists.mp h3
    exact ⟨h1, h2, isSome_of (k _ _ e)⟩
  · obtain ⟨h1, h2, h3, h4⟩ := R.outs a ha
    obtain ⟨o, e⟩ := Option.isSome_iff_exists.mp h3
    exact ⟨h1, h2, isSome_of (k _ _ e), h4⟩
  · obtain ⟨h1, o, e, r⟩ := R.mu a xs e; exact ⟨h1, o, k _ _ e, r⟩
  · obtain ⟨ps, h1, h2⟩ := R.tab; exact ⟨ps, h1.keeps k, h2.keeps k⟩
theorem Ext.grow {h' : Heap} {tk : Nat} (k : ∀ b o, s.heap.get? b = some o → h'.get? b = some o) : Ext c φ σ s φ σ { s with heap := h', toks := tk } :=
  ⟨PLe.refl _, fun _ _ _ _ _ _ e => k _ _ e, fun _ o _ e => ⟨o.slots, k _ _ e⟩, fun a e => by obtain ⟨o, q⟩ := Option.isSome_iff_exists.mp e; exact isSome_of (k _ _ q), fun _ h h' => absurd h h', fun _ h h' => absurd h h', fun _ => ⟨rfl, rfl, fun _ e => k _ _ e⟩⟩

noncomputable def PH.add (φ : PH) (a : Addr) (o : Obj) : PH := fun b => if b = a then some o else φ b
theorem PH.add_self (φ : PH) (a : Addr) (o : Obj) : φ.add a o a = some o := by simp [PH.add]
theorem PH.le_add {φ : PH} {a : Addr} (h : φ a = none) (o : Obj) : PLe φ (φ.add a o) := fun b ob e => by
  unfold PH.add
  by_cases q : b = a
  · subst q; rw [h] at e; cases e
  · rw [if_neg q]; exact e
theorem Rel0.addφ (R : Rel0 c φ σ s) {a : Addr} {o : Obj} (ho : s.heap.get? a = some o) (hφ : φ a = none) (hmu : σ.mu a = none) (hown : a ∉ c.own) (houts : a ∉ c.outs) (hat : a ≠ tabP) : Rel0 c (φ.add a o) σ s := by
  have le := PH.le_add hφ o
  have na : ∀ b, b ≠ a → φ.add a o b = φ b := fun b hb => by simp [PH.add, hb]
  refine ⟨fun b ob e => le _ _ (R.base _ _ e), fun b ob e => ?_, ?_, fun p hp => ?_, R.cdist, fun b hb => ?_, fun b hb => ?_, fun b xs e => ?_, R.tab, R.gens, R.os, by rw [na _ (Ne.symm hat)]; exact R.pt⟩
  · by_cases q : b = a
    · subst q; rw [PH.add_self] at e; cases e; exact ho
    · rw [na _ q] at e; exact R.keep _ _ e
  · obtain ⟨m, hn, h⟩ := R.ns
    exact ⟨m, hn, fun x y e k => let ⟨v, h1, h2⟩ := h x y e k; ⟨v, h1, h2.mono le⟩⟩
  · obtain ⟨ob, v, e, hd, r⟩ := R.cells p hp
    exact ⟨ob, v, e, hd, fun y h1 h2 => let ⟨u, q1, q2⟩ := r y h1 h2; ⟨u, q1, q2.mono le⟩⟩
  · obtain ⟨h1, h2⟩ := R.own b hb
    exact ⟨by rw [na _ fun q => hown (q ▸ hb)]; exact h1, h2⟩
  · obtain ⟨h1, h2, h3⟩ := R.outs b hb
    exact ⟨by rw [na _ fun q => houts (q ▸ hb)]; exact h1, h2, h3⟩
  · obtain ⟨h1, ob, h2, h3⟩ := R.mu b xs e
    exact ⟨by rw [na _ fun q => by rw [q, hmu] at e; cases e]; exact h1, ob, h2, h3.mono le⟩
theorem Ext.addφ {a : Addr} {o : Obj} {s' : Shared} (x : Ext c φ σ s φ σ s') (hn : s.heap.get? a = none) (hφ : φ a = none) : Ext c φ σ s (φ.add a o) σ s' := by
  refine ⟨PH.le_add hφ o, x.fr, x.fo, x.al, fun b h h' => ?_, x.nm, x.gd⟩
  by_cases q : b = a
  · subst q; exact hn
  · exact absurd h (by simpa [PH.add, q] using h')

theorem post_frozen {h' : Heap} {tk : Nat} {a : Addr} {o : Obj} {α β : Type} {C : PH → α → β → Prop} {Q : α → St → Prop} {x : α} {v : β} (R : Rel0 c φ σ s) (k : ∀ b o, s.heap.get? b = some o → h'.get? b = some o)
    (hn : s.heap.get? a = none) (ho : h'.get? a = some o) (hc : C (φ.add a o) x v) (hq : Q x σ) : Post0 c φ σ s C Q v { s with heap := h', toks := tk } := by
  have F := R.fresh hn
  exact ⟨φ.add a o, σ, x, (Ext.grow k).addφ hn F.φ, (R.grow k).addφ ho F.φ F.mu F.own F.outs (R.tabNew' hn), hc, hq⟩
theorem post_grown {h' : Heap} {tk : Nat} {α β : Type} {C : PH → α → β → Prop} {Q : α → St → Prop} {x : α} {v : β} (R : Rel0 c φ σ s) (k : ∀ b o, s.heap.get? b = some o → h'.get? b = some o)
    (hc : C φ x v) (hq : Q x σ) : Post0 c φ σ s C Q v { s with heap := h', toks := tk } := ⟨φ, σ, x, Ext.grow k, R.grow k, hc, hq⟩

theorem Rel0.putNew (R : Rel0 c φ σ s) {a : Addr} {o : Obj} {xs : List AV} (ho : s.heap.get? a = some o) (hφ : φ a = none) (hown : a ∉ c.own) (houts : a ∉ c.outs) (hm : MC φ xs o) : Rel0 c φ (σ.put a xs) s := by
  refine ⟨R.base, R.keep, R.ns, R.cells, R.cdist, fun b hb => ?_, fun b hb => ?_, fun b ys e => ?_, R.tab, R.gens, R.os, R.pt⟩
  · obtain ⟨h1, h2⟩ := R.own b hb
    have hne : b ≠ a := fun q => hown (q ▸ hb)
    exact ⟨h1, by rw [St.put_get_ne _ _ hne]; exact h2⟩
  · obtain ⟨h1, h2, h3⟩ := R.outs b hb
    have hne : b ≠ a := fun q => houts (q ▸ hb)
    exact ⟨h1, by rw [St.put_get_ne _ _ hne]; exact h2, h3⟩
  · by_cases q : b = a
    · subst q; rw [St.put_get] at e; cases e; exact ⟨hφ, o, ho, hm⟩
    · rw [St.put_get_ne _ _ q] at e; exact R.mu _ _ e
theorem Ext.putNew {a : Addr} {xs : List AV} {s' : Shared} (x : Ext c φ σ s φ σ s') (hn : s.heap.get? a = none) : Ext c φ σ s φ (σ.put a xs) s' := by
  refine ⟨x.le, x.fr, x.fo, x.al, x.nφ, fun b h h' => ?_, x.gd⟩
  by_cases q : b = a
  · subst q; exact hn
  · rw [St.put_get_ne _ _ q] at h'; exact absurd h h'
theorem post_new {h' : Heap} {tk : Nat} {a : Addr} {o : Obj} {xs : List AV} {Q : AV → St → Prop} (R : Rel0 c φ σ s) (k : ∀ b o, s.heap.get? b = some o → h'.get? b = some o)
    (hn : s.heap.get? a = none) (ho : h'.get? a = some o) (hm : MC φ xs o) (hq : Q (.ref a) (σ.put a xs)) : Post0 c φ σ s Conc Q (.ref a) { s with heap := h', toks := tk } := by
  have F := R.fresh hn
  exact ⟨φ, σ.put a xs, .ref a, (Ext.grow k).putNew hn, (R.grow k).putNew ho F.φ F.own F.outs hm, .ref a, hq⟩

theorem Rel0.upd (R : Rel0 c φ σ s) {a : Addr} {o' : Obj} {xs ys : List AV} {h' : Heap} {tk : Nat} (e : σ.mu a = some xs) (hs : ∀ b o, b ≠ a → s.heap.get? b = some o → h'.get? b = some o) (ho : h'.get? a = some o') (hm : MC φ ys o') : Rel0 c φ (σ.put a ys) { s with heap := h', toks := tk } := by
  obtain ⟨hφ, oa, hoa, ma⟩ := R.mu a xs e
  obtain ⟨it, n, hlob, _⟩ := ma
  have nown : a ∉ c.own := fun q => by have := (R.own a q).2.1; rw [e] at this; cases this
  have nouts : a ∉ c.outs := fun q => by have := (R.outs a q).2.1; rw [e] at this; cases this
  have nd : ∀ b ob, s.heap.get? b = some ob → (∀ i n, ob.data ≠ .seq i n) → b ≠ a := fun b ob q hd w => by
    rw [w, hoa, hlob] at q; cases q; exact hd _ _ rfl
  refine ⟨R.base, fun b ob q => hs _ _ (fun w => by rw [w, hφ] at q; cases q) (R.keep _ _ q), ?_, fun p hp => ?_, R.cdist, fun b hb => ?_, fun b hb => ?_, fun b zs q => ?_, ?_, R.gens, R.os, R.pt⟩
  · obtain ⟨m, ⟨oL, es, ep, hL, hd, r⟩, h⟩ := R.ns
    exact ⟨m, ⟨oL, es, ep, hs _ _ (nd _ _ hL fun _ _ w => by rw [hd] at w; cases w) hL, hd, r⟩, h⟩
  · obtain ⟨ob, v, q, hd, r⟩ := R.cells p hp
    exact ⟨ob, v, hs _ _ (nd _ _ q fun _ _ w => by rw [hd] at w; cases w) q, hd, r⟩
  · obtain ⟨h1, h2, h3⟩ := R.own b hb
    have hne : b ≠ a := fun q => nown (q ▸ hb)
    obtain ⟨ob, q⟩ := Option.isSome_iff_exists.mp h3
    exact ⟨h1, by rw [St.put_get_ne _ _ hne]; exact h2, isSome_of (hs _ _ hne q)⟩
  · obtain ⟨h1, h2, h3, h4⟩ := R.outs b hb
    obtain ⟨ob, q⟩ := Option.isSome_iff_exists.mp h3
    have hne : b ≠ a := fun q => nouts (q ▸ hb)
    exact ⟨h1, by rw [St.put_get_ne _ _ hne]; exact h2, isSome_of (hs _ _ hne q), h4⟩
  · by_cases w : b = a
    · subst w; rw [St.put_get] at q; cases q; exact ⟨hφ, o', ho, hm⟩
    · rw [St.put_get_ne _ _ w] at q
      obtain ⟨h1, ob, h2, h3⟩ := R.mu b zs q
      exact ⟨h1, ob, hs _ _ w h2, h3⟩
  · obtain ⟨ps, h1, h2⟩ := R.tab
    have hx : Heap.ExtBut a s.heap h' := fun b ob hb q => hs b ob hb q
    have t1 : tabC ≠ a := fun q => by
      obtain ⟨o, vs, file, tf, flags, tg, inF, text, tt, op, ho, hd, _⟩ := h1
      rw [q, hoa, hlob] at ho; cases ho; cases hd
    have t2 : tabP ≠ a := fun q => by have := h2.2; rw [q, hoa, hlob] at this; cases this
    exact ⟨ps, h1.extBut hx t1 t2, h2.extBut hx t1 t2⟩
theorem Ext.upd {a : Addr} {xs ys : List AV} {h' : Heap} {tk : Nat} {o' : Obj} (R : Rel0 c φ σ s) (e : σ.mu a = some xs) (hs : ∀ b o, b ≠ a → s.heap.get? b = some o → h'.get? b = some o) (ho : h'.get? a = some o') : Ext c φ σ s φ (σ.put a ys) { s with heap := h', toks := tk } := by
  have nouts : a ∉ c.outs := fun q => by have := (R.outs a q).2.1; rw [e] at this; cases this
  refine ⟨PLe.refl _, fun b o _ _ _ h3 q => hs _ _ (fun w => by rw [w, e] at h3; cases h3) q, fun b o hb q => ⟨o.slots, hs _ _ (fun w => nouts (w ▸ hb)) q⟩, fun b q => ?_, fun _ h h' => absurd h h', fun b h h' => ?_, fun _ => ⟨rfl, rfl, fun o q => hs _ _ (R.tabMu e).2 q⟩⟩
  · obtain ⟨ob, q⟩ := Option.isSome_iff_exists.mp q
    by_cases w : b = a
    · subst w; exact isSome_of ho
    · exact isSome_of (hs _ _ w q)
  · by_cases w : b = a
    · subst w; rw [e] at h; cases h
    · rw [St.put_get_ne _ _ w] at h'; exact absurd h h'
theorem post_upd {h' : Heap} {tk : Nat} {a : Addr} {o' : Obj} {xs ys : List AV} {α β : Type} {C : PH → α → β → Prop} {Q : α → St → Prop} {x : α} {v : β} (R : Rel0 c φ σ s) (e : σ.mu a = some xs)
    (hs : ∀ b o, b ≠ a → s.heap.get? b = some o → h'.get? b = some o) (ho : h'.get? a = some o') (hm : MC φ ys o') (hc : C φ x v) (hq : Q x (σ.put a ys)) : Post0 c φ σ s C Q v { s with heap := h', toks := tk } :=
  ⟨φ, σ.put a ys, x, Ext.upd R e hs ho, R.upd e hs ho hm, hc, hq⟩

theorem Rel0.store (R : Rel0 c φ σ s) {x : Str} {a : AV} {v : Value} {h' : Heap} {tk : Nat} {m : Str → Option Value} (hL : c.env.locals ∈ c.own) (hk : c.env.kindOf x = some .local) (hm : s.heap.Ns c.env.locals m) (hm2 : ∀ y b, σ.m y = some b → c.env.kindOf y = some .local → ∃ v, m y = some v ∧ Conc φ b v)
    (hn : h'.Ns c.env.locals (fun y => if y = x then some v else m y)) (hs : Heap.SameBut c.env.locals s.heap h') (hc : Conc φ a v) : Rel0 c φ (σ.set x a) { s with heap := h', toks := tk } := by
  have nφ : φ c.env.locals = none := (R.own _ hL).1
  have nmu : σ.mu c.env.locals = none := (R.own _ hL).2.1
  obtain ⟨oL, es, ep, hoL, hLd, _⟩ := id hm
  have k : ∀ b, b ≠ c.env.locals → h'.get? b = s.heap.get? b := hs.2
  refine ⟨R.base, fun b ob q => ?_, ⟨_, hn, fun y b e hy => ?_⟩, fun p hp => ?_, R.cdist, fun b hb => ?_, fun b hb => ?_, fun b ys e => ?_, ?_, R.gens, R.os, R.pt⟩
  · exact (k b fun w => by rw [w, nφ] at q; cases q).trans (R.keep _ _ q)
  · by_cases w : y = x
    · subst w; rw [St.set_get] at e; cases e; exact ⟨v, by simp, hc⟩
    · rw [St.set_get_ne _ _ w] at e
      obtain ⟨u, h1, h2⟩ := hm2 y b e hy
      exact ⟨u, by rw [if_neg w]; exact h1, h2⟩
  · obtain ⟨ob, u, q, hd, r⟩ := R.cells p hp
    refine ⟨ob, u, (k _ fun w => ?_).trans q, hd, fun b e hy => r b ?_ hy⟩
    · rw [w, hoL] at q; cases q; rw [hLd] at hd; cases hd
    · rwa [St.set_get_ne _ _ fun w => by rw [w, hk] at hy; cases hy] at e
  · obtain ⟨h1, h2, h3⟩ := R.own b hb
    refine ⟨h1, h2, ?_⟩
    by_cases w : b = c.env.locals
    · rw [w]; obtain ⟨o, _, _, ho, _⟩ := hn; exact isSome_of ho
    · show (h'.get? b).isSome = true; rw [k b w]; exact h3
  · obtain ⟨h1, h2, h3, h4⟩ := R.outs b hb
    exact ⟨h1, h2, by show (h'.get? b).isSome = true; rw [k b fun w => h4 (w ▸ hL)]; exact h3, h4⟩
  · obtain ⟨h1, ob, h2, h3⟩ := R.mu b ys e
    exact ⟨h1, ob, (k b fun w => by rw [w] at e; rw [show (σ.set x a).mu = σ.mu from rfl, nmu] at e; cases e).trans h2, h3⟩
  · obtain ⟨ps, h1, h2⟩ := R.tab
    have hx : Heap.ExtBut c.env.locals s.heap h' := hs.extBut
    have t1 : tabC ≠ c.env.locals := fun q => by
      obtain ⟨o, vs, file, tf, flags, tg, inF, text, tt, op, ho, hd, _⟩ := h1
      rw [q, hoL] at ho; cases ho; rw [hLd] at hd; cases hd
    have t2 : tabP ≠ c.env.locals := fun q => by have := h2.2; rw [q, hoL] at this; cases this; cases hLd
    exact ⟨ps, h1.extBut hx t1 t2, h2.extBut hx t1 t2⟩
theorem Ext.own1 {h' : Heap} {tk : Nat} {b : Addr} {σ' : St} (ht : tabP ≠ b) (hmu : σ'.mu = σ.mu) (hb : b ∈ c.own) (R : Rel0 c φ σ s) (hs : ∀ a, a ≠ b → h'.get? a = s.heap.get? a) (ha : (h'.get? b).isSome = true) : Ext c φ σ s φ σ' { s with heap := h', toks := tk } := by
  refine ⟨PLe.refl _, fun a o _ h1 _ _ e => (hs a fun w => h1 (w ▸ hb)).trans e, fun a o h e => ⟨o.slots, (hs a fun w => (R.outs a h).2.2.2 (w ▸ hb)).trans e⟩, fun a e => ?_, fun _ h h' => absurd h h', fun a h h' => absurd h (hmu ▸ h'), fun _ => ⟨rfl, rfl, fun o q => (hs tabP ht).trans q⟩⟩
  by_cases w : a = b
  · subst w; exact ha
  · show (h'.get? a).isSome = true; rw [hs a w]; exact e

theorem sto {x : Str} {a : AV} {v : Value} {Q : St → Prop} (R : Rel c φ σ s) (hL : c.env.locals ∈ c.own) (hk : c.env.kindOf x = some .local) (hf : c.env.scope.kind = .function) (hc : Conc φ a v) (hq : Q (σ.set x a)) :
    Wp c (storeName c.env x v) (Post c φ σ s (CEq (α := Unit)) fun _ => Q) s := by
  obtain ⟨m, hm, hm2⟩ := R.ns
  refine lift R.tk (wpAny_storeName_local hk hm (fun h' hn hs => ⟨φ, σ.set x a, (), ?_, R.toRel0.store hL hk hm hm2 hn hs hc, rfl, hq⟩) (by rw [hf]; rfl))
  exact Ext.own1 R.tabL.2 rfl hL R.toRel0 hs.2 (by obtain ⟨o, _, _, ho, _⟩ := hn; exact isSome_of ho)
end
end Mine
end

section
open PySem PySem.W PyProof.Rows PySem.Calls
set_option Elab.async false
set_option maxRecDepth 100000
set_option maxHeartbeats 4000000
set_option linter.unusedVariables false
namespace Mine

noncomputable abbrev KK (w : World) : Frag := KF w.params

structure Gl (c : Cx) : Prop where
  K : (KK c.w).In c.h₀
  T : ∃ mg mb, c.h₀.Ns mainGlobals mg ∧ c.h₀.Ns builtinsNs mb ∧ (∀ x : Str, x ≠ "__name__" → mb x = bootBuiltins x) ∧
    (∃ bm ob, mg "__builtins__" = some (.ref bm) ∧ bm ≠ builtinsNs ∧ c.h₀.get? bm = some ob ∧ ob.cls = .type "module" ∧ ob.dict = some builtinsNs ∧ ob.data = .plain)
  lim : c.h₀.NoLimit
  dig : ∃ mc, c.h₀.Ns cStatics mc ∧ mc "sys.int_max_str_digits" = none
  gl : c.env.globals = mainGlobals
  bl : c.env.builtins = builtinsNs
  fn : c.env.scope.kind = .function
  dep : c.A.depth ≤ 600
  un : c.A.units ≤ 5000
  gd : c.A.guards = some []
  tn : tabP ∉ c.own ∧ tabP ∉ c.outs

section
variable {c : Cx} {φ : PH} {σ : St} {s : Shared}

theorem Wp.seq {α β β' : Type} {C : PH → α → β → Prop} {Q : α → St → Prop} {t : Sem β} {F : β → Shared → Prop} {E' : Value → Shared → Prop}
    (h : Wp c t (Post c φ σ s C Q) s) (hE : ∀ e s', c.E e s' → E' e s')
    (k : ∀ φ' σ' s' a v, Ext c φ σ s φ' σ' s' → Rel c φ' σ' s' → C φ' a v → Q a σ' → F v s') : wpAny (model c.prog c.w) c.A t F E' s :=
  wpAny_mono h (fun v s' ⟨φ', σ', a, x, R, hc, hq⟩ => k φ' σ' s' a v x R hc hq) hE
theorem Wp.then {α β : Type} {C : PH → α → β → Prop} {Q : α → St → Prop} {t : Sem β} {F : β → Shared → Prop}
    (h : Wp c t (Post c φ σ s C Q) s)
    (k : ∀ φ' σ' s' a v, Ext c φ σ s φ' σ' s' → Rel c φ' σ' s' → C φ' a v → Q a σ' → F v s') : wpAny (model c.prog c.w) c.A t F c.E s :=
  wpAny_mono h (fun v s' ⟨φ', σ', a, x, R, hc, hq⟩ => k φ' σ' s' a v x R hc hq) fun _ _ z => z

theorem exs_mono {e : List Stmt} {Q Q' : AF → St → Prop} (h : Exs c e σ Q) (k : ∀ a σ', Q a σ' → Q' a σ') : Exs c e σ Q' := fun φ s R => wpAny_mono (h φ s R) (fun _ _ z => z.mono k) fun _ _ z => z

theorem ev_int {i : Int} {k pos} {Q : AV → St → Prop} (h : Q (.int i) σ) : Ev c (.Constant (.int i) k pos) σ Q := fun _ _ R => lift R.tk (wpAny_Constant_int (post_toks R.toRel0 (.int ..) h))
theorem conc_str (φ : PH) (x : Str) (t : Tok) : Conc φ (.str x.cps.toList) (.str x t) := .str x.cps.toList t
theorem ev_str {x : Str} {k pos} {l : List Nat} {Q : AV → St → Prop} (hl : x.cps.toList = l) (h : Q (.str l) σ) : Ev c (.Constant (.str x) k pos) σ Q := fun φ _ R => lift R.tk (wpAny_Constant_str (post_toks R.toRel0 (hl ▸ conc_str φ x _) h))
theorem ev_none {k pos} {Q : AV → St → Prop} (h : Q .none σ) : Ev c (.Constant .none k pos) σ Q := fun _ _ R => wpAny_Constant_none (post_here R .none h)
theorem ev_bool {b : Bool} {k pos} {Q : AV → St → Prop} (h : Q (.bool b) σ) : Ev c (.Constant (.bool b) k pos) σ Q := fun _ _ R => wpAny_Constant_bool (post_here R (.bool _) h)

theorem ev_local {x : Str} {pos} {a : AV} {Q : AV → St → Prop} (G : Gl c) (hk : c.env.kindOf x = some .local) (hx : σ.m x = some a) (h : Q a σ) (hd : (x == ("__debug__" : Str)) = false := by decide) : Ev c (.Name x pos) σ Q := fun φ s R => by
  obtain ⟨m, hn, hm⟩ := R.ns
  obtain ⟨v, hv, hc⟩ := hm x a hx hk
  exact wpAny_Name (wpAny_loadName_local G.fn hk hn hv (post_here R hc h)) hd

theorem Rel.gns (R : Rel c φ σ s) : ∀ b o, c.h₀.get? b = some o → s.heap.get? b = some o := fun b o e => R.keep _ _ (R.base _ _ e)
theorem Rel.K (R : Rel c φ σ s) (G : Gl c) : (KK c.w).In s.heap := G.K.keeps R.gns

theorem ev_global {x : Str} {pos} {a : Addr} {Q : AV → St → Prop} (G : Gl c) (hk : c.env.kindOf x = some .globalImplicit) (hx : nsIn (KK c.w) mainGlobals x = some (some (.ref a))) (h : Q (.ref a) σ) (hd : (x == ("__debug__" : Str)) = false := by decide) : Ev c (.Name x pos) σ Q := fun φ s R => by
  obtain ⟨mg, mb, hg, hb, hboot, _⟩ := G.T
  refine Name_function_global G.fn hk (loadGlobal_global (by rw [G.gl]; exact hg.keeps R.gns) (mg_of G.K hg hx) ?_) hd
  exact post_here R (.ref a) h
inductive BootV : Value → AV → Prop
  | bi (id) : BootV (.builtin id) (.bi id)
  | ty (id) : BootV (.type id) (.ty id)
theorem ev_builtin {x : Str} {pos} {v : Value} {a : AV} {Q : AV → St → Prop} (G : Gl c) (hk : c.env.kindOf x = some .globalImplicit) (hx : nsIn (KK c.w) mainGlobals x = some none) (hv : bootBuiltins x = some v) (hb : BootV v a) (h : Q a σ)
    (hn : x ≠ "__name__" := by decide) (hd : (x == ("__debug__" : Str)) = false := by decide) : Ev c (.Name x pos) σ Q := fun φ s R => by
  obtain ⟨mg, mb, hg, hbn, hboot, _⟩ := G.T
  refine Name_function_global G.fn hk (loadGlobal_builtin (by rw [G.gl]; exact hg.keeps R.gns) (mg_none_of G.K hg hx) (by rw [G.bl]; exact hbn.keeps R.gns) ((hboot x hn).trans hv) ?_) hd
  cases hb with
  | bi id => exact post_here R (.bi _) h
  | ty id => exact post_here R (.ty _) h

theorem ev_binop {l r : Expr} {op pos} {Q : AV → St → Prop} (h : Ev c l σ fun a σ₁ => Ev c r σ₁ fun b σ₂ => Op2 c (binaryOp op) a b σ₂ Q) : Ev c (.BinOp l op r pos) σ Q := fun φ s R =>
  wpAny_BinOp ((h φ s R).then fun φ₁ σ₁ s₁ a va x₁ R₁ hc₁ h₁ => (h₁ φ₁ s₁ R₁).then fun φ₂ σ₂ s₂ b vb x₂ R₂ hc₂ h₂ =>
    (h₂ φ₂ s₂ va vb R₂ (hc₁.mono x₂.le) hc₂).after (x₁.trans x₂))
theorem ev_unary {e : Expr} {op pos} {Q : AV → St → Prop} (h : Ev c e σ fun a σ₁ => Op1 c (unaryOp op) a σ₁ Q) : Ev c (.UnaryOp op e pos) σ Q := fun φ s R =>
  wpAny_UnaryOp ((h φ s R).then fun φ₁ σ₁ s₁ a va x₁ R₁ hc₁ h₁ => (h₁ φ₁ s₁ va R₁ hc₁).after x₁)
theorem ev_ifexp {t b o : Expr} {pos} {Q : AV → St → Prop} (h : Ts c t σ fun v σ₁ => (v = true → Ev c b σ₁ Q) ∧ (v = false → Ev c o σ₁ Q)) : Ev c (.IfExp t b o pos) σ Q := fun φ s R =>
  wpAny_IfExp ((h φ s R).then fun φ₁ σ₁ s₁ a va x₁ R₁ hc₁ h₁ => by
    cases hc₁
    cases a with
    | true => exact (h₁.1 rfl φ₁ s₁ R₁).after x₁
    | false => exact (h₁.2 rfl φ₁ s₁ R₁).after x₁)

theorem ts_cmp {l r : Expr} {op pos} {Q : Bool → St → Prop} (h : Ev c l σ fun a σ₁ => Ev c r σ₁ fun b σ₂ => Op2 c (compareOp op) a b σ₂ fun v σ₃ => Tr c v σ₃ Q) (hm : behindInMarks op r = false := by with_unfolding_all rfl) : Ts c (.Compare l [op] [r] pos) σ Q := fun φ s R =>
  wpAny_isTrue_Compare1 ((h φ s R).then fun φ₁ σ₁ s₁ a va x₁ R₁ hc₁ h₁ => (h₁ φ₁ s₁ R₁).then fun φ₂ σ₂ s₂ b vb x₂ R₂ hc₂ h₂ =>
    (h₂ φ₂ s₂ va vb R₂ (hc₁.mono x₂.le) hc₂).then fun φ₃ σ₃ s₃ v vv x₃ R₃ hc₃ h₃ => (h₃ φ₃ s₃ vv R₃ hc₃).after ((x₁.trans x₂).trans x₃)) hm
theorem tr_bool {b : Bool} {Q : Bool → St → Prop} (h : Q b σ) : Tr c (.bool b) σ Q := fun φ s v R hc => by
  cases hc; exact wpAny_truthy_bool (post_here R rfl h)
theorem ts_not {e : Expr} {pos} {Q : Bool → St → Prop} (h : Ts c e σ fun b σ₁ => Q (!b) σ₁) : Ts c (.UnaryOp .Not e pos) σ Q := fun φ s R =>
  wpAny_isTrue_Not ((h φ s R).then fun φ₁ σ₁ s₁ a va x₁ R₁ hc₁ h₁ => by cases hc₁; exact (post_here R₁ (C := CEq) rfl h₁).after x₁)
theorem ts_value {e : Expr} {Q : Bool → St → Prop} (h : Ev c e σ fun a σ₁ => Tr c a σ₁ Q) (he : ∀ whole, isTrue e c.env whole = (do let v ← whole; standAt e.pos; holding [v] (truthy v)) := by intro _; rfl) : Ts c e σ Q := fun φ s R =>
  wpAny_isTrue_value ((h φ s R).then fun φ₁ σ₁ s₁ a va x₁ R₁ hc₁ h₁ => (h₁ φ₁ s₁ va R₁ hc₁).after x₁) (he _)
theorem ts_and2 {x y : Expr} {pos} {Q : Bool → St → Prop} (h : Ts c x σ fun b σ₁ => (b = true → Ts c y σ₁ Q) ∧ (b = false → Q false σ₁)) : Ts c (.BoolOp .And [x, y] pos) σ Q := fun φ s R =>
  wpAny_isTrue_BoolOp (wpAny_allTrue_And_cons ((h φ s R).then fun φ₁ σ₁ s₁ a va x₁ R₁ hc₁ h₁ => by
    cases hc₁
    cases a with
    | true => exact wpAny_allTrue_And_cons ((h₁.1 rfl φ₁ s₁ R₁).then fun φ₂ σ₂ s₂ b vb x₂ R₂ hc₂ h₂ => by
        cases hc₂
        cases b with
        | true => exact wpAny_allTrue_And_nil ((post_here R₂ (C := CEq) rfl h₂).after (x₁.trans x₂))
        | false => exact (post_here R₂ (C := CEq) rfl h₂).after (x₁.trans x₂))
    | false => exact (post_here R₁ (C := CEq) rfl (h₁.2 rfl)).after x₁))
theorem ts_or2 {x y : Expr} {pos} {Q : Bool → St → Prop} (h : Ts c x σ fun b σ₁ => (b = false → Ts c y σ₁ Q) ∧ (b = true → Q true σ₁)) : Ts c (.BoolOp .Or [x, y] pos) σ Q := fun φ s R =>
  wpAny_isTrue_BoolOp (wpAny_allTrue_Or_cons ((h φ s R).then fun φ₁ σ₁ s₁ a va x₁ R₁ hc₁ h₁ => by
    cases hc₁
    cases a with
    | false => exact wpAny_allTrue_Or_cons ((h₁.1 rfl φ₁ s₁ R₁).then fun φ₂ σ₂ s₂ b vb x₂ R₂ hc₂ h₂ => by
        cases hc₂
        cases b with
        | false => exact wpAny_allTrue_Or_nil ((post_here R₂ (C := CEq) rfl h₂).after (x₁.trans x₂))
        | true => exact (post_here R₂ (C := CEq) rfl h₂).after (x₁.trans x₂))
    | true => exact (post_here R₁ (C := CEq) rfl (h₁.2 rfl)).after x₁))
theorem ts_or3 {x y z : Expr} {pos} {Q : Bool → St → Prop} (h : Ts c x σ fun b σ₁ => (b = false → Ts c y σ₁ fun b σ₂ => (b = false → Ts c z σ₂ Q) ∧ (b = true → Q true σ₂)) ∧ (b = true → Q true σ₁)) : Ts c (.BoolOp .Or [x, y, z] pos) σ Q := fun φ s R =>
  wpAny_isTrue_BoolOp (wpAny_allTrue_Or_cons ((h φ s R).then fun φ₁ σ₁ s₁ a va x₁ R₁ hc₁ h₁ => by
    cases hc₁
    cases a with
    | false => exact wpAny_allTrue_Or_cons ((h₁.1 rfl φ₁ s₁ R₁).then fun φ₂ σ₂ s₂ b vb x₂ R₂ hc₂ h₂ => by
        cases hc₂
        cases b with
        | false => exact wpAny_allTrue_Or_cons ((h₂.1 rfl φ₂ s₂ R₂).then fun φ₃ σ₃ s₃ d vd x₃ R₃ hc₃ h₃ => by
            cases hc₃
            cases d with
            | false => exact wpAny_allTrue_Or_nil ((post_here R₃ (C := CEq) rfl h₃).after ((x₁.trans x₂).trans x₃))
            | true => exact (post_here R₃ (C := CEq) rfl h₃).after ((x₁.trans x₂).trans x₃))
        | true => exact (post_here R₂ (C := CEq) rfl (h₂.2 rfl)).after (x₁.trans x₂))
    | true => exact (post_here R₁ (C := CEq) rfl (h₁.2 rfl)).after x₁))

theorem evs_nil {Q : List AV → St → Prop} (h : Q [] σ) : Evs c [] σ Q := fun _ _ _ R => wpAny_items_nil (post_here R .nil h)
theorem evs_cons {e : Expr} {es : List Expr} {Q : List AV → St → Prop} (h : Ev c e σ fun a σ₁ => Evs c es σ₁ fun as σ₂ => Q (a :: as) σ₂) (he : starEach (e :: es) c.env = (false, eval e c.env) :: starEach es c.env := by rfl) : Evs c (e :: es) σ Q := fun φ s pos R =>
  wpAny_items_cons ((h φ s R).then fun φ₁ σ₁ s₁ a va x₁ R₁ hc₁ h₁ => (h₁ φ₁ s₁ pos R₁).then fun φ₂ σ₂ s₂ b vb x₂ R₂ hc₂ h₂ => (post_here R₂ (C := Concs) (.cons (hc₁.mono x₂.le) hc₂) h₂).after (x₁.trans x₂)) he
theorem Concs.le {xs : List AV} {vs : List Value} (h : Concs φ xs vs) (hl : xs.length ≤ sizeLine) : vs.length ≤ sizeLine := h.length ▸ hl
theorem push_k (h : Heap) (o : Obj) : ∀ b ob, h.get? b = some ob → (h.push o).get? b = some ob := fun _ _ e => Heap.get?_push_of_some _ e
theorem push_new (h : Heap) : h.get? h.objs.size = none := Heap.get?_none_of_le (Nat.le_refl _)

theorem ev_tuple {es : List Expr} {k pos} {Q : AV → St → Prop} (h : Evs c es σ fun as σ₁ => as.length ≤ sizeLine ∧ Q (.tup as) σ₁) : Ev c (.Tuple es k pos) σ Q := fun φ s R =>
  lift R.tk (wpAny_Tuple ((h φ s pos R).then fun φ₁ σ₁ s₁ as vs x₁ R₁ hc₁ h₁ => ⟨hc₁.le h₁.1, (post_frozen (tk := s₁.toks) R₁.toRel0 (push_k _ _) (push_new _) (o := tob vs.toArray 0 #[]) (Heap.get?_push_size _ rfl) (.tup (PH.add_self ..) ((by simpa using hc₁.mono (PH.le_add R₁.fresh_size.φ _)))) h₁.2).after x₁⟩))
theorem ev_list {es : List Expr} {pos} {Q : AV → St → Prop} (h : Evs c es σ fun as σ₁ => as.length ≤ sizeLine ∧ Q (.list as) σ₁) : Ev c (.List es pos) σ Q := fun φ s R =>
  lift R.tk (wpAny_List ((h φ s pos R).then fun φ₁ σ₁ s₁ as vs x₁ R₁ hc₁ h₁ => ⟨hc₁.le h₁.1, (post_frozen (tk := s₁.toks) R₁.toRel0 (push_k _ _) (push_new _) (o := lob vs.toArray 0 #[]) (Heap.get?_push_size _ rfl) (.list (PH.add_self ..) ((by simpa using hc₁.mono (PH.le_add R₁.fresh_size.φ _)))) h₁.2).after x₁⟩))
theorem ev_listm {es : List Expr} {pos} {Q : AV → St → Prop} (h : Evs c es σ fun as σ₁ => as.length ≤ sizeLine ∧ ∀ a, σ₁.mu a = none → Q (.ref a) (σ₁.put a as)) : Ev c (.List es pos) σ Q := fun φ s R =>
  lift R.tk (wpAny_List ((h φ s pos R).then fun φ₁ σ₁ s₁ as vs x₁ R₁ hc₁ h₁ => ⟨hc₁.le h₁.1, (post_new (tk := s₁.toks) R₁.toRel0 (push_k _ _) (push_new _) (o := lob vs.toArray 0 #[]) (Heap.get?_push_size _ rfl) ⟨_, _, rfl, by simpa using hc₁⟩ (h₁.2 _ R₁.fresh_size.mu)).after x₁⟩))

theorem exs_nil {Q : AF → St → Prop} (h : Q .next σ) : Exs c [] σ Q := fun _ _ R => wpAny_execs_nil (post_here R .next h)
noncomputable def Cont (c : Cx) (rest : List Stmt) (Q : AF → St → Prop) : AF → St → Prop
  | .next, σ => Exs c rest σ Q
  | .brk, σ => Q .brk σ
  | .cont, σ => Q .cont σ
  | .ret v, σ => Q (.ret v) σ
theorem exs_cons {st : Stmt} {rest : List Stmt} {Q : AF → St → Prop} (h : Ex c st σ (Cont c rest Q)) : Exs c (st :: rest) σ Q := fun φ s R =>
  wpAny_execs_cons ((h φ s R).then fun φ₁ σ₁ s₁ a va x₁ R₁ hc₁ h₁ => by
    cases hc₁ with
    | next => exact (h₁ φ₁ s₁ R₁).after x₁
    | brk => exact (post_here R₁ (C := CFl) (Q := Q) .brk h₁).after x₁
    | cont => exact (post_here R₁ (C := CFl) (Q := Q) .cont h₁).after x₁
    | ret hv => exact (post_here R₁ (C := CFl) (Q := Q) (.ret hv) h₁).after x₁)
theorem ex_if {t : Expr} {b o : List Stmt} {pos} {Q : AF → St → Prop} (h : Ts c t σ fun v σ₁ => (v = true → Exs c b σ₁ Q) ∧ (v = false → Exs c o σ₁ Q)) : Ex c (.If t b o pos) σ Q := fun φ s R =>
  wpAny_If ((h φ s R).then fun φ₁ σ₁ s₁ a va x₁ R₁ hc₁ h₁ => by
    cases hc₁
    cases a with
    | true => exact (h₁.1 rfl φ₁ s₁ R₁).after x₁
    | false => exact (h₁.2 rfl φ₁ s₁ R₁).after x₁)
theorem ex_expr {e : Expr} {pos} {Q : AF → St → Prop} (h : Ev c e σ fun _ σ₁ => Q .next σ₁) (hi : interactive c.env = false) (hs : swapsWith e none pos.line c.env = pure false := by rfl) : Ex c (.Expr e pos) σ Q := fun φ s R =>
  wpAny_Expr_any ((h φ s R).then fun φ₁ σ₁ s₁ a va x₁ R₁ hc₁ h₁ => (post_here R₁ (C := CFl) .next h₁).after x₁) hi hs
theorem ex_ret {e : Expr} {pos} {Q : AF → St → Prop} (h : Ev c e σ fun a σ₁ => Q (.ret a) σ₁) : Ex c (.Return (some e) pos) σ Q := fun φ s R =>
  wpAny_Return_some ((h φ s R).then fun φ₁ σ₁ s₁ a va x₁ R₁ hc₁ h₁ => (post_here R₁ (C := CFl) (.ret hc₁) h₁).after x₁)
theorem ex_break {pos} {Q : AF → St → Prop} (h : Q .brk σ) : Ex c (.Break pos) σ Q := fun _ _ R => wpAny_Break (post_here R .brk h)
theorem ex_assert {t : Expr} {m pos} {Q : AF → St → Prop} (h : Ts c t σ fun v σ₁ => v = true ∧ Q .next σ₁) : Ex c (.Assert t m pos) σ Q := fun φ s R =>
  wpAny_Assert_holds ((h φ s R).then fun φ₁ σ₁ s₁ a va x₁ R₁ hc₁ h₁ => by cases hc₁; exact ⟨h₁.1, (post_here R₁ (C := CFl) .next h₁.2).after x₁⟩)
theorem ex_set {x : Str} {e : Expr} {p pos} {Q : AF → St → Prop} (G : Gl c) (hL : c.env.locals ∈ c.own) (hk : c.env.kindOf x = some .local) (h : Ev c e σ fun a σ₁ => Q .next (σ₁.set x a)) (hs : swapsWith e (some (.Name x p)) pos.line c.env = pure false := by rfl) : Ex c (.Assign [.Name x p] e pos) σ Q := fun φ s R =>
  wpAny_Assign_Name ((h φ s R).then fun φ₁ σ₁ s₁ a va x₁ R₁ hc₁ h₁ => Wp.then (sto R₁ hL hk G.fn hc₁ (Q := fun σ' => Q .next σ') h₁) fun φ₂ σ₂ s₂ _ _ x₂ R₂ _ h₂ => (post_here R₂ (C := CFl) .next h₂).after (x₁.trans x₂)) hs
theorem ex_aug {x : Str} {e : Expr} {op p pos} {a : AV} {Q : AF → St → Prop} (G : Gl c) (hL : c.env.locals ∈ c.own) (hk : c.env.kindOf x = some .local) (hx : σ.m x = some a)
    (h : Ev c e σ fun b σ₁ => Op2 c (inplaceOp op) a b σ₁ fun r σ₂ => Q .next (σ₂.set x r)) : Ex c (.AugAssign (.Name x p) op e pos) σ Q := fun φ s R => by
  obtain ⟨m, hn, hm⟩ := R.ns
  obtain ⟨v, hv, hc⟩ := hm x a hx hk
  refine wpAny_AugAssign_Name (wpAny_loadName_local G.fn hk hn hv ?_)
  refine (h φ s R).then fun φ₁ σ₁ s₁ b vb x₁ R₁ hc₁ h₁ => (h₁ φ₁ s₁ v vb R₁ (hc.mono x₁.le) hc₁).then fun φ₂ σ₂ s₂ r vr x₂ R₂ hc₂ h₂ =>
    Wp.then (sto R₂ hL hk G.fn hc₂ (Q := fun σ' => Q .next σ') h₂) fun φ₃ σ₃ s₃ _ _ x₃ R₃ _ h₃ => (post_here R₃ (C := CFl) .next h₃).after ((x₁.trans x₂).trans x₃)
theorem ex_set2 {x y : Str} {e : Expr} {p q pos} {Q : AF → St → Prop} (G : Gl c) (hL : c.env.locals ∈ c.own) (hk : c.env.kindOf x = some .local) (hk' : c.env.kindOf y = some .local) (h : Ev c e σ fun a σ₁ => Q .next ((σ₁.set x a).set y a))
    (hw : swappedStores [.Name x p, .Name y q] e c.env = pure none := by rfl) : Ex c (.Assign [.Name x p, .Name y q] e pos) σ Q := fun φ s R =>
  wpAny_Assign_two ((h φ s R).then fun φ₁ σ₁ s₁ a va x₁ R₁ hc₁ h₁ => wpAny_assign_Name (Wp.then (sto R₁ hL hk G.fn hc₁ (Q := fun σ' => Q .next (σ'.set y a)) h₁) fun φ₂ σ₂ s₂ _ _ x₂ R₂ _ h₂ =>
    wpAny_assign_Name (Wp.then (sto R₂ hL hk' G.fn (hc₁.mono x₂.le) (Q := fun σ' => Q .next σ') h₂) fun φ₃ σ₃ s₃ _ _ x₃ R₃ _ h₃ => (post_here R₃ (C := CFl) .next h₃).after ((x₁.trans x₂).trans x₃)))) (by rfl) hw

end
end Mine
end

section
open PySem PySem.W PyProof.Rows PySem.Calls
set_option Elab.async false
set_option maxRecDepth 100000
set_option maxHeartbeats 4000000
set_option linter.unusedVariables false
namespace Mine

section
variable {c : Cx} {φ : PH} {σ : St} {s : Shared}

theorem op_add {a b : Int} {Q : AV → St → Prop} (h : Q (.int (a + b)) σ) : Op2 c (binaryOp .Add) (.int a) (.int b) σ Q := fun φ s v u R ha hb => by
  cases ha; cases hb; exact lift R.tk (PyProof.Rows.add_int (post_toks R.toRel0 (.int ..) h))
theorem op_sub {a b : Int} {Q : AV → St → Prop} (h : Q (.int (a - b)) σ) : Op2 c (binaryOp .Sub) (.int a) (.int b) σ Q := fun φ s v u R ha hb => by
  cases ha; cases hb; exact lift R.tk (PyProof.Rows.sub_int (post_toks R.toRel0 (.int ..) h))
theorem op_mod {a b : Int} {Q : AV → St → Prop} (hb0 : b ≠ 0) (h : Q (.int (a.fmod b)) σ) : Op2 c (binaryOp .Mod) (.int a) (.int b) σ Q := fun φ s v u R ha hb => by
  cases ha; cases hb; exact lift R.tk (PyProof.Rows.mod_int hb0 (post_toks R.toRel0 (.int ..) h))
theorem op_fdiv {a b : Int} {Q : AV → St → Prop} (hb0 : b ≠ 0) (hp : Builtin.divisionGoesByPylong a b = false) (h : Q (.int (a.fdiv b)) σ) : Op2 c (binaryOp .FloorDiv) (.int a) (.int b) σ Q := fun φ s v u R ha hb => by
  cases ha; cases hb; exact lift R.tk (PyProof.Rows.floordiv_int hb0 (post_toks R.toRel0 (.int ..) h) (.inl hp))
theorem pylong4 (a : Int) : Builtin.divisionGoesByPylong a 4 = false := by
  unfold Builtin.divisionGoesByPylong
  show (decide (_ > 300) && _) = false
  rw [show (decide ((if ((4 : Int) == 0) = true then 0 else (4 : Int).natAbs.log2 / 30 + 1) > 300)) = false from by decide +kernel]; rfl
theorem op_iadd {a b : Int} {Q : AV → St → Prop} (h : Q (.int (a + b)) σ) : Op2 c (inplaceOp .Add) (.int a) (.int b) σ Q := fun φ s v u R ha hb => by
  cases ha; cases hb; exact lift R.tk (PyProof.Rows.iadd_int (post_toks R.toRel0 (.int ..) h))
theorem op_neg {a : Int} {Q : AV → St → Prop} (h : Q (.int (-a)) σ) : Op1 c (unaryOp .USub) (.int a) σ Q := fun φ s v R ha => by
  cases ha; exact lift R.tk (PyProof.Rows.neg_int (post_toks R.toRel0 (.int ..) h))
theorem op_lt {a b : Int} {Q : AV → St → Prop} (h : Q (.bool (decide (a < b))) σ) : Op2 c (compareOp .Lt) (.int a) (.int b) σ Q := fun φ s v u R ha hb => by
  cases ha; cases hb; exact PyProof.Rows.lt_int (post_here R (.bool _) h)
theorem op_gt {a b : Int} {Q : AV → St → Prop} (h : Q (.bool (decide (b < a))) σ) : Op2 c (compareOp .Gt) (.int a) (.int b) σ Q := fun φ s v u R ha hb => by
  cases ha; cases hb; exact PyProof.Rows.gt_int (post_here R (.bool _) h)
theorem op_ge {a b : Int} {Q : AV → St → Prop} (h : Q (.bool (decide (b ≤ a))) σ) : Op2 c (compareOp .GtE) (.int a) (.int b) σ Q := fun φ s v u R ha hb => by
  cases ha; cases hb; exact PyProof.Rows.ge_int (post_here R (.bool _) h)
theorem op_eq {a b : Int} {Q : AV → St → Prop} (h : Q (.bool (decide (a = b))) σ) : Op2 c (compareOp .Eq) (.int a) (.int b) σ Q := fun φ s v u R ha hb => by
  cases ha; cases hb; exact PyProof.Rows.eq_int (post_here R (.bool _) (by rw [show (a == b) = decide (a = b) from rfl]; exact h))
theorem op_ne {a b : Int} {Q : AV → St → Prop} (h : Q (.bool (!decide (a = b))) σ) : Op2 c (compareOp .NotEq) (.int a) (.int b) σ Q := fun φ s v u R ha hb => by
  cases ha; cases hb; exact PyProof.Rows.ne_int (post_here R (.bool _) (by rw [show (a != b) = !decide (a = b) from rfl]; exact h))

theorem str_append (a b : List Nat) : (Str.mk a.toArray ++ Str.mk b.toArray : Str) = ⟨(a ++ b).toArray⟩ := by
  show Str.append _ _ = _
  unfold Str.append; simp
theorem list_beq (a b : List Nat) : (a == b) = decide (a = b) := by
  by_cases h : a = b
  · subst h; simp
  · simp [h]
theorem str_beq (a b : List Nat) : (Str.mk a.toArray == Str.mk b.toArray) = decide (a = b) := by
  rw [← PyProof.Rows.toList_beq]; exact list_beq a b
theorem str_bne (a b : List Nat) : (Str.mk a.toArray != Str.mk b.toArray) = !decide (a = b) := by
  rw [← PyProof.Rows.toList_bne]; show (!(a == b)) = _; rw [list_beq]
theorem op_adds {a b : List Nat} {Q : AV → St → Prop} (hl : a.length + b.length ≤ sizeLine) (h : Q (.str (a ++ b)) σ) : Op2 c (binaryOp .Add) (.str a) (.str b) σ Q := fun φ s v u R ha hb => by
  cases ha; cases hb
  refine lift R.tk (PyProof.Rows.add_str (fun t' tk => ?_) (by simpa [Str.length] using hl))
  rw [str_append]; exact post_toks R.toRel0 (.str ..) h
theorem op_eqs {a b : List Nat} {Q : AV → St → Prop} (h : Q (.bool (decide (a = b))) σ) : Op2 c (compareOp .Eq) (.str a) (.str b) σ Q := fun φ s v u R ha hb => by
  cases ha; cases hb
  refine PyProof.Rows.eq_str ?_
  rw [str_beq]; exact post_here R (.bool _) h
theorem op_nes {a b : List Nat} {Q : AV → St → Prop} (h : Q (.bool (!decide (a = b))) σ) : Op2 c (compareOp .NotEq) (.str a) (.str b) σ Q := fun φ s v u R ha hb => by
  cases ha; cases hb
  refine PyProof.Rows.ne_str ?_
  rw [str_bne]; exact post_here R (.bool _) h
theorem op_lts {a b : List Nat} {Q : AV → St → Prop} (h : Q (.bool (decide (a < b))) σ) : Op2 c (compareOp .Lt) (.str a) (.str b) σ Q := fun φ s v u R ha hb => by
  cases ha; cases hb
  exact PyProof.Rows.lt_str (post_here R (.bool _) h)
theorem op_gts {a b : List Nat} {Q : AV → St → Prop} (h : Q (.bool (decide (b < a))) σ) : Op2 c (compareOp .Gt) (.str a) (.str b) σ Q := fun φ s v u R ha hb => by
  cases ha; cases hb
  exact PySem.P.gt_str (post_here R (.bool _) h)

theorem op_isNone {a : AV} {Q : AV → St → Prop} (h : Q (.bool (match a with | .none => true | _ => false)) σ) : Op2 c (compareOp .Is) a .none σ Q := fun φ s v u R ha hb => by
  cases hb
  refine is_none ?_
  cases ha <;> exact post_here R (.bool _) h
end
end Mine
end

section
open PySem PySem.W PyProof.Rows PySem.Calls
set_option Elab.async false
set_option maxRecDepth 100000
set_option maxHeartbeats 4000000
set_option linter.unusedVariables false
namespace Mine

section
variable {c : Cx} {φ : PH} {σ : St} {s : Shared}

noncomputable def It (c : Cx) (a b : AV) (σ : St) (Q : AV → St → Prop) : Prop := ∀ φ s v u, Rel c φ σ s → Conc φ a v → Conc φ b u →
  (∃ T id, s.TypeIs v T ∧ typeLookup (.type T) "__getitem__" = pure (some (.builtin id))) ∧ Wp c (getItem v u) (Post c φ σ s Conc Q) s
theorem str_getitem_lookup : typeLookup (.type "str") "__getitem__" = pure (some (.builtin "str.__getitem__")) := F.slot_str_getitem.lookup

theorem ev_idx {e i : Expr} {pos} {Q : AV → St → Prop} (h : Ev c e σ fun a σ₁ => Ev c i σ₁ fun b σ₂ => It c a b σ₂ Q)
    (hs : ∀ v u, subscripted i false v u = operate [v, u] (getItem v u) := by intro _ _; rfl) : Ev c (.Subscript e i pos) σ Q := fun φ s R =>
  Subscript_ ((h φ s R).then fun φ₁ σ₁ s₁ a va x₁ R₁ hc₁ h₁ => (h₁ φ₁ s₁ R₁).then fun φ₂ σ₂ s₂ b vb x₂ R₂ hc₂ h₂ => by
    obtain ⟨⟨T, id, hT, hl⟩, hg⟩ := h₂ φ₂ s₂ va vb R₂ (hc₁.mono x₂.le) hc₂
    exact tail_any hT hl (hg.after (x₁.trans x₂)) (hs _ _))

theorem it_str {l : List Nat} {i : Int} {ch : Nat} {Q : AV → St → Prop} (h1 : -1000000 ≤ i) (h2 : i ≤ 1000000) (hi : (seqIndex? i l.length).bind (l[·]?) = some ch) (h : Q (.str [ch]) σ) : It c (.str l) (.int i) σ Q := fun φ s v u R ha hb => by
  cases ha; cases hb
  refine ⟨⟨"str", _, typeIs_str _ _ _, str_getitem_lookup⟩, lift R.tk (PyProof.Rows.getItem_str ?_ ?_ (post_toks R.toRel0 (.str [ch] _) h))⟩
  · simp; omega
  · simpa [Str.length] using hi

theorem it_list {xs : List AV} {i : Int} {x : AV} {Q : AV → St → Prop} (h1 : 0 ≤ i) (h2 : i ≤ 1000000) (hi : xs[i.toNat]? = some x) (h : Q x σ) : It c (.list xs) (.int i) σ Q := fun φ s v u R ha hb => by
  cases hb with
  | int i t =>
  cases ha with
  | list ho hs =>
    have hT := R.keep _ _ ho
    have hl : s.heap.IsList _ _ := ⟨_, hT, rfl, _, rfl⟩
    obtain ⟨v, hv, hc⟩ := hs.get _ x hi
    exact ⟨⟨"list", _, hl.typeIs, list_getitem_lookup⟩, lift R.tk (wpAny_getItem_list hl h1 (by omega) (by simpa using hv) (post_same R.toRel0 hc h))⟩
theorem it_mu {a : Addr} {xs : List AV} {i : Int} {x : AV} {Q : AV → St → Prop} (hm : σ.mu a = some xs) (h1 : 0 ≤ i) (h2 : i ≤ 1000000) (hi : xs[i.toNat]? = some x) (h : Q x σ) : It c (.ref a) (.int i) σ Q := fun φ s v u R ha hb => by
  cases hb with
  | int i t =>
  cases ha
  obtain ⟨_, o, hT, items, n, rfl, hs⟩ := R.mu a xs hm
  have hl : s.heap.IsList a items := ⟨_, hT, rfl, _, rfl⟩
  obtain ⟨v, hv, hc⟩ := hs.get _ x hi
  exact ⟨⟨"list", _, hl.typeIs, list_getitem_lookup⟩, lift R.tk (wpAny_getItem_list hl h1 (by omega) (by simpa using hv) (post_same R.toRel0 hc h))⟩
theorem it_mu_neg {a : Addr} {xs : List AV} {i : Int} {x : AV} {Q : AV → St → Prop} (hm : σ.mu a = some xs) (h1 : i < 0) (h2 : -(xs.length : Int) ≤ i) (h3 : -1000000 ≤ i) (hi : xs[(i + xs.length).toNat]? = some x) (h : Q x σ) : It c (.ref a) (.int i) σ Q := fun φ s v u R ha hb => by
  cases hb with
  | int i t =>
  cases ha
  obtain ⟨_, o, hT, items, n, rfl, hs⟩ := R.mu a xs hm
  have hl : s.heap.IsList a items := ⟨_, hT, rfl, _, rfl⟩
  obtain ⟨v, hv, hc⟩ := hs.get _ x hi
  have e := hs.length
  rw [Array.length_toList] at e
  exact ⟨⟨"list", _, hl.typeIs, list_getitem_lookup⟩, lift R.tk (wpAny_getItem_list_neg hl h1 (by rw [e]; exact h2) (by omega) (by rw [e]; simpa using hv) (post_same R.toRel0 hc h))⟩

inductive CPart (φ : PH) : Option Int → Value → Prop
  | none : CPart φ none .none
  | some (i : Int) (t : Tok) : CPart φ (some i) (.int i t)
noncomputable def Evp (c : Cx) (e : Option Expr) (σ : St) (Q : Option Int → St → Prop) : Prop := ∀ φ s, Rel c φ σ s → Wp c (evalPart e c.env) (Post c φ σ s CPart Q) s
theorem evp_none {Q : Option Int → St → Prop} (h : Q none σ) : Evp c none σ Q := fun φ s R => wpAny_evalPart_none (post_here R (C := CPart) .none h)
theorem evp_some {e : Expr} {Q : Option Int → St → Prop} (h : Ev c e σ fun a σ₁ => ∃ i, a = .int i ∧ Q (some i) σ₁) : Evp c (some e) σ Q := fun φ s R =>
  wpAny_evalPart_some ((h φ s R).then fun φ₁ σ₁ s₁ a va x₁ R₁ hc₁ h₁ => by
    obtain ⟨i, rfl, hq⟩ := h₁
    cases hc₁ with
    | int i t => exact (post_here R₁ (C := CPart) (.some i t) hq).after x₁)

noncomputable def cut {α : Type} (lo hi : Option Int) (l : List α) : List α := (l.drop (lo.elim 0 (clipAt l.length))).take (hi.elim l.length (clipAt l.length) - lo.elim 0 (clipAt l.length))
theorem cut_length_le {α : Type} (lo hi : Option Int) (l : List α) : (cut lo hi l).length ≤ l.length := by
  unfold cut; rw [List.length_take, List.length_drop]; omega
theorem clipAt_le (n : Nat) (i : Int) : clipAt n i ≤ n := by
  have := clipAt_cast n i
  omega
theorem filterMap_pick {α : Type} (l : List α) (a : Nat) : ∀ k, a + k ≤ l.length → ((List.range k).map (a + ·)).filterMap (l[·]?) = (l.drop a).take k := by
  intro k hk
  apply List.ext_getElem?
  intro j
  rw [List.filterMap_map]
  have e : (List.range k).filterMap ((fun x => l[x]?) ∘ fun x => a + x) = (List.range k).filterMap (fun j => (l.drop a)[j]?) := by
    congr 1; funext j; simp
  rw [e]
  have : ∀ (m : List α) k, k ≤ m.length → (List.range k).filterMap (fun j => m[j]?) = m.take k := by
    intro m k
    induction k with
    | zero => simp
    | succ k ih =>
      intro hk
      rw [List.range_succ, List.filterMap_append, ih (by omega)]
      have hlt : k < m.length := by omega
      rw [List.take_add_one]
      simp only [List.filterMap_cons, List.filterMap_nil, List.getElem?_eq_getElem hlt, Option.toList_some]
  rw [this _ _ (by rw [List.length_drop]; omega)]
theorem strIdx_plain (lo hi : Option Int) (n : Nat) : Builtin.Str.strSliceIndices lo hi 1 n = (List.range (hi.elim n (clipAt n) - lo.elim 0 (clipAt n))).map (lo.elim 0 (clipAt n) + ·) := by
  rw [← sliceRange_one]
  unfold Builtin.Str.strSliceIndices
  cases lo <;> cases hi <;> simp [clipAt_cast]
theorem cut_str (x : Str) (t : Tok) (l u : Option (Int × Tok)) (s : Shared) (Q : Value → Shared → Prop) (hl : x.length ≤ sizeLine) (h : ∀ t' tk, Q (.str ⟨(cut (l.map (·.1)) (u.map (·.1)) x.cps.toList).toArray⟩ t') { s with toks := tk }) : (sliceMade x t l u none).post Q s := by
  have key : ((slicePicked x l u none).filterMap (x.cps[·]?)) = cut (l.map (·.1)) (u.map (·.1)) x.cps.toList := by
    unfold slicePicked cut
    rw [show ((Option.map (fun (x : Int × Tok) => x.fst) none).getD 1) = (1 : Int) from rfl, strIdx_plain]
    rw [show x.cps.toList.length = x.length from by simp [Str.length]]
    rw [show (fun (i : Nat) => x.cps[i]?) = (fun i => x.cps.toList[i]?) from by funext i; simp]
    have hle : (u.map (·.1)).elim x.length (clipAt x.length) ≤ x.length := by
      cases u with
      | none => exact Nat.le_refl _
      | some p => exact clipAt_le _ _
    have hlo : (l.map (·.1)).elim 0 (clipAt x.length) ≤ x.length := by
      cases l with
      | none => exact Nat.zero_le _
      | some p => exact clipAt_le _ _
    exact filterMap_pick x.cps.toList _ _ (by rw [show x.cps.toList.length = x.length from by simp [Str.length]]; omega)
  unfold sliceMade
  split
  · rename_i hfull
    have hlen : (slicePicked x l u none).length = x.length := by
      simp only [Bool.and_eq_true, beq_iff_eq] at hfull; exact hfull.2
    have hx : cut (l.map (·.1)) (u.map (·.1)) x.cps.toList = x.cps.toList := by
      have h2 : (slicePicked x l u none).length = (u.map (·.1)).elim x.length (clipAt x.length) - (l.map (·.1)).elim 0 (clipAt x.length) := by
        unfold slicePicked
        rw [show ((Option.map (fun (x : Int × Tok) => x.fst) none).getD 1) = (1 : Int) from rfl, strIdx_plain]; simp
      have hle : (u.map (·.1)).elim x.length (clipAt x.length) ≤ x.length := by
        cases u with
        | none => exact Nat.le_refl _
        | some p => exact clipAt_le _ _
      unfold cut
      rw [show x.cps.toList.length = x.length from by simp [Str.length]]
      rw [hlen] at h2
      by_cases h0 : x.length = 0
      · have : x.cps.toList = [] := by apply List.eq_nil_of_length_eq_zero; simpa [Str.length] using h0
        rw [this]; simp
      · have ha : (l.map (·.1)).elim 0 (clipAt x.length) = 0 := by omega
        rw [ha, List.drop_zero, List.take_of_length_le]
        rw [show x.cps.toList.length = x.length from by simp [Str.length]]; omega
    have := h t s.toks
    rw [hx] at this
    exact this
  · rw [key]
    refine ⟨?_, h _ _⟩
    have := cut_length_le (l.map (·.1)) (u.map (·.1)) x.cps.toList
    simp only [Str.length, List.size_toArray] at *
    have e2 : x.cps.toList.length = x.cps.size := by simp
    omega

theorem ev_cuts {e : Expr} {lo hi : Option Expr} {p pos} {Q : AV → St → Prop} (h : Ev c e σ fun a σ₁ => ∃ l, a = .str l ∧ l.length ≤ sizeLine ∧ Evp c lo σ₁ fun i σ₂ => Evp c hi σ₂ fun j σ₃ => Q (.str (cut i j l)) σ₃) :
    Ev c (.Subscript e (.Slice lo hi none p) pos) σ Q := fun φ s R => by
  refine lift R.tk (Subscript_ ((h φ s R).then fun φ₁ σ₁ s₁ a va x₁ R₁ hc₁ h₁ => ?_))
  obtain ⟨l, rfl, hlen, h₁⟩ := h₁
  cases hc₁ with
  | str l t =>
  refine wpAny_Slice ((h₁ φ₁ s₁ R₁).then fun φ₂ σ₂ s₂ i vi x₂ R₂ hc₂ h₂ => (h₂ φ₂ s₂ R₂).then fun φ₃ σ₃ s₃ j vj x₃ R₃ hc₃ h₃ => wpAny_evalPart_none ?_)
  have part : ∀ {ψ : PH} {o : Option Int} {v : Value}, CPart ψ o v → ∃ q : Option (Int × Tok), v = partValue q ∧ q.map (·.1) = o := by
    intro ψ o v hp
    cases hp with
    | none => exact ⟨none, rfl, rfl⟩
    | some i t => exact ⟨some (i, t), rfl, rfl⟩
  obtain ⟨qi, rfl, ei⟩ := part (o := i) (v := vi) hc₂
  obtain ⟨qj, rfl, ej⟩ := part (o := j) (v := vj) hc₃
  refine tail_any (typeIs_str _ _ _) str_getitem_lookup (ops := [.ref s₃.heap.objs.size, .str ⟨l.toArray⟩ t]) ?_ (by with_unfolding_all rfl)
  have hsl : (s₃.heap.push { cls := .type "slice", data := .fields #[partValue qi, partValue qj, .none] }).IsSlice s₃.heap.objs.size qi qj none := ⟨_, Heap.get?_push_size _ rfl, rfl, rfl⟩
  refine wpAny_getItem_str_slice (st := none) hsl rfl (cut_str _ _ _ _ _ _ (by simpa [Str.length] using hlen) fun t' tk => ?_)
  rw [ei, ej]
  exact (post_grown R₃.toRel0 (push_k _ _) (.str _ _) h₃).after ((x₁.trans x₂).trans x₃)
theorem Concs.cut {xs : List AV} {vs : List Value} (h : Concs φ xs vs) (i j : Option Int) : Concs φ (cut i j xs) (cut i j vs) := by
  unfold Mine.cut; rw [h.length]; exact (h.drop _).take _
theorem slice_cut (items : Array Value) (i j : Option Int) : (slicePick items i j none).toList = cut i j items.toList := by
  rw [slicePick_plain]; unfold cut; simp
noncomputable def CList (c : Cx) (σ : St) (a : AV) (xs : List AV) : Prop := a = .list xs ∨ ∃ l, a = .ref l ∧ σ.mu l = some xs
theorem ev_cutl {e : Expr} {lo hi : Option Expr} {p pos} {Q : AV → St → Prop} (h : Ev c e σ fun a σ₁ => ∃ xs, a = .list xs ∧ xs.length ≤ sizeLine ∧ Evp c lo σ₁ fun i σ₂ => Evp c hi σ₂ fun j σ₃ => Q (.list (cut i j xs)) σ₃) :
    Ev c (.Subscript e (.Slice lo hi none p) pos) σ Q := fun φ s R => by
  refine lift R.tk (Subscript_ ((h φ s R).then fun φ₁ σ₁ s₁ a va x₁ R₁ hc₁ h₁ => ?_))
  obtain ⟨xs, rfl, hlen, h₁⟩ := h₁
  cases hc₁ with
  | list ho hs =>
  rename_i l items n sl
  refine wpAny_Slice ((h₁ φ₁ s₁ R₁).then fun φ₂ σ₂ s₂ i vi x₂ R₂ hc₂ h₂ => (h₂ φ₂ s₂ R₂).then fun φ₃ σ₃ s₃ j vj x₃ R₃ hc₃ h₃ => wpAny_evalPart_none ?_)
  have part : ∀ {ψ : PH} {o : Option Int} {v : Value}, CPart ψ o v → IsPart v o := by
    intro ψ o v hp
    cases hp with
    | none => exact .none
    | some i t => exact .int i t
  have ho₃ := R₃.keep _ _ ((x₂.trans x₃).le _ _ ho)
  have hl : s₃.heap.IsList l items := ⟨_, ho₃, rfl, _, rfl⟩
  have hls := hl.push { cls := .type "slice", data := .fields #[vi, vj, .none] }
  have hsz : items.size ≤ sizeLine := by have := hs.length; rw [Array.length_toList] at this; omega
  refine tail_any hls.typeIs list_getitem_lookup (ops := [.ref s₃.heap.objs.size, .ref l]) ?_ (by with_unfolding_all rfl)
  refine wpAny_getItem_list_slice hls (Heap.IsSliceOf.new ..) (part (o := i) hc₂) (part (o := j) hc₃) .none (by simp) ?_ hsz
  have hs₃ : Concs φ₃ (cut i j xs) (slicePick items i j none).toList := by rw [slice_cut]; exact (hs.mono (x₂.trans x₃).le).cut i j
  have hk : ∀ b o, s₃.heap.get? b = some o → ((s₃.heap.push { cls := .type "slice", data := .fields #[vi, vj, .none] }).push { cls := .type "list", data := .seq (slicePick items i j none) }).get? b = some o := fun b o e => push_k _ _ _ _ (push_k _ _ _ _ e)
  have hn : s₃.heap.get? (s₃.heap.push { cls := .type "slice", data := .fields #[vi, vj, .none] }).objs.size = none := Heap.get?_none_of_le (by rw [Heap.size_push]; omega)
  have F := R₃.fresh hn
  exact (post_frozen (o := lob (slicePick items i j none) 0 #[]) R₃.toRel0 hk hn (Heap.get?_push_size _ rfl) (.list (PH.add_self ..) (hs₃.mono (PH.le_add F.φ _))) h₃).after ((x₁.trans x₂).trans x₃)
end
end Mine
end

section
open PySem PySem.W PyProof.Rows PySem.Calls
set_option Elab.async false
set_option maxRecDepth 100000
set_option maxHeartbeats 4000000
set_option linter.unusedVariables false
namespace Mine

section
variable {c : Cx} {φ : PH} {σ : St} {s : Shared}

inductive Cbl (w : World) : AV → Prop
  | bi (id) : Cbl w (.bi id)
  | ty (T) : Cbl w (.ty T)
  | ref (a : Addr) (h : keepIn (KK w) (.ref a) = true) : Cbl w (.ref a)
  | bm (T id v) (h : T = "builtin_function_or_method" ∨ T = "method-wrapper") : Cbl w (.bm T id v)

theorem ev_call {x : Str} {np pos} {e : Expr} {es : List Expr} {Q : AV → St → Prop} (G : Gl c)
    (h : Ev c (.Name x np) σ fun f σ₁ => Cbl c.w f ∧ Evs c (e :: es) σ₁ fun as σ₂ => Cl c f as σ₂ Q)
    (he : starEach (e :: es) c.env = (false, eval e c.env) :: starEach es c.env := by rfl) (hplain : (backTo pos (starEach es c.env)).any (·.1) = false := by rfl) :
    Ev c (.Call (.Name x np) (e :: es) [] pos) σ Q := fun φ s R =>
  wpAny_Call_ofName ((h φ s R).then fun φ₁ σ₁ s₁ f fv x₁ R₁ hc₁ h₁ => by
    show wpAny _ _ (callWith pos fv [] (backTo pos (starEach (e :: es) c.env)) []) _ _ _
    obtain ⟨hb, h₁⟩ := h₁
    have fin : wpAny (model c.prog c.w) c.A (spliced (backTo pos (starEach (e :: es) c.env))) (fun vs s₂ => (∀ ob, (∃ a, fv = .ref a ∧ φ₁ a = some ob) → ∀ a, fv = .ref a → φ₁ a = some ob → s₂.heap.get? a = some ob) ∧ (KK c.w).In s₂.heap ∧ wpAny (model c.prog c.w) c.A (call fv ([] ++ vs)) (Post c φ σ s Conc Q) c.E s₂) c.E s₁ :=
      (h₁ φ₁ s₁ pos R₁).then fun φ₂ σ₂ s₂ as vs x₂ R₂ hc₂ h₂ => ⟨fun ob _ a _ q => R₂.keep _ _ (x₂.le _ _ q), R₂.toRel0.base |> fun _ => G.K.keeps (fun b o q => R₂.keep _ _ (R₂.base _ _ q)), (h₂ φ₂ s₂ fv vs R₂ (hc₁.mono x₂.le) hc₂).after (x₁.trans x₂)⟩
    cases hb with
    | bi id => cases hc₁; exact callWith_method1 (wpAny_mono fin (fun vs s₂ z => z.2.2) fun _ _ z => z) he hplain
    | ty T =>
      cases hc₁
      refine PySem.callWith_type (by rw [he]; simpa [backTo] using hplain) ?_
      rw [he] at fin ⊢
      exact evalArgs_plain (wpAny_mono fin (fun vs s₂ z => z.2.2) fun _ _ z => z)
    | ref a hk => cases hc₁; exact callWith_K (K := KK c.w) (R₁.K G) hk (wpAny_mono fin (fun vs s₂ z => ⟨z.2.1, z.2.2⟩) fun _ _ z => z) he hplain
    | bm T id v hT =>
      cases hc₁ with
      | bm ho hs =>
      rename_i u sv
      refine callWith_of (P := fun h => h.get? u = some (bob T id sv)) (by rw [he]; simpa [backTo] using hplain) (fun h hP => ⟨.machine, .inr (.inl rfl), ?_⟩) ?_
      · intro A Q E s k q
        unfold keeperOf
        refine wpAny_bind (wpAny_load (k _ _ hP) ?_)
        rcases hT with rfl | rfl
        · simp only [bob, show (Value.type "builtin_function_or_method" != Value.type "method") = true by decide, show (Value.type "builtin_function_or_method" == Value.type "builtin_function_or_method" || Value.type "builtin_function_or_method" == Value.type "method-wrapper") = true by decide, if_true]
          exact wpAny_pure q
        · simp only [bob, show (Value.type "method-wrapper" != Value.type "method") = true by decide, show (Value.type "method-wrapper" == Value.type "builtin_function_or_method" || Value.type "method-wrapper" == Value.type "method-wrapper") = true by decide, if_true]
          exact wpAny_pure q
      · rw [he] at fin ⊢
        exact evalArgs_plain (wpAny_mono fin (fun vs s₂ z => ⟨z.1 _ ⟨_, rfl, ho⟩ _ rfl ho, z.2.2⟩) fun _ _ z => z))

noncomputable def Mt (c : Cx) (a : AV) (name : Str) (id : String) (σ : St) : Prop := ∀ φ s v pl (Q' : Value × List Value → Shared → Prop), Rel c φ σ s → Conc φ a v → Q' (.builtin id, [v]) s → wpAny (model c.prog c.w) c.A (getMethod v name pl) Q' c.E s

theorem ev_meth {o : Expr} {name : Str} {apos pos : Pos} {e : Expr} {es : List Expr} {pl : Sem Bool} {Q : AV → St → Prop}
    (h : Ev c o σ fun a σ₁ => ∃ id, Mt c a name id σ₁ ∧ Evs c (e :: es) σ₁ fun as σ₂ => Cl c (.bi id) (a :: as) σ₂ Q)
    (hm : eval (.Call (.Attribute o name apos) (e :: es) [] pos) c.env = (do
      let ov ← eval o c.env
      standAt apos.atName
      let (f, first) ← holding [ov] (getMethod ov name pl)
      callWith pos f first (backTo pos (starEach (e :: es) c.env)) []) := by rfl)
    (he : starEach (e :: es) c.env = (false, eval e c.env) :: starEach es c.env := by rfl) (hplain : (backTo pos (starEach es c.env)).any (·.1) = false := by rfl) :
    Ev c (.Call (.Attribute o name apos) (e :: es) [] pos) σ Q := fun φ s R =>
  MethodCall_ (pl := pl) ((h φ s R).then fun φ₁ σ₁ s₁ a av x₁ R₁ hc₁ h₁ => by
    obtain ⟨id, hmt, h₁⟩ := h₁
    refine hmt φ₁ s₁ av pl _ R₁ hc₁ ?_
    exact callWith_method1 ((h₁ φ₁ s₁ pos R₁).then fun φ₂ σ₂ s₂ as vs x₂ R₂ hc₂ h₂ => (h₂ φ₂ s₂ (.builtin id) (av :: vs) R₂ (.bi _) (.cons (hc₁.mono x₂.le) hc₂)).after (x₁.trans x₂)) he hplain) hm
theorem ev_meth0 {o : Expr} {name : Str} {apos pos : Pos} {pl : Sem Bool} {Q : AV → St → Prop}
    (h : Ev c o σ fun a σ₁ => ∃ id, Mt c a name id σ₁ ∧ Cl c (.bi id) [a] σ₁ Q)
    (hm : eval (.Call (.Attribute o name apos) [] [] pos) c.env = (do
      let ov ← eval o c.env
      standAt apos.atName
      let (f, first) ← holding [ov] (getMethod ov name pl)
      callWith pos f first (backTo pos (starEach [] c.env)) []) := by rfl) :
    Ev c (.Call (.Attribute o name apos) [] [] pos) σ Q := fun φ s R =>
  MethodCall_ (pl := pl) ((h φ s R).then fun φ₁ σ₁ s₁ a av x₁ R₁ hc₁ h₁ => by
    obtain ⟨id, hmt, h₁⟩ := h₁
    refine hmt φ₁ s₁ av pl _ R₁ hc₁ ?_
    exact callWith_method0 ((h₁ φ₁ s₁ (.builtin id) [av] R₁ (.bi _) (.cons hc₁ .nil)).after x₁)) hm

theorem mt_join {l : List Nat} : Mt c (.str l) "join" "str.join" σ := fun φ s v pl Q' R hc hq => by cases hc; exact GM.join hq
theorem mt_find {l : List Nat} : Mt c (.str l) "find" "str.find" σ := fun φ s v pl Q' R hc hq => by cases hc; exact GM.find hq
theorem mt_append {a : Addr} {xs : List AV} (hm : σ.mu a = some xs) : Mt c (.ref a) "append" "list.append" σ := fun φ s v pl Q' R hc hq => by
  cases hc
  obtain ⟨_, o, hT, items, n, rfl, hs⟩ := R.mu a xs hm
  exact getMethod_list_append hT rfl rfl hq

theorem cl1 {id : AV} {a : AV} {σ : St} {Q : AV → St → Prop} (h : ∀ φ s fv v, Rel c φ σ s → Conc φ id fv → Conc φ a v → Wp c (call fv [v]) (Post c φ σ s Conc Q) s) : Cl c id [a] σ Q := fun φ s fv vs R hf ha => by
  cases ha with
  | cons h1 hs => cases hs; exact h φ s fv _ R hf h1
theorem cl2 {id : AV} {a b : AV} {σ : St} {Q : AV → St → Prop} (h : ∀ φ s fv v u, Rel c φ σ s → Conc φ id fv → Conc φ a v → Conc φ b u → Wp c (call fv [v, u]) (Post c φ σ s Conc Q) s) : Cl c id [a, b] σ Q := fun φ s fv vs R hf ha => by
  cases ha with
  | cons h1 hs => cases hs with
    | cons h2 hs => cases hs; exact h φ s fv _ _ R hf h1 h2

theorem cl_lens {l : List Nat} {Q : AV → St → Prop} (hl : l.length ≤ 1000000) (h : Q (.int l.length) σ) : Cl c (.bi "len") [.str l] σ Q := cl1 fun φ s fv v R hf ha => by
  cases hf; cases ha
  have e : (Str.mk l.toArray).length = l.length := by simp [Str.length]
  exact lift R.tk (PyProof.Rows.len_str (by rw [e]; omega) (by rw [e]; exact post_toks R.toRel0 (.int ..) h))
theorem cl_len {xs : List AV} {Q : AV → St → Prop} (hl : xs.length ≤ 1000000) (h : Q (.int xs.length) σ) : Cl c (.bi "len") [.list xs] σ Q := cl1 fun φ s fv v R hf ha => by
  cases hf
  cases ha with
  | list ho hs =>
  have e := hs.length
  rw [Array.length_toList] at e
  exact lift R.tk (Calls.call_len_list ⟨_, R.keep _ _ ho, rfl, _, rfl⟩ (by rw [e]; omega) (by rw [e]; exact post_toks R.toRel0 (.int ..) h))
theorem cl_lenm {a : Addr} {xs : List AV} {Q : AV → St → Prop} (hm : σ.mu a = some xs) (hl : xs.length ≤ 1000000) (h : Q (.int xs.length) σ) : Cl c (.bi "len") [.ref a] σ Q := cl1 fun φ s fv v R hf ha => by
  cases hf
  cases ha
  obtain ⟨_, o, hT, items, n, rfl, hs⟩ := R.mu a xs hm
  have e := hs.length
  rw [Array.length_toList] at e
  exact lift R.tk (Calls.call_len_list ⟨_, hT, rfl, _, rfl⟩ (by rw [e]; omega) (by rw [e]; exact post_toks R.toRel0 (.int ..) h))
theorem cl_chr {i : Int} {Q : AV → St → Prop} (h0 : 0 ≤ i) (h1 : i ≤ 1114111) (h : Q (.str [i.toNat]) σ) : Cl c (.bi "chr") [.int i] σ Q := cl1 fun φ s fv v R hf ha => by
  cases hf; cases ha; exact lift R.tk (PyProof.Rows.chr_of_range h0 h1 (post_toks R.toRel0 (.str [i.toNat] _) h))
theorem cl_ord {ch : Nat} {Q : AV → St → Prop} (h : Q (.int ch) σ) : Cl c (.bi "ord") [.str [ch]] σ Q := cl1 fun φ s fv v R hf ha => by
  cases hf; cases ha; exact lift R.tk (P.ord_of_char (post_toks R.toRel0 (.int ..) h))
theorem cl_abs {i : Int} {Q : AV → St → Prop} (h : Q (.int (if i < 0 then -i else i)) σ) : Cl c (.bi "abs") [.int i] σ Q := cl1 fun φ s fv v R hf ha => by
  cases hf; cases ha; exact lift R.tk (PyProof.Rows.call_abs_int fun u tk => post_toks R.toRel0 (.int ..) h)
noncomputable def itx (i : Int) : List Nat := (Str.ofString (toString i)).cps.toList
theorem cl_str {i : Int} {Q : AV → St → Prop} (hi : i.natAbs.log2 < 1920) (h : Q (.str (itx i)) σ) : Cl c (.ty "str") [.int i] σ Q := cl1 fun φ s fv v R hf ha => by
  cases hf; cases ha; exact lift R.tk (P.str_of_int hi (post_toks R.toRel0 (conc_str _ _ _) h))

theorem concs_of {φ : PH} : ∀ {xs : List AV} {vs : List Value}, xs.length = vs.length → (∀ (j : Nat) x v, xs[j]? = some x → vs[j]? = some v → Conc φ x v) → Concs φ xs vs
  | [], [], _, _ => .nil
  | [], _ :: _, h, _ => by simp at h
  | _ :: _, [], h, _ => by simp at h
  | x :: xs, v :: vs, h, k => .cons (k 0 x v rfl rfl) (concs_of (by simpa using h) fun j a b h1 h2 => k (j + 1) a b (by simpa using h1) (by simpa using h2))
theorem concs_chars {φ : PH} {l : List Nat} {acc : Array Value} (h : ItemsOf (SignAt ⟨l.toArray⟩) acc l.length) : Concs φ (l.map fun ch => .str [ch]) acc.toList := by
  refine concs_of (by simp [h.1]) fun j x v h1 h2 => ?_
  obtain ⟨ch, u, h3, rfl⟩ := h.2 j v (by simpa using h2)
  rw [List.getElem?_map] at h1
  have h4 : l[j]? = some ch := by simpa using h3
  rw [h4] at h1
  cases h1
  exact .str [ch] u
theorem cl_liststr {l : List Nat} {Q : AV → St → Prop} (hh : c.A.handled = none) (hl : l.length ≤ 1000000) (h : ∀ a, σ.mu a = none → Q (.ref a) (σ.put a (l.map fun ch => .str [ch]))) : Cl c (.ty "list") [.str l] σ Q := cl1 fun φ s fv v R hf ha => by
  cases hf; cases ha
  have e : (Str.mk l.toArray).cps.size = l.length := by simp
  refine lift R.tk (call_list_str hh _ _ (fun h' tk acc n hk ho hi => ?_) (by rw [e, PySem.sizeLine_eq]; omega))
  rw [e] at hi
  exact post_new R.toRel0 hk (push_new _) ho ⟨_, _, rfl, concs_chars hi⟩ (h _ R.toRel0.fresh_size.mu)
theorem cl_liststr' {l : List Nat} {Q : AV → St → Prop} (hh : c.A.handled = none) (hl : l.length ≤ 1000000) (h : Q (.list (l.map fun ch => .str [ch])) σ) : Cl c (.ty "list") [.str l] σ Q := cl1 fun φ s fv v R hf ha => by
  cases hf; cases ha
  have e : (Str.mk l.toArray).cps.size = l.length := by simp
  refine lift R.tk (call_list_str hh _ _ (fun h' tk acc n hk ho hi => ?_) (by rw [e, PySem.sizeLine_eq]; omega))
  rw [e] at hi
  exact post_frozen (o := lob acc n #[]) R.toRel0 hk (push_new _) ho (.list (PH.add_self ..) (concs_chars hi)) h

end
end Mine
end

section
open PySem PySem.W PyProof.Rows PySem.Calls
set_option Elab.async false
set_option maxRecDepth 100000
set_option maxHeartbeats 4000000
set_option linter.unusedVariables false
namespace Mine

section
variable {c : Cx} {φ : PH} {σ : St} {s : Shared}

theorem mu_isL {a : Addr} {xs : List AV} (R : Rel0 c φ σ s) (hm : σ.mu a = some xs) : ∃ items n, IsL s.heap a items n ∧ Concs φ xs items.toList ∧ items.size = xs.length := by
  obtain ⟨_, o, hT, items, n, rfl, hs⟩ := R.mu a xs hm
  have e := hs.length
  rw [Array.length_toList] at e
  exact ⟨items, n, hT, hs, e⟩
theorem post_mapSeq {a : Addr} {xs ys : List AV} {items : Array Value} {n : Nat} {f : Array Value → Array Value} {α β : Type} {C : PH → α → β → Prop} {Q : α → St → Prop} {x : α} {v : β} (R : Rel0 c φ σ s) (hm : σ.mu a = some xs)
    (hl : IsL s.heap a items n) (hs : Concs φ ys (f items).toList) (hc : C φ x v) (hq : Q x (σ.put a ys)) : Post0 c φ σ s C Q v { s with heap := s.heap.update a (Obj.mapSeq f) } :=
  post_upd (tk := s.toks) R hm (fun b o hb e => ((Heap.SameBut.update s.heap a (Obj.mapSeq f)).2 b hb).trans e) (IsL.update hl f) ⟨_, _, rfl, hs⟩ hc hq
theorem Concs.push {xs : List AV} {items : Array Value} {x : AV} {v : Value} (h : Concs φ xs items.toList) (hv : Conc φ x v) : Concs φ (xs ++ [x]) (items.push v).toList := by
  rw [Array.toList_push]; exact h.append (.cons hv .nil)
theorem size_ok {n : Nat} (h : n ≤ 1000000) : n ≤ sizeLine := by rw [PySem.sizeLine_eq]; omega

theorem cl_append {a : Addr} {xs : List AV} {x : AV} {Q : AV → St → Prop} (hm : σ.mu a = some xs) (hl : xs.length ≤ 1000000) (h : Q .none (σ.put a (xs ++ [x]))) : Cl c (.bi "list.append") [.ref a, x] σ Q := cl2 fun φ s fv v u R hf ha hx => by
  cases hf; cases ha
  obtain ⟨items, n, hL, hs, e⟩ := mu_isL R.toRel0 hm
  refine lift R.tk (call_meets PySem.F.slot_list_append ⟨_, hL, rfl⟩ PySem.F.entry_list_append (PySem.F.args_list_append_2 _ _) (list_append a items n u (size_ok (e ▸ hl))) ⟨hL, ?_⟩)
  exact post_mapSeq R.toRel0 hm hL (hs.push hx) .none h

theorem list_extend' (l : Addr) (items : Array Value) (n : Nat) (b : Addr) (items2 : Array Value) (n2 : Nat) (sl : Array (Option Value)) (hc0 : ¬(!items.isEmpty && Builtin.List.listTooLong (items.size + items2.size)) = true) (hc1 : items.size ≤ sizeLine) (hs2 : items.size + items2.size ≤ sizeLine + 1) :
    Meets (Builtin.«list.extend» ⟨[.ref l, .ref b], []⟩) (fun _ R s => s.heap.get? l = some { cls := .type "list", dict := none, data := .seq items n, slots := #[] } ∧ s.heap.get? b = some { cls := .type "list", dict := none, data := .seq items2 n2, slots := sl } ∧ R (.ok (.ret Value.none)) { s with heap := s.heap.update l (Obj.mapSeq fun x => x ++ items2), toks := s.toks }) :=
  .of_wp fun prog w A R s h => by
    obtain ⟨hp, g, d, tk, os⟩ := s; obtain ⟨hl, hb, h⟩ := h; have f1 := AutoSeq1.idx_int; have f2 := AutoSeq1.sub_tuple_tuple; have f3 := AutoSeq1.sub_list_list; have f4 := AutoSeq1.sub_tuple_list; have f5 := AutoSeq1.sub_list_tuple
    have hz' : (items ++ items2).size ≤ sizeLine + 1 := by rw [Array.size_append]; exact hs2
    wp_walk using (wpAny_updateSeq hl rfl (hz := hc1) (_hz' := hz')), MeetsSeq.wpAny_loadPart' hl, MeetsSeq.wpAny_loadPart' hb
    exact ⟨_, rfl, h⟩
theorem tooLong_small {n : Nat} (h : n ≤ 2000000) : Builtin.List.listTooLong n = false := by
  unfold Builtin.List.listTooLong
  have := PySem.sizeLine_eq
  first | (simp; omega) | (rw [decide_eq_false_iff_not]; omega)
theorem cl_extend {a : Addr} {xs ys : List AV} {Q : AV → St → Prop} (hm : σ.mu a = some xs) (hl : xs.length ≤ 1000000) (hy : ys.length ≤ 1000000) (h : Q .none (σ.put a (xs ++ ys))) : Cl c (.bi "list.extend") [.ref a, .list ys] σ Q := cl2 fun φ s fv v u R hf ha hx => by
  cases hf; cases ha
  obtain ⟨items, n, hL, hs, e⟩ := mu_isL R.toRel0 hm
  cases hx with
  | list ho hs2 =>
  rename_i b items2 n2 sl
  have e2 := hs2.length
  rw [Array.length_toList] at e2
  refine lift R.tk (call_meets PySem.F.slot_list_extend ⟨_, hL, rfl⟩ PySem.F.entry_list_extend (PySem.F.args_list_extend_2 _ _) (list_extend' a items n b items2 n2 sl ?_ (size_ok (e ▸ hl)) ?_) ⟨hL, R.keep _ _ ho, ?_⟩)
  · rw [tooLong_small (by omega), Bool.and_false]; simp
  · rw [PySem.sizeLine_eq]; omega
  · exact post_mapSeq R.toRel0 hm hL (by rw [Array.toList_append]; exact hs.append hs2) .none h
theorem mt_extend {a : Addr} {xs : List AV} (hm : σ.mu a = some xs) : Mt c (.ref a) "extend" "list.extend" σ := fun φ s v pl Q' R hc hq => by
  cases hc
  obtain ⟨items, n, hL, hs, e⟩ := mu_isL R.toRel0 hm
  exact getMethod_builtin ⟨_, hL, rfl⟩ PySem.F.plainAttrs_list PySem.F.slot_list_extend PySem.F.type_list_extend (fun b e => by cases e; exact ⟨_, hL, rfl⟩) hq
theorem mt_pop {a : Addr} {xs : List AV} (hm : σ.mu a = some xs) : Mt c (.ref a) "pop" "list.pop" σ := fun φ s v pl Q' R hc hq => by
  cases hc
  obtain ⟨items, n, hL, hs, e⟩ := mu_isL R.toRel0 hm
  exact getMethod_builtin ⟨_, hL, rfl⟩ PySem.F.plainAttrs_list PySem.F.slot_list_pop PySem.F.type_list_pop (fun b e => by cases e; exact ⟨_, hL, rfl⟩) hq

theorem toList_eraseIdx (xs : Array Value) (k : Nat) : (xs.eraseIdxIfInBounds k).toList = xs.toList.eraseIdx k := by simp
theorem cl_pop {a : Addr} {xs : List AV} {x : AV} {Q : AV → St → Prop} (hm : σ.mu a = some (xs ++ [x])) (hl : xs.length < 1000000) (h : Q x (σ.put a xs)) : Cl c (.bi "list.pop") [.ref a] σ Q := cl1 fun φ s fv v R hf ha => by
  cases hf; cases ha
  obtain ⟨items, n, hL, hs, e⟩ := mu_isL R.toRel0 hm
  have e' : items.size = xs.length + 1 := by simpa using e
  obtain ⟨y, hy, hc⟩ := hs.get xs.length x (by simp)
  have hy' : items[items.size - 1]? = some y := by rw [e']; simpa using hy
  refine lift R.tk (call_meets PySem.F.slot_list_pop ⟨_, hL, rfl⟩ PySem.F.entry_list_pop (PySem.F.args_list_pop_1 _) (MeetsSeq.list_pop_last a items n y hy' (size_ok (by omega))) ⟨hL, ?_⟩)
  refine post_mapSeq R.toRel0 hm hL ?_ hc h
  rw [toList_eraseIdx]
  have := hs.eraseIdx (items.size - 1)
  rw [e'] at this ⊢
  rw [show xs.length + 1 - 1 = xs.length from rfl, List.eraseIdx_append_of_length_le (Nat.le_refl _)] at this
  simpa using this

theorem wp_setItem {prog : Program} {w : World} {A : Around} {E : Value → Shared → Prop} {s : Shared} {l : Addr} {items : Array Value} {n : Nat} {i : Int} {t : Tok} {v : Value} {k : Nat} {Q : Unit → Shared → Prop} (hl : IsL s.heap l items n) (hfit : Builtin.List.listFitsIndex i = true)
    (hk : seqIndex? i items.size = some k) (hlt : k < items.size) (h : Q () { s with heap := s.heap.update l (Obj.mapSeq fun xs => xs.setIfInBounds k v) }) : wpAny (model prog w) A (setItem (.ref l) (.int i t) v) Q E s := by
  have hx : items[k]? = some items[k] := Array.getElem?_eq_getElem hlt
  unfold setItem
  try with_reducible refine wpAny_holding ?_
  first | refine wpAny_bind (wpAny_pure ?_) | skip
  refine wpAny_bind (wpAny_sequenceKey hl.isList.typeIs (by decide) ?_)
  refine wpAny_bind (wpAny_callSpecial?_slot (name := Str.ofString "__setitem__") hl.isList.typeIs slot_list_setitem
    (wpAny_call_entry slot_list_setitem hl.isList.typeIs entry_list_setitem ?_ (args_list_setitem _ _ _)))
  show wpAny _ _ (Builtin.List.listSubscript? (.int i t) >>= _) _ _ s
  refine wpAny_bind (wpAny_listSubscript_int hfit ?_)
  clear hfit
  cases i with
  | ofNat j =>
    have hjk : j = k := by
      have h0 : ¬ ((Int.ofNat j) < 0) := by simp
      simp only [seqIndex?, if_neg h0] at hk
      split at hk
      · cases hk; simp
      · cases hk
    subst hjk
    show wpAny _ _ ((seqItemAt l j >>= fun r => pure (r.map (j, ·))) >>= _) _ _ s
    refine wpAny_bind (wpAny_bind (wpAny_seqItemAt hl rfl (wpAny_pure ?_)))
    rw [hx]
    show wpAny _ _ (setSeqItemAt l j v >>= _) _ _ s
    refine wpAny_bind (wpAny_setSeqItemAt hl rfl ?_)
    first
      | exact wpAny_bind (wpAny_pure (wpAny_pure ⟨.none, rfl, wpAny_pure h⟩))
      | exact wpAny_pure ⟨.none, rfl, wpAny_pure h⟩
  | negSucc j =>
    show wpAny _ _ ((Builtin.List.listItems (.ref l) >>= fun xs => pure ((seqIndex? (Int.negSucc j) xs.size).bind fun i => xs[i]?.map (i, ·))) >>= _) _ _ s
    refine wpAny_bind (wpAny_bind ?_)
    show wpAny _ _ (seqItems? (.ref l) >>= _) _ _ s
    refine wpAny_bind (wpAny_seqItems hl rfl (wpAny_pure (wpAny_pure ?_)))
    rw [hk]
    simp only [Option.bind_some, hx, Option.map_some]
    show wpAny _ _ (setSeqItemAt l k v >>= _) _ _ s
    refine wpAny_bind (wpAny_setSeqItemAt hl rfl ?_)
    first
      | exact wpAny_bind (wpAny_pure (wpAny_pure ⟨.none, rfl, wpAny_pure h⟩))
      | exact wpAny_pure ⟨.none, rfl, wpAny_pure h⟩

noncomputable def idxOf (i : Int) (n : Nat) : Nat := if i < 0 then (i + n).toNat else i.toNat
theorem seqIndex_idxOf {i : Int} {n : Nat} (h1 : -(n : Int) ≤ i) (h2 : i < n) : seqIndex? i n = some (idxOf i n) := by
  unfold idxOf
  by_cases h0 : i < 0
  · simp only [seqIndex?, if_pos h0]
    rw [if_pos (by simp; omega)]
  · simp only [seqIndex?, if_neg h0]
    rw [if_pos (by simp; omega)]
theorem idxOf_lt {i : Int} {n : Nat} (h1 : -(n : Int) ≤ i) (h2 : i < n) : idxOf i n < n := by
  unfold idxOf; split <;> omega
theorem fits_small {i : Int} (h1 : -1000000 ≤ i) (h2 : i ≤ 1000000) : Builtin.List.listFitsIndex i = true := by
  unfold Builtin.List.listFitsIndex; simp; omega

noncomputable def Si (c : Cx) (a i v : AV) (σ : St) (Q : St → Prop) : Prop := ∀ φ s va vi vv, Rel c φ σ s → Conc φ a va → Conc φ i vi → Conc φ v vv → Wp c (setItem va vi vv) (Post c φ σ s (CEq (α := Unit)) fun _ => Q) s
theorem si_mu {a : Addr} {xs : List AV} {i : Int} {x : AV} {Q : St → Prop} (hm : σ.mu a = some xs) (hl : xs.length ≤ 1000000) (h1 : -(xs.length : Int) ≤ i) (h2 : i < xs.length) (h : Q (σ.put a (xs.set (idxOf i xs.length) x))) : Si c (.ref a) (.int i) x σ Q := fun φ s va vi vv R ha hi hx => by
  cases ha
  cases hi with
  | int i t =>
  obtain ⟨items, n, hL, hs, e⟩ := mu_isL R.toRel0 hm
  refine lift R.tk (wp_setItem hL (fits_small (by omega) (by omega)) (by rw [e]; exact seqIndex_idxOf h1 h2) (by rw [e]; exact idxOf_lt h1 h2) ?_)
  refine post_mapSeq R.toRel0 hm hL ?_ rfl h
  rw [Array.toList_setIfInBounds]
  exact hs.set _ hx
theorem ex_setItem {o i e : Expr} {p pos} {Q : AF → St → Prop} (h : Ev c e σ fun v σ₁ => Ev c o σ₁ fun a σ₂ => Ev c i σ₂ fun k σ₃ => Si c a k v σ₃ (Q .next))
    (hs : swapsWith e (some (.Subscript o i p)) pos.line c.env = pure false := by rfl) : Ex c (.Assign [.Subscript o i p] e pos) σ Q := fun φ s R =>
  wpAny_Assign_Subscript ((h φ s R).then fun φ₁ σ₁ s₁ a va x₁ R₁ hc₁ h₁ => (h₁ φ₁ s₁ R₁).then fun φ₂ σ₂ s₂ b vb x₂ R₂ hc₂ h₂ => (h₂ φ₂ s₂ R₂).then fun φ₃ σ₃ s₃ d vd x₃ R₃ hc₃ h₃ =>
    (h₃ φ₃ s₃ vb vd va R₃ (hc₂.mono x₃.le) hc₃ (hc₁.mono (x₂.trans x₃).le)).then fun φ₄ σ₄ s₄ _ _ x₄ R₄ _ h₄ => (post_here R₄ (C := CFl) .next h₄).after (((x₁.trans x₂).trans x₃).trans x₄)) hs
noncomputable def Di (c : Cx) (a i : AV) (σ : St) (Q : St → Prop) : Prop := ∀ φ s va vi, Rel c φ σ s → Conc φ a va → Conc φ i vi → Wp c (delItem va vi) (Post c φ σ s (CEq (α := Unit)) fun _ => Q) s
theorem di_mu {a : Addr} {xs : List AV} {i : Int} {Q : St → Prop} (hm : σ.mu a = some xs) (hl : xs.length ≤ 1000000) (h1 : -(xs.length : Int) ≤ i) (h2 : i < xs.length) (h : Q (σ.put a (xs.eraseIdx (idxOf i xs.length)))) : Di c (.ref a) (.int i) σ Q := fun φ s va vi R ha hi => by
  cases ha
  cases hi with
  | int i t =>
  obtain ⟨items, n, hL, hs, e⟩ := mu_isL R.toRel0 hm
  refine lift R.tk (P.delItem_list hL (fits_small (by omega) (by omega)) (by rw [e]; exact seqIndex_idxOf h1 h2) ?_ (size_ok (by omega)))
  refine post_mapSeq R.toRel0 hm hL ?_ rfl h
  rw [toList_eraseIdx]
  exact hs.eraseIdx _
theorem ex_delItem {o i : Expr} {p pos} {Q : AF → St → Prop} (h : Ev c o σ fun a σ₁ => Ev c i σ₁ fun k σ₂ => Di c a k σ₂ (Q .next)) : Ex c (.Delete [.Subscript o i p] pos) σ Q := fun φ s R =>
  wpAny_Delete (wpAny_deleteEach_cons (wpAny_delete_Subscript ((h φ s R).then fun φ₁ σ₁ s₁ a va x₁ R₁ hc₁ h₁ => (h₁ φ₁ s₁ R₁).then fun φ₂ σ₂ s₂ b vb x₂ R₂ hc₂ h₂ =>
    (h₂ φ₂ s₂ va vb R₂ (hc₁.mono x₂.le) hc₂).then fun φ₃ σ₃ s₃ _ _ x₃ R₃ _ h₃ => wpAny_deleteEach_nil ((post_here R₃ (C := CFl) .next h₃).after ((x₁.trans x₂).trans x₃)))))
end
end Mine
end

section
open PySem PySem.W PyProof.Rows PySem.Calls
set_option Elab.async false
set_option maxRecDepth 100000
set_option maxHeartbeats 4000000
set_option linter.unusedVariables false
namespace Mine

mutual
noncomputable def pd : AV → PyData
  | .none => .none
  | .bool b => .bool b
  | .int i => .int i
  | .str s => .str ⟨s.toArray⟩
  | .list xs => .list (pds xs)
  | .tup xs => .tuple (pds xs)
  | .ref _ => .none
  | .bi _ => .none
  | .ty _ => .none
  | .bm _ _ _ => .none
noncomputable def pds : List AV → List PyData
  | [] => []
  | x :: xs => pd x :: pds xs
end
mutual
noncomputable def dat : AV → Bool
  | .none => true
  | .bool b => true
  | .int i => true
  | .str s => s.all (· < 0x110000)
  | .list xs => dats xs
  | .tup xs => dats xs
  | .ref _ => false
  | .bi _ => false
  | .ty _ => false
  | .bm _ _ _ => false
noncomputable def dats : List AV → Bool
  | [] => true
  | x :: xs => dat x && dats xs
end
mutual
noncomputable def dep : AV → Nat
  | .list xs => deps xs + 1
  | .tup xs => deps xs + 1
  | .none => 0
  | .bool b => 0
  | .int i => 0
  | .str s => 0
  | .ref _ => 0
  | .bi _ => 0
  | .ty _ => 0
  | .bm _ _ _ => 0
noncomputable def deps : List AV → Nat
  | [] => 0
  | x :: xs => max (dep x) (deps xs)
end

theorem reads_of {φ : PH} {h : Heap} (k : ∀ b o, φ b = some o → h.get? b = some o) {a : AV} {v : Value} (hc : Conc φ a v) (d : dat a = true) : ∃ as, Reads h v (pd a) as :=
  Conc.rec (motive_1 := fun a v _ => dat a = true → ∃ as, Reads h v (pd a) as) (motive_2 := fun xs vs _ => dats xs = true → ∃ as, ReadsAll h vs (pds xs) as)
    (fun _ => ⟨_, .none⟩) (fun b _ => ⟨_, .bool b⟩) (fun i t _ => ⟨_, .int i t⟩) (fun s t _ => ⟨_, .str _ t⟩)
    (fun ho _ ih d => let ⟨as, r⟩ := ih d; ⟨_, .list (k _ _ ho) rfl rfl r⟩) (fun ho _ ih d => let ⟨as, r⟩ := ih d; ⟨_, .tuple (k _ _ ho) rfl rfl r⟩)
    (fun _ d => Bool.noConfusion d) (fun _ d => Bool.noConfusion d) (fun _ d => Bool.noConfusion d) (fun _ _ _ d => Bool.noConfusion d)
    (fun _ => ⟨_, .nil⟩) (fun _ _ ih1 ih2 d => by
      have d' := Bool.and_eq_true_iff.mp d
      obtain ⟨as, r⟩ := ih1 d'.1
      obtain ⟨bs, r'⟩ := ih2 d'.2
      exact ⟨_, .cons r r'⟩) hc d
mutual
theorem canLay_pd : ∀ a, dat a = true → (pd a).canLay0 = true
  | .none, _ => by simp only [pd, PyData.canLay0]
  | .bool b, _ => by simp only [pd, PyData.canLay0]
  | .int i, _ => by simp only [pd, PyData.canLay0]
  | .str s, h => by simp only [pd, PyData.canLay0, PyData.strOk]; simpa [dat] using h
  | .list xs, h => by simp only [pd, PyData.canLay0]; exact canLays_pds xs (by simpa [dat] using h)
  | .tup xs, h => by simp only [pd, PyData.canLay0]; exact canLays_pds xs (by simpa [dat] using h)
  | .ref _, h => by simp [dat] at h
  | .bi _, h => by simp [dat] at h
  | .ty _, h => by simp [dat] at h
  | .bm _ _ _, h => by simp [dat] at h
theorem canLays_pds : ∀ a, dats a = true → PyData.canLayAll0 (pds a) = true
  | [], _ => by simp only [pds, PyData.canLayAll0]
  | x :: xs, h => by
    rw [dats, Bool.and_eq_true] at h
    simp only [pds, PyData.canLayAll0, Bool.and_eq_true]
    exact ⟨canLay_pd x h.1, canLays_pds xs h.2⟩
end
mutual
theorem depth_pd : ∀ a, (pd a).depth = dep a
  | .none => by simp only [pd, PyData.depth, dep]
  | .bool b => by simp only [pd, PyData.depth, dep]
  | .int i => by simp only [pd, PyData.depth, dep]
  | .str s => by simp only [pd, PyData.depth, dep]
  | .list xs => by simp only [pd, PyData.depth, dep, depths_pds xs]
  | .tup xs => by simp only [pd, PyData.depth, dep, depths_pds xs]
  | .ref _ => by simp only [pd, PyData.depth, dep]
  | .bi _ => by simp only [pd, PyData.depth, dep]
  | .ty _ => by simp only [pd, PyData.depth, dep]
  | .bm _ _ _ => by simp only [pd, PyData.depth, dep]
theorem depths_pds : ∀ a, PyData.depthAll (pds a) = deps a
  | [] => by simp only [pds, PyData.depthAll, deps]
  | x :: xs => by simp only [pds, PyData.depthAll, deps, depth_pd x, depths_pds xs]
end
noncomputable def shp (a : AV) : Prop := dat a = true ∧ dep a ≤ 60
theorem shp.shaped {a : AV} (h : shp a) : SeqAt.shaped (pd a) = true := by
  unfold SeqAt.shaped
  rw [canLay_pd a h.1, depth_pd]; simp; have := h.2; omega

noncomputable abbrev vstrs (l : List (List Nat)) : List AV := l.map AV.str
noncomputable abbrev vints (l : List Int) : List AV := l.map AV.int
noncomputable def okS (l : List (List Nat)) : Prop := ∀ s ∈ l, ∀ ch ∈ s, ch < 0x110000

theorem dats_strs : ∀ {l : List (List Nat)}, okS l → dats (vstrs l) = true
  | [], _ => rfl
  | s :: l, h => by
    show (dat (.str s) && dats (vstrs l)) = true
    rw [Bool.and_eq_true]
    refine ⟨?_, dats_strs fun t ht => h t (by simp [ht])⟩
    simp only [dat, List.all_eq_true]; intro ch hc; simpa using h s (by simp) ch hc
theorem dats_ints : ∀ {l : List Int}, dats (vints l) = true
  | [] => rfl
  | i :: l => by
    show (dat (.int i) && dats (vints l)) = true
    rw [dats_ints]; rfl
theorem deps_strs : ∀ {l : List (List Nat)}, deps (vstrs l) = 0
  | [] => rfl
  | s :: l => by show max (dep (.str s)) (deps (vstrs l)) = 0; rw [deps_strs]; rfl
theorem deps_ints : ∀ {l : List Int}, deps (vints l) = 0
  | [] => rfl
  | s :: l => by show max (dep (.int s)) (deps (vints l)) = 0; rw [deps_ints]; rfl
theorem shp_strs {l : List (List Nat)} (h : okS l) : shp (.list (vstrs l)) := ⟨dats_strs h, by simp [dep, deps_strs]⟩
theorem shp_ints {l : List Int} : shp (.list (vints l)) := ⟨dats_ints, by simp [dep, deps_ints]⟩
theorem shp_str {s : List Nat} (h : ∀ ch ∈ s, ch < 0x110000) : shp (.str s) := ⟨by simpa [dat] using h, by simp [dep]⟩

theorem eqv_strs : ∀ (l m : List (List Nat)), PyData.eqvAll (pds (vstrs l)) (pds (vstrs m)) = decide (l = m)
  | [], [] => by simp [pds, PyData.eqvAll]
  | [], _ :: _ => by simp [pds, PyData.eqvAll]
  | _ :: _, [] => by simp [pds, PyData.eqvAll]
  | a :: l, b :: m => by
    show PyData.eqvAll (pd (.str a) :: pds (vstrs l)) (pd (.str b) :: pds (vstrs m)) = _
    simp only [pd, PyData.eqvAll, PyData.eqv, eqv_strs l m, str_beq]
    by_cases h : a = b <;> simp [h]
theorem eqv_nil (xs : List AV) : PyData.eqvAll (pds xs) (pds []) = xs.isEmpty := by
  cases xs with
  | nil => simp [pds, PyData.eqvAll]
  | cons x xs => simp [pds, PyData.eqvAll]
theorem any_strs (l : List (List Nat)) (s : List Nat) : ((pds (vstrs l)).any fun y => PyData.eqv y (pd (.str s))) = decide (s ∈ l) := by
  induction l with
  | nil => simp [pds]
  | cons a l ih =>
    show ((pd (.str a) :: pds (vstrs l)).any _) = _
    rw [List.any_cons, ih]
    simp only [pd, PyData.eqv, str_beq]
    by_cases h : a = s
    · subst h; simp
    · simp [h, Ne.symm h]

section
variable {c : Cx} {φ : PH} {σ : St} {s : Shared}
theorem units_ok (G : Gl c) {k : Nat} (hk : k ≤ 4000) : c.A.units + k < cLine := by have := G.un; rw [show cLine = 9900 from rfl]; omega
theorem op_ned {a b : AV} {Q : AV → St → Prop} (G : Gl c) (ha : shp a) (hb : shp b) (h : Q (.bool (!PyData.eqv (pd a) (pd b))) σ) : Op2 c (compareOp .NotEq) a b σ Q := fun φ s v u R hv hu => by
  obtain ⟨as, ra⟩ := reads_of R.keep hv ha.1
  obtain ⟨bs, rb⟩ := reads_of R.keep hu hb.1
  exact SeqAt.compareNe_shaped ra rb ha.shaped hb.shaped (units_ok G (by decide)) (post_here R (.bool _) h)
theorem op_inl {l : List (List Nat)} {x : List Nat} {Q : AV → St → Prop} (G : Gl c) (hl : okS l) (hx : ∀ ch ∈ x, ch < 0x110000) (h : Q (.bool (decide (x ∈ l))) σ) : Op2 c (compareOp .In) (.str x) (.list (vstrs l)) σ Q := fun φ s v u R hv hu => by
  obtain ⟨as, ra⟩ := reads_of R.keep hv (shp_str hx).1
  obtain ⟨bs, rb⟩ := reads_of R.keep hu (dats_strs hl : dat (.list (vstrs l)) = true)
  refine SeqAt.in_list_reads rb ra (canLays_pds _ (dats_strs hl)) (canLay_pd _ (shp_str hx).1) ?_ ?_
  · rw [depths_pds, deps_strs, Nat.zero_min]; exact units_ok G (k := 1) (by decide)
  · rw [any_strs]; exact post_here R (.bool _) h
theorem op_nil {l : List (List Nat)} {x : List Nat} {Q : AV → St → Prop} (G : Gl c) (hl : okS l) (hx : ∀ ch ∈ x, ch < 0x110000) (h : Q (.bool (!decide (x ∈ l))) σ) : Op2 c (compareOp .NotIn) (.str x) (.list (vstrs l)) σ Q := fun φ s v u R hv hu => by
  obtain ⟨as, ra⟩ := reads_of R.keep hv (shp_str hx).1
  obtain ⟨bs, rb⟩ := reads_of R.keep hu (dats_strs hl : dat (.list (vstrs l)) = true)
  refine SeqAt.notIn_list_reads rb ra (canLays_pds _ (dats_strs hl)) (canLay_pd _ (shp_str hx).1) ?_ ?_
  · rw [depths_pds, deps_strs, Nat.zero_min]; exact units_ok G (k := 1) (by decide)
  · rw [any_strs]; exact post_here R (.bool _) h
theorem op_int {l : List (List Nat)} {x : List Nat} {Q : AV → St → Prop} (G : Gl c) (hl : okS l) (hx : ∀ ch ∈ x, ch < 0x110000) (h : Q (.bool (decide (x ∈ l))) σ) : Op2 c (compareOp .In) (.str x) (.tup (vstrs l)) σ Q := fun φ s v u R hv hu => by
  obtain ⟨as, ra⟩ := reads_of R.keep hv (shp_str hx).1
  obtain ⟨bs, rb⟩ := reads_of R.keep hu (dats_strs hl : dat (.tup (vstrs l)) = true)
  refine SeqAt.in_tuple_reads rb ra (canLays_pds _ (dats_strs hl)) (canLay_pd _ (shp_str hx).1) ?_ ?_
  · rw [depths_pds, deps_strs, Nat.zero_min]; exact units_ok G (k := 1) (by decide)
  · rw [any_strs]; exact post_here R (.bool _) h
theorem list_add' (l : Addr) (items : Array Value) (n : Nat) (sl : Array (Option Value)) (b : Addr) (items2 : Array Value) (n2 : Nat) (sl2 : Array (Option Value)) (hsz : items.size + items2.size ≤ sizeLine) :
    Meets (Builtin.«list.__add__» ⟨[.ref l, .ref b], []⟩) (fun _ R s => s.heap.get? l = some { cls := .type "list", dict := none, data := .seq items n, slots := sl } ∧ s.heap.get? b = some { cls := .type "list", dict := none, data := .seq items2 n2, slots := sl2 } ∧ R (.ok (.ret (Value.ref s.heap.objs.size))) { s with heap := s.heap.push { cls := .type "list", dict := none, data := .seq (items ++ items2), slots := #[] }, toks := s.toks }) :=
  .of_wp fun prog w A R s h => by
    obtain ⟨hp, g, d, tk, os⟩ := s; obtain ⟨hl, hb, h⟩ := h; have f1 := AutoSeq1.idx_int; have f2 := AutoSeq1.sub_tuple_tuple; have f3 := AutoSeq1.sub_list_list; have f4 := AutoSeq1.sub_tuple_list; have f5 := AutoSeq1.sub_list_tuple
    wp_walk using MeetsSeq.wpAny_loadPart' hl, MeetsSeq.wpAny_loadPart' hb
    exact ⟨_, rfl, h⟩
theorem op_addl {xs ys : List AV} {Q : AV → St → Prop} (hl : xs.length + ys.length ≤ 1000000) (h : Q (.list (xs ++ ys)) σ) : Op2 c (binaryOp .Add) (.list xs) (.list ys) σ Q := fun φ s v u R hv hu => by
  cases hv with
  | list ho hs =>
  cases hu with
  | list ho' hs' =>
  rename_i a items n sl a' items' n' sl'
  have e := hs.length
  have e' := hs'.length
  rw [Array.length_toList] at e e'
  refine lift R.tk (concat_meets ⟨_, R.keep _ _ ho, rfl⟩ ⟨_, R.keep _ _ ho', rfl⟩ noFill_list_add seq_list_add F.slot_list_add F.entry_list_add (F.args_list_add_2 _ _) (list_add' a items n sl a' items' n' sl' (size_ok (by omega))) ⟨R.keep _ _ ho, R.keep _ _ ho', ?_⟩)
  exact post_frozen (tk := s.toks) R.toRel0 (push_k _ _) (push_new _) (o := lob (items ++ items') 0 #[]) (Heap.get?_push_size _ rfl) (.list (PH.add_self ..) (by rw [Array.toList_append]; exact (hs.append hs').mono (PH.le_add R.fresh_size.φ _))) h
end
end Mine
end

section
open PySem PySem.W PyProof.Rows PySem.Calls
set_option Elab.async false
set_option maxRecDepth 100000
set_option maxHeartbeats 4000000
set_option linter.unusedVariables false
namespace Mine

noncomputable def findc (c : Nat) (l : List Nat) (lo hi : Nat) : Int :=
  match (List.range' lo (hi - lo)).find? (fun i => l[i]? == some c) with
  | some i => i
  | none => -1
open StrLaws in
theorem at_one (x : Str) (c hi i : Nat) (hh : hi ≤ x.length) : At x ⟨#[c]⟩ hi i ↔ i < hi ∧ x.cps.toList[i]? = some c := by
  have h := subAt_one x c i
  unfold At
  have e : (⟨#[c]⟩ : Str).length = 1 := rfl
  rw [e] at h ⊢
  constructor
  · rintro ⟨h1, h2⟩; exact ⟨by omega, h.mp ⟨by omega, h2⟩⟩
  · rintro ⟨h1, h2⟩; exact ⟨by omega, (h.mpr h2).2⟩
theorem find_split {α : Type} (p : α → Bool) (pre : List α) (a : α) (post : List α) (h1 : ∀ i ∈ pre, p i = false) (h2 : p a = true) : (pre ++ a :: post).find? p = some a := by
  rw [List.find?_append, List.find?_eq_none.mpr (by intro x hx; simp [h1 x hx])]
  simp [h2]
open StrLaws in
theorem occ_findc (x : Str) (c lo hi : Nat) (hh : hi ≤ x.length) :
    (match Builtin.Str.occurrences x ⟨#[c]⟩ lo hi 1 with | k :: _ => (k : Int) | [] => -1) = findc c x.cps.toList lo hi := by
  have hp : ∀ i, i < hi → ((x.cps.toList[i]? == some c) = true ↔ At x ⟨#[c]⟩ hi i) := fun i hi' => by rw [at_one x c hi i hh]; simp [hi']
  rw [occ_eq]
  have hr : lo ≤ hi → List.range' lo (hi + 1 - lo) = List.range' lo (hi - lo) ++ [hi] := fun hle => by
    rw [show hi + 1 - lo = (hi - lo) + 1 by omega, List.range'_concat]; simp; omega
  have big : ¬ At x ⟨#[c]⟩ hi hi := fun h => by rw [at_one x c hi hi hh] at h; omega
  unfold findc
  rcases occ_first x ⟨#[c]⟩ hi 1 (Nat.le_refl _) (List.range' lo (hi + 1 - lo)) lo (fun i hi' => (List.mem_range'_1.mp hi').1) with ⟨h0, hn⟩ | ⟨pre, b, post, e, h0, hb, hn⟩
  · have hf : (List.range' lo (hi - lo)).find? (fun i => x.cps.toList[i]? == some c) = none := List.find?_eq_none.mpr (by
      intro i hi'
      have := List.mem_range'_1.mp hi'
      rw [hp i (by omega)]
      exact hn i (List.mem_range'_1.mpr ⟨this.1, by omega⟩))
    rw [h0, hf]
  · have hne : b ≠ hi := fun w => big (w ▸ hb)
    have hbl : b < hi := ((at_one x c hi b hh).mp hb).1
    have hb0 : lo ≤ b := (List.mem_range'_1.mp (e ▸ List.mem_append.mpr (.inr (.head _)) : b ∈ List.range' lo (hi + 1 - lo))).1
    rw [hr (by omega)] at e
    obtain ⟨post', rfl⟩ : ∃ post', post = post' ++ [hi] := by
      rcases List.eq_nil_or_concat post with rfl | ⟨p', z, rfl⟩
      · exfalso
        have e2 := List.append_inj_right' e rfl
        simp at e2
        exact hne e2.symm
      · refine ⟨p', ?_⟩
        have e2 : List.range' lo (hi - lo) ++ [hi] = (pre ++ b :: p') ++ [z] := by rw [e]; simp [List.concat_eq_append]
        have e3 := List.append_inj_right' e2 rfl
        simp at e3
        rw [e3, List.concat_eq_append]
    have e' : List.range' lo (hi - lo) = pre ++ b :: post' := by
      have : List.range' lo (hi - lo) ++ [hi] = (pre ++ b :: post') ++ [hi] := by rw [e]; simp
      exact List.append_cancel_right this
    rw [e', find_split]
    · cases hfs : (forIn (List.range' lo (hi + 1 - lo)) ((#[] : Array Nat), lo) (occBody x ⟨#[c]⟩ hi 1)).run.fst.toList with
      | nil => rw [← Array.getElem?_toList, hfs] at h0; cases h0
      | cons k r => rw [← Array.getElem?_toList, hfs] at h0; cases h0; rfl
    · intro i hi'
      have hm : i ∈ List.range' lo (hi - lo) := e' ▸ List.mem_append.mpr (.inl hi')
      have := List.mem_range'_1.mp hm
      have hno := hn i hi'
      rw [← hp i (by omega)] at hno
      simpa using hno
    · exact (hp b hbl).mpr hb

noncomputable def rep (c : Nat) (z : List Nat) (l : List Nat) : List Nat := l.flatMap fun k => if k = c then z else [k]
theorem rep_append (c : Nat) (z a b : List Nat) : rep c z (a ++ b) = rep c z a ++ rep c z b := by unfold rep; simp
theorem rep_free (c : Nat) (z : List Nat) : ∀ l : List Nat, c ∉ l → rep c z l = l
  | [], _ => rfl
  | k :: r, h => by
    have h1 : ¬ k = c := fun e => h (e ▸ List.mem_cons_self ..)
    have h2 : c ∉ r := fun m => h (List.mem_cons_of_mem _ m)
    have ih := rep_free c z r h2
    unfold rep at ih ⊢
    rw [List.flatMap_cons, if_neg h1, ih]; rfl
theorem rep_one (c : Nat) (z : List Nat) : rep c z [c] = z := by simp [rep]
theorem rep_join (c : Nat) (z : List Nat) : ∀ parts : List Str, (∀ p ∈ parts, c ∉ p.cps.toList) → rep c z (Str.join ⟨#[c]⟩ parts).cps.toList = (Str.join ⟨z.toArray⟩ parts).cps.toList
  | [], _ => rfl
  | [p], h => rep_free c z _ (h p (List.mem_singleton.mpr rfl))
  | p :: q :: r, h => by
    have ih := rep_join c z (q :: r) fun a ha => h a (List.mem_cons_of_mem _ ha)
    show rep c z (p ++ ⟨#[c]⟩ ++ Str.join ⟨#[c]⟩ (q :: r)).cps.toList = (p ++ ⟨z.toArray⟩ ++ Str.join ⟨z.toArray⟩ (q :: r)).cps.toList
    simp only [Str.cps_append, Array.toList_append]
    rw [rep_append, rep_append, ih, rep_free c z _ (h p (List.mem_cons_self ..)), rep_one]
theorem rep_replace (x : Str) (c : Nat) (z : List Nat) : (Txt.replace x ⟨#[c]⟩ ⟨z.toArray⟩).cps.toList = rep c z x.cps.toList := by
  rw [StrLaws.replace_one, ← rep_join c z _ (StrLaws.split_free x c), StrLaws.join_split]
noncomputable def jn (sep : List Nat) : List (List Nat) → List Nat
  | [] => []
  | [x] => x
  | x :: y :: r => x ++ sep ++ jn sep (y :: r)
theorem jn_join (sep : List Nat) : ∀ l : List (List Nat), (Str.join ⟨sep.toArray⟩ (l.map fun s => ⟨s.toArray⟩)) = ⟨(jn sep l).toArray⟩
  | [] => rfl
  | [x] => rfl
  | x :: y :: r => by
    have ih := jn_join sep (y :: r)
    show (⟨x.toArray⟩ ++ ⟨sep.toArray⟩ ++ Str.join ⟨sep.toArray⟩ ((y :: r).map fun s => ⟨s.toArray⟩) : Str) = _
    rw [ih, str_append, str_append]; rfl
theorem joinSize (l : List (List Nat)) (sep : List Nat) (k : Nat) : (List.foldl (fun (a : Nat) (b : Str) => a + b.length + (⟨sep.toArray⟩ : Str).length) k (l.map fun s => (⟨s.toArray⟩ : Str))) = k + (l.map List.length).sum + l.length * sep.length := by
  induction l generalizing k with
  | nil => simp
  | cons a l ih =>
    rw [List.map_cons, List.foldl_cons, ih]
    simp only [List.map_cons, List.sum_cons, List.length_cons, Str.length, List.size_toArray]
    rw [Nat.add_mul]; omega
noncomputable def jsum (sep : List Nat) (l : List (List Nat)) : Nat := (l.map List.length).sum + l.length * sep.length
theorem joinOk_of (l : List (List Nat)) (sep : List Nat) (h : jsum sep l ≤ 1000000) : JoinOk ⟨sep.toArray⟩ (l.map fun s => ⟨s.toArray⟩) = true := by
  unfold JoinOk Builtin.Str.tooLong
  have e := joinSize l sep 0
  rw [List.foldl_toArray', e]
  unfold jsum at h
  have := PySem.sizeLine_eq
  simp; omega
  rfl

section
variable {c : Cx} {φ : PH} {σ : St} {s : Shared}

theorem op_notIn1 {ch : Nat} {l : List Nat} {Q : AV → St → Prop} (h : Q (.bool (!decide (ch ∈ l))) σ) : Op2 c (compareOp .NotIn) (.str [ch]) (.str l) σ Q := fun φ s v u R hv hu => by
  cases hv; cases hu
  refine PyProof.Rows.notIn_str ?_
  rw [show (Str.mk [ch].toArray) = ⟨#[ch]⟩ from rfl, StrLaws.found_one]
  exact post_here R (.bool _) h
theorem tr_str {l : List Nat} {Q : Bool → St → Prop} (hl : l.length ≤ 1000000) (h : Q (!l.isEmpty) σ) : Tr c (.str l) σ Q := fun φ s v R hv => by
  cases hv
  have e : (Str.mk l.toArray).length = l.length := by simp [Str.length]
  refine lift R.tk (P.truthy_str (by rw [e]; omega) ?_)
  rw [e]
  have : ((l.length : Int) != 0) = !l.isEmpty := by cases l with
    | nil => rfl
    | cons a l =>
      have : ((((a :: l).length : Nat) : Int) != 0) = true := by rw [bne_iff_ne]; simp; omega
      rw [this]; rfl
  rw [this]
  exact post_toks R.toRel0 rfl h
theorem concs4 {a b d e : AV} {vs : List Value} (h : Concs φ [a, b, d, e] vs) : ∃ v1 v2 v3 v4, vs = [v1, v2, v3, v4] ∧ Conc φ a v1 ∧ Conc φ b v2 ∧ Conc φ d v3 ∧ Conc φ e v4 := by
  cases h with
  | cons h1 h => cases h with
    | cons h2 h => cases h with
      | cons h3 h => cases h with
        | cons h4 h => cases h; exact ⟨_, _, _, _, rfl, h1, h2, h3, h4⟩
theorem cl_find {ch : Nat} {l : List Nat} {lo hi : Nat} {Q : AV → St → Prop} (hh : hi ≤ l.length) (hl : l.length ≤ 1000000) (h : Q (.int (findc ch l lo hi)) σ) : Cl c (.bi "str.find") [.str l, .str [ch], .int lo, .int hi] σ Q := fun φ s fv vs R hf ha => by
  cases hf
  obtain ⟨v1, v2, v3, v4, rfl, h1, h2, h3, h4⟩ := concs4 ha
  cases h1; cases h2; cases h3; cases h4
  rename_i t1 t2 t3 t4
  refine lift R.tk (call_gives F.slot_str_find (typeIs_str _ _ _) F.entry_str_find (F.args_str_find_4 _ _ _ _) (m := .int (findc ch l lo hi)) ?_ ?_)
  · rw [← occ_findc ⟨l.toArray⟩ ch lo hi (by simpa [Str.length] using hh)]
    show Gives (match Builtin.Str.occurrences ⟨l.toArray⟩ ⟨[ch].toArray⟩ (fromIndex (Str.mk l.toArray).length (lo : Int)) (min (fromIndex (Str.mk l.toArray).length (hi : Int)) (Str.mk l.toArray).length) 1 with | k :: _ => retInt k | [] => (do rule "str.find.not-found"; retInt (-1))) _
    have e1 : ∀ n k : Nat, fromIndex n (k : Int) = k := fun n k => by unfold fromIndex; rw [if_neg (by omega)]; omega
    rw [e1, e1, Nat.min_eq_left (by simpa [Str.length] using hh)]
    rw [show (Str.mk [ch].toArray) = ⟨#[ch]⟩ from rfl]
    cases Builtin.Str.occurrences ⟨l.toArray⟩ ⟨#[ch]⟩ lo hi 1 with
    | nil => exact .rule (.of_eq rfl)
    | cons k _ => exact .of_eq rfl
  · exact post_toks R.toRel0 (.int ..) h

theorem concs_strValues {φ : PH} : ∀ {l : List (List Nat)} {vs : List Value}, Concs φ (vstrs l) vs → ∃ ps : List (Str × Tok), vs = strValues ps ∧ ps.map (·.1) = l.map (fun s => (⟨s.toArray⟩ : Str))
  | [], _, h => by cases h; exact ⟨[], rfl, rfl⟩
  | s :: l, _, h => by
    have h' : Concs φ (.str s :: vstrs l) _ := h
    cases h' with
    | cons h1 h2 =>
      cases h1
      obtain ⟨ps, rfl, e⟩ := concs_strValues h2
      exact ⟨(_, _) :: ps, rfl, by rw [List.map_cons, e]; rfl⟩
theorem wp_join {prog : Program} {w : World} {A : Around} {E : Value → Shared → Prop} {Q : Value → Shared → Prop} {sep : List Nat} {t : Tok} {D : Addr} {items : Array Value} {l : List (List Nat)} (hl : s.heap.IsList D items) (hs : Concs φ (vstrs l) items.toList) (hok : jsum sep l ≤ 1000000)
    (hq : ∀ t' k, Q (.str ⟨(jn sep l).toArray⟩ t') { s with toks := k }) : wpAny (model prog w) A (call (.builtin "str.join") [.str ⟨sep.toArray⟩ t, .ref D]) Q E s := by
  obtain ⟨ps, e1, e2⟩ := concs_strValues hs
  refine SC.join (l := ps) (texts := l.map fun s => ⟨s.toArray⟩) (by rw [← e1]; exact hl) e2 (joinOk_of l sep hok) fun t' k => ?_
  have e : Txt.join ⟨sep.toArray⟩ (l.map fun s => (⟨s.toArray⟩ : Str)) = ⟨(jn sep l).toArray⟩ := by
    rw [← jn_join]; exact StrLaws.glued_eq_join _ _
  rw [e]; exact hq t' k
theorem cl_join {sep : List Nat} {l : List (List Nat)} {Q : AV → St → Prop} (hok : jsum sep l ≤ 1000000) (h : Q (.str (jn sep l)) σ) : Cl c (.bi "str.join") [.str sep, .list (vstrs l)] σ Q := cl2 fun φ s fv v u R hf ha hx => by
  cases hf; cases ha
  cases hx with
  | list ho hs => exact lift R.tk (wp_join ⟨_, R.keep _ _ ho, rfl, _, rfl⟩ hs hok fun t' k => post_toks R.toRel0 (.str ..) h)
theorem cl_joinm {sep : List Nat} {l : List (List Nat)} {a : Addr} {Q : AV → St → Prop} (hm : σ.mu a = some (vstrs l)) (hok : jsum sep l ≤ 1000000) (h : Q (.str (jn sep l)) σ) : Cl c (.bi "str.join") [.str sep, .ref a] σ Q := cl2 fun φ s fv v u R hf ha hx => by
  cases hf; cases ha; cases hx
  obtain ⟨items, n, hL, hs, e⟩ := mu_isL R.toRel0 hm
  exact lift R.tk (wp_join ⟨_, hL, rfl, _, rfl⟩ hs hok fun t' k => post_toks R.toRel0 (.str ..) h)

theorem ev_replace {o : Expr} {y z : Str} {ky kz py pz} {apos pos : Pos} {pl : Sem Bool} {ch : Nat} {zl : List Nat} {Q : AV → St → Prop} (hy : y = ⟨#[ch]⟩) (hz : z = ⟨zl.toArray⟩) (hz4 : zl.length ≤ 14) (hne : (y == z) = false)
    (h : Ev c o σ fun a σ₁ => ∃ l, a = .str l ∧ l.length ≤ 1000000 ∧ Q (.str (rep ch zl l)) σ₁)
    (hm : eval (.Call (.Attribute o "replace" apos) [.Constant (.str y) ky py, .Constant (.str z) kz pz] [] pos) c.env = (do
      let ov ← eval o c.env
      standAt apos.atName
      let (f, first) ← holding [ov] (getMethod ov "replace" pl)
      callWith pos f first (backTo pos (starEach [.Constant (.str y) ky py, .Constant (.str z) kz pz] c.env)) []) := by rfl) :
    Ev c (.Call (.Attribute o "replace" apos) [.Constant (.str y) ky py, .Constant (.str z) kz pz] [] pos) σ Q := fun φ s R =>
  MethodCall_ (pl := pl) ((h φ s R).then fun φ₁ σ₁ s₁ a av x₁ R₁ hc₁ h₁ => by
    obtain ⟨l, rfl, hl, hq⟩ := h₁
    cases hc₁
    subst hy hz
    refine GM.replace (callWith_method1 (Q := Post c φ σ s Conc Q) ?_ (by rfl) (by rfl))
    refine wpAny_items_cons (wpAny_Constant_str (wpAny_items_cons (wpAny_Constant_str (wpAny_items_nil ?_)) (by rfl))) (by rfl)
    have tk := R₁.tk
    refine lift (s₁ := { s₁ with toks := s₁.toks + 1 + 1 }) (by show 0 < s₁.toks + 1 + 1; omega) (SC.replaceW (by show s₁.toks ≠ 0; omega) (by show s₁.toks + 1 ≠ 0; omega) (by show s₁.toks ≠ s₁.toks + 1; omega) hne (by simp [Str.length]; omega) (by simpa [Str.length] using hz4) fun t' k => ?_)
    have e := rep_replace ⟨l.toArray⟩ ch zl
    have e2 : Txt.replace ⟨l.toArray⟩ ⟨#[ch]⟩ ⟨zl.toArray⟩ = ⟨(rep ch zl l).toArray⟩ := by
      rw [show Txt.replace ⟨l.toArray⟩ ⟨#[ch]⟩ ⟨zl.toArray⟩ = ⟨(Txt.replace ⟨l.toArray⟩ ⟨#[ch]⟩ ⟨zl.toArray⟩).cps.toList.toArray⟩ from by simp, e]
    rw [e2]
    exact (post_toks (tk := k) R₁.toRel0 (.str _ _) hq).after x₁) hm
end
end Mine
end

section
open PySem PySem.W PyProof.Rows PySem.Calls
set_option Elab.async false
set_option maxRecDepth 100000
set_option maxHeartbeats 4000000
set_option linter.unusedVariables false
namespace Mine

section
variable {c : Cx} {φ : PH} {σ : St} {s : Shared}

noncomputable def Wl (c : Cx) (test : Expr) (body : List Stmt) (σ : St) (Q : AF → St → Prop) : Prop := ∀ φ s, Rel c φ σ s → WhlRest c.prog c.w c.A c.E c.env test body [] (Post c φ σ s CFl Q) 0 s
noncomputable def WCont (c : Cx) (test : Expr) (body : List Stmt) (Q : AF → St → Prop) : AF → St → Prop
  | .next, σ => Wl c test body σ Q
  | .cont, σ => Wl c test body σ Q
  | .brk, σ => Q .next σ
  | .ret v, σ => Q (.ret v) σ
theorem Wl.after {test : Expr} {body : List Stmt} {Q : AF → St → Prop} {φ' σ' s'} (h : Wl c test body σ' Q) (x : Ext c φ σ s φ' σ' s') (R : Rel c φ' σ' s') : WhlRest c.prog c.w c.A c.E c.env test body [] (Post c φ σ s CFl Q) 0 s' :=
  codeAny_mono (h φ' s' R) fun r s'' z => by
    cases r with
    | ok f => exact z.after x
    | error e => exact z
theorem wl_turn {test : Expr} {body : List Stmt} {Q : AF → St → Prop} (hE : PassesOwn (model c.prog c.w) c.A c.env c.E) (h : Ts c test σ fun b σ₁ => (b = true → Exs c body σ₁ (WCont c test body Q)) ∧ (b = false → Q .next σ₁)) : Wl c test body σ Q := fun φ s R =>
  whl_turn (k := 0) hE ((h φ s R).then fun φ₁ σ₁ s₁ a va x₁ R₁ hc₁ h₁ => by
    cases hc₁
    cases a with
    | true =>
      refine WhlIf.yes rfl ((h₁.1 rfl φ₁ s₁ R₁).then fun φ₂ σ₂ s₂ f vf x₂ R₂ hc₂ h₂ => ?_)
      cases hc₂ with
      | next => exact Wl.after h₂ (x₁.trans x₂) R₂
      | cont => exact Wl.after h₂ (x₁.trans x₂) R₂
      | brk => exact (post_here R₂ (C := CFl) .next h₂).after (x₁.trans x₂)
      | ret hv => exact (post_here R₂ (C := CFl) (Q := Q) (.ret hv) h₂).after (x₁.trans x₂)
    | false => exact WhlIf.no rfl (wpAny_execs_nil ((post_here R₁ (C := CFl) .next (h₁.2 rfl)).after x₁)))
theorem ex_while {test : Expr} {body : List Stmt} {pos} {Q : AF → St → Prop} (h : Wl c test body σ Q) : Ex c (.While test body [] pos) σ Q := fun φ s R => whl_start 0 (h φ s R)

noncomputable def FLoop (prog : Program) (w : World) (A : Around) (E : Value → Shared → Prop) (env : Env) (target : Expr) (it : Value) (body : List Stmt) (Q : Flow → Shared → Prop) (s : Shared) : Prop :=
  codeAny (model prog w) A (.forLoop target it body [] env) (fun r s' => match r with | .ok f => Q f s' | .error e => cameBackBy (model prog w) A env E e s') s
noncomputable def FPost (prog : Program) (w : World) (A : Around) (E : Value → Shared → Prop) (env : Env) (target : Expr) (it : Value) (body : List Stmt) (Q : Flow → Shared → Prop) (f : Flow) (s : Shared) : Prop :=
  match f with
  | .next => FLoop prog w A E env target it body Q s
  | .cont => FLoop prog w A E env target it body Q s
  | .brk => Q .next s
  | .ret v => Q (.ret v) s
noncomputable def FItem (prog : Program) (w : World) (A : Around) (E : Value → Shared → Prop) (env : Env) (target : Expr) (it : Value) (body : List Stmt) (Q : Flow → Shared → Prop) (r : Option Value) (s : Shared) : Prop :=
  match r with
  | none => Q .next s
  | some v => wpAny (model prog w) A (letOwnedTupleGo target it v) (fun _ s₁ => wpAny (model prog w) A (assign target env v) (fun _ s₂ => wpAny (model prog w) A (execs body env) (FPost prog w A E env target it body Q) E s₂) E s₁) E s
theorem floop_turn {prog : Program} {w : World} {A : Around} {E : Value → Shared → Prop} {s : Shared} {env : Env} {target : Expr} {it : Value} {body : List Stmt} {Q : Flow → Shared → Prop} (hE : PassesOwn (model prog w) A env E)
    (h : wpAny (model prog w) A (pyNext it) (FItem prog w A E env target it body Q) E s) : FLoop prog w A E env target it body Q s := by
  refine codeAny_of_tree ?_
  show wpAny _ A ((forTurn target it body [] env).onRaise (fun x => do noteFrame x env; theTreesLotGoes x)) _ _ s
  refine wpAny_noted ?_
  simp only [forTurn]
  refine wpAny_bind (wpAny_standAt (wpAny_bind (wpAny_onRaise (wpAny_mono h (fun r s₁ h₁ => ?_) fun e s' h' => wpAny_standAt (hE e s' h')))))
  cases r with
  | none => exact wpAny_pure ⟨rfl, codeAny_block (wpAny_execs_nil h₁)⟩
  | some v =>
    refine wpAny_bind (wpAny_mono h₁ (fun _ s₁' h₁' => ?_) hE)
    refine wpAny_bind (wpAny_mono h₁' (fun _ s₂ h₂ => wpAny_bind (wpAny_mono h₂ (fun f s₃ h₃ => ?_) hE)) hE)
    cases f with
    | next => exact wpAny_pure ⟨rfl, h₃⟩
    | cont => exact wpAny_pure ⟨rfl, h₃⟩
    | brk => exact wpAny_pure h₃
    | ret v => exact wpAny_pure h₃

theorem Rel0.other {s' : Shared} (R : Rel0 c φ σ s) {I : Addr} (hφ : φ I = none) (hmu : σ.mu I = none) (hown : I ∉ c.own) (houts : I ∉ c.outs) (hc : ∀ p ∈ c.env.cells, p.2 ≠ I) (hL : c.env.locals ≠ I) (hT : tabC ≠ I ∧ tabP ≠ I)
    (hk : ∀ b o, b ≠ I → s.heap.get? b = some o → s'.heap.get? b = some o) (hg : s'.gens = s.gens) (ho : s'.os = s.os) : Rel0 c φ σ s' := by
  refine ⟨R.base, fun a o e => hk _ _ (fun w => by rw [w, hφ] at e; cases e) (R.keep _ _ e), ?_, fun p hp => ?_, R.cdist, fun a ha => ?_, fun a ha => ?_, fun a xs e => ?_, ?_, fun q => hg ▸ R.gens q, ho.trans R.os, R.pt⟩
  · obtain ⟨m, ⟨oL, es, ep, hL', hd, r⟩, h⟩ := R.ns
    exact ⟨m, ⟨oL, es, ep, hk _ _ hL hL', hd, r⟩, h⟩
  · obtain ⟨ob, v, e, r⟩ := R.cells p hp; exact ⟨ob, v, hk _ _ (hc p hp) e, r⟩
  · obtain ⟨h1, h2, h3⟩ := R.own a ha
    obtain ⟨o, e⟩ := Option.isSome_iff_exists.mp h3
    exact ⟨h1, h2, isSome_of (hk _ _ (fun w => hown (w ▸ ha)) e)⟩
  · obtain ⟨h1, h2, h3, h4⟩ := R.outs a ha
    obtain ⟨o, e⟩ := Option.isSome_iff_exists.mp h3
    exact ⟨h1, h2, isSome_of (hk _ _ (fun w => houts (w ▸ ha)) e), h4⟩
  · obtain ⟨h1, o, e', r⟩ := R.mu a xs e; exact ⟨h1, o, hk _ _ (fun w => by rw [w, hmu] at e; cases e) e', r⟩
  · obtain ⟨ps, h1, h2⟩ := R.tab
    have hx : Heap.ExtBut I s.heap s'.heap := fun b ob hb q => hk b ob hb q
    exact ⟨ps, h1.extBut hx hT.1 hT.2, h2.extBut hx hT.1 hT.2⟩
theorem Ext.other {φ₀ σ₀ s₀} {s' : Shared} (x : Ext c φ₀ σ₀ s₀ φ σ s) {I : Addr} (hn : s₀.heap.get? I = none) (hk : ∀ b o, b ≠ I → s.heap.get? b = some o → s'.heap.get? b = some o) (hgd : s'.gens = s.gens ∧ s'.drawn = s.drawn) (hT : tabP ≠ I) : Ext c φ₀ σ₀ s₀ φ σ s' := by
  have ne : ∀ {a o}, s₀.heap.get? a = some o → a ≠ I := fun e w => by rw [w, hn] at e; cases e
  refine ⟨x.le, fun a o h0 h1 h2 h3 e => hk _ _ (ne e) (x.fr a o h0 h1 h2 h3 e), fun a o h e => ?_, fun a e => ?_, x.nφ, x.nm, fun q => ⟨hgd.1.trans (x.gd q).1, hgd.2.trans (x.gd q).2.1, fun o e => hk _ _ hT ((x.gd q).2.2 o e)⟩⟩
  · obtain ⟨sl, q⟩ := x.fo a o h e; exact ⟨sl, hk _ _ (ne e) q⟩
  · obtain ⟨o, q⟩ := Option.isSome_iff_exists.mp e
    obtain ⟨o', q'⟩ := Option.isSome_iff_exists.mp (x.al a e)
    exact isSome_of (hk _ _ (ne q) q')

structure Apart (c : Cx) (φ : PH) (σ : St) (s : Shared) (I : Addr) : Prop where
  φ : φ I = none
  mu : σ.mu I = none
  own : I ∉ c.own
  outs : I ∉ c.outs
  cells : ∀ p ∈ c.env.cells, p.2 ≠ I
  loc : c.env.locals ≠ I
  tab : tabC ≠ I ∧ tabP ≠ I
  here : (s.heap.get? I).isSome = true
theorem Apart.ext {φ' σ' s'} {I : Addr} (h : Apart c φ σ s I) (x : Ext c φ σ s φ' σ' s') : Apart c φ' σ' s' I := by
  obtain ⟨o, e⟩ := Option.isSome_iff_exists.mp h.here
  refine ⟨?_, ?_, h.own, h.outs, h.cells, h.loc, h.tab, x.al _ h.here⟩
  · cases q : φ' I with
    | none => rfl
    | some o => have := x.nφ I h.φ (by rw [q]; simp); rw [this] at e; cases e
  · cases q : σ'.mu I with
    | none => rfl
    | some o => have := x.nm I h.mu (by rw [q]; simp); rw [this] at e; cases e
theorem Apart.new (R : Rel0 c φ σ s) {h' : Heap} {tk : Nat} {I : Addr} (hn : s.heap.get? I = none) (hh : (h'.get? I).isSome = true) : Apart c φ σ { s with heap := h', toks := tk } I := by
  have F := R.fresh hn
  refine ⟨F.φ, F.mu, F.own, F.outs, fun p hp w => ?_, fun w => ?_, ⟨fun w => ?_, fun w => ?_⟩, hh⟩
  · obtain ⟨ob, v, e, _⟩ := R.cells p hp; rw [w, hn] at e; cases e
  · obtain ⟨m, ⟨oL, es, ep, hL', hd, r⟩, h⟩ := R.ns; rw [w, hn] at hL'; cases hL'
  · obtain ⟨ps, ⟨o, vs, file, tf, flags, tg, inF, text, tt, op, ho, hd, _⟩, h2⟩ := R.tab; rw [w, hn] at ho; cases ho
  · obtain ⟨ps, h1, h2⟩ := R.tab; have := h2.2; rw [w, hn] at this; cases this

noncomputable def Fo (c : Cx) (x : Str) (px : Pos) (body : List Stmt) (n : Nat) (vals : Nat → AV) (i : Nat) (σ : St) (Q : AF → St → Prop) : Prop :=
  ∀ φ₀ σ₀ s₀ φ s (I : Addr) (fp : List Addr) (P : Nat → Value → Prop) (S : Nat → Heap → Prop), Walks c.prog c.w c.A I fp [I] n P S → (∀ j h, S j h → (h.get? I).isSome = true) → (∀ b ∈ fp, b = I ∨ φ b ≠ none) → S i s.heap → (∀ j v, j < n → P j v → Conc φ (vals j) v) →
  Ext c φ₀ σ₀ s₀ φ σ s → Rel c φ σ s → s₀.heap.get? I = none → Apart c φ σ s I → FLoop c.prog c.w c.A c.E c.env (.Name x px) (.ref I) body (Post c φ₀ σ₀ s₀ CFl Q) s
noncomputable def FCont (c : Cx) (x : Str) (px : Pos) (body : List Stmt) (n : Nat) (vals : Nat → AV) (i : Nat) (Q : AF → St → Prop) : AF → St → Prop
  | .next, σ => Fo c x px body n vals i σ Q
  | .cont, σ => Fo c x px body n vals i σ Q
  | .brk, σ => Q .next σ
  | .ret v, σ => Q (.ret v) σ
theorem wp_tk {prog : Program} {w : World} {A : Around} {E : Value → Shared → Prop} {s : Shared} {β : Type} {t : Sem β} {Q Q' : β → Shared → Prop} (tk : 0 < s.toks) (h : wpAny (model prog w) A t Q E s) (k : ∀ v s', 0 < s'.toks → Q v s' → Q' v s') : wpAny (model prog w) A t Q' E s := fun Γ p hΓ =>
  Sem.wp_mono _ Γ _ (fun v _ s' z => k v s' z.1 z.2) (fun _ _ _ z => z.2) p s (Sem.wp_toks _ Γ 1 _ _ _ p s tk (h Γ p hΓ))
theorem Walks.tkItem {prog : Program} {w : World} {A : Around} {I : Addr} {fp wr : List Addr} {n : Nat} {P : Nat → Value → Prop} {S : Nat → Heap → Prop} (W : Walks prog w A I fp wr n P S) (i : Nat) (s : Shared) (Q : Option Value → Shared → Prop) (E : Value → Shared → Prop) (tk : 0 < s.toks) (hi : i < n) (st : S i s.heap)
    (h : ∀ v h' tk, 0 < tk → P i v → S (i + 1) h' → (∀ b o, b ∉ wr → s.heap.get? b = some o → h'.get? b = some o) → Q (some v) { s with heap := h', toks := tk }) : wpAny (model prog w) A (pyNext (.ref I)) Q E s :=
  wp_tk (Q := fun r s' => ∃ v h' tk, r = some v ∧ s' = { s with heap := h', toks := tk } ∧ P i v ∧ S (i + 1) h' ∧ ∀ b o, b ∉ wr → s.heap.get? b = some o → h'.get? b = some o) tk
    (W.item i s _ E hi st (fun v h' tk hp hs hk => ⟨v, h', tk, rfl, rfl, hp, hs, hk⟩)) fun r s' ht z => by
      obtain ⟨v, h', tk, rfl, rfl, hp, hs, hk⟩ := z; exact h v h' tk ht hp hs hk
theorem Walks.tkDone {prog : Program} {w : World} {A : Around} {I : Addr} {fp wr : List Addr} {n : Nat} {P : Nat → Value → Prop} {S : Nat → Heap → Prop} (W : Walks prog w A I fp wr n P S) (s : Shared) (Q : Option Value → Shared → Prop) (E : Value → Shared → Prop) (tk : 0 < s.toks) (st : S n s.heap)
    (h : ∀ h' tk, 0 < tk → (∀ b o, b ∉ wr → s.heap.get? b = some o → h'.get? b = some o) → Q none { s with heap := h', toks := tk }) : wpAny (model prog w) A (pyNext (.ref I)) Q E s :=
  wp_tk (Q := fun r s' => ∃ h' tk, r = none ∧ s' = { s with heap := h', toks := tk } ∧ ∀ b o, b ∉ wr → s.heap.get? b = some o → h'.get? b = some o) tk
    (W.done s _ E st (fun h' tk hk => ⟨h', tk, rfl, rfl, hk⟩)) fun r s' ht z => by
      obtain ⟨h', tk, rfl, rfl, hk⟩ := z; exact h h' tk ht hk
theorem go_name {x : Str} {px : Pos} {it v : Value} : letOwnedTupleGo (.Name x px) it v = pure () := by rfl
theorem fo_end {x : Str} {px : Pos} {body : List Stmt} {n : Nat} {vals : Nat → AV} {Q : AF → St → Prop} (hE : PassesOwn (model c.prog c.w) c.A c.env c.E) (h : Q .next σ) : Fo c x px body n vals n σ Q := fun φ₀ σ₀ s₀ φ s I fp P S W hS hfp hst hP X0 R hn hI => by
  refine floop_turn hE (Walks.tkDone W s _ _ R.tk hst fun h' tk ht hk => ?_)
  have hk' : ∀ b o, b ≠ I → s.heap.get? b = some o → h'.get? b = some o := fun b o hb e => hk b o (by simpa using hb) e
  exact ⟨φ, σ, .next, X0.other hn hk' ⟨rfl, rfl⟩ hI.tab.2, ⟨R.toRel0.other hI.φ hI.mu hI.own hI.outs hI.cells hI.loc hI.tab hk' rfl rfl, ht⟩, .next, h⟩
theorem fo_step {x : Str} {px : Pos} {body : List Stmt} {n : Nat} {vals : Nat → AV} {i : Nat} {Q : AF → St → Prop} (G : Gl c) (hE : PassesOwn (model c.prog c.w) c.A c.env c.E) (hL : c.env.locals ∈ c.own) (hkx : c.env.kindOf x = some .local) (hi : i < n)
    (h : Exs c body (σ.set x (vals i)) (FCont c x px body n vals (i + 1) Q)) : Fo c x px body n vals i σ Q := fun φ₀ σ₀ s₀ φ s I fp P S W hS hfp hst hP X0 R hn hI => by
  refine floop_turn hE (Walks.tkItem W i s _ _ R.tk hi hst fun v h' tk ht hPv hst' hk => ?_)
  have hk' : ∀ b o, b ≠ I → s.heap.get? b = some o → h'.get? b = some o := fun b o hb e => hk b o (by simpa using hb) e
  have R' : Rel c φ σ { s with heap := h', toks := tk } := ⟨R.toRel0.other hI.φ hI.mu hI.own hI.outs hI.cells hI.loc hI.tab hk' rfl rfl, ht⟩
  have x' : Ext c φ₀ σ₀ s₀ φ σ { s with heap := h', toks := tk } := X0.other hn hk' ⟨rfl, rfl⟩ hI.tab.2
  have hIh : ((({ s with heap := h', toks := tk } : Shared)).heap.get? I).isSome = true := hS _ _ hst'
  have hI' : Apart c φ σ { s with heap := h', toks := tk } I := ⟨hI.φ, hI.mu, hI.own, hI.outs, hI.cells, hI.loc, hI.tab, hIh⟩
  show wpAny _ _ (letOwnedTupleGo (.Name _ _) (.ref I) v) _ _ _
  rw [go_name]
  refine wpAny_pure (wpAny_assign_Name (Wp.then (sto R' hL hkx G.fn (hP i v hi hPv) (Q := fun σ' => Exs c body σ' (FCont c x px body n vals (i + 1) Q)) h) fun φ₁ σ₁ s₁ _ _ x₁ R₁ _ h₁ => (h₁ φ₁ s₁ R₁).then fun φ₂ σ₂ s₂ f vf x₂ R₂ hc₂ h₂ => ?_))
  have X := x₁.trans x₂
  have hst₂ : S (i + 1) s₂.heap := W.frame _ _ _ hst' fun b hb o e => by
    rcases hfp b hb with rfl | hφ
    · exact X.fr b o (Ne.symm hI'.tab.2) hI'.own hI'.outs hI'.mu e
    · cases q : φ b with
      | none => exact absurd q hφ
      | some o' =>
        have e1 := R'.keep b o' q
        rw [e] at e1; cases e1
        exact R₂.keep b o (X.le b o q)
  have go : ∀ {σ₃}, Fo c x px body n vals (i + 1) σ₃ Q → σ₃ = σ₂ → FLoop c.prog c.w c.A c.E c.env (.Name x px) (.ref I) body (Post c φ₀ σ₀ s₀ CFl Q) s₂ := fun h e => by
    subst e
    exact h φ₀ σ₀ s₀ φ₂ s₂ I fp P S W hS (fun b hb => (hfp b hb).imp id fun hφ => by
      cases q : φ b with
      | none => exact absurd q hφ
      | some o' => rw [X.le b o' q]; simp) hst₂ (fun j v hj hp => (hP j v hj hp).mono X.le) (x'.trans X) R₂ hn (hI'.ext X)
  cases hc₂ with
  | next => exact go h₂ rfl
  | cont => exact go h₂ rfl
  | brk => exact (post_here R₂ (C := CFl) .next h₂).after (x'.trans X)
  | ret hv => exact (post_here R₂ (C := CFl) (Q := Q) (.ret hv) h₂).after (x'.trans X)

theorem fo_start {x : Str} {px : Pos} {body : List Stmt} {n : Nat} {vals : Nat → AV} {Q : AF → St → Prop} {φ₁ σ₁ s₁} (h : Fo c x px body n vals 0 σ₁ Q) (x₁ : Ext c φ σ s φ₁ σ₁ s₁) (R₁ : Rel c φ₁ σ₁ s₁) {h' : Heap} {tk : Nat} {fp : List Addr} {P : Nat → Value → Prop} {S : Nat → Heap → Prop} {I : Addr}
    (hI : s₁.heap.get? I = none) (htk : 0 < tk) (hk : ∀ b o, s₁.heap.get? b = some o → h'.get? b = some o) (W : Walks c.prog c.w c.A I fp [I] n P S) (hS : ∀ j h, S j h → (h.get? I).isSome = true) (hfp : ∀ b ∈ fp, b = I ∨ φ₁ b ≠ none) (hst : S 0 h')
    (hP : ∀ j v, j < n → P j v → Conc φ₁ (vals j) v) : FLoop c.prog c.w c.A c.E c.env (.Name x px) (.ref I) body (Post c φ σ s CFl Q) { s₁ with heap := h', toks := tk } := by
  refine h φ σ s φ₁ _ I fp P S W hS hfp hst hP (x₁.trans (Ext.grow hk)) ⟨R₁.grow hk, htk⟩ ?_ (Apart.new R₁.toRel0 hI (hS _ _ hst))
  cases q : s.heap.get? I with
  | none => rfl
  | some o => have := x₁.al I (isSome_of q); rw [hI] at this; cases this
theorem ex_for_list {x : Str} {px : Pos} {iter : Expr} {body : List Stmt} {pos} {Q : AF → St → Prop} (hh : c.A.handled = none) (h : Ev c iter σ fun a σ₁ => ∃ xs, a = .list xs ∧ Fo c x px body xs.length (fun j => xs.getD j .none) 0 σ₁ Q)
    (hs : ∀ x, foldedSetIterable iter c.env x = pure x := by intro _; rfl) : Ex c (.For (.Name x px) iter body [] pos) σ Q := fun φ s R =>
  wpAny_For ((h φ s R).then fun φ₁ σ₁ s₁ a va x₁ R₁ hc₁ h₁ => by
    obtain ⟨xs, rfl, h₁⟩ := h₁
    cases hc₁ with
    | list ho hc =>
    rename_i l items n sl
    have hl : s₁.heap.IsList l items := ⟨_, R₁.keep _ _ ho, rfl, _, rfl⟩
    refine wpAny_pyIter_list hl ?_
    have hk := push_k s₁.heap { cls := .type "list_iterator", data := .fields #[.ref l, .int 0 0] }
    have hn := push_new s₁.heap
    have hne : l ≠ s₁.heap.objs.size := fun w => by rw [← w, R₁.keep _ _ ho] at hn; cases hn
    have hlen : items.size = xs.length := by have := hc.length; rwa [Array.length_toList] at this
    refine fo_start (tk := s₁.toks) (n := xs.length) (fp := [s₁.heap.objs.size, l]) (P := fun i v => items[i]? = some v) (S := fun i h => h.IsListIter s₁.heap.objs.size l i ∧ h.IsList l items) h₁ x₁ R₁ hn R₁.tk hk (hlen ▸ Walks.list hh s₁.heap.objs.size l hne items) (fun j h z => ?_) (fun b hb => ?_) ⟨⟨_, Heap.get?_push_size _ rfl, rfl, rfl⟩, hl.push _⟩ (fun j v hj hv => ?_)
    · obtain ⟨⟨o, e, _⟩, _⟩ := z; exact isSome_of e
    · simp at hb; rcases hb with rfl | rfl
      · exact .inl rfl
      · exact .inr (by rw [ho]; simp)
    · obtain ⟨y, hy, hc'⟩ := hc.get' j v (by simpa using hv)
      rw [List.getD_eq_getElem?_getD, hy]; exact hc'
    ) hs

theorem concs1 {a : AV} {vs : List Value} (h : Concs φ [a] vs) : ∃ v1, vs = [v1] ∧ Conc φ a v1 := by
  cases h with
  | cons h1 h => cases h; exact ⟨_, rfl, h1⟩
theorem concs2 {a b : AV} {vs : List Value} (h : Concs φ [a, b] vs) : ∃ v1 v2, vs = [v1, v2] ∧ Conc φ a v1 ∧ Conc φ b v2 := by
  cases h with
  | cons h1 h => obtain ⟨_, rfl, h2⟩ := concs1 h; exact ⟨_, _, rfl, h1, h2⟩
theorem concs3 {a b d : AV} {vs : List Value} (h : Concs φ [a, b, d] vs) : ∃ v1 v2 v3, vs = [v1, v2, v3] ∧ Conc φ a v1 ∧ Conc φ b v2 ∧ Conc φ d v3 := by
  cases h with
  | cons h1 h => obtain ⟨_, _, rfl, h2, h3⟩ := concs2 h; exact ⟨_, _, _, rfl, h1, h2, h3⟩

inductive CRange (φ : PH) : Int × Int × Int → Value → Prop
  | mk {a b d : Int} {t u v : Tok} {r : Addr} (h : φ r = some { cls := .type "range", data := .fields #[.int a t, .int b u, .int d v] }) : CRange φ (a, b, d) (.ref r)
noncomputable def ClC (c : Cx) {α : Type} (C : PH → α → Value → Prop) (f : AV) (as : List AV) (σ : St) (Q : α → St → Prop) : Prop := ∀ φ s fv vs, Rel c φ σ s → Conc φ f fv → Concs φ as vs → Wp c (call fv vs) (Post c φ σ s C Q) s
noncomputable def EvC (c : Cx) {α : Type} (C : PH → α → Value → Prop) (e : Expr) (σ : St) (Q : α → St → Prop) : Prop := ∀ φ s, Rel c φ σ s → Wp c (eval e c.env) (Post c φ σ s C Q) s
theorem ev_callty {x : Str} {np pos} {e : Expr} {es : List Expr} {α : Type} {C : PH → α → Value → Prop} {Q : α → St → Prop} (G : Gl c)
    (h : Ev c (.Name x np) σ fun f σ₁ => ∃ T, f = .ty T ∧ Evs c (e :: es) σ₁ fun as σ₂ => ClC c C f as σ₂ Q)
    (he : starEach (e :: es) c.env = (false, eval e c.env) :: starEach es c.env := by rfl) (hplain : (backTo pos (starEach es c.env)).any (·.1) = false := by rfl) :
    EvC c C (.Call (.Name x np) (e :: es) [] pos) σ Q := fun φ s R =>
  wpAny_Call_ofName ((h φ s R).then fun φ₁ σ₁ s₁ f fv x₁ R₁ hc₁ h₁ => by
    show wpAny _ _ (callWith pos fv [] (backTo pos (starEach (e :: es) c.env)) []) _ _ _
    obtain ⟨T, rfl, h₁⟩ := h₁
    cases hc₁
    refine PySem.callWith_type (by rw [he]; simpa [backTo] using hplain) ?_
    have fin : wpAny (model c.prog c.w) c.A (spliced (backTo pos (starEach (e :: es) c.env))) (fun vs s₂ => wpAny (model c.prog c.w) c.A (call (.type T) ([] ++ vs)) (Post c φ σ s C Q) c.E s₂) c.E s₁ :=
      (h₁ φ₁ s₁ pos R₁).then fun φ₂ σ₂ s₂ as vs x₂ R₂ hc₂ h₂ => (h₂ φ₂ s₂ _ vs R₂ (.ty _) hc₂).after (x₁.trans x₂)
    rw [he] at fin ⊢
    exact evalArgs_plain fin)
theorem range_new {a b d : Int} {t u v : Tok} {tk : Nat} {Q : Int × Int × Int → St → Prop} (R : Rel c φ σ s) (h : Q (a, b, d) σ) : Post0 c φ σ s CRange Q (.ref s.heap.objs.size) { s with heap := s.heap.push { cls := .type "range", data := .fields #[.int a t, .int b u, .int d v] }, toks := tk } :=
  post_frozen R.toRel0 (push_k _ _) (push_new _) (o := { cls := .type "range", data := .fields #[.int a t, .int b u, .int d v] }) (Heap.get?_push_size _ rfl) (.mk (PH.add_self ..)) h
theorem cl_range1 {n : Int} {Q : Int × Int × Int → St → Prop} (h : Q (0, n, 1) σ) : ClC c CRange (.ty "range") [.int n] σ Q := fun φ s fv vs R hf ha => by
  obtain ⟨_, rfl, h1⟩ := concs1 ha
  cases hf; cases h1; exact lift R.tk (call_range_1 (range_new R h))
theorem cl_range2 {a b : Int} {Q : Int × Int × Int → St → Prop} (h : Q (a, b, 1) σ) : ClC c CRange (.ty "range") [.int a, .int b] σ Q := fun φ s fv vs R hf ha => by
  obtain ⟨_, _, rfl, h1, h2⟩ := concs2 ha
  cases hf; cases h1; cases h2; exact lift R.tk (call_range_2 (range_new R h))
theorem cl_range3 {a b d : Int} {Q : Int × Int × Int → St → Prop} (hd : d ≠ 0) (hp : Builtin.divisionGoesByPylong (b - a) d = false) (h : Q (a, b, d) σ) : ClC c CRange (.ty "range") [.int a, .int b, .int d] σ Q := fun φ s fv vs R hf ha => by
  obtain ⟨_, _, _, rfl, h1, h2, h3⟩ := concs3 ha
  cases hf; cases h1; cases h2; cases h3; exact lift R.tk (call_range_3 hd (range_new (tk := s.toks) R h) (.inl hp))
noncomputable def rsz (a b d : Int) : Nat := (Builtin.Range.rangeSize a b d).toNat
theorem rangeSize_nn (a b d : Int) : 0 ≤ Builtin.Range.rangeSize a b d := by
  unfold Builtin.Range.rangeSize
  split <;> split <;> first | omega | (have := Int.ediv_nonneg (a := b - a - 1) (b := d) (by omega) (by omega); omega) | (have := Int.ediv_nonneg (a := a - b - 1) (b := -d) (by omega) (by omega); omega)
theorem ex_for_range {x : Str} {px : Pos} {iter : Expr} {body : List Stmt} {pos} {Q : AF → St → Prop} (hh : c.A.handled = none) (h : EvC c CRange iter σ fun r σ₁ => Builtin.Range.small r.1 r.2.1 r.2.2 = true ∧ Fo c x px body (rsz r.1 r.2.1 r.2.2) (fun j => .int (r.1 + j * r.2.2)) 0 σ₁ Q)
    (hs : ∀ x, foldedSetIterable iter c.env x = pure x := by intro _; rfl) : Ex c (.For (.Name x px) iter body [] pos) σ Q := fun φ s R =>
  wpAny_For ((h φ s R).then fun φ₁ σ₁ s₁ a va x₁ R₁ hc₁ h₁ => by
    cases hc₁ with
    | mk ho =>
    rename_i a b d t u v r
    obtain ⟨hsm, h₁⟩ := h₁
    refine wpAny_pyIter_range (R₁.keep _ _ ho) hsm ?_
    have hn := push_new s₁.heap
    refine fo_start (tk := s₁.toks) (n := rsz a b d) (fp := [s₁.heap.objs.size]) (P := fun i v => ∃ t, v = .int (a + i * d) t) (S := fun i h => IsRangeIter h s₁.heap.objs.size (a + (i : Nat) * d) ((rsz a b d : Int) - (i : Nat)) d) h₁ x₁ R₁ hn R₁.tk (push_k _ _) (Walks.range hh _ a d _) (fun j h z => isSome_of z) (fun b hb => .inl (by simpa using hb)) ?_ (fun j v hj hv => ?_)
    · have e : Builtin.Range.rangeSize a b d = ((rsz a b d : Nat) : Int) := by unfold rsz; have := rangeSize_nn a b d; omega
      show IsRangeIter _ _ _ _ _
      rw [e, show a + ((0 : Nat) : Int) * d = a by simp, show ((rsz a b d : Nat) : Int) - ((0 : Nat) : Int) = rsz a b d by simp]
      exact Heap.get?_push_size _ rfl
    · obtain ⟨t, rfl⟩ := hv; exact .int _ _) hs
end
end Mine
end

section
open PySem PySem.W PyProof.Rows PySem.Calls
set_option Elab.async false
set_option maxRecDepth 100000
set_option maxHeartbeats 4000000
set_option linter.unusedVariables false
namespace Mine

mutual
inductive Frz (mu : Addr → Option (List AV)) : AV → AV → Prop
  | same (a : AV) : Frz mu a a
  | ref {r : Addr} {xs ys : List AV} (h : mu r = some xs) (hs : Frzs mu xs ys) : Frz mu (.ref r) (.list ys)
  | list {xs ys : List AV} (hs : Frzs mu xs ys) : Frz mu (.list xs) (.list ys)
  | tup {xs ys : List AV} (hs : Frzs mu xs ys) : Frz mu (.tup xs) (.tup ys)
inductive Frzs (mu : Addr → Option (List AV)) : List AV → List AV → Prop
  | nil : Frzs mu [] []
  | cons {x y : AV} {xs ys : List AV} (h : Frz mu x y) (hs : Frzs mu xs ys) : Frzs mu (x :: xs) (y :: ys)
end
theorem Frzs.same (mu : Addr → Option (List AV)) : ∀ xs, Frzs mu xs xs
  | [] => .nil
  | x :: xs => .cons (.same x) (Frzs.same mu xs)
noncomputable def PH.frz (φ : PH) (mu : Addr → Option (List AV)) (h : Heap) : PH := fun a => match φ a with
  | some o => some o
  | none => match mu a with
    | some _ => h.get? a
    | none => none
theorem PH.le_frz (φ : PH) (mu : Addr → Option (List AV)) (h : Heap) : PLe φ (φ.frz mu h) := fun a o e => by unfold PH.frz; rw [e]

section
variable {c : Cx} {φ : PH} {σ : St} {s : Shared}
theorem Frz.conc (R : Rel0 c φ σ s) {a b : AV} {v : Value} (h : Frz σ.mu a b) (hc : Conc φ a v) : Conc (φ.frz σ.mu s.heap) b v :=
  Frz.rec (motive_1 := fun a b _ => ∀ v, Conc φ a v → Conc (φ.frz σ.mu s.heap) b v) (motive_2 := fun xs ys _ => ∀ vs, Concs φ xs vs → Concs (φ.frz σ.mu s.heap) ys vs)
    (fun a v hc => hc.mono (PH.le_frz φ σ.mu s.heap))
    (fun h hs ih v hc => by
      cases hc
      obtain ⟨h1, o, h2, items, n, rfl, h3⟩ := R.mu _ _ h
      refine .list (n := n) (sl := #[]) ?_ (ih _ h3)
      unfold PH.frz; rw [h1, h]; exact h2)
    (fun hs ih v hc => by
      cases hc with
      | list h1 h2 => exact .list (PH.le_frz _ _ _ _ _ h1) (ih _ h2))
    (fun hs ih v hc => by
      cases hc with
      | tup h1 h2 => exact .tup (PH.le_frz _ _ _ _ _ h1) (ih _ h2))
    (fun vs hc => by cases hc; exact .nil)
    (fun h hs ih1 ih2 vs hc => by
      cases hc with
      | cons h1 h2 => exact .cons (ih1 _ h1) (ih2 _ h2)) h v hc

inductive Rl (φ : PH) : List (Str × AV) → List (Str × Value) → Prop
  | nil : Rl φ [] []
  | cons {x : Str} {a : AV} {v : Value} {ps qs} (h : Conc φ a v) (hs : Rl φ ps qs) : Rl φ ((x, a) :: ps) ((x, v) :: qs)
theorem Rl.append {ps qs ps' qs'} (h : Rl φ ps qs) (h' : Rl φ ps' qs') : Rl φ (ps ++ ps') (qs ++ qs') := by
  induction h with
  | nil => exact h'
  | cons h _ ih => exact .cons h ih
theorem Rl.reverse {ps qs} (h : Rl φ ps qs) : Rl φ ps.reverse qs.reverse := by
  induction h with
  | nil => exact .nil
  | cons h _ ih =>
    rw [List.reverse_cons, List.reverse_cons]
    exact ih.append (.cons h .nil)
theorem Rl.lookup {ps qs} (h : Rl φ ps qs) : ∀ x a, ps.lookup x = some a → ∃ v, qs.lookup x = some v ∧ Conc φ a v := by
  induction h with
  | nil => intro x a e; cases e
  | cons h _ ih =>
    intro x a e
    rw [List.lookup_cons] at e ⊢
    split at e
    · cases e; exact ⟨_, rfl, h⟩
    · exact ih x a e
theorem Rl.zip (names : List Str) : ∀ {as vs}, Concs φ as vs → Rl φ (names.zip as) (names.zip vs) := by
  induction names with
  | nil => intro as vs h; exact .nil
  | cons n ns ih =>
    intro as vs h
    cases h with
    | nil => exact .nil
    | cons h hs => exact .cons h (ih hs)

noncomputable def calleeCx (c : Cx) (fd : FuncData) (f L : Addr) : Cx := { c with outs := c.own ++ c.outs, A := c.A.deeper (callEnv fd L f), env := callEnv fd L f, E := fun _ _ => False, own := [L] }
noncomputable def startSt (names : List Str) (as : List AV) : St := { m := fun x => (names.zip as).reverse.lookup x, mu := fun _ => none }

structure FnOk (K : Frag) (f : Addr) (fd : FuncData) (body : List Stmt) (names : List Str) : Prop where
  obj : ∃ oc od osl, K.lookup f = some ⟨oc, od, .func fd, osl⟩
  code : codeIn K fd.code fd.qualname = true
  body : fd.body = .stmts body
  cell : ∀ x ∈ fd.scope.names, x.2 ≠ .cell
  loc : ∀ x ∈ names, fd.scope.names.lookup x = some .local
  co : fd.scope.isCoroutine = false
  gen : fd.scope.isGenerator = false
  fn : fd.scope.kind = .function
  gl : fd.globals = mainGlobals
  bl : fd.builtins = builtinsNs

theorem Gl.callee {fd : FuncData} {f L : Addr} {body names} (G : Gl c) (F : FnOk (KK c.w) f fd body names) (hd : c.A.depth < 600) (hu : c.A.units < 4990) (hL : L ≠ tabP) : Gl (calleeCx c fd f L) where
  K := G.K
  T := G.T
  lim := G.lim
  dig := G.dig
  gl := F.gl
  bl := F.bl
  fn := F.fn
  dep := by show c.A.depth + 1 ≤ 600; omega
  un := by show c.A.units + 3 ≤ 5000; omega
  gd := G.gd
  tn := ⟨fun q => hL (by simpa [calleeCx] using (List.mem_singleton.mp q).symm), fun q => (List.mem_append.mp q).elim G.tn.1 G.tn.2⟩

theorem Rel.enter {fd : FuncData} {f : Addr} {body : List Stmt} {names : List Str} {as : List AV} {vs : List Value} (R : Rel c φ σ s) (F : FnOk (KK c.w) f fd body names) (ha : Concs φ as vs) {h₀ : Heap} (hn : h₀.Ns s.heap.objs.size fun x => (names.zip vs).reverse.lookup x)
    (hk : ∀ b o, s.heap.get? b = some o → h₀.get? b = some o) {tk : Nat} (ht : 0 < tk) (hcl : fd.closure = []) : Rel (calleeCx c fd f s.heap.objs.size) φ (startSt names as) { s with heap := h₀, toks := tk } := by
  have nL := push_new s.heap
  have F' := R.fresh_size
  refine ⟨⟨R.base, fun a o e => hk _ _ (R.keep _ _ e), ⟨_, hn, fun x a e _ => (Rl.zip names ha).reverse.lookup x a e⟩, ?_, ?_, fun a h => ?_, fun a h => ?_, fun a xs e => (by cases e), ?_, R.gens, R.os, R.pt⟩, ht⟩
  · intro p hp
    have : (calleeCx c fd f s.heap.objs.size).env.cells = fd.closure := rfl
    rw [this, hcl] at hp; cases hp
  · intro p hp
    have : (calleeCx c fd f s.heap.objs.size).env.cells = fd.closure := rfl
    rw [this, hcl] at hp; cases hp
  · have e : a = s.heap.objs.size := by simpa [calleeCx] using h
    subst e
    obtain ⟨o, _, _, ho, _⟩ := hn
    exact ⟨F'.φ, rfl, isSome_of ho⟩
  · have alive : (s.heap.get? a).isSome = true := by
      rcases List.mem_append.mp h with h | h
      · exact R.own_alive h
      · exact (R.outs a h).2.2.1
    have hφ : φ a = none := by
      rcases List.mem_append.mp h with h | h
      · exact (R.own a h).1
      · exact (R.outs a h).1
    obtain ⟨o, e⟩ := Option.isSome_iff_exists.mp alive
    refine ⟨hφ, rfl, isSome_of (hk _ _ e), fun q => ?_⟩
    have e' : a = s.heap.objs.size := by simpa [calleeCx] using q
    rw [e', nL] at e; cases e
  · obtain ⟨ps, h1, h2⟩ := R.tab; exact ⟨ps, h1.keeps hk, h2.keeps hk⟩

theorem Rel.leave {fd : FuncData} {f : Addr} {names : List Str} {as : List AV} (R : Rel c φ σ s) {h₀ : Heap} (hk : ∀ b o, s.heap.get? b = some o → h₀.get? b = some o) {tk : Nat} {φ₂ σ₂ s₂}
    (x : Ext (calleeCx c fd f s.heap.objs.size) φ (startSt names as) { s with heap := h₀, toks := tk } φ₂ σ₂ s₂) (R₂ : Rel (calleeCx c fd f s.heap.objs.size) φ₂ σ₂ s₂) :
    Ext c φ σ s (φ₂.frz σ₂.mu s₂.heap) σ s₂ ∧ Rel c (φ₂.frz σ₂.mu s₂.heap) σ s₂ := by
  have nL := push_new s.heap
  have ne : ∀ {a o}, s.heap.get? a = some o → a ≠ s.heap.objs.size := fun e w => by rw [w, nL] at e; cases e
  have nown : ∀ {a o}, s.heap.get? a = some o → a ∉ (calleeCx c fd f s.heap.objs.size).own := fun e q => ne e (by simpa [calleeCx] using q)
  have back : ∀ {a}, h₀.get? a = none → s.heap.get? a = none := fun {a} h => by
    cases q : s.heap.get? a with
    | none => rfl
    | some o => rw [hk _ _ q] at h; cases h
  have stay : ∀ a o, (a ∈ c.own ++ c.outs ∨ a ≠ tabP) → s.heap.get? a = some o → ∃ sl, s₂.heap.get? a = some { o with slots := sl } := fun a o h0 e => by
    by_cases h : a ∈ (calleeCx c fd f s.heap.objs.size).outs
    · exact x.fo a o h (hk _ _ e)
    · exact ⟨o.slots, x.fr a o (h0.resolve_left h) (nown e) h rfl (hk _ _ e)⟩
  have same : ∀ a o, a ≠ tabP → a ∉ c.own → a ∉ c.outs → s.heap.get? a = some o → s₂.heap.get? a = some o := fun a o h0 h1 h2 e =>
    x.fr a o h0 (nown e) (fun q => (List.mem_append.mp q).elim h1 h2) rfl (hk _ _ e)
  have nfrz : ∀ a, φ a = none → (s.heap.get? a).isSome = true → φ₂.frz σ₂.mu s₂.heap a = none := fun a h1 h2 => by
    obtain ⟨o, e⟩ := Option.isSome_iff_exists.mp h2
    have e1 : φ₂ a = none := by
      cases q : φ₂ a with
      | none => rfl
      | some o => have := back (x.nφ a h1 (by rw [q]; simp)); rw [this] at e; cases e
    have e2 : σ₂.mu a = none := by
      cases q : σ₂.mu a with
      | none => rfl
      | some o => have := back (x.nm a rfl (by rw [q]; simp)); rw [this] at e; cases e
    unfold PH.frz; rw [e1, e2]
  have le : PLe φ (φ₂.frz σ₂.mu s₂.heap) := x.le.trans (PH.le_frz φ₂ σ₂.mu s₂.heap)
  have keep : ∀ a o, φ₂.frz σ₂.mu s₂.heap a = some o → s₂.heap.get? a = some o := fun a o e => by
    unfold PH.frz at e
    split at e
    · rename_i o' h; cases e; exact R₂.keep _ _ h
    · split at e
      · exact e
      · cases e
  refine ⟨⟨le, fun a o h0 h1 h2 _ e => same a o h0 h1 h2 e, fun a o h e => stay a o (.inl (List.mem_append.mpr (.inr h))) e, fun a e => ?_, fun a h h' => ?_, fun a h h' => absurd h h', fun q => ⟨(x.gd q).1, (x.gd q).2.1, fun o e => (x.gd q).2.2 o (hk _ _ e)⟩⟩, ⟨fun a o e => le _ _ (R.base _ _ e), keep, ?_, fun p hp => ?_, R.cdist, fun a ha => ?_, fun a ha => ?_, fun a xs e => ?_, R₂.tab, R₂.gens, R₂.os, ?_⟩, R₂.tk⟩
  · obtain ⟨o, q⟩ := Option.isSome_iff_exists.mp e
    by_cases w : a = tabP
    · obtain ⟨ps, _, h2⟩ := R₂.tab
      rw [w]; exact isSome_of h2.2
    · obtain ⟨sl, q'⟩ := stay a o (.inr w) q
      exact isSome_of q'
  · cases q : s.heap.get? a with
    | none => rfl
    | some o => exact absurd (nfrz a h (isSome_of q)) h'
  · obtain ⟨m, ⟨oL, es, ep, hL', hd, r⟩, h⟩ := R.ns
    obtain ⟨sl, q⟩ := stay _ _ (.inr (Ne.symm R.tabL.2)) hL'
    exact ⟨m, ⟨{ oL with slots := sl }, es, ep, q, hd, r⟩, fun x a e k => let ⟨v, h1, h2⟩ := h x a e k; ⟨v, h1, h2.mono le⟩⟩
  · obtain ⟨ob, v, e, hd, r⟩ := R.cells p hp
    obtain ⟨sl, q⟩ := stay _ _ (.inr (fun w => by
      obtain ⟨ps, _, h2⟩ := R.tab
      have := h2.2; rw [← w, e] at this; cases this; cases hd)) e
    exact ⟨{ ob with slots := sl }, v, q, hd, fun a h1 h2 => let ⟨u, q1, q2⟩ := r a h1 h2; ⟨u, q1, q2.mono le⟩⟩
  · obtain ⟨h1, h2, h3⟩ := R.own a ha
    obtain ⟨o, q⟩ := Option.isSome_iff_exists.mp h3
    obtain ⟨sl, q'⟩ := stay a o (.inl (List.mem_append.mpr (.inl ha))) q
    exact ⟨nfrz a h1 h3, h2, isSome_of q'⟩
  · obtain ⟨h1, h2, h3, h4⟩ := R.outs a ha
    obtain ⟨o, q⟩ := Option.isSome_iff_exists.mp h3
    obtain ⟨sl, q'⟩ := stay a o (.inl (List.mem_append.mpr (.inr ha))) q
    exact ⟨nfrz a h1 h3, h2, isSome_of q', h4⟩
  · obtain ⟨h1, o, h2, h3⟩ := R.mu a xs e
    refine ⟨nfrz a h1 (isSome_of h2), o, same a o (Ne.symm (R.tabMu e).2) (fun q => ?_) (fun q => ?_) h2, h3.mono le⟩
    · have := (R.own a q).2.1; rw [e] at this; cases this
    · have := (R.outs a q).2.1; rw [e] at this; cases this
  · unfold PH.frz
    rw [R₂.pt]
    cases q : σ₂.mu tabP with
    | none => rfl
    | some xs => exact absurd rfl (R₂.tabMu q).2

noncomputable def Gives (Q : AV → Prop) : AF → St → Prop
  | .ret v, σ => ∃ b, Frz σ.mu v b ∧ Q b
  | .next, _ => Q .none
  | .brk, _ => Q .none
  | .cont, _ => Q .none
theorem cl_def {f : Addr} {fd : FuncData} {body : List Stmt} {names : List Str} {as as' : List AV} {Q : AV → St → Prop} (G : Gl c) (F : FnOk (KK c.w) f fd body names) (hcl : fd.closure = []) (hd : c.A.depth < 600) (hu : c.A.units < 4990)
    (hb : ∀ φ s vs, Rel c φ σ s → Concs φ as vs → ∃ vs', BindsTo s fd ⟨vs, []⟩ (names.zip vs') ∧ Concs φ as' vs')
    (h : ∀ L, L ≠ tabP → Exs (calleeCx c fd f L) body (startSt names as') (Gives fun b => Q b σ)) : Cl c (.ref f) as σ Q := fun φ s fv vs R hf ha => by
  cases hf
  obtain ⟨oc, od, osl, ho⟩ := F.obj
  obtain ⟨vs', hbind, hc'⟩ := hb φ s vs R ha
  have X := R.K G
  refine wpAny_call (codeAny_call_def (fd := fd) (body := body) (binds := names.zip vs') (by have := G.dep; unfold recursionLimit; omega) (X _ _ ho) rfl (G.lim.keeps R.gns) (codeRec_of X F.code) F.body hbind F.cell (fun x hx => F.loc _ (List.of_mem_zip hx).1) (fun h₀ hn hk => ?_) F.co F.gen F.fn)
  have R' := R.enter (f := f) F hc' hn hk (tk := s.toks + (names.zip vs').length) (by have := R.tk; omega) hcl
  have hLt : s.heap.objs.size ≠ tabP := fun w => by
    obtain ⟨ps, _, h2⟩ := R.tab
    have := h2.2; rw [← w, push_new] at this; cases this
  refine wpAny_mono (h s.heap.objs.size hLt φ _ R') (fun fl s₂ hp => ?_) fun e s' hf => hf.elim
  obtain ⟨φ₂, σ₂, a, x, R₂, hc, hq⟩ := hp
  obtain ⟨x', R''⟩ := R.leave hk x R₂
  cases hc with
  | next => exact ⟨_, σ, .none, x', R'', .none, hq⟩
  | brk => exact ⟨_, σ, .none, x', R'', .none, hq⟩
  | cont => exact ⟨_, σ, .none, x', R'', .none, hq⟩
  | ret hv =>
    obtain ⟨b, hz, hq⟩ := hq
    exact ⟨_, σ, b, x', R'', hz.conc R₂.toRel0 hv, hq⟩
end
end Mine
end

section
open PySem PySem.W PyProof.Rows PySem.Calls
set_option Elab.async false
set_option maxRecDepth 100000
set_option maxHeartbeats 4000000
set_option linter.unusedVariables false
namespace Mine

section
variable {c : Cx} {φ : PH} {σ : St} {s : Shared}
noncomputable def LCont (next : St → Prop) (Q : AF → St → Prop) : AF → St → Prop
  | .next, σ => next σ
  | .cont, σ => next σ
  | .brk, σ => Q .next σ
  | .ret v, σ => Q (.ret v) σ
theorem fo_inv {x : Str} {px : Pos} {body : List Stmt} {n : Nat} {vals : Nat → AV} {Q : AF → St → Prop} (I : Nat → St → Prop) (G : Gl c) (hE : PassesOwn (model c.prog c.w) c.A c.env c.E) (hL : c.env.locals ∈ c.own) (hkx : c.env.kindOf x = some .local)
    (h0 : I 0 σ) (step : ∀ i σ, i < n → I i σ → Exs c body (σ.set x (vals i)) (LCont (I (i + 1)) Q)) (hend : ∀ σ, I n σ → Q .next σ) : Fo c x px body n vals 0 σ Q := by
  have H : ∀ k i σ, i + k = n → I i σ → Fo c x px body n vals i σ Q := by
    intro k
    induction k with
    | zero =>
      intro i σ e hI
      have e' : i = n := by omega
      rw [e'] at hI
      rw [e']
      exact fo_end hE (hend σ hI)
    | succ k ih =>
      intro i σ e hI
      refine fo_step G hE hL hkx (by omega) (exs_mono (step i σ (by omega) hI) fun f σ' z => ?_)
      cases f with
      | next => exact ih (i + 1) σ' (by omega) z
      | cont => exact ih (i + 1) σ' (by omega) z
      | brk => exact z
      | ret v => exact z
  exact H n 0 σ (by omega) h0
theorem wl_inv {α : Type} {test : Expr} {body : List Stmt} {Q : AF → St → Prop} (I : α → St → Prop) (m : α → Nat) (hE : PassesOwn (model c.prog c.w) c.A c.env c.E)
    (step : ∀ a σ, I a σ → Ts c test σ fun b σ₁ => (b = true → Exs c body σ₁ (LCont (fun σ' => ∃ a', m a' < m a ∧ I a' σ') Q)) ∧ (b = false → Q .next σ₁)) (a : α) (h : I a σ) : Wl c test body σ Q := by
  have H : ∀ k a σ, m a < k → I a σ → Wl c test body σ Q := by
    intro k
    induction k with
    | zero => intro a σ h _; omega
    | succ k ih =>
      intro a σ hk hI
      refine wl_turn hE fun φ s R => wpAny_mono (step a σ hI φ s R) (fun _ _ z => z.mono fun b σ' w => ⟨fun hb => exs_mono (w.1 hb) fun f σ'' z => ?_, w.2⟩) fun _ _ z => z
      cases f with
      | next => obtain ⟨a', h1, h2⟩ := z; exact ih a' σ'' (by omega) h2
      | cont => obtain ⟨a', h1, h2⟩ := z; exact ih a' σ'' (by omega) h2
      | brk => exact z
      | ret v => exact z
  exact H (m a + 1) a σ (by omega) h
end
theorem small_line {n : Nat} (h : n ≤ 1000) : n ≤ sizeLine := by rw [PySem.sizeLine_eq]; omega
theorem clip_nat (n k : Nat) : clipAt n (k : Int) = min k n := by
  have := clipAt_cast n (k : Int)
  rw [if_neg (by omega)] at this; omega
theorem clip_neg (n k : Nat) : clipAt n (-((k + 1 : Nat) : Int)) = n - (k + 1) := by
  have := clipAt_cast n (-((k + 1 : Nat) : Int))
  rw [if_pos (by omega)] at this; omega
theorem cut_eq {α : Type} (l : List α) (a b : Nat) : cut (some (a : Int)) (some (b : Int)) l = (l.drop a).take (b - a) := by
  unfold cut
  simp only [Option.elim_some, clip_nat]
  apply List.ext_getElem?
  intro i
  simp only [List.getElem?_take, List.getElem?_drop]
  by_cases h1 : a ≤ l.length
  · rw [Nat.min_eq_left h1]
    by_cases h2 : b ≤ l.length
    · rw [Nat.min_eq_left h2]
    · rw [Nat.min_eq_right (by omega)]
      split <;> split <;> try rfl
      · omega
      · rw [List.getElem?_eq_none (by omega)]
  · rw [List.getElem?_eq_none (show l.length ≤ a + i by omega), List.getElem?_eq_none (show l.length ≤ min a l.length + i by omega)]
    simp
theorem cut_take {α : Type} (l : List α) (n : Nat) : cut none (some (n : Int)) l = l.take n := by
  unfold cut
  simp only [Option.elim_some, Option.elim_none, clip_nat, List.drop_zero, Nat.sub_zero]
  by_cases h : n ≤ l.length
  · rw [Nat.min_eq_left h]
  · rw [Nat.min_eq_right (by omega), List.take_of_length_le (by omega), List.take_of_length_le (by omega)]
theorem cut_drop {α : Type} (l : List α) (n : Nat) : cut (some (n : Int)) none l = l.drop n := by
  unfold cut
  simp only [Option.elim_some, Option.elim_none, clip_nat]
  by_cases h : n ≤ l.length
  · rw [Nat.min_eq_left h, List.take_of_length_le (by rw [List.length_drop]; omega)]
  · rw [Nat.min_eq_right (by omega), List.drop_of_length_le (by omega), List.drop_of_length_le (by omega)]; simp
theorem cut_mid {α : Type} (l : List α) (a : Nat) : cut (some (a : Int)) (some (-1)) l = (l.take (l.length - 1)).drop a := by
  unfold cut
  have e : clipAt l.length (-1) = l.length - 1 := clip_neg l.length 0
  simp only [Option.elim_some, clip_nat, e]
  apply List.ext_getElem?
  intro i
  simp only [List.getElem?_take, List.getElem?_drop]
  by_cases h1 : a ≤ l.length
  · rw [Nat.min_eq_left h1]
    by_cases h2 : i < l.length - 1 - a
    · rw [if_pos h2, if_pos (by omega)]
    · rw [if_neg h2, if_neg (by omega)]
  · rw [Nat.min_eq_right (by omega)]
    rw [if_neg (by omega), if_neg (by omega)]
theorem cut_last {α : Type} (l : List α) : cut (some (-1)) none l = l.drop (l.length - 1) := by
  unfold cut
  have e : clipAt l.length (-1) = l.length - 1 := clip_neg l.length 0
  simp only [Option.elim_some, Option.elim_none, e]
  rw [List.take_of_length_le (by rw [List.length_drop]; omega)]
theorem cut_init {α : Type} (l : List α) : cut none (some (-1)) l = l.dropLast := by
  unfold cut
  have e : clipAt l.length (-1) = l.length - 1 := clip_neg l.length 0
  simp only [Option.elim_some, Option.elim_none, e, List.drop_zero, Nat.sub_zero]
  rw [List.dropLast_eq_take]
end Mine
end

section
open PySem PySem.W PyProof.Rows PySem.Calls
set_option Elab.async false
set_option maxRecDepth 100000
set_option maxHeartbeats 4000000
set_option linter.unusedVariables false
namespace Mine

noncomputable def p0 : Params := { strHash := fun _ => 0, shareClass := fun _ => 0, mergeTok := id, idOf := fun _ => 0, idOfShared := fun _ _ => 0, followText := fun _ => false, idOfImm := fun _ => 0 }
noncomputable def fd0 : FuncData := { name := Str.empty, qualname := Str.empty, params := ⟨[], [], none, [], [], none, []⟩, body := .stmts [], scope := { kind := .function, names := [], isGenerator := false, isCoroutine := false }, globals := 0, closure := [], defaults := .none, kwdefaults := .none }
noncomputable def fnD (a : Addr) : FuncData := match (KF p0).lookup a with
  | some ⟨_, _, .func fd, _⟩ => fd
  | _ => fd0
noncomputable def fnB (a : Addr) : List Stmt := match (fnD a).body with
  | .stmts b => b
  | _ => []
theorem ok135 (w : World) : FnOk (KK w) 135 (fnD 135) (fnB 135) ["script"] where
  obj := ⟨_, _, _, rfl⟩
  code := rfl
  body := rfl
  cell := by decide +kernel
  loc := by decide +kernel
  co := rfl
  gen := rfl
  fn := rfl
  gl := rfl
  bl := rfl

noncomputable def num4 (x : Int) : Int := (x.fdiv 4).fmod 2000001
noncomputable def num (x : Int) : Int := if num4 x < 1000001 then num4 x else num4 x - 2000001
noncomputable def addLast (rows : List (List Int)) (n : Int) : List (List Int) := rows.dropLast ++ [rows.getLastD [] ++ [n]]
noncomputable def rowStep (rows : List (List Int)) (x : Int) : List (List Int) := if x.fmod 4 = 0 then rows ++ [[]] else addLast rows (num x)
noncomputable def rowsOf (ns : List Int) : List (List Int) := (ns.take 10).foldl rowStep [[]]

noncomputable abbrev vrows (rows : List (List Int)) : List AV := rows.map fun r => .list (vints r)


noncomputable def RowsAt (σ : St) (r : Addr) (rows : List (List Int)) : Prop :=
  ∃ as : List Addr, σ.mu r = some (as.map AV.ref) ∧ as.length = rows.length ∧ (∀ (i : Nat) (a : Addr) (row : List Int), as[i]? = some a → rows[i]? = some row → σ.mu a = some (vints row)) ∧ r ∉ as ∧ as.Nodup
theorem RowsAt.set {σ : St} {r rows} (h : RowsAt σ r rows) (x a) : RowsAt (σ.set x a) r rows := h
theorem RowsAt.new {σ : St} {r : Addr} {rows : List (List Int)} (h : RowsAt σ r rows) {b : Addr} (hb : σ.mu b = none) {as : List Addr} (hr : (σ.put b []).mu r = some (as.map AV.ref)) : RowsAt ((σ.put b []).put r (as.map AV.ref ++ [.ref b])) r (rows ++ [[]]) := by
  obtain ⟨as', h1, h2, h3, h4, h5⟩ := h
  have hne : r ≠ b := fun w => by rw [← w, h1] at hb; cases hb
  rw [St.put_get_ne _ _ hne, h1] at hr
  have e : as' = as := by
    have := Option.some.inj hr
    have inj : ∀ l m : List Addr, l.map AV.ref = m.map AV.ref → l = m := fun l => by
      induction l with
      | nil => intro m h; cases m <;> simp_all
      | cons a l ih => intro m h; cases m with
        | nil => simp at h
        | cons b m => simp at h; rw [h.1, ih m (by simpa using h.2)]
    exact inj _ _ this
  subst e
  have nb : b ∉ as' := fun q => by
    obtain ⟨i, hi⟩ := List.mem_iff_getElem?.mp q
    have hlt : i < rows.length := by
      rw [← h2]; exact (List.getElem?_eq_some_iff.mp hi).1
    have := h3 i b rows[i] hi (List.getElem?_eq_getElem hlt)
    rw [hb] at this; cases this
  refine ⟨as' ++ [b], by rw [St.put_get]; simp, by simp [h2], fun i a row hi hrow => ?_, ?_, ?_⟩
  · by_cases hlt : i < as'.length
    · rw [List.getElem?_append_left hlt] at hi
      rw [List.getElem?_append_left (h2 ▸ hlt)] at hrow
      have ha : a ∈ as' := List.mem_of_getElem? hi
      rw [St.put_get_ne _ _ (fun w : a = r => h4 (w ▸ ha)), St.put_get_ne _ _ (fun w : a = b => nb (w ▸ ha))]
      exact h3 i a row hi hrow
    · rw [List.getElem?_append_right (by omega)] at hi
      rw [List.getElem?_append_right (by omega)] at hrow
      have e0 : i - as'.length = 0 := by
        have := (List.getElem?_eq_some_iff.mp hi).1
        simp at this; omega
      rw [e0] at hi
      rw [← h2, e0] at hrow
      simp at hi hrow
      subst hi hrow
      rw [St.put_get_ne _ _ (Ne.symm hne), St.put_get]; rfl
  · intro q
    rcases List.mem_append.mp q with q | q
    · exact h4 q
    · exact hne (by simpa using q)
  · rw [List.nodup_append]
    exact ⟨h5, by simp, fun a ha b' hb' w => nb (by simp at hb'; rw [← hb', ← w]; exact ha)⟩
theorem RowsAt.last {σ : St} {r : Addr} {rows : List (List Int)} (h : RowsAt σ r rows) (hne : rows ≠ []) : ∃ as b, σ.mu r = some (as.map AV.ref) ∧ as ≠ [] ∧ (as.map AV.ref)[as.length - 1]? = some (.ref b) ∧ σ.mu b = some (vints (rows.getLastD [])) ∧
    ∀ n, RowsAt (σ.put b (vints (rows.getLastD []) ++ [.int n])) r (addLast rows n) := by
  obtain ⟨as, h1, h2, h3, h4, h5⟩ := h
  obtain ⟨rs, rl, rfl⟩ : ∃ rs rl, rows = rs ++ [rl] := ⟨_, _, (List.dropLast_concat_getLast hne).symm⟩
  have hl : as.length = rs.length + 1 := by simpa using h2
  obtain ⟨as', b, rfl⟩ : ∃ as' b, as = as' ++ [b] := ⟨_, _, (List.dropLast_concat_getLast (by intro w; rw [w] at hl; simp at hl)).symm⟩
  have hl' : as'.length = rs.length := by simpa using hl
  have nd := List.nodup_append.mp h5
  have nb : b ∉ as' := fun q => nd.2.2 b q b (by simp) rfl
  have hb : σ.mu b = some (vints rl) := h3 as'.length b rl (by simp) (by rw [hl']; simp)
  have hrb : r ≠ b := fun w => h4 (by rw [w]; simp)
  have gl : (rs ++ [rl]).getLastD [] = rl := by simp
  rw [gl]
  refine ⟨as' ++ [b], b, h1, by simp, by simp, hb, fun n => ?_⟩
  unfold addLast
  rw [gl, List.dropLast_concat]
  refine ⟨as' ++ [b], by rw [St.put_get_ne _ _ hrb]; exact h1, by simp [hl'], fun i a row hi hrow => ?_, h4, h5⟩
  by_cases hlt : i < as'.length
  · rw [List.getElem?_append_left hlt] at hi
    rw [List.getElem?_append_left (hl' ▸ hlt)] at hrow
    have ha : a ∈ as' := List.mem_of_getElem? hi
    rw [St.put_get_ne _ _ (fun w : a = b => nb (w ▸ ha))]
    exact h3 i a row (by rw [List.getElem?_append_left hlt]; exact hi) (by rw [List.getElem?_append_left (hl' ▸ hlt)]; exact hrow)
  · rw [List.getElem?_append_right (by omega)] at hi
    rw [List.getElem?_append_right (by omega)] at hrow
    have e0 : i - as'.length = 0 := by
      have := (List.getElem?_eq_some_iff.mp hi).1
      simp at this; omega
    rw [e0] at hi
    rw [← hl', e0] at hrow
    simp at hi hrow
    subst hi hrow
    rw [St.put_get]; simp
theorem RowsAt.frz {σ : St} {r : Addr} {rows : List (List Int)} (h : RowsAt σ r rows) : Frz σ.mu (.ref r) (.list (vrows rows)) := by
  obtain ⟨as, h1, h2, h3, h4, h5⟩ := h
  refine .ref h1 ?_
  have : ∀ (as : List Addr) (rows : List (List Int)), as.length = rows.length → (∀ (i : Nat) (a : Addr) (row : List Int), as[i]? = some a → rows[i]? = some row → σ.mu a = some (vints row)) → Frzs σ.mu (as.map AV.ref) (vrows rows) := by
    intro as
    induction as with
    | nil => intro rows h _; cases rows <;> simp_all; exact .nil
    | cons a as ih =>
      intro rows h k
      cases rows with
      | nil => simp at h
      | cons row rows => exact .cons (.ref (k 0 a row rfl rfl) (Frzs.same ..)) (ih rows (by simpa using h) fun i x y h1 h2 => k (i + 1) x y (by simpa using h1) (by simpa using h2))
  exact this as rows h2 h3


theorem addLast_nn (rows : List (List Int)) (n : Int) : addLast rows n ≠ [] := by unfold addLast; simp
theorem rowStep_ne {rows : List (List Int)} (h : rows ≠ []) (x : Int) : rowStep rows x ≠ [] := by
  unfold rowStep; split
  · simp
  · exact addLast_nn rows _
theorem rowStep_len (rows : List (List Int)) (x : Int) (h : rows ≠ []) : (rowStep rows x).length ≤ rows.length + 1 ∧ ((rowStep rows x).getLastD []).length ≤ (rows.getLastD []).length + 1 := by
  unfold rowStep addLast
  split
  · simp
  · have := List.length_pos_iff.mpr h
    refine ⟨?_, ?_⟩ <;> simp <;> omega
theorem foldl_len (ts : List Int) (rows : List (List Int)) (h : rows ≠ []) : (ts.foldl rowStep rows) ≠ [] ∧ (ts.foldl rowStep rows).length ≤ rows.length + ts.length ∧ ((ts.foldl rowStep rows).getLastD []).length ≤ (rows.getLastD []).length + ts.length := by
  induction ts generalizing rows with
  | nil => simp [h]
  | cons t ts ih =>
    have h1 := rowStep_len rows t h
    have h2 := ih (rowStep rows t) (rowStep_ne h t)
    simp only [List.foldl_cons, List.length_cons]
    refine ⟨h2.1, ?_, ?_⟩ <;> omega

theorem body135 (c : Cx) (L : Addr) (ns : List Int) (hns : ns.length ≤ 1000) (Q : AV → Prop) (G : Gl (calleeCx c (fnD 135) 135 L)) (hh : c.A.handled = none) (hq : Q (.list (vrows (rowsOf ns)))) :
    Exs (calleeCx c (fnD 135) 135 L) (fnB 135) (startSt ["script"] [.list (vints ns)]) (Gives Q) := by
  have hL : (calleeCx c (fnD 135) 135 L).env.locals ∈ (calleeCx c (fnD 135) 135 L).own := .head _
  have hE : PassesOwn (model (calleeCx c (fnD 135) 135 L).prog (calleeCx c (fnD 135) 135 L).w) (calleeCx c (fnD 135) 135 L).A (calleeCx c (fnD 135) 135 L).env (calleeCx c (fnD 135) 135 L).E := PassesOwn.never
  refine exs_cons (ex_set G hL rfl (ev_listm (evs_cons (ev_listm (evs_nil ⟨by decide, fun a ha => evs_nil ⟨?_, fun r hr => ?_⟩⟩)))))
  · show 1 ≤ sizeLine; decide
  refine exs_cons (ex_for_list hh (ev_cutl (ev_local G rfl rfl ⟨vints ns, rfl, ?_, evp_none (evp_some (ev_int ⟨10, rfl, ?_⟩))⟩)))
  · exact small_line (by simpa using hns)
  refine ⟨_, rfl, ?_⟩
  have ecut : cut none (some 10) (vints ns) = vints (ns.take 10) := by rw [show (10 : Int) = ((10 : Nat) : Int) from rfl, cut_take]; simp [vints, List.map_take]
  rw [ecut]
  generalize ets : ns.take 10 = ts
  have hts : ts.length ≤ 10 := by rw [← ets]; simp; omega
  refine fo_inv (fun i σ => σ.m "rows" = some (.ref r) ∧ RowsAt σ r ((ts.take i).foldl rowStep [[]])) G hE hL rfl ⟨rfl, ?_⟩ (fun i σ hi hI => ?_) (fun σ hI => ?_)
  · refine ⟨[a], by rw [St.set_mu, St.put_get]; rfl, rfl, fun i b row h1 h2 => ?_, ?_, by simp⟩
    · have hne : r ≠ a := fun w => by rw [w, St.put_get] at hr; cases hr
      cases i with
      | zero => simp at h1 h2; subst h1 h2; rw [St.set_mu, St.put_get_ne _ _ (Ne.symm hne), St.put_get]; rfl
      | succ i => simp at h1
    · intro q
      simp at q
      rw [q, St.put_get] at hr; cases hr
  · obtain ⟨hm, hR⟩ := hI
    have hi' : i < ts.length := by simpa using hi
    have ev : (vints ts).getD i .none = .int ts[i] := by
      rw [List.getD_eq_getElem?_getD, List.getElem?_map, List.getElem?_eq_getElem hi']; rfl
    have etk : (ts.take (i + 1)).foldl rowStep [[]] = rowStep ((ts.take i).foldl rowStep [[]]) ts[i] := by
      rw [List.take_add_one, List.getElem?_eq_getElem hi', Option.toList_some, List.foldl_append]; rfl
    rw [ev, etk]
    generalize ts[i] = x
    have hlen := foldl_len (ts.take i) [[]] (by simp)
    have htk : (ts.take i).length ≤ 10 := by rw [List.length_take]; omega
    generalize erows : (ts.take i).foldl rowStep [[]] = rows at hR hlen ⊢
    obtain ⟨hne, hl1, hl2⟩ := hlen
    have hl1' : rows.length ≤ 11 := by simp at hl1; omega
    have hl2' : (rows.getLastD []).length ≤ 10 := by simp at hl2; simp; omega
    refine exs_cons (ex_if (ts_cmp (ev_binop (ev_local G rfl rfl (ev_int (op_mod (by decide) (ev_int (op_eq (tr_bool ⟨fun hb => ?_, fun hb => ?_⟩)))))))))
    · have hx : x.fmod 4 = 0 := by simpa using hb
      have er : rowStep rows x = rows ++ [[]] := by unfold rowStep; rw [if_pos hx]
      rw [er]
      refine exs_cons (ex_expr (ev_meth (ev_local G rfl hm ?_)) rfl)
      obtain ⟨as, h1, h2⟩ := id hR
      refine ⟨"list.append", mt_append (xs := as.map AV.ref) h1, evs_cons (ev_listm (evs_nil ⟨by decide, fun b hb' => evs_nil ?_⟩))⟩
      have hrb : r ≠ b := fun w => by
        rw [St.set_mu, ← w, h1] at hb'; cases hb'
      refine cl_append (xs := as.map AV.ref) ?_ ?_ (exs_nil (exs_nil ?_))
      · rw [St.put_get_ne _ _ hrb]; exact h1
      · have := h2.1; simp; omega
      · exact ⟨hm, RowsAt.set (RowsAt.new hR hb' (by rw [St.put_get_ne _ _ hrb]; exact h1)) _ _⟩
    · have hx : ¬ x.fmod 4 = 0 := by simpa using hb
      have er : rowStep rows x = addLast rows (num x) := by unfold rowStep; rw [if_neg hx]
      rw [er]
      obtain ⟨as, b, h1, h2, h3, h4, h5⟩ := RowsAt.last hR hne
      have has : as.length ≤ 11 := by
        obtain ⟨as', h1', h2', _⟩ := id hR
        rw [h1] at h1'
        have := congrArg List.length (Option.some.inj h1')
        simp at this; omega
      have hpos := List.length_pos_iff.mpr h2
      refine exs_cons (ex_set G hL rfl (ev_binop (ev_binop (ev_local G rfl rfl (ev_int (op_fdiv (by decide) (pylong4 _) (ev_int (op_mod (by decide) ?_))))))))
      refine exs_cons (ex_expr (ev_meth (ev_idx (ev_local G rfl hm (ev_unary (ev_int (op_neg (it_mu_neg h1 (by decide) ?_ (by decide) (x := .ref b) ?_ ?_))))))) rfl)
      · simp; omega
      · rw [show (-1 + ((as.map AV.ref).length : Int)).toNat = as.length - 1 by simp; omega]; exact h3
      refine ⟨"list.append", mt_append (xs := vints (rows.getLastD [])) h4, evs_cons (ev_ifexp (ts_cmp (ev_local G rfl rfl (ev_int (op_lt (tr_bool ⟨fun hb => ?_, fun hb => ?_⟩))))))⟩
      · have hlt : num4 x < 1000001 := by unfold num4; simpa using hb
        refine ev_local G rfl rfl (evs_nil (cl_append (xs := vints (rows.getLastD [])) h4 (by simp; simp at hl2'; omega) (exs_nil (exs_nil ⟨hm, ?_⟩))))
        have := h5 (num x)
        unfold num at this ⊢
        rw [if_pos hlt] at this ⊢
        exact this
      · have hlt : ¬ num4 x < 1000001 := by unfold num4; simpa using hb
        refine ev_binop (ev_local G rfl rfl (ev_int (op_sub (evs_nil (cl_append (xs := vints (rows.getLastD [])) h4 (by simp; simp at hl2'; omega) (exs_nil (exs_nil ⟨hm, ?_⟩)))))))
        have := h5 (num x)
        unfold num at this ⊢
        rw [if_neg hlt] at this ⊢
        exact this
  · obtain ⟨hm, hR⟩ := hI
    refine exs_cons (ex_ret (ev_local G rfl hm ⟨_, RowsAt.frz hR, ?_⟩))
    rw [show (vints ts).length = ts.length by simp, List.take_length, ← ets]
    exact hq
end Mine
end

section
open PySem PySem.W PyProof.Rows PySem.Calls
set_option Elab.async false
set_option maxRecDepth 100000
set_option maxHeartbeats 4000000
set_option linter.unusedVariables false
namespace Mine

section
variable {c : Cx} {φ : PH} {σ : St} {s : Shared}

theorem Walks.bounded {prog : Program} {w : World} {A : Around} {I : Addr} {fp wr : List Addr} {n : Nat} {P : Nat → Value → Prop} {S : Nat → Heap → Prop} (W : Walks prog w A I fp wr n P S) : Walks prog w A I fp wr n (fun i v => i < n ∧ P i v) S where
  sub := W.sub
  frame := W.frame
  item := fun i s Q E hi st hQ => W.item i s Q E hi st fun v h' tk hp => hQ v h' tk ⟨hi, hp⟩
  done := W.done
  self := W.self

noncomputable def Source {γ : Type} (c : Cx) (φ : PH) (s : Shared) (emb : γ → AV) (Cn : γ → Value → Prop) (items : List γ) (it : Value) (s₂ : Shared) : Prop :=
  ∃ (I : Addr) (fp : List Addr) (P : Nat → Value → Prop) (S : Nat → Heap → Prop) (h' : Heap), it = .ref I ∧ s₂ = { s with heap := h' } ∧ (∀ b o, s.heap.get? b = some o → h'.get? b = some o) ∧ s.heap.get? I = none ∧
    Walks c.prog c.w c.A I fp [I] items.length P S ∧ S 0 h' ∧ (∀ b ∈ fp, b < h'.objs.size) ∧ (∀ j v, P j v → ∃ g, items[j]? = some g ∧ Conc φ (emb g) v ∧ Cn g v)
noncomputable def Srcs {γ : Type} (c : Cx) (iter : Expr) (σ : St) (emb : γ → AV) (Cn : PH → γ → Value → Prop) (Q : List γ → St → Prop) : Prop :=
  ∀ φ s, Rel c φ σ s → Wp c (eval iter c.env) (fun xv s₁ => ∃ φ₁ σ₁ items, Ext c φ σ s φ₁ σ₁ s₁ ∧ Rel c φ₁ σ₁ s₁ ∧ Q items σ₁ ∧ Wp c (pyIter xv) (fun it s₂ => Source c φ₁ s₁ emb (Cn φ) items it s₂) s₁) s
theorem src_core {γ : Type} {emb : γ → AV} {Cn : γ → Value → Prop} {items : List γ} {φ₁ : PH} {σ₁ : St} {s₁ : Shared} {va : Value} (hh : c.A.handled = none) (R₁ : Rel c φ₁ σ₁ s₁) (hc₁ : Conc φ₁ (.list (items.map emb)) va) (hCn : ∀ g v, Conc φ₁ (emb g) v → Cn g v) :
    Wp c (pyIter va) (fun it s₂ => Source c φ₁ s₁ emb Cn items it s₂) s₁ := by
    cases hc₁ with
    | list ho hc =>
    rename_i l vs n sl
    have hl : s₁.heap.IsList l vs := ⟨_, R₁.keep _ _ ho, rfl, _, rfl⟩
    refine wpAny_pyIter_list hl ?_
    have hn := push_new s₁.heap
    have hne : l ≠ s₁.heap.objs.size := fun w => by rw [← w, R₁.keep _ _ ho] at hn; cases hn
    have hlen : vs.size = items.length := by have := hc.length; rw [Array.length_toList] at this; simpa using this
    refine ⟨s₁.heap.objs.size, [s₁.heap.objs.size, l], fun i v => vs[i]? = some v, fun i h => h.IsListIter s₁.heap.objs.size l i ∧ h.IsList l vs, _, rfl, rfl, push_k _ _, hn, hlen ▸ Walks.list hh s₁.heap.objs.size l hne vs, ⟨⟨_, Heap.get?_push_size _ rfl, rfl, rfl⟩, hl.push _⟩, fun b hb => ?_, fun j v hv => ?_⟩
    · rw [Heap.size_push]
      have : l < s₁.heap.objs.size := Heap.lt_size (R₁.keep _ _ ho)
      rcases List.mem_cons.mp hb with w | w
      · rw [w]; exact Nat.lt_succ_self _
      · rw [List.mem_singleton.mp w]; exact Nat.lt_succ_of_lt this
    · obtain ⟨y, hy, hc'⟩ := hc.get' j v (by simpa using hv)
      rw [List.getElem?_map] at hy
      cases q : items[j]? with
      | none => rw [q] at hy; simp at hy
      | some g => rw [q] at hy; simp at hy; subst hy; exact ⟨g, rfl, hc', hCn _ _ hc'⟩
noncomputable def Flt {γ : Type} (emb : γ → AV) : PH → γ → Value → Prop := fun _ g v => Conc (fun _ => none) (emb g) v
theorem src_name {γ : Type} {emb : γ → AV} {x : Str} {p} {items : List γ} {Q : List γ → St → Prop} (hh : c.A.handled = none) (G : Gl c) (hk : c.env.kindOf x = some .local) (hx : σ.m x = some (.list (items.map emb))) (h : Q items σ) (hd : (x == ("__debug__" : Str)) = false := by decide) : Srcs c (.Name x p) σ emb (fun φ g v => Conc φ (emb g) v) Q := fun φ s R => by
  obtain ⟨m, hn, hm⟩ := R.ns
  obtain ⟨v, hv, hc⟩ := hm x _ hx hk
  exact wpAny_Name (wpAny_loadName_local G.fn hk hn hv ⟨φ, σ, items, Ext.refl .., R, h, src_core hh R hc fun g v h => h⟩) hd
theorem src_range {iter : Expr} {Q : List Int → St → Prop} (hh : c.A.handled = none) (h : EvC c CRange iter σ fun r σ₁ => Builtin.Range.small r.1 r.2.1 r.2.2 = true ∧ Q ((List.range (rsz r.1 r.2.1 r.2.2)).map fun (j : Nat) => r.1 + (j : Int) * r.2.2) σ₁) : Srcs c iter σ AV.int (Flt AV.int) Q := fun φ s R =>
  (h φ s R).then fun φ₁ σ₁ s₁ a va x₁ R₁ hc₁ h₁ => by
    cases hc₁ with
    | mk ho =>
    rename_i a b d t u v r
    obtain ⟨hsm, hq⟩ := h₁
    refine ⟨φ₁, σ₁, _, x₁, R₁, hq, ?_⟩
    refine wpAny_pyIter_range (R₁.keep _ _ ho) hsm ?_
    have hn := push_new s₁.heap
    refine ⟨s₁.heap.objs.size, [s₁.heap.objs.size], fun i v => i < rsz a b d ∧ ∃ t, v = .int (a + i * d) t, fun i h => IsRangeIter h s₁.heap.objs.size (a + (i : Nat) * d) ((rsz a b d : Int) - (i : Nat)) d, _, rfl, rfl, push_k _ _, hn, ?_, ?_, fun b hb => ?_, fun j v hv => ?_⟩
    · have := Walks.bounded (Walks.range (prog := c.prog) (w := c.w) (A := c.A) hh s₁.heap.objs.size a d (rsz a b d))
      simpa using this
    · have e : Builtin.Range.rangeSize a b d = ((rsz a b d : Nat) : Int) := by unfold rsz; have := rangeSize_nn a b d; omega
      show IsRangeIter _ _ _ _ _
      rw [e, show a + ((0 : Nat) : Int) * d = a by simp, show ((rsz a b d : Nat) : Int) - ((0 : Nat) : Int) = rsz a b d by simp]
      exact Heap.get?_push_size _ rfl
    · rw [Heap.size_push, List.mem_singleton.mp hb]; exact Nat.lt_succ_self _
    · obtain ⟨hlt, t, rfl⟩ := hv
      refine ⟨a + j * d, ?_, .int _ _, .int _ _⟩
      rw [List.getElem?_map, List.getElem?_range hlt]; rfl

noncomputable def compCx (c : Cx) (scope : Scope) (cl : List (Str × Addr)) (C : Addr) (os : OsState) : Cx := { c with outs := [], os := os, env := compEnvC scope cl C c.env, E := fun _ _ => False, own := [], q := true }
noncomputable def compSt (σ : St) (scope : Scope) (env : Env) (x : Str) (a : AV) : St := { m := fun y => if y = x then some a else if (relabel scope env).names.lookup y = some .cell then σ.m y else none, mu := fun _ => none }
structure ClOk (c : Cx) (scope : Scope) (cl : List (Str × Addr)) : Prop where
  clos : closureFor scope c.env = pure cl
  cell : ∀ y ∈ scope.names, y.2 ≠ .cell
  kind : scope.kind = .function
  names : ∀ y ∈ scope.names, y.2 = .local → scope.names.lookup y.1 = some .local
  sub : ∀ p ∈ cl, p ∈ c.env.cells ∧ c.env.kindOf p.1 = some .cell
theorem Gl.comp (G : Gl c) {scope cl} (K : ClOk c scope cl) (C : Addr) (os : OsState) : Gl (compCx c scope cl C os) where
  K := G.K
  T := G.T
  lim := G.lim
  dig := G.dig
  gl := G.gl
  bl := G.bl
  fn := K.kind
  dep := G.dep
  un := G.un
  gd := G.gd
  tn := ⟨by simp [compCx], by simp [compCx]⟩
theorem Rel.comp (R : Rel c φ σ s) {scope cl} (K : ClOk c scope cl) {C : Addr} {x : Str} (hx : scope.names.lookup x = some .local) {a : AV} {v : Value} (ha : Conc φ a v) {s₃ : Shared} {m : Str → Option Value} (hn : s₃.heap.Ns C m) (hv : m x = some v) (hk : ∀ b o, s.heap.get? b = some o → s₃.heap.get? b = some o) (ht : s.toks ≤ s₃.toks) : Rel (compCx c scope cl C s₃.os) φ (compSt σ scope c.env x a) s₃ := by
  refine ⟨⟨R.base, fun b o e => hk _ _ (R.keep _ _ e), ⟨m, hn, fun y b e hy => ?_⟩, fun p hp => ?_, fun p hp q hq => R.cdist p (K.sub p hp).1 q (K.sub q hq).1, fun b hb => (by cases hb), fun b hb => (by cases hb), fun b xs e => (by cases e), ?_, fun h => (by cases h), rfl, R.pt⟩, by have := R.tk; omega⟩
  · unfold compSt at e
    by_cases w : y = x
    · subst w; simp at e; subst e; exact ⟨v, hv, ha⟩
    · exfalso
      simp only [if_neg w] at e
      split at e
      · rename_i h
        have hy' : (relabel scope c.env).names.lookup y = some .local := hy
        rw [h] at hy'; cases hy'
      · cases e
  · obtain ⟨h1, h2⟩ := K.sub p hp
    obtain ⟨ob, v', e, hd, r⟩ := R.cells p h1
    refine ⟨ob, v', hk _ _ e, hd, fun b h3 h4 => ?_⟩
    unfold compSt at h3
    by_cases w : p.1 = x
    · exfalso
      have : (relabel scope c.env).names.lookup p.1 = some .cell := h4
      have h5 : (relabel scope c.env).names.lookup x = some .local := lookup_relabel_local hx
      rw [w, h5] at this; cases this
    · simp only [if_neg w] at h3
      split at h3
      · exact r b h3 h2
      · cases h3
  · obtain ⟨ps, h1, h2⟩ := R.tab; exact ⟨ps, h1.keeps hk, h2.keeps hk⟩
theorem Ext.keeps {scope cl} {C : Addr} {os : OsState} {φ' σ' s'} {x a} (hos : s.os = os) (X : Ext (compCx c scope cl C os) φ (compSt σ scope c.env x a) s φ' σ' s') (R : Rel (compCx c scope cl C os) φ' σ' s') : Keeps s s' := by
  refine ⟨s'.heap, s'.toks, ?_, fun b o e => by
    by_cases w : b = tabP
    · rw [w] at e ⊢; exact (X.gd rfl).2.2 o e
    · exact X.fr b o w (by simp [compCx]) (by simp [compCx]) rfl e⟩
  have h1 := (X.gd rfl).1
  have h2 := (X.gd rfl).2.1
  have h3 : s'.os = os := R.os
  cases s; cases s'
  simp_all

theorem paired_ptw {γ : Type} {Cn : γ → Value → Prop} : ∀ {items : List γ} {vs : List Value}, vs.length = items.length → (∀ (j : Nat) v, vs[j]? = some v → ∃ g, items[j]? = some g ∧ Cn g v) → Paired Cn items vs
  | [], [], _, _ => .nil
  | [], _ :: _, h, _ => by simp at h
  | _ :: _, [], h, _ => by simp at h
  | g :: items, v :: vs, h, k => by
    refine .cons ?_ (paired_ptw (by simpa using h) fun j u hu => by simpa using k (j + 1) u (by simpa using hu))
    obtain ⟨g', h1, h2⟩ := k 0 v rfl
    simp at h1; subst h1; exact h2
theorem paired_strs {γ : Type} {Cn : γ → Value → Prop} {f : γ → List Nat} {pz : γ → Bool} (hinj : ∀ g g' v, Cn g v → Cn g' v → g = g') {p : Value → Bool} (hp : ∀ v g, Cn g v → p v = pz g) :
    ∀ {items : List γ} {vs : List Value} {ys : List Value}, Paired Cn items vs → Paired (fun v y => ∃ g, Cn g v ∧ ∃ t, y = Value.str ⟨(f g).toArray⟩ t) (vs.filter p) ys → ∀ φ', Concs φ' (vstrs ((items.filter pz).map f)) ys
  | [], _, _, h, hp', φ' => by
    cases h; simp at hp'; cases hp'; exact .nil
  | g :: items, _, _, h, hp', φ' => by
    cases h with
    | cons h1 h2 =>
    rename_i v vs
    rw [List.filter_cons] at hp'
    rw [hp v g h1] at hp'
    by_cases hz : pz g = true
    · rw [if_pos hz] at hp'
      cases hp' with
      | cons k1 k2 =>
        obtain ⟨g', hc', t, rfl⟩ := k1
        have e := hinj _ _ _ h1 hc'
        subst e
        rw [List.filter_cons, if_pos hz]
        exact .cons (.str _ t) (paired_strs hinj hp h2 k2 φ')
    · rw [if_neg hz] at hp'
      rw [List.filter_cons, if_neg hz]
      exact paired_strs hinj hp h2 hp' φ'

noncomputable def Tsts (c : Cx) (ifs : List Expr) (σ : St) (b : Bool) : Prop := match ifs with
  | [] => b = true
  | [t] => Ts c t σ fun v _ => v = b
  | _ => False
theorem quiet {γ : Type} {emb : γ → AV} {Cn : γ → Value → Prop} {f : γ → List Nat} {pz : γ → Bool} {scope cl} {x : Str} {ifs : List Expr} {elt : Expr} {items : List γ} {I : Addr} {P : Nat → Value → Prop} {p : Value → Bool} {s₂ : Shared} {h' : Heap} (G : Gl c) (K : ClOk c scope cl) (hx : scope.names.lookup x = some .local)
    (R : Rel c φ σ s) (hs₂ : s₂ = { s with heap := h' }) (hk : ∀ b o, s.heap.get? b = some o → h'.get? b = some o) (hI : s.heap.get? I = none) (hP : ∀ j v, P j v → ∃ g, items[j]? = some g ∧ Conc φ (emb g) v ∧ Cn g v)
    (hp : ∀ v g, Cn g v → p v = pz g)
    (ht : ∀ C os g, g ∈ items → Gl (compCx c scope cl C os) → Tsts (compCx c scope cl C os) ifs (compSt σ scope c.env x (emb g)) (pz g))
    (he : ∀ C os g, g ∈ items → pz g = true → Gl (compCx c scope cl C os) → Ev (compCx c scope cl C os) elt (compSt σ scope c.env x (emb g)) fun a _ => a = .str (f g)) :
    QuietOnC c.prog c.w c.A c.env scope cl x ifs elt [I] P p (fun v y => ∃ g, Cn g v ∧ ∃ t, y = Value.str ⟨(f g).toArray⟩ t) s₂ := by
  subst hs₂
  have hk3 : ∀ {s₃ : Shared}, (∀ b o, b ∉ [I] → h'.get? b = some o → s₃.heap.get? b = some o) → ∀ b o, s.heap.get? b = some o → s₃.heap.get? b = some o := fun h b o e => h b o (fun q => by simp at q; rw [q, hI] at e; cases e) (hk _ _ e)
  refine ⟨fun C i v s₃ m₃ E' hC hPv hn hm hkk htk => ?_, fun C i v s₃ m₃ E' hC hPv hpv hn hm hkk htk => ?_⟩
  · obtain ⟨g, hg, hc, hcn⟩ := hP i v hPv
    have R₃ : Rel (compCx c scope cl C s₃.os) φ (compSt σ scope c.env x (emb g)) s₃ := R.comp K hx hc hn hm (hk3 hkk) htk
    have h := ht C s₃.os g (List.mem_of_getElem? hg) (G.comp K C _)
    rw [hp v g hcn]
    match ifs, h with
    | [], h =>
      have h' : pz g = true := h
      rw [h']
      exact wpAny_pure ⟨rfl, s₃.heap, s₃.toks, rfl, fun _ _ e => e⟩
    | [t], h =>
      refine wpAny_noRaise ?_
      have h1 := h φ s₃ R₃
      rw [List.forIn_cons]
      refine wpAny_bind ?_
      simp only [if_true]
      refine wpAny_bind (wpAny_mono h1 (fun ok s₄ z => ?_) fun _ _ z => z)
      obtain ⟨φ', σ', a, X, R', ha, hq⟩ := z
      have e : ok = a := ha
      rw [e, show a = pz g from hq]
      exact wpAny_pure (wpAny_pure ⟨rfl, Ext.keeps rfl X R'⟩)
  · obtain ⟨g, hg, hc, hcn⟩ := hP i v hPv
    have R₃ : Rel (compCx c scope cl C s₃.os) φ (compSt σ scope c.env x (emb g)) s₃ := R.comp K hx hc hn hm (hk3 hkk) htk
    have h := he C s₃.os g (List.mem_of_getElem? hg) ((hp v g hcn) ▸ hpv) (G.comp K C _)
    refine wpAny_noRaise (wpAny_mono (h φ s₃ R₃) (fun y s₄ z => ?_) fun _ _ z => z)
    obtain ⟨φ', σ', a, X, R', ha, hq⟩ := z
    subst hq
    cases ha
    exact ⟨⟨g, hcn, _, rfl⟩, Ext.keeps rfl X R'⟩

open Classical in
theorem ev_comp {γ : Type} {emb : γ → AV} {Cn : PH → γ → Value → Prop} (f : γ → List Nat) (pz : γ → Bool) {scope cl} {x : Str} {px pos} {ifs : List Expr} {elt iter : Expr} {Q : AV → St → Prop} (G : Gl c) (K : ClOk c scope cl) (hx : scope.names.lookup x = some .local)
    (hinj : ∀ φ g g' v, Cn φ g v → Cn φ g' v → g = g')
    (h : Srcs c iter σ emb Cn fun items σ₁ => items.length ≤ 1000000 ∧ (∀ C os g, g ∈ items → Gl (compCx c scope cl C os) → Tsts (compCx c scope cl C os) ifs (compSt σ₁ scope c.env x (emb g)) (pz g)) ∧
      (∀ C os g, g ∈ items → pz g = true → Gl (compCx c scope cl C os) → Ev (compCx c scope cl C os) elt (compSt σ₁ scope c.env x (emb g)) fun a _ => a = .str (f g)) ∧ Q (.list (vstrs ((items.filter pz).map f))) σ₁)
    (hs : ∀ x, foldedSetIterable iter c.env x = pure x := by intro _; rfl) : Ev c (.ListComp elt [⟨.Name x px, iter, ifs, 0⟩] scope pos) σ Q := fun φ s R => by
  have hp : ∀ v g, Cn φ g v → (fun v => decide (∃ g, Cn φ g v ∧ pz g = true)) v = pz g := fun v g hc => by
    cases hz : pz g with
    | true => exact decide_eq_true ⟨g, hc, hz⟩
    | false => exact decide_eq_false fun ⟨g', h1, h2⟩ => by rw [hinj φ g g' v hc h1, h2] at hz; cases hz
  refine lift R.tk (wpAny_ListComp_free (fun v => decide (∃ g, Cn φ g v ∧ pz g = true)) (fun v y => ∃ g, Cn φ g v ∧ ∃ t, y = Value.str ⟨(f g).toArray⟩ t) K.clos K.cell K.kind K.names hx (wpAny_mono (h φ s R) (fun xv s₁ h₁ => ?_) fun _ _ z => z) hs)
  obtain ⟨φ₁, σ₁, items, x₁, R₁, ⟨hlen, ht, he, hq⟩, hsrc⟩ := h₁
  refine wpAny_mono hsrc (fun it s₂ h₂ => ?_) fun _ _ z => z
  obtain ⟨I, fp, P, S, h', rfl, rfl, hk, hI, W, hst, hfp, hP⟩ := h₂
  refine ⟨I, fp, [I], items.length, P, S, rfl, W, size_ok hlen, hst, hfp, quiet G K hx R₁ rfl hk hI hP hp ht he, ?_⟩
  intro D h₃ tk ys vs hD hL hPl hvl hvs hpair hkk
  have hs₃ := paired_strs (hinj φ) hp (paired_ptw hvl fun j v hv => let ⟨g, h1, _, h2⟩ := hP j v (hvs j v hv); ⟨g, h1, h2⟩) hpair
  have hDn : s₁.heap.get? D = none := by
    cases q : s₁.heap.get? D with
    | none => rfl
    | some o => have := hk _ _ q; rw [hD] at this; cases this
  obtain ⟨n, hobj⟩ := hPl
  exact (post_frozen (tk := tk) (o := lob ys n #[]) R₁.toRel0 (fun b o e => hkk b o (fun q => by simp at q; rw [q, hI] at e; cases e) (hk _ _ e)) hDn hobj (.list (PH.add_self ..) (hs₃ _)) hq).after x₁

theorem Rel0.storeNew (R : Rel0 c φ σ s) {x : Str} {a : AV} {v : Value} {h' : Heap} {tk : Nat} {m : Str → Option Value} {D : Addr} {o : Obj} (hL : c.env.locals ∈ c.own) (hk : c.env.kindOf x = some .local) (hm : s.heap.Ns c.env.locals m) (hm2 : ∀ y b, σ.m y = some b → c.env.kindOf y = some .local → ∃ v, m y = some v ∧ Conc φ b v)
    (hn : h'.Ns c.env.locals (fun y => if y = x then some v else m y)) (hs : ∀ b o, b ≠ c.env.locals → s.heap.get? b = some o → h'.get? b = some o) (hD : s.heap.get? D = none) (hDo : h'.get? D = some o) (hc : Conc (φ.add D o) a v) : Rel0 c (φ.add D o) (σ.set x a) { s with heap := h', toks := tk } := by
  have F := R.fresh hD
  have le := PH.le_add F.φ o
  have nφ : φ c.env.locals = none := (R.own _ hL).1
  have nmu : σ.mu c.env.locals = none := (R.own _ hL).2.1
  have na : ∀ b, b ≠ D → φ.add D o b = φ b := fun b hb => by simp [PH.add, hb]
  obtain ⟨oL, es, ep, hoL, hLd, _⟩ := id hm
  refine ⟨fun b ob q => le _ _ (R.base b ob q), fun b ob q => ?_, ⟨_, hn, fun y b e hy => ?_⟩, fun p hp => ?_, R.cdist, fun b hb => ?_, fun b hb => ?_, fun b ys e => ?_, ?_, R.gens, R.os, by rw [na _ (Ne.symm (R.tabNew' hD))]; exact R.pt⟩
  · by_cases w : b = D
    · subst w; rw [PH.add_self] at q; cases q; exact hDo
    · rw [na b w] at q; exact hs b ob (fun w => by rw [w, nφ] at q; cases q) (R.keep _ _ q)
  · by_cases w : y = x
    · subst w; rw [St.set_get] at e; cases e; exact ⟨v, by simp, hc⟩
    · rw [St.set_get_ne _ _ w] at e
      obtain ⟨u, h1, h2⟩ := hm2 y b e hy
      exact ⟨u, by rw [if_neg w]; exact h1, h2.mono le⟩
  · obtain ⟨ob, u, q, hd, r⟩ := R.cells p hp
    refine ⟨ob, u, hs _ _ (fun w => ?_) q, hd, fun b e hy => ?_⟩
    · rw [w, hoL] at q; cases q; rw [hLd] at hd; cases hd
    · obtain ⟨u', h1, h2⟩ := r b (by rwa [St.set_get_ne _ _ fun w => by rw [w, hk] at hy; cases hy] at e) hy
      exact ⟨u', h1, h2.mono le⟩
  · obtain ⟨h1, h2, h3⟩ := R.own b hb
    refine ⟨by rw [na b fun w => F.own (w ▸ hb)]; exact h1, h2, ?_⟩
    by_cases w : b = c.env.locals
    · rw [w]; obtain ⟨o, _, _, ho, _⟩ := hn; exact isSome_of ho
    · obtain ⟨ob, q⟩ := Option.isSome_iff_exists.mp h3
      exact isSome_of (hs _ _ w q)
  · obtain ⟨h1, h2, h3, h4⟩ := R.outs b hb
    obtain ⟨ob, q⟩ := Option.isSome_iff_exists.mp h3
    exact ⟨by rw [na b fun w => F.outs (w ▸ hb)]; exact h1, h2, isSome_of (hs _ _ (fun w => h4 (w ▸ hL)) q), h4⟩
  · obtain ⟨h1, ob, h2, h3⟩ := R.mu b ys e
    exact ⟨by rw [na b fun w => by rw [← w, h2] at hD; cases hD]; exact h1, ob, hs _ _ (fun w => by rw [w] at e; rw [show (σ.set x a).mu = σ.mu from rfl, nmu] at e; cases e) h2, h3.mono le⟩
  · obtain ⟨ps, h1, h2⟩ := R.tab
    have hx : Heap.ExtBut c.env.locals s.heap h' := fun b ob hb q => hs b ob hb q
    have t1 : tabC ≠ c.env.locals := fun q => by
      obtain ⟨o, vs, file, tf, flags, tg, inF, text, tt, op, ho, hd, _⟩ := h1
      rw [q, hoL] at ho; cases ho; rw [hLd] at hd; cases hd
    have t2 : tabP ≠ c.env.locals := fun q => by have := h2.2; rw [q, hoL] at this; cases this; cases hLd
    exact ⟨ps, h1.extBut hx t1 t2, h2.extBut hx t1 t2⟩
theorem Ext.storeNew (R : Rel0 c φ σ s) {x : Str} {a : AV} {h' : Heap} {tk : Nat} {m : Str → Option Value} {D : Addr} {o : Obj} (hL : c.env.locals ∈ c.own) (hn : h'.Ns c.env.locals m) (hs : ∀ b o, b ≠ c.env.locals → s.heap.get? b = some o → h'.get? b = some o) (hD : s.heap.get? D = none) :
    Ext c φ σ s (φ.add D o) (σ.set x a) { s with heap := h', toks := tk } := by
  have F := R.fresh hD
  refine ⟨PH.le_add F.φ o, fun b ob _ h1 _ _ e => hs b ob (fun w => h1 (w ▸ hL)) e, fun b ob h e => ⟨ob.slots, hs b ob (fun w => (R.outs b h).2.2.2 (w ▸ hL)) e⟩, fun b e => ?_, fun b h h' => ?_, fun b h h' => absurd h h', fun _ => ⟨rfl, rfl, fun o e => hs _ _ R.tabL.2 e⟩⟩
  · by_cases w : b = c.env.locals
    · rw [w]; obtain ⟨o, _, _, ho, _⟩ := hn; exact isSome_of ho
    · obtain ⟨ob, q⟩ := Option.isSome_iff_exists.mp e
      exact isSome_of (hs _ _ w q)
  · by_cases w : b = D
    · rw [w]; exact hD
    · exact absurd h (by simpa [PH.add, w] using h')

open Classical in
theorem ex_setcomp {γ : Type} {emb : γ → AV} {Cn : PH → γ → Value → Prop} (f : γ → List Nat) (pz : γ → Bool) {scope cl} {x y : Str} {px py pos spos} {ifs : List Expr} {elt iter : Expr} {Q : AF → St → Prop} (G : Gl c) (K : ClOk c scope cl) (hx : scope.names.lookup x = some .local)
    (hL : c.env.locals ∈ c.own) (hy : c.env.kindOf y = some .local) (hsw : swapsWith (.ListComp elt [⟨.Name x px, iter, ifs, 0⟩] scope pos) (some (.Name y py)) spos.line c.env = pure true)
    (hinj : ∀ φ g g' v, Cn φ g v → Cn φ g' v → g = g')
    (h : Srcs c iter σ emb Cn fun items σ₁ => items.length ≤ 1000000 ∧ (∀ C os g, g ∈ items → Gl (compCx c scope cl C os) → Tsts (compCx c scope cl C os) ifs (compSt σ₁ scope c.env x (emb g)) (pz g)) ∧
      (∀ C os g, g ∈ items → pz g = true → Gl (compCx c scope cl C os) → Ev (compCx c scope cl C os) elt (compSt σ₁ scope c.env x (emb g)) fun a _ => a = .str (f g)) ∧ Q .next (σ₁.set y (.list (vstrs ((items.filter pz).map f)))))
    (hs : ∀ x, foldedSetIterable iter c.env x = pure x := by intro _; rfl) : Ex c (.Assign [.Name y py] (.ListComp elt [⟨.Name x px, iter, ifs, 0⟩] scope pos) spos) σ Q := fun φ s R => by
  have hp : ∀ v g, Cn φ g v → (fun v => decide (∃ g, Cn φ g v ∧ pz g = true)) v = pz g := fun v g hc => by
    cases hz : pz g with
    | true => exact decide_eq_true ⟨g, hc, hz⟩
    | false => exact decide_eq_false fun ⟨g', h1, h2⟩ => by rw [hinj φ g g' v hc h1, h2] at hz; cases hz
  refine lift R.tk (wpAny_Assign_ListComp_free (fun v => decide (∃ g, Cn φ g v ∧ pz g = true)) (fun v y => ∃ g, Cn φ g v ∧ ∃ t, y = Value.str ⟨(f g).toArray⟩ t) hsw K.clos K.cell K.kind K.names hx hy (by rw [G.fn]; rfl) (wpAny_mono (h φ s R) (fun xv s₁ h₁ => ?_) fun _ _ z => z) hs)
  obtain ⟨φ₁, σ₁, items, x₁, R₁, ⟨hlen, ht, he, hq⟩, hsrc⟩ := h₁
  refine wpAny_mono hsrc (fun it s₂ h₂ => ?_) fun _ _ z => z
  obtain ⟨I, fp, P, S, h', rfl, rfl, hk, hI, W, hst, hfp, hP⟩ := h₂
  obtain ⟨m, hn, hm⟩ := R₁.ns
  have hLI : c.env.locals ≠ I := fun w => by obtain ⟨o, _, _, ho, _⟩ := hn; rw [w, hI] at ho; cases ho
  refine ⟨I, fp, [I], items.length, P, S, m, rfl, W, size_ok hlen, hst, hfp, by simpa using hLI, hn.keeps hk, quiet G K hx R₁ rfl hk hI hP hp ht he, ?_⟩
  intro D h₃ tk ys vs hD hL₃ hPl hvl hvs hpair hn₃ hkk
  have hs₃ := paired_strs (hinj φ) hp (paired_ptw hvl fun j v hv => let ⟨g, h1, _, h2⟩ := hP j v (hvs j v hv); ⟨g, h1, h2⟩) hpair
  have hDn : s₁.heap.get? D = none := by
    cases q : s₁.heap.get? D with
    | none => rfl
    | some o => have := hk _ _ q; rw [hD] at this; cases this
  obtain ⟨n, hobj⟩ := hPl
  have hs' : ∀ b o, b ≠ c.env.locals → s₁.heap.get? b = some o → h₃.get? b = some o := fun b o hb e => hkk b o hb (fun q => by simp at q; rw [q, hI] at e; cases e) (hk _ _ e)
  have R₃ := R₁.toRel0.storeNew (x := y) (tk := tk) (a := .list (vstrs ((items.filter pz).map f))) hL hy hn hm hn₃ hs' hDn hobj (.list (PH.add_self ..) (hs₃ _))
  exact ⟨_, _, .next, x₁.trans (Ext.storeNew R₁.toRel0 hL hn₃ hs' hDn), R₃, .next, hq⟩
end
end Mine
end

section
open PySem PySem.W PyProof.Rows PySem.Calls
set_option Elab.async false
set_option maxRecDepth 100000
set_option maxHeartbeats 4000000
set_option linter.unusedVariables false
namespace Mine

noncomputable def dg (n : Nat) : List Nat := (Nat.toDigits 10 n).map Char.toNat
theorem ofString_list (s : String) : (Str.ofString s).cps.toList = s.toList.map Char.toNat := by
  exact signs_ofString s
theorem itx_nat (n : Nat) : itx (n : Int) = dg n := by
  unfold itx dg
  rw [ofString_list]
  show (Nat.repr n).toList.map _ = _
  simp [Nat.repr]
theorem itx_neg (n : Nat) : itx (Int.negSucc n) = 45 :: dg (n + 1) := by
  unfold itx dg
  rw [ofString_list]
  show ("-" ++ Nat.repr (n + 1)).toList.map _ = _
  simp [Nat.repr]
theorem dg_digit (n : Nat) : ∀ c ∈ dg n, 48 ≤ c ∧ c ≤ 57 := by
  intro c hc
  unfold dg at hc
  obtain ⟨d, hd, rfl⟩ := List.mem_map.mp hc
  have := Nat.isDigit_of_mem_toDigits (by decide : 0 < 10) (by decide) hd
  unfold Char.isDigit at this
  simp at this
  have h1 := this.1; have h2 := this.2
  exact ⟨UInt32.le_iff_toNat_le.mp h1, UInt32.le_iff_toNat_le.mp h2⟩
theorem dg_ne (n : Nat) : dg n ≠ [] := by
  unfold dg
  intro h
  have := Nat.length_toDigits_pos (b := 10) (n := n)
  simp at h
theorem dg_len {n : Nat} (h : n < 10 ^ 7) : (dg n).length ≤ 7 := by
  unfold dg
  rw [List.length_map]
  exact (Nat.length_toDigits_le_iff (by decide) (by decide)).mpr h
end Mine
end

section
open PySem PySem.W PyProof.Rows PySem.Calls
set_option Elab.async false
set_option maxRecDepth 100000
set_option maxHeartbeats 4000000
set_option linter.unusedVariables false
namespace Mine

noncomputable abbrev sing (l : List Nat) : List (List Nat) := l.map fun ch => [ch]
noncomputable def span (a b : Nat) : List (List Nat) := (List.range (b - a)).map fun j => [a + j]
noncomputable def figs (x : Int) : List Nat := dg x.natAbs
noncomputable def toldStep (front : List Nat) (row : List Int) (acc : List (List Nat) × List (List Nat)) (place : Nat) : List (List Nat) × List (List Nat) :=
  let x := row.getD place 0
  let W := if 0 < place then acc.1 ++ [[44], [32]] else acc.1
  let T := if 0 < place then acc.2 ++ [[44], [32]] else acc.2
  let W := if x < 0 then W ++ [[45]] else W
  let T' := if x < 0 then (if 0 < place then T ++ span 32 ((figs x).headD 0) else if front = [] then T ++ [[45]] else T.dropLast) else T
  let kept := if x < 0 ∧ place = 0 ∧ front ≠ [] then (figs x).drop 1 else figs x
  (W ++ sing (figs x), T' ++ sing kept)
noncomputable def told (front : List Nat) (row : List Int) : List (List Nat) × List (List Nat) := (List.range row.length).foldl (toldStep front row) (sing front, sing front)
noncomputable def okRow (row : List Int) : Prop := row.length ≤ 10 ∧ ∀ x ∈ row, x.natAbs < 10 ^ 7

theorem itx_abs (x : Int) : itx (if x < 0 then -x else x) = figs x := by
  unfold figs
  have : (if x < 0 then -x else x) = (x.natAbs : Int) := by split <;> omega
  rw [this, itx_nat]


theorem log_small {n : Nat} (h : n < 10 ^ 7) : n.log2 < 1920 := by
  by_cases h0 : n = 0
  · subst h0; decide
  · exact Nat.lt_trans ((Nat.log2_lt h0).mpr (show n < 2 ^ 24 by omega)) (by decide)
theorem rsz_len (a b : Nat) : rsz a b 1 = b - a := by
  unfold rsz; rw [rangeSize_one]; split <;> omega
theorem St.put_mu (σ : St) (a : Addr) (xs : List AV) (b : Addr) : (σ.put a xs).mu b = if b = a then some xs else σ.mu b := rfl
theorem ex_join {c : Cx} {st : Stmt} {σ : St} {Q : AF → St → Prop} (J : St → Prop) (h : Ex c st σ fun f σ' => f = .next ∧ J σ') (k : ∀ σ', J σ' → Q .next σ') : Ex c st σ Q := fun φ s R =>
  wpAny_mono (h φ s R) (fun _ _ z => z.mono fun f σ' w => by obtain ⟨rfl, w⟩ := w; exact k σ' w) fun _ _ z => z
theorem inj_int : ∀ (φ : PH) (g g' : Int) (v : Value), Flt AV.int φ g v → Flt AV.int φ g' v → g = g' := fun φ g g' v h h' => by
  cases h; cases h'; rfl
theorem clOk0 {c : Cx} {scope : Scope} (h1 : closureFor scope c.env = pure []) (h2 : (scope.names.all fun y => y.2 != .cell) = true) (h3 : scope.kind = .function) (h4 : (scope.names.all fun y => y.2 != .local || scope.names.lookup y.1 == some .local) = true) : ClOk c scope [] where
  clos := h1
  cell := fun y hy => by have := List.all_eq_true.mp h2 y hy; simpa using this
  kind := h3
  names := fun y hy e => by have := List.all_eq_true.mp h4 y hy; simpa [e] using this
  sub := fun p hp => by cases hp
theorem span_eq (a b : Nat) : ((((List.range (rsz a b 1)).map fun (j : Nat) => (a : Int) + (j : Int) * 1).filter fun _ => true).map fun i => [i.toNat]) = span a b := by
  unfold span rsz
  rw [rangeSize_one]
  have : (if (a : Int) < b then (b : Int) - a else 0).toNat = b - a := by split <;> omega
  rw [this]
  rw [List.filter_eq_self.mpr (by simp), List.map_map]
  apply List.map_congr_left
  intro j _
  simp
  omega
theorem it_strN {c : Cx} {σ : St} {l : List Nat} {i ch : Nat} {Q : AV → St → Prop} (h2 : i ≤ 1000000) (hi : l[i]? = some ch) (h : Q (.str [ch]) σ) : It c (.str l) (.int i) σ Q := by
  have hlt := (List.getElem?_eq_some_iff.mp hi).1
  refine it_str (by omega) (by omega) ?_ h
  rw [seqIndex_idxOf (by omega) (by omega), show idxOf (i : Int) l.length = i by unfold idxOf; rw [if_neg (by omega)]; omega]
  exact hi
theorem figs_len {x : Int} (h : x.natAbs < 10 ^ 7) : (figs x).length ≤ 7 := dg_len h
theorem figs_ne (x : Int) : figs x ≠ [] := dg_ne _
theorem figs_dig (x : Int) : ∀ ch ∈ figs x, 48 ≤ ch ∧ ch ≤ 57 := dg_digit _
theorem figs_head (x : Int) : ∃ d r, figs x = d :: r ∧ 48 ≤ d ∧ d ≤ 57 := by
  cases h : figs x with
  | nil => exact absurd h (figs_ne x)
  | cons d r => exact ⟨d, r, rfl, figs_dig x d (by rw [h]; simp)⟩
theorem span_len (a b : Nat) : (span a b).length = b - a := by unfold span; simp
theorem told_len (front : List Nat) (row : List Int) (hf : front.length ≤ 10) (hrow : okRow row) : ∀ i, i ≤ row.length →
    ((List.range i).foldl (toldStep front row) (sing front, sing front)).1.length ≤ 10 + 10 * i ∧ ((List.range i).foldl (toldStep front row) (sing front, sing front)).2.length ≤ 10 + 40 * i
  | 0, _ => by simp; omega
  | i + 1, hi => by
    have ih := told_len front row hf hrow i (by omega)
    rw [List.range_succ, List.foldl_append, List.foldl_cons, List.foldl_nil]
    generalize (List.range i).foldl (toldStep front row) (sing front, sing front) = acc at ih ⊢
    unfold toldStep
    have hx : (figs (row.getD i 0)).length ≤ 7 := figs_len (by
      rw [List.getD_eq_getElem?_getD, List.getElem?_eq_getElem (by omega)]
      exact hrow.2 _ (List.getElem_mem ..))
    obtain ⟨d, r, hd, _, hd2⟩ := figs_head (row.getD i 0)
    have hsp : (span 32 ((figs (row.getD i 0)).headD 0)).length ≤ 25 := by rw [span_len, hd]; show d - 32 ≤ 25; omega
    generalize row.getD i 0 = x at hx hsp ⊢
    simp only [List.length_append, List.length_map]
    refine ⟨?_, ?_⟩
    · repeat' split
      all_goals first | omega | (simp only [List.length_append, List.length_cons, List.length_nil]; omega)
    · have h1 : (if x < 0 ∧ i = 0 ∧ front ≠ [] then (figs x).drop 1 else figs x).length ≤ 7 := by
        split
        · rw [List.length_drop]; omega
        · exact hx
      have h2 : (if x < 0 then (if 0 < i then (if 0 < i then acc.2 ++ [[44], [32]] else acc.2) ++ span 32 ((figs x).headD 0) else if front = [] then (if 0 < i then acc.2 ++ [[44], [32]] else acc.2) ++ [[45]] else (if 0 < i then acc.2 ++ [[44], [32]] else acc.2).dropLast) else (if 0 < i then acc.2 ++ [[44], [32]] else acc.2)).length ≤ acc.2.length + 30 := by
        repeat' split
        all_goals first | omega | (simp only [List.length_append, List.length_dropLast, List.length_cons, List.length_nil]; omega)
      omega

noncomputable abbrev J140a (wa ta : Addr) (front : List Nat) (row : List Int) (acc : List (List Nat) × List (List Nat)) (σ : St) : Prop :=
  σ.m "written" = some (.ref wa) ∧ σ.m "taken" = some (.ref ta) ∧ σ.m "front" = some (.str front) ∧ σ.m "row" = some (.list (vints row)) ∧
    σ.mu wa = some (vstrs acc.1) ∧ σ.mu ta = some (vstrs acc.2)

noncomputable abbrev J140b (wa : Addr) (ta : Addr) (front : List Nat) (row : List Int) (i : Nat) (x : Int) (W : List (List Nat)) (T : List (List Nat)) (σ' : St) : Prop :=
  σ'.m "written" = some (.ref wa) ∧ σ'.m "taken" = some (.ref ta) ∧ σ'.m "front" = some (.str front) ∧ σ'.m "row" = some (.list (vints row)) ∧ σ'.m "place" = some (.int i) ∧ σ'.m "figures" = some (.str (figs x)) ∧ σ'.m "kept" = some (.str (figs x)) ∧
      σ'.mu wa = some (vstrs (if 0 < i then W ++ [[44], [32]] else W)) ∧ σ'.mu ta = some (vstrs (if 0 < i then T ++ [[44], [32]] else T))

noncomputable abbrev J140c (wa : Addr) (ta : Addr) (front : List Nat) (row : List Int) (i : Nat) (x : Int) (W1 : List (List Nat)) (T1 : List (List Nat)) (σ' : St) : Prop :=
  σ'.m "written" = some (.ref wa) ∧ σ'.m "taken" = some (.ref ta) ∧ σ'.m "front" = some (.str front) ∧ σ'.m "row" = some (.list (vints row)) ∧ σ'.m "figures" = some (.str (figs x)) ∧
        σ'.m "kept" = some (.str (if x < 0 ∧ i = 0 ∧ front ≠ [] then (figs x).drop 1 else figs x)) ∧
        σ'.mu wa = some (vstrs (if x < 0 then W1 ++ [[45]] else W1)) ∧ σ'.mu ta = some (vstrs (if x < 0 then (if 0 < i then T1 ++ span 32 ((figs x).headD 0) else if front = [] then T1 ++ [[45]] else T1.dropLast) else T1))

theorem body140 (c : Cx) (L : Addr) (front : List Nat) (row : List Int) (hf : front.length ≤ 10) (hrow : okRow row) (Q : AV → Prop) (G : Gl (calleeCx c (fnD 140) 140 L)) (hh : c.A.handled = none)
    (hq : Q (.tup [.list (vstrs (told front row).1), .list (vstrs (told front row).2)])) :
    Exs (calleeCx c (fnD 140) 140 L) (fnB 140) (startSt ["front", "row"] [.str front, .list (vints row)]) (Gives Q) := by
  have hL : (calleeCx c (fnD 140) 140 L).env.locals ∈ (calleeCx c (fnD 140) 140 L).own := .head _
  have hE : PassesOwn (model (calleeCx c (fnD 140) 140 L).prog (calleeCx c (fnD 140) 140 L).w) (calleeCx c (fnD 140) 140 L).A (calleeCx c (fnD 140) 140 L).env (calleeCx c (fnD 140) 140 L).E := PassesOwn.never
  refine exs_cons (ex_set G hL rfl (ev_call G (ev_builtin G rfl rfl rfl (.ty _) ⟨.ty _, evs_cons (ev_local G rfl rfl (evs_nil (cl_liststr hh (by omega) fun wa hwa => ?_)))⟩)))
  refine exs_cons (ex_set G hL rfl (ev_call G (ev_builtin G rfl rfl rfl (.ty _) ⟨.ty _, evs_cons (ev_local G rfl rfl (evs_nil (cl_liststr hh (by omega) fun ta hta => ?_)))⟩)))
  have hne : ta ≠ wa := fun w => by rw [w, St.set_mu, St.put_get] at hta; cases hta
  refine exs_cons (ex_for_range hh (ev_callty G (ev_builtin G rfl rfl rfl (.ty _) ⟨_, rfl, evs_cons (ev_call G (ev_builtin G rfl rfl rfl (.bi _) ⟨.bi _, evs_cons (ev_local G rfl rfl (evs_nil (cl_len (by simp; have := hrow.1; omega) ?_)))⟩))⟩)))
  have er : row.length ≤ 10 := hrow.1
  refine evs_nil (cl_range1 ⟨small_one (by show (-2 ^ 62 : Int) ≤ 0; decide) (by show (0 : Int) < 2 ^ 62; decide) (by show (-2 ^ 62 : Int) ≤ ((vints row).length : Nat); omega) (by show (((vints row).length : Nat) : Int) < 2 ^ 62; rw [List.length_map]; omega), ?_⟩)
  have en : rsz 0 ((vints row).length : Int) 1 = row.length := by
    unfold rsz; rw [rangeSize_one]; simp; split <;> omega
  rw [show rsz (0, ((vints row).length : Int), (1 : Int)).1 (0, ((vints row).length : Int), (1 : Int)).2.1 (0, ((vints row).length : Int), (1 : Int)).2.2 = row.length from en]
  refine fo_inv (fun i σ => J140a wa ta front row ((List.range i).foldl (toldStep front row) (sing front, sing front)) σ) G hE hL rfl ⟨rfl, rfl, rfl, rfl, ?_, ?_⟩ (fun i σ hi hI => ?_) (fun σ hI => ?_)
  · simp [St.put_mu, Ne.symm hne]
  · simp [St.put_mu]
  · obtain ⟨h1, h2, h3, h4, h5, h6⟩ := hI
    have hlen := told_len front row hf hrow i (by omega)
    have hlen' := told_len front row hf hrow (i + 1) (by omega)
    rw [List.range_succ, List.foldl_append, List.foldl_cons, List.foldl_nil] at hlen' ⊢
    have h00 : i = 0 → ((List.range i).foldl (toldStep front row) (sing front, sing front)).2 = sing front := fun e => by subst e; rfl
    generalize (List.range i).foldl (toldStep front row) (sing front, sing front) = acc at h5 h6 hlen hlen' h00 ⊢
    obtain ⟨W, T⟩ := acc
    dsimp only at h5 h6 hlen
    have hx0 : (vints row)[i]? = some (.int (row.getD i 0)) := by
      rw [List.getElem?_map, List.getD_eq_getElem?_getD, List.getElem?_eq_getElem hi]; rfl
    have hx : (figs (row.getD i 0)).length ≤ 7 := figs_len (by
      rw [List.getD_eq_getElem?_getD, List.getElem?_eq_getElem (by omega)]
      exact hrow.2 _ (List.getElem_mem ..))
    have hlog : (if row.getD i 0 < 0 then -(row.getD i 0) else row.getD i 0).natAbs.log2 < 1920 := by
      have h7 : (row.getD i 0).natAbs < 10 ^ 7 := by
        rw [List.getD_eq_getElem?_getD, List.getElem?_eq_getElem (by omega)]
        exact hrow.2 _ (List.getElem_mem ..)
      have e : (if row.getD i 0 < 0 then -(row.getD i 0) else row.getD i 0).natAbs = (row.getD i 0).natAbs := by split <;> simp
      rw [e]
      exact log_small h7
    rw [show (AV.int ((0 : Int) + (i : Int) * 1)) = .int i by congr 1; omega]
    unfold toldStep
    dsimp only
    generalize hgx : row.getD i 0 = x at hx0 hx hlog ⊢
    refine exs_cons (ex_set G hL rfl (ev_call G (ev_builtin G rfl rfl rfl (.ty _) ⟨.ty _, evs_cons (ev_call G (ev_builtin G rfl rfl rfl (.bi _) ⟨.bi _, evs_cons (ev_idx (ev_local G rfl h4 (ev_local G rfl rfl (it_list (by omega) (by omega) hx0 (evs_nil (cl_abs (evs_nil (cl_str hlog ?_))))))))⟩))⟩)))
    rw [itx_abs]
    refine exs_cons (ex_set G hL rfl (ev_local G rfl rfl ?_))
    refine exs_cons (ex_join (J140b wa ta front row i x W T)
      (ex_if (ts_cmp (ev_local G rfl rfl (ev_int (op_gt (tr_bool ⟨fun hb => ?_, fun hb => ?_⟩)))))) fun σ' hJ => ?_)
    · have hi0 : 0 < i := by simpa using hb
      refine exs_cons (ex_expr (ev_meth (ev_local G rfl h1 ⟨"list.extend", mt_extend (xs := vstrs W) h5, evs_cons (ev_list (evs_cons (ev_str (l := [44]) rfl (evs_cons (ev_str (l := [32]) rfl (evs_nil ⟨by show 2 ≤ sizeLine; decide, evs_nil (cl_extend (xs := vstrs W) h5 (by simp; omega) (by show 2 ≤ 1000000; omega) ?_)⟩))))))⟩)) rfl)
      refine exs_cons (ex_expr (ev_meth (ev_local G rfl h2 ⟨"list.extend", mt_extend (xs := vstrs T) (by rw [St.put_mu, if_neg hne]; exact h6), evs_cons (ev_list (evs_cons (ev_str (l := [44]) rfl (evs_cons (ev_str (l := [32]) rfl (evs_nil ⟨by show 2 ≤ sizeLine; decide, evs_nil (cl_extend (xs := vstrs T) (by rw [St.put_mu, if_neg hne]; exact h6) (by simp; omega) (by show 2 ≤ 1000000; omega) ?_)⟩))))))⟩)) rfl)
      refine exs_nil ⟨rfl, h1, h2, h3, h4, rfl, rfl, rfl, ?_, ?_⟩
      · rw [St.put_mu, if_neg (Ne.symm hne), St.put_mu, if_pos rfl, if_pos hi0]; simp
      · rw [St.put_mu, if_pos rfl, if_pos hi0]; simp
    · have hi0 : ¬ 0 < i := by simpa using hb
      exact exs_nil ⟨rfl, h1, h2, h3, h4, rfl, rfl, rfl, by rw [if_neg hi0]; exact h5, by rw [if_neg hi0]; exact h6⟩
    · clear h1 h2 h3 h4 h5 h6
      obtain ⟨h1, h2, h3, h4, h7, h8, h9, h5, h6⟩ := hJ
      have hlW : (if 0 < i then W ++ [[44], [32]] else W).length ≤ 10 + 10 * i + 2 := by split <;> first | omega | (simp only [List.length_append, List.length_cons, List.length_nil]; omega)
      have hlT : (if 0 < i then T ++ [[44], [32]] else T).length ≤ 10 + 40 * i + 2 := by split <;> first | omega | (simp only [List.length_append, List.length_cons, List.length_nil]; omega)
      generalize hW1 : (if 0 < i then W ++ [[44], [32]] else W) = W1 at h5 hlW ⊢
      generalize hT1 : (if 0 < i then T ++ [[44], [32]] else T) = T1 at h6 hlT ⊢
      clear hlen hlen'
      obtain ⟨d, r, hd, hd1, hd2⟩ := figs_head x
      refine exs_cons (ex_join (J140c wa ta front row i x W1 T1)
        (ex_if (ts_cmp (ev_idx (ev_local G rfl h4 (ev_local G rfl h7 (it_list (by omega) (by omega) hx0 (ev_int (op_lt (tr_bool ⟨fun hb => ?_, fun hb => ?_⟩))))))))) fun σ'' hJ => ?_)
      · have hx1 : x < 0 := by simpa using hb
        refine exs_cons (ex_expr (ev_meth (ev_local G rfl h1 ⟨"list.append", mt_append (xs := vstrs W1) h5, evs_cons (ev_str (l := [45]) rfl (evs_nil (cl_append (xs := vstrs W1) h5 (by simp; omega) ?_)))⟩)) rfl)
        have h6' : (σ'.put wa (vstrs W1 ++ [AV.str [45]])).mu ta = some (vstrs T1) := by rw [St.put_mu, if_neg hne]; exact h6
        have h5' : (σ'.put wa (vstrs W1 ++ [AV.str [45]])).mu wa = some (vstrs (W1 ++ [[45]])) := by rw [St.put_mu, if_pos rfl]; simp
        refine exs_cons (ex_if (ts_cmp (ev_local G rfl h7 (ev_int (op_gt (tr_bool ⟨fun hb => ?_, fun hb => ?_⟩))))))
        · have hi0 : 0 < i := by simpa using hb
          refine exs_cons (ex_expr (ev_meth (ev_local G rfl h2 ⟨"list.extend", mt_extend (xs := vstrs T1) h6', evs_cons (ev_comp (cl := []) (emb := AV.int) (fun i => [i.toNat]) (fun _ => true) G (by exact clOk0 rfl rfl rfl rfl) (by rfl) inj_int
            (src_range hh (ev_callty G (ev_builtin G rfl rfl rfl (.ty _) ⟨_, rfl, evs_cons (ev_int (evs_cons (ev_call G (ev_builtin G rfl rfl rfl (.bi _) ⟨.bi _, evs_cons (ev_idx (ev_local G rfl h8 (ev_int (it_strN (i := 0) (ch := d) (by omega) (by rw [hd]; rfl) (evs_nil (cl_ord (evs_nil (cl_range2 ⟨?_, ?_, ?_, ?_, ?_⟩))))))))⟩))))⟩))))⟩)) rfl)
          · exact small_one (by show (-2 ^ 62 : Int) ≤ 32; decide) (by show (32 : Int) < 2 ^ 62; decide) (by show (-2 ^ 62 : Int) ≤ (d : Int); omega) (by show (d : Int) < 2 ^ 62; omega)
          · rw [List.length_map, List.length_range]
            show rsz ((32 : Nat) : Int) (d : Int) 1 ≤ 1000000
            rw [rsz_len]; omega
          · intro C os g hg G'; exact rfl
          · intro C os g hg _ G'
            obtain ⟨j, hj, rfl⟩ := List.mem_map.mp hg
            have hj' : j < rsz ((32 : Nat) : Int) (d : Int) 1 := List.mem_range.mp hj
            rw [rsz_len] at hj'
            refine ev_call G' (ev_builtin G' rfl rfl rfl (.bi _) ⟨.bi _, evs_cons (ev_local G' rfl rfl (evs_nil (cl_chr ?_ ?_ rfl)))⟩)
            · show 0 ≤ (32 : Int) + (j : Int) * 1; omega
            · show (32 : Int) + (j : Int) * 1 ≤ 1114111; omega
          · have es : ((((List.range (rsz ((32 : Nat) : Int) (d : Int) 1)).map fun (j : Nat) => ((32 : Nat) : Int) + (j : Int) * 1).filter fun _ => true).map fun i => [i.toNat]) = span 32 d := span_eq 32 d
            refine evs_nil (cl_extend (xs := vstrs T1) h6' (by simp; omega) ?_ (exs_nil (exs_nil ⟨rfl, h1, h2, h3, h4, h8, ?_, ?_, ?_⟩)))
            · rw [List.length_map]
              have := congrArg List.length es
              rw [span_len] at this
              refine Nat.le_trans (Nat.le_of_eq this) (by omega)
            · rw [if_neg (fun w => by omega)]; exact h9
            · rw [if_pos hx1, St.put_mu, if_neg (Ne.symm hne)]; exact h5'
            · rw [if_pos hx1, if_pos hi0, St.put_mu, if_pos rfl, hd]
              show some (vstrs T1 ++ vstrs _) = some (vstrs (T1 ++ span 32 d))
              rw [show vstrs (T1 ++ span 32 d) = vstrs T1 ++ vstrs (span 32 d) from List.map_append ..]
              exact congrArg (fun z => some (vstrs T1 ++ vstrs z)) es
        · have hi0 : ¬ 0 < i := by simpa using hb
          have hi1 : i = 0 := by omega
          refine exs_cons (ex_if (ts_cmp (ev_local G rfl h3 (ev_str (l := []) rfl (op_eqs (tr_bool ⟨fun hb => ?_, fun hb => ?_⟩))))))
          · have hf0 : front = [] := by simpa using hb
            refine exs_cons (ex_expr (ev_meth (ev_local G rfl h2 ⟨"list.append", mt_append (xs := vstrs T1) h6', evs_cons (ev_str (l := [45]) rfl (evs_nil (cl_append (xs := vstrs T1) h6' (by simp; omega) (exs_nil (exs_nil (exs_nil ⟨rfl, h1, h2, h3, h4, h8, ?_, ?_, ?_⟩))))))⟩)) rfl)
            · rw [if_neg (fun w => w.2.2 hf0)]; exact h9
            · rw [if_pos hx1, St.put_mu, if_neg (Ne.symm hne)]; exact h5'
            · rw [if_pos hx1, if_neg hi0, if_pos hf0, St.put_mu, if_pos rfl]; simp
          · have hf0 : front ≠ [] := by simpa using hb
            have eT : T1 = sing front := by rw [← hT1, if_neg hi0]; exact h00 hi1
            have nT : T1 ≠ [] := by rw [eT]; simpa using hf0
            have eL : vstrs T1 = vstrs T1.dropLast ++ [.str (T1.getLast nT)] := by
              rw [← List.map_singleton, ← List.map_append, List.dropLast_concat_getLast]
            refine exs_cons (ex_expr (ev_meth0 (ev_local G rfl h2 ⟨"list.pop", mt_pop (xs := vstrs T1) h6', cl_pop (xs := vstrs T1.dropLast) (x := .str (T1.getLast nT)) (by rw [h6', eL]) (by simp; omega) ?_⟩)) rfl)
            refine exs_cons (ex_set G hL rfl (ev_cuts (ev_local G rfl h8 ⟨_, rfl, ?_, evp_some (ev_int ⟨1, rfl, evp_none ?_⟩)⟩)))
            · rw [PySem.sizeLine_eq]; omega
            refine exs_nil (exs_nil (exs_nil ⟨rfl, h1, h2, h3, h4, h8, ?_, ?_, ?_⟩))
            · rw [if_pos ⟨hx1, hi1, hf0⟩, show (1 : Int) = ((1 : Nat) : Int) from rfl, cut_drop]; rfl
            · rw [if_pos hx1, St.set_mu, St.put_mu, if_neg (Ne.symm hne)]; exact h5'
            · rw [if_pos hx1, if_neg hi0, if_neg hf0, St.set_mu, St.put_mu, if_pos rfl]
      · have hx1 : ¬ x < 0 := by simpa using hb
        refine exs_nil ⟨rfl, h1, h2, h3, h4, h8, ?_, ?_, ?_⟩
        · rw [if_neg (fun w => hx1 w.1)]; exact h9
        · rw [if_neg hx1]; exact h5
        · rw [if_neg hx1]; exact h6
      · clear h1 h2 h3 h4 h5 h6 h7 h8 h9
        obtain ⟨h1, h2, h3, h4, h8, h9, h5, h6⟩ := hJ
        have hk : (if x < 0 ∧ i = 0 ∧ front ≠ [] then (figs x).drop 1 else figs x).length ≤ 7 := by
          split
          · rw [List.length_drop]; omega
          · exact hx
        generalize hW2 : (if x < 0 then W1 ++ [[45]] else W1) = W2 at h5 ⊢
        generalize hT2 : (if x < 0 then (if 0 < i then T1 ++ span 32 ((figs x).headD 0) else if front = [] then T1 ++ [[45]] else T1.dropLast) else T1) = T2 at h6 ⊢
        have hlW2 : W2.length ≤ 1000 := by rw [← hW2]; split <;> first | omega | (simp only [List.length_append, List.length_cons, List.length_nil]; omega)
        have hlT2 : T2.length ≤ 1000 := by
          rw [← hT2, hd]
          repeat' split
          all_goals first | omega | (simp only [List.length_append, List.length_dropLast, span_len, List.headD_cons, List.length_cons, List.length_nil]; omega)
        generalize (if x < 0 ∧ i = 0 ∧ front ≠ [] then (figs x).drop 1 else figs x) = kept at h9 hk ⊢
        refine exs_cons (ex_expr (ev_meth (ev_local G rfl h1 ⟨"list.extend", mt_extend (xs := vstrs W2) h5, evs_cons (ev_call G (ev_builtin G rfl rfl rfl (.ty _) ⟨.ty _, evs_cons (ev_local G rfl h8 (evs_nil (cl_liststr' hh (by omega) (evs_nil (cl_extend (xs := vstrs W2) h5 (by simp; omega) (by simp; omega) ?_)))))⟩))⟩)) rfl)
        have h6' : (σ''.put wa (vstrs W2 ++ (figs x).map fun ch => AV.str [ch])).mu ta = some (vstrs T2) := by rw [St.put_mu, if_neg hne]; exact h6
        refine exs_cons (ex_expr (ev_meth (ev_local G rfl h2 ⟨"list.extend", mt_extend (xs := vstrs T2) h6', evs_cons (ev_call G (ev_builtin G rfl rfl rfl (.ty _) ⟨.ty _, evs_cons (ev_local G rfl h9 (evs_nil (cl_liststr' hh (by omega) (evs_nil (cl_extend (xs := vstrs T2) h6' (by simp; omega) (by simp; omega) ?_)))))⟩))⟩)) rfl)
        refine exs_nil ⟨h1, h2, h3, h4, ?_, ?_⟩
        · rw [St.put_mu, if_neg (Ne.symm hne), St.put_mu, if_pos rfl]; simp
        · rw [St.put_mu, if_pos rfl]; simp
  · obtain ⟨h1, h2, h3, h4, h5, h6⟩ := hI
    refine exs_cons (ex_ret (ev_tuple (evs_cons (ev_local G rfl h1 (evs_cons (ev_local G rfl h2 (evs_nil ⟨by show 2 ≤ sizeLine; decide, ?_⟩)))))))
    exact ⟨_, .tup (.cons (.ref h5 (Frzs.same ..)) (.cons (.ref h6 (Frzs.same ..)) .nil)), hq⟩
end Mine
end

section
open PySem PySem.W PyProof.Rows PySem.Calls
set_option Elab.async false
set_option maxRecDepth 100000
set_option maxHeartbeats 4000000
set_option linter.unusedVariables false
namespace Mine

theorem ok140 (w : World) : FnOk (KK w) 140 (fnD 140) (fnB 140) ["front", "row"] where
  obj := ⟨_, _, _, rfl⟩
  code := rfl
  body := rfl
  cell := by decide +kernel
  loc := by decide +kernel
  co := rfl
  gen := rfl
  fn := rfl
  gl := rfl
  bl := rfl
noncomputable abbrev Item := List (List Nat) × List (List Nat)
noncomputable abbrev vitem (p : Item) : AV := .tup [.list (vstrs p.1), .list (vstrs p.2)]
theorem cl140 {c : Cx} {σ : St} {front : List Nat} {row : List Int} {Q : AV → St → Prop} (G : Gl c) (hd : c.A.depth < 600) (hu : c.A.units < 4990) (hh : c.A.handled = none) (hf : front.length ≤ 10) (hrow : okRow row) (h : Q (vitem (told front row)) σ) : Cl c (.ref 140) [.str front, .list (vints row)] σ Q :=
  cl_def (as' := [.str front, .list (vints row)]) G (ok140 c.w) rfl hd hu (fun φ s vs R hc => ⟨vs, by obtain ⟨v, u, rfl, h1, h2⟩ := concs2 hc; exact .of_eq rfl, hc⟩) fun L hLt => body140 c L front row hf hrow _ (G.callee (ok140 c.w) hd hu hLt) hh h

theorem ok147 (w : World) : FnOk (KK w) 147 (fnD 147) (fnB 147) ["rows"] where
  obj := ⟨_, _, _, rfl⟩
  code := rfl
  body := rfl
  cell := by decide +kernel
  loc := by decide +kernel
  co := rfl
  gen := rfl
  fn := rfl
  gl := rfl
  bl := rfl
noncomputable def close : Item := ([[93]], [[93]])
noncomputable def comma : Item := ([[44]], [[44]])
noncomputable def blank : Item := ([[32]], [[32]])
noncomputable def itemsFrom : List (List Int) → List Item
  | [] => [close]
  | [r] => comma :: blank :: (if r = [] then [close] else [told [] r, close])
  | r :: r' :: rs => comma :: blank :: (if r = [] then told [93, 44, 32, 91] r' :: itemsFrom rs else told [] r :: itemsFrom (r' :: rs))
noncomputable def itemsOf (rows : List (List Int)) : List Item := told [91] (rows.headD []) :: itemsFrom rows.tail

theorem op_addm {c : Cx} {σ : St} {a : Addr} {xs ys : List AV} {Q : AV → St → Prop} (hm : σ.mu a = some xs) (hl : xs.length + ys.length ≤ 1000000) (h : Q (.list (xs ++ ys)) σ) : Op2 c (binaryOp .Add) (.ref a) (.list ys) σ Q := fun φ s v u R hv hu => by
  cases hv
  obtain ⟨items, n, hL, hs, e⟩ := mu_isL R.toRel0 hm
  cases hu with
  | list ho' hs' =>
  rename_i a' items' n' sl'
  have e' := hs'.length
  rw [Array.length_toList] at e'
  refine lift R.tk (concat_meets ⟨_, hL, rfl⟩ ⟨_, R.keep _ _ ho', rfl⟩ noFill_list_add seq_list_add F.slot_list_add F.entry_list_add (F.args_list_add_2 _ _) (list_add' a items n #[] a' items' n' sl' (size_ok (by omega))) ⟨hL, R.keep _ _ ho', ?_⟩)
  exact post_frozen (tk := s.toks) R.toRel0 (push_k _ _) (push_new _) (o := lob (items ++ items') 0 #[]) (Heap.get?_push_size _ rfl) (.list (PH.add_self ..) (by rw [Array.toList_append]; exact (hs.append hs').mono (PH.le_add R.fresh_size.φ _))) h
theorem it_listN {c : Cx} {σ : St} {xs : List AV} {i : Nat} {x : AV} {Q : AV → St → Prop} (h2 : i ≤ 1000000) (hi : xs[i]? = some x) (h : Q x σ) : It c (.list xs) (.int i) σ Q :=
  it_list (by omega) (by omega) (by simpa using hi) h
theorem ev_pair1 {c : Cx} {σ : St} {x : Str} {k1 k2 p1 p2 q1 q2 k pos} {l : List Nat} {Q : AV → St → Prop} (hl : x.cps.toList = l) (h : Q (vitem ([l], [l])) σ) : Ev c (.Tuple [.List [.Constant (.str x) k1 p1] q1, .List [.Constant (.str x) k2 p2] q2] k pos) σ Q := by
  refine ev_tuple (evs_cons (ev_list (evs_cons (ev_str hl (evs_nil ⟨by show 1 ≤ sizeLine; decide, ?_⟩)))))
  refine evs_cons (ev_list (evs_cons (ev_str hl (evs_nil ⟨by show 1 ≤ sizeLine; decide, ?_⟩))))
  exact evs_nil ⟨by show 2 ≤ sizeLine; decide, h⟩
theorem row_ne {row : List Int} : PyData.eqv (pd (.list (vints row))) (pd (.list [])) = decide (row = []) := by
  simp only [pd, PyData.eqv, eqv_nil]
  cases row <;> simp
noncomputable abbrev J147a (r0 : List Int) (rs : List (List Int)) (ia : Addr) (a : List Item × List (List Int) × Nat) (σ : St) : Prop :=
  σ.m "rows" = some (.list (vrows (r0 :: rs))) ∧ σ.m "items" = some (.ref ia) ∧ σ.mu ia = some (a.1.map vitem) ∧ σ.m "k" = some (.int a.2.2) ∧ (r0 :: rs).drop a.2.2 = a.2.1 ∧ a.2.2 ≤ rs.length + 2 ∧ a.1.length ≤ 1 + 3 * a.2.2 ∧
    ((σ.m "last" = some (.list [vitem close]) ∧ itemsOf (r0 :: rs) = a.1 ++ itemsFrom a.2.1) ∨ (a.2.1 = [] ∧ σ.m "last" = some (.list []) ∧ itemsOf (r0 :: rs) = a.1))

noncomputable abbrev J147b (r0 : List Int) (rs : List (List Int)) (ia : Addr) (r : List Int) (rem' : List (List Int)) (σ' : St) : Prop :=
  ∃ (acc' : List Item) (rem'' : List (List Int)) (k' : Nat), (σ'.m "rows" = some (.list (vrows (r0 :: rs))) ∧ σ'.m "items" = some (.ref ia) ∧ σ'.mu ia = some (acc'.map vitem) ∧ σ'.m "k" = some (.int k') ∧ (r0 :: rs).drop (k' + 1) = rem'' ∧ k' + 1 ≤ rs.length + 2 ∧ acc'.length ≤ 1 + 3 * (k' + 1) ∧
        ((σ'.m "last" = some (.list [vitem close]) ∧ itemsOf (r0 :: rs) = acc' ++ itemsFrom rem'') ∨ (rem'' = [] ∧ σ'.m "last" = some (.list []) ∧ itemsOf (r0 :: rs) = acc')) ∧ rem''.length < (r :: rem').length)

theorem body147 (c : Cx) (L : Addr) (rows : List (List Int)) (hr : rows.length ≤ 20) (hne : rows ≠ []) (hrow : ∀ r ∈ rows, okRow r) (Q : AV → Prop) (G : Gl (calleeCx c (fnD 147) 147 L)) (hd : c.A.depth < 590) (hu : c.A.units < 4900) (hh : c.A.handled = none)
    (hq : Q (.list ((itemsOf rows).map vitem))) :
    Exs (calleeCx c (fnD 147) 147 L) (fnB 147) (startSt ["rows"] [.list (vrows rows)]) (Gives Q) := by
  have hL : (calleeCx c (fnD 147) 147 L).env.locals ∈ (calleeCx c (fnD 147) 147 L).own := .head _
  have hE : PassesOwn (model (calleeCx c (fnD 147) 147 L).prog (calleeCx c (fnD 147) 147 L).w) (calleeCx c (fnD 147) 147 L).A (calleeCx c (fnD 147) 147 L).env (calleeCx c (fnD 147) 147 L).E := PassesOwn.never
  have hd' : (calleeCx c (fnD 147) 147 L).A.depth < 600 := by show c.A.depth + 1 < 600; omega
  have hu' : (calleeCx c (fnD 147) 147 L).A.units < 4990 := by show c.A.units + 3 < 4990; omega
  obtain ⟨r0, rs, rfl⟩ : ∃ r0 rs, rows = r0 :: rs := List.exists_cons_of_ne_nil hne
  have okAt : ∀ i r, (r0 :: rs)[i]? = some r → okRow r := fun i r h => hrow r (List.mem_of_getElem? h)
  have hget : ∀ (i : Nat) r, (r0 :: rs)[i]? = some r → (vrows (r0 :: rs))[i]? = some (.list (vints r)) := fun i r h => by rw [List.getElem?_map, h]; rfl
  refine exs_cons (ex_set G hL rfl (ev_listm (evs_cons (ev_call G (ev_global G rfl rfl ⟨.ref _ rfl, evs_cons (ev_str (l := [91]) rfl (evs_cons (ev_idx (ev_local G rfl rfl (ev_int (it_listN (i := 0) (by omega) (hget 0 r0 rfl) (evs_nil (cl140 G hd' hu' hh (by decide) (okAt 0 r0 rfl) ?_))))))))⟩)))))
  refine evs_nil ⟨by show 1 ≤ sizeLine; decide, fun ia hia => ?_⟩
  refine exs_cons (ex_set G hL rfl (ev_list (evs_cons (ev_pair1 (l := [93]) rfl (evs_nil ⟨by show 1 ≤ sizeLine; decide, ?_⟩)))))
  refine exs_cons (ex_set G hL rfl (ev_int ?_))
  refine exs_cons (ex_while (wl_inv (α := List Item × List (List Int) × Nat) (J147a r0 rs ia) (fun a => a.2.1.length) hE ?_ ([told [91] r0], rs, 1) ?_))
  · rintro ⟨acc, rem, k⟩ σ ⟨h1, h2, h3, h4, h5, h6, h7, h8⟩
    dsimp only at h1 h2 h3 h4 h5 h6 h7 h8
    refine ts_cmp (ev_local G rfl h4 (ev_call G (ev_builtin G rfl rfl rfl (.bi _) ⟨.bi _, evs_cons (ev_local G rfl h1 (evs_nil (cl_len (by simp at hr ⊢; omega) (op_lt (tr_bool ⟨fun hb => ?_, fun hb => ?_⟩)))))⟩)))
    · have hk : k < (r0 :: rs).length := by simp at hb ⊢; omega
      have hk20 : k < 20 := by omega
      obtain ⟨r, rem', rfl⟩ : ∃ r rem', rem = r :: rem' := by
        cases rem with
        | nil => have := congrArg List.length h5; simp at this; simp at hk; omega
        | cons r rem' => exact ⟨r, rem', rfl⟩
      have hkr : (r0 :: rs)[k]? = some r := by
        have := congrArg (fun l => l[0]?) h5
        simpa using this
      have h89 : σ.m "last" = some (.list [vitem close]) ∧ itemsOf (r0 :: rs) = acc ++ itemsFrom (r :: rem') := by
        rcases h8 with h8 | ⟨h8, _⟩
        · exact h8
        · cases h8
      clear h8
      obtain ⟨h8, h9⟩ := h89
      have hacc : (acc.map vitem).length ≤ 1000 := by rw [List.length_map]; omega
      refine exs_cons (ex_expr (ev_meth (ev_local G rfl h2 ⟨"list.extend", mt_extend h3, evs_cons (ev_list (evs_cons (ev_pair1 (l := [44]) rfl (evs_cons (ev_pair1 (l := [32]) rfl (evs_nil ⟨by show 2 ≤ sizeLine; decide, evs_nil (cl_extend h3 (by omega) (by show 2 ≤ 1000000; omega) ?_)⟩))))))⟩)) rfl)
      have h3' : (σ.put ia (acc.map vitem ++ [vitem ([[44]], [[44]]), vitem ([[32]], [[32]])])).mu ia = some ((acc ++ [comma, blank]).map vitem) := by rw [St.put_mu, if_pos rfl, List.map_append]; rfl
      refine exs_cons (ex_join (J147b r0 rs ia r rem')
        (ex_if (ts_cmp (ev_idx (ev_local G rfl h1 (ev_local G rfl h4 (it_listN (by omega) (hget k r hkr) (ev_list (evs_nil ⟨by decide, op_ned G shp_ints ⟨rfl, by decide⟩ (tr_bool ⟨fun hb => ?_, fun hb => ?_⟩)⟩)))))))) fun σ' hJ => ?_)
      · have hrn : r ≠ [] := by
          rw [row_ne] at hb; simpa using hb
        refine exs_cons (ex_expr (ev_meth (ev_local G rfl h2 ⟨"list.append", mt_append h3', evs_cons (ev_call G (ev_global G rfl rfl ⟨.ref _ rfl, evs_cons (ev_str (l := []) rfl (evs_cons (ev_idx (ev_local G rfl h1 (ev_local G rfl h4 (it_listN (by omega) (hget k r hkr) (evs_nil (cl140 G hd' hu' hh (by decide) (okAt k r hkr) (evs_nil (cl_append h3' (by simp; omega) ?_))))))))))⟩))⟩)) rfl)
        refine exs_nil ⟨rfl, acc ++ [comma, blank, told [] r], rem', k, h1, h2, ?_, h4, ?_, ?_, ?_, .inl ⟨h8, ?_⟩, by simp⟩
        · rw [St.put_mu, if_pos rfl]; simp
        · have := congrArg (List.drop 1) h5
          simpa [List.drop_drop, Nat.add_comm] using this
        · simp at hk; omega
        · simp; omega
        · rw [h9]
          cases rem' with
          | nil => simp [itemsFrom, hrn]
          | cons r' rs' => simp [itemsFrom, hrn]
      · have hrn : r = [] := by
          rw [row_ne] at hb; simpa using hb
        refine exs_cons (ex_if (ts_cmp (ev_binop (ev_local G rfl h4 (ev_int (op_add (ev_call G (ev_builtin G rfl rfl rfl (.bi _) ⟨.bi _, evs_cons (ev_local G rfl h1 (evs_nil (cl_len (by simp at hr ⊢; omega) (op_lt (tr_bool ⟨fun hb => ?_, fun hb => ?_⟩)))))⟩))))))))
        · have hk1 : k + 1 < (r0 :: rs).length := by simp at hb ⊢; omega
          obtain ⟨r', rs', rfl⟩ : ∃ r' rs', rem' = r' :: rs' := by
            cases rem' with
            | nil => have := congrArg List.length h5; simp at this; simp at hk1; omega
            | cons r' rs' => exact ⟨r', rs', rfl⟩
          have hkr1 : (r0 :: rs)[k + 1]? = some r' := by
            have := congrArg (fun l => l[1]?) h5
            simpa using this
          refine exs_cons (ex_aug G hL rfl h4 (ev_int (op_iadd ?_)))
          rw [show ((k : Int) + 1) = ((k + 1 : Nat) : Int) by push_cast; rfl]
          refine exs_cons (ex_expr (ev_meth (ev_local G rfl h2 ⟨"list.append", mt_append h3', evs_cons (ev_call G (ev_global G rfl rfl ⟨.ref _ rfl, evs_cons (ev_str (l := [93, 44, 32, 91]) rfl (evs_cons (ev_idx (ev_local G rfl h1 (ev_local G rfl rfl (it_listN (by omega) (hget (k + 1) r' hkr1) (evs_nil (cl140 G hd' hu' hh (by decide) (okAt (k + 1) r' hkr1) (evs_nil (cl_append h3' (by simp; omega) ?_))))))))))⟩))⟩)) rfl)
          refine exs_nil (exs_nil ⟨rfl, acc ++ [comma, blank, told [93, 44, 32, 91] r'], rs', k + 1, h1, h2, ?_, rfl, ?_, ?_, ?_, .inl ⟨h8, ?_⟩, by simp; omega⟩)
          · rw [St.put_mu, if_pos rfl]; simp
          · have := congrArg (List.drop 2) h5
            rw [List.drop_drop] at this
            exact this
          · simp at hk1; omega
          · simp; omega
          · rw [h9]; simp [itemsFrom, hrn]
        · have hk1 : ¬ k + 1 < (r0 :: rs).length := by simp at hb ⊢; omega
          have hrem : rem' = [] := by
            cases rem' with
            | nil => rfl
            | cons r' rs' => have := congrArg List.length h5; simp at this; simp at hk1; omega
          subst hrem
          refine exs_cons (ex_expr (ev_meth (ev_local G rfl h2 ⟨"list.append", mt_append h3', evs_cons (ev_pair1 (l := [93]) rfl (evs_nil (cl_append h3' (by simp; omega) ?_)))⟩)) rfl)
          refine exs_cons (ex_set G hL rfl (ev_list (evs_nil ⟨by decide, ?_⟩)))
          refine exs_nil (exs_nil ⟨rfl, acc ++ [comma, blank, close], [], k, h1, h2, ?_, h4, ?_, ?_, ?_, .inr ⟨rfl, rfl, ?_⟩, by simp⟩)
          · rw [St.set_mu, St.put_mu, if_pos rfl]; simp [close]
          · have := congrArg (List.drop 1) h5
            simpa [List.drop_drop, Nat.add_comm] using this
          · simp at hk; omega
          · simp; omega
          · rw [h9]; simp [itemsFrom, hrn]
      · obtain ⟨acc', rem'', k', g1, g2, g3, g4, g5, g6, g7, g8, g9⟩ := hJ
        refine exs_cons (ex_aug G hL rfl g4 (ev_int (op_iadd (exs_nil ⟨⟨acc', rem'', k' + 1⟩, g9, ?_⟩))))
        exact ⟨g1, g2, g3, by rw [show ((k' : Int) + 1) = ((k' + 1 : Nat) : Int) by push_cast; rfl]; rfl, g5, g6, g7, g8⟩
    · have hk : ¬ k < (r0 :: rs).length := by simp at hb ⊢; omega
      have hrem : rem = [] := by rw [← h5]; exact List.drop_of_length_le (by omega)
      subst hrem
      have hlen : acc.length ≤ 1000 := by simp at hr; omega
      obtain ⟨last, hl, h1l, he⟩ : ∃ last : List Item, σ.m "last" = some (.list (last.map vitem)) ∧ last.length ≤ 1 ∧ itemsOf (r0 :: rs) = acc ++ last := by
        rcases h8 with ⟨h8, h9⟩ | ⟨_, h8, h9⟩
        · exact ⟨[close], h8, by simp, h9⟩
        · exact ⟨[], h8, by simp, by rw [h9]; simp⟩
      refine exs_cons (ex_ret (ev_binop (ev_local G rfl h2 (ev_local G rfl hl (op_addm h3 (by simp; omega) ⟨_, .same _, ?_⟩)))))
      rw [← List.map_append, ← he]
      exact hq
  · refine ⟨rfl, rfl, ?_, rfl, rfl, by show 1 ≤ rs.length + 2; omega, by simp, .inl ⟨rfl, rfl⟩⟩
    rw [St.set_mu, St.set_mu, St.set_mu, St.put_mu, if_pos rfl]; rfl
end Mine
end

section
open PySem PySem.W PyProof.Rows PySem.Calls
set_option Elab.async false
set_option maxRecDepth 100000
set_option maxHeartbeats 4000000
set_option linter.unusedVariables false
namespace Mine

theorem ok152 (w : World) : FnOk (KK w) 152 (fnD 152) (fnB 152) ["piece"] where
  obj := ⟨_, _, _, rfl⟩
  code := rfl
  body := rfl
  cell := by decide +kernel
  loc := by decide +kernel
  co := rfl
  gen := rfl
  fn := rfl
  gl := rfl
  bl := rfl
noncomputable def unesc (r : List Nat) : List Nat := if r.head? = some 92 then r.drop 1 else r
inductive Scan : List Nat → List (List Nat) → Prop
  | nil : Scan [] []
  | one {r : List Nat} {low : Nat} {rest : List Nat} {out : List (List Nat)} (h : unesc r = low :: rest) (hn : ¬ (rest.head? = some 45 ∧ 1 < rest.length)) (hs : Scan rest out) : Scan r ([low] :: out)
  | rng {r : List Nat} {low high : Nat} {rest rest' : List Nat} {out : List (List Nat)} (h : unesc r = low :: 45 :: rest) (hr : rest ≠ []) (h' : unesc rest = high :: rest') (hl : low ≤ high) (hs : Scan rest' out) : Scan r (span low (high + 1) ++ out)
inductive Told : List Nat → List (List Nat) → Prop
  | never : Told [40, 63, 33, 41] []
  | one (s : Nat) (h : s ∈ [44, 32, 93]) : Told [s] [[s]]
  | esc (s : Nat) (h : s ∈ [44, 32, 93]) : Told [92, s] [[s]]
  | many {body : List Nat} {out : List (List Nat)} (h : Scan body out) (hb : body.length ≤ 10000) (ho : out.length ≤ 100000) (ha : ∀ ch ∈ body, ch < 1000) : Told (91 :: (body ++ [93])) out

theorem okS_of {l : List (List Nat)} (h : (l.all fun s => s.all fun ch => decide (ch < 0x110000)) = true) : okS l := by
  intro s hs ch hc
  have := List.all_eq_true.mp (List.all_eq_true.mp h s hs) ch hc
  simpa using this
theorem tail_one (p : List Nat) (s : Nat) : cut (some (-1)) none (p ++ [s]) = [s] := by rw [cut_last]; simp
noncomputable abbrev J152a (body : List Nat) (sa : Addr) (out : List (List Nat)) (a : Nat × List Nat × List (List Nat) × List (List Nat)) (σ : St) : Prop :=
  σ.m "body" = some (.str body) ∧ σ.m "sign" = some (.str [93]) ∧ σ.m "signs" = some (.ref sa) ∧ σ.m "i" = some (.int a.1) ∧ σ.mu sa = some (vstrs a.2.2.1) ∧
      a.1 ≤ body.length ∧ body.drop a.1 = a.2.1 ∧ Scan a.2.1 a.2.2.2 ∧ out = a.2.2.1 ++ a.2.2.2

noncomputable abbrev J152b (body : List Nat) (sa : Addr) (acc : List (List Nat)) (i : Nat) (r : List Nat) (σ' : St) : Prop :=
  ∃ i1 : Nat, σ'.m "body" = some (.str body) ∧ σ'.m "sign" = some (.str [93]) ∧ σ'.m "signs" = some (.ref sa) ∧ σ'.m "i" = some (.int i1) ∧ σ'.mu sa = some (vstrs acc) ∧ i1 ≤ body.length ∧ i ≤ i1 ∧ body.drop i1 = unesc r

noncomputable abbrev J152c (body : List Nat) (sa : Addr) (acc : List (List Nat)) (i1 : Nat) (low : Nat) (o2 : List (List Nat)) (σ' : St) : Prop :=
  ∃ (i2 high : Nat) (restX : List Nat) (o3 : List (List Nat)), σ'.m "body" = some (.str body) ∧ σ'.m "sign" = some (.str [93]) ∧ σ'.m "signs" = some (.ref sa) ∧ σ'.m "i" = some (.int i2) ∧ σ'.m "low" = some (.str [low]) ∧ σ'.m "high" = some (.str [high]) ∧ σ'.mu sa = some (vstrs acc) ∧
            i2 ≤ body.length ∧ i1 < i2 ∧ body.drop i2 = restX ∧ low ≤ high ∧ high < 1000 ∧ Scan restX o3 ∧ o2 = span low (high + 1) ++ o3

noncomputable abbrev J152d (body : List Nat) (sa : Addr) (acc : List (List Nat)) (i1 : Nat) (low : Nat) (rest2 : List Nat) (σ' : St) : Prop :=
  ∃ i3 : Nat, σ'.m "body" = some (.str body) ∧ σ'.m "sign" = some (.str [93]) ∧ σ'.m "signs" = some (.ref sa) ∧ σ'.m "i" = some (.int i3) ∧ σ'.m "low" = some (.str [low]) ∧ σ'.mu sa = some (vstrs acc) ∧ i3 ≤ body.length ∧ i1 + 1 + 1 ≤ i3 ∧ body.drop i3 = unesc rest2

theorem body152 (c : Cx) (L : Addr) (piece : List Nat) (out : List (List Nat)) (ht : Told piece out) (Q : AV → Prop) (G : Gl (calleeCx c (fnD 152) 152 L)) (hh : c.A.handled = none)
    (hq : Q (.list (vstrs out))) :
    Exs (calleeCx c (fnD 152) 152 L) (fnB 152) (startSt ["piece"] [.str piece]) (Gives Q) := by
  have hL : (calleeCx c (fnD 152) 152 L).env.locals ∈ (calleeCx c (fnD 152) 152 L).own := .head _
  have hE : PassesOwn (model (calleeCx c (fnD 152) 152 L).prog (calleeCx c (fnD 152) 152 L).w) (calleeCx c (fnD 152) 152 L).A (calleeCx c (fnD 152) 152 L).env (calleeCx c (fnD 152) 152 L).E := PassesOwn.never
  have plen : piece.length ≤ sizeLine := by
    rw [PySem.sizeLine_eq]
    cases ht with
    | never => decide
    | one => simp
    | esc => simp
    | many _ hb => simp; omega
  have plast : ∃ p s, piece = p ++ [s] := by
    cases ht with
    | never => exact ⟨[40, 63, 33], 41, rfl⟩
    | one s => exact ⟨[], s, rfl⟩
    | esc s => exact ⟨[92], s, rfl⟩
    | many => exact ⟨_ :: _, 93, rfl⟩
  obtain ⟨p, s, hps⟩ := plast
  refine exs_cons (ex_if (ts_cmp (ev_local G rfl rfl (ev_str (l := [40, 63, 33, 41]) rfl (op_eqs (tr_bool ⟨fun hb => ?_, fun hb => ?_⟩))))))
  · have hp : piece = [40, 63, 33, 41] := by simpa using hb
    have ho : out = [] := by
      subst hp
      generalize hg : [40, 63, 33, 41] = q at ht
      cases ht with
      | never => rfl
      | one s => cases hg
      | esc s => cases hg
      | many => cases hg
    refine exs_cons (ex_ret (ev_list (evs_nil ⟨by decide, _, .same _, ?_⟩)))
    rw [ho] at hq; exact hq
  have hp : piece ≠ [40, 63, 33, 41] := by simpa using hb
  refine exs_nil (exs_cons (ex_set G hL rfl (ev_cuts (ev_local G rfl rfl ⟨_, rfl, plen, evp_some (ev_unary (ev_int (op_neg ⟨-1, rfl, evp_none ?_⟩)))⟩))))
  have hsign : cut (some (-1)) none piece = [s] := by rw [hps]; exact tail_one p s
  rw [hsign]
  refine exs_cons (ex_if (ts_cmp (ev_cuts (ev_local G rfl rfl ⟨_, rfl, plen, evp_none (evp_some (ev_int ⟨1, rfl, ev_str (l := [91]) rfl (op_nes (tr_bool ⟨fun hb => ?_, fun hb => ?_⟩))⟩))⟩))))
  · have hp1 : piece.take 1 ≠ [91] := by
      rw [show (1 : Int) = ((1 : Nat) : Int) from rfl, cut_take] at hb; simpa using hb
    have hcase : s ∈ [44, 32, 93] ∧ out = [[s]] ∧ (piece = [s] ∨ piece = [92, s]) := by
      cases ht with
      | never => exact absurd rfl hp
      | one s' h =>
        have : s' = s := by have := congrArg List.getLast? hps; simpa using this
        subst this; exact ⟨h, rfl, .inl rfl⟩
      | esc s' h =>
        have : s' = s := by have := congrArg List.getLast? hps; simpa using this
        subst this; exact ⟨h, rfl, .inr rfl⟩
      | many => simp at hp1
    obtain ⟨hs, ho, hpc⟩ := hcase
    have hs' : s < 1000 := by simp at hs; omega
    refine exs_cons (ex_ret (ev_ifexp (ts_and2 (ts_cmp (ev_local G rfl rfl (ev_list (evs_cons (ev_str (l := [44]) rfl (evs_cons (ev_str (l := [32]) rfl (evs_cons (ev_str (l := [93]) rfl (evs_nil ⟨by show 3 ≤ sizeLine; decide, ?_⟩)))))))))))))
    refine op_inl (l := [[44], [32], [93]]) G (okS_of (by decide)) (by simp; omega) (tr_bool ⟨fun _ => ?_, fun hb => ?_⟩)
    · refine ts_cmp (ev_local G rfl rfl (ev_list (evs_cons (ev_local G rfl rfl (evs_cons (ev_binop (ev_str (l := [92]) rfl (ev_local G rfl rfl (op_adds (by rw [PySem.sizeLine_eq]; show 1 + 1 ≤ _; omega) (evs_nil ⟨by show 2 ≤ sizeLine; decide, ?_⟩))))))))))
      refine op_inl (l := [[s], [92, s]]) G ?_ ?_ (tr_bool ⟨fun _ => ?_, fun hb => ?_⟩)
      · intro t ht ch hch; simp at ht; rcases ht with rfl | rfl <;> simp at hch <;> omega
      · intro ch hch; rcases hpc with rfl | rfl <;> simp at hch <;> omega
      · refine ev_list (evs_cons (ev_local G rfl rfl (evs_nil ⟨by show 1 ≤ sizeLine; decide, _, .same _, ?_⟩)))
        rw [ho] at hq; exact hq
      · exfalso; rcases hpc with rfl | rfl <;> simp at hb
    · exfalso; simp at hb hs; omega
  · have hp1 : piece.take 1 = [91] := by
      rw [show (1 : Int) = ((1 : Nat) : Int) from rfl, cut_take] at hb; simpa using hb
    obtain ⟨body, hbd, hsc, hbl, hol, hch⟩ : ∃ body, piece = 91 :: (body ++ [93]) ∧ Scan body out ∧ body.length ≤ 10000 ∧ out.length ≤ 100000 ∧ ∀ ch ∈ body, ch < 1000 := by
      cases ht with
      | never => exact absurd rfl hp
      | one s' h => exfalso; simp at hp1 h; omega
      | esc s' h => simp at hp1
      | many h1 h2 h3 h4 => exact ⟨_, rfl, h1, h2, h3, h4⟩
    have hs93 : s = 93 := by
      rw [hbd] at hps
      have := List.append_inj_right' (show (91 :: body) ++ [93] = p ++ [s] from hps) rfl
      simpa using this.symm
    subst hs93
    refine exs_nil (exs_cons (ex_set G hL rfl (ev_cuts (ev_local G rfl rfl ⟨_, rfl, plen, evp_some (ev_int ⟨1, rfl, evp_some (ev_unary (ev_int (op_neg ⟨-1, rfl, ?_⟩)))⟩)⟩))))
    have hcut : cut (some 1) (some (-1)) piece = body := by
      exact (cut_mid piece 1).trans (by rw [hbd]; simp)
    rw [hcut]
    refine exs_cons (ex_set G hL rfl (ev_listm (evs_nil ⟨by decide, fun sa hsa => ?_⟩)))
    refine exs_cons (ex_set G hL rfl (ev_int ?_))
    have blen : body.length ≤ sizeLine := by rw [PySem.sizeLine_eq]; omega
    refine exs_cons (ex_while (wl_inv (α := Nat × List Nat × List (List Nat) × List (List Nat)) (J152a body sa out) (fun a => a.2.1.length) hE ?_ (0, body, [], out) ?_))
    · rintro ⟨i, r, acc, o2⟩ σ ⟨h1, h2, h3, h4, h5, h6, h7, h8, h9⟩
      dsimp only at h1 h2 h3 h4 h5 h6 h7 h8 h9
      refine ts_cmp (ev_local G rfl h4 (ev_call G (ev_builtin G rfl rfl rfl (.bi _) ⟨.bi _, evs_cons (ev_local G rfl h1 (evs_nil (cl_lens (by omega) (op_lt (tr_bool ⟨fun hb => ?_, fun hb => ?_⟩)))))⟩)))
      · have hi : i < body.length := by simp at hb; omega
        have hlen : (body.drop i).length = body.length - i := List.length_drop ..
        have accl : (vstrs acc).length ≤ 1000000 := by
          have := congrArg List.length h9
          simp at this; simp; omega
        have o2l : o2.length ≤ 100000 := by
          have := congrArg List.length h9
          simp at this; omega
        obtain ⟨c0, r0, hr0⟩ : ∃ c0 r0, r = c0 :: r0 := by
          cases r with
          | nil => rw [h7] at hlen; simp at hlen; omega
          | cons c0 r0 => exact ⟨c0, r0, rfl⟩
        have hat : ∀ j ch rest, body.drop j = ch :: rest → body[j]? = some ch ∧ body.drop (j + 1) = rest ∧ j < body.length := fun j ch rest h => by
          refine ⟨?_, ?_, ?_⟩
          · have := congrArg (fun l => l[0]?) h; simpa using this
          · have := congrArg (List.drop 1) h; simpa [List.drop_drop] using this
          · have := congrArg List.length h; simp at this; omega
        have hsub : ∀ j ch rest, body.drop j = ch :: rest → ch < 1000 := fun j ch rest h => hch ch (List.mem_of_getElem? (hat j ch rest h).1)
        rw [hr0] at h7
        obtain ⟨hb0, hd0, _⟩ := hat i c0 r0 h7
        refine exs_cons (ex_join (J152b body sa acc i r)
          (ex_if (ts_cmp (ev_idx (ev_local G rfl h1 (ev_local G rfl h4 (it_strN (by omega) hb0 (ev_str (l := [92]) rfl (op_eqs (tr_bool ⟨fun hb => ?_, fun hb => ?_⟩)))))))) ) fun σ' hJ => ?_)
        · have hc : c0 = 92 := by simpa using hb
          refine exs_cons (ex_aug G hL rfl h4 (ev_int (op_iadd (exs_nil ⟨rfl, i + 1, h1, h2, h3, by rw [show ((i : Int) + 1) = ((i + 1 : Nat) : Int) by push_cast; rfl]; rfl, h5, by omega, by omega, ?_⟩))))
          rw [hr0, hc]; exact hd0
        · have hc : c0 ≠ 92 := by simpa using hb
          refine exs_nil ⟨rfl, i, h1, h2, h3, h4, h5, by omega, by omega, ?_⟩
          rw [h7, hr0]; unfold unesc; rw [if_neg (by simpa using hc)]
        · obtain ⟨i1, h1, h2, h3, h4, h5, h6', hle, h7'⟩ := hJ
          have hcons : ∃ low rest, unesc r = low :: rest := by
            cases h8 with
            | nil => cases hr0
            | one h => exact ⟨_, _, h⟩
            | rng h => exact ⟨_, _, h⟩
          obtain ⟨low, rest, hlow⟩ := hcons
          rw [hlow] at h7'
          obtain ⟨hb1, hd1, hlt1⟩ := hat i1 low rest h7'
          have hlow1000 := hsub i1 low rest h7'
          have ecut : ∀ (j : Nat), cut (some (j : Int)) (some ((j : Int) + 1)) body = (body.drop j).take 1 := fun j => by
            have := cut_eq body j (j + 1)
            rw [show ((j + 1 : Nat) : Int) = (j : Int) + 1 by push_cast; rfl] at this
            rw [this]; congr 1; omega
          refine exs_cons (ex_set G hL rfl (ev_cuts (ev_local G rfl h1 ⟨_, rfl, blen, evp_some (ev_local G rfl h4 ⟨_, rfl, evp_some (ev_binop (ev_local G rfl h4 (ev_int (op_add ⟨_, rfl, ?_⟩))))⟩)⟩)))
          rw [ecut, h7', show (low :: rest).take 1 = [low] from rfl]
          refine exs_cons (ex_set G hL rfl (ev_local G rfl rfl ?_))
          refine exs_cons (ex_aug G hL rfl h4 (ev_int (op_iadd ?_)))
          rw [show ((i1 : Int) + 1) = ((i1 + 1 : Nat) : Int) by push_cast; rfl]
          have h8' : (¬ (rest.head? = some 45 ∧ 1 < rest.length) ∧ ∃ o3, Scan rest o3 ∧ o2 = [low] :: o3) ∨ (∃ rest2 high rest3 o3, rest = 45 :: rest2 ∧ rest2 ≠ [] ∧ unesc rest2 = high :: rest3 ∧ low ≤ high ∧ Scan rest3 o3 ∧ o2 = span low (high + 1) ++ o3) := by
            generalize hg : r = q at h8
            cases h8 with
            | nil => rw [hr0] at hg; cases hg
            | one g1 g2 g3 => rw [← hg, hlow] at g1; cases g1; exact .inl ⟨g2, _, g3, rfl⟩
            | rng g1 g2 g3 g4 g5 => rw [← hg, hlow] at g1; cases g1; exact .inr ⟨_, _, _, _, rfl, g2, g3, g4, g5, rfl⟩
          have hrl : rest.length = body.length - (i1 + 1) := by rw [← hd1, List.length_drop]
          refine exs_cons (ex_join (J152c body sa acc i1 low o2)
            (ex_if (ts_and2 (ts_cmp (ev_cuts (ev_local G rfl h1 ⟨_, rfl, blen, evp_some (ev_local G rfl rfl ⟨_, rfl, evp_some (ev_binop (ev_local G rfl rfl (ev_int (op_add ⟨_, rfl, ev_str (l := [45]) rfl (op_eqs (tr_bool ⟨fun hb => ?_, fun hb => ?_⟩))⟩))))⟩)⟩))))) fun σ'' hJ => ?_)
          · rw [ecut, hd1] at hb
            refine ts_cmp (ev_binop (ev_local G rfl rfl (ev_int (op_add (ev_call G (ev_builtin G rfl rfl rfl (.bi _) ⟨.bi _, evs_cons (ev_local G rfl h1 (evs_nil (cl_lens (by omega) (op_lt (tr_bool ⟨fun hb2 => ?_, fun hb2 => ?_⟩)))))⟩))))))
            · -- a range
              have hc1 : rest.head? = some 45 := by
                cases rest with
                | nil => simp at hb
                | cons x xs => simp at hb; simp [hb]
              have hc2 : 1 < rest.length := by simp at hb2; omega
              rcases h8' with ⟨hno, _⟩ | ⟨rest2, high, rest3, o3, g1, g2, g3, g4, g5, g6⟩
              · exact absurd ⟨hc1, hc2⟩ hno
              · rw [g1] at hd1
                obtain ⟨_, hd2, hlt2⟩ := hat (i1 + 1) 45 rest2 hd1
                obtain ⟨c2, r2, hr2⟩ : ∃ c2 r2, rest2 = c2 :: r2 := List.exists_cons_of_ne_nil g2
                rw [hr2] at hd2
                obtain ⟨hb2', hd3, hlt3⟩ := hat (i1 + 1 + 1) c2 r2 hd2
                refine exs_cons (ex_aug G hL rfl rfl (ev_int (op_iadd ?_)))
                rw [show (((i1 + 1 : Nat) : Int) + 1) = ((i1 + 1 + 1 : Nat) : Int) by push_cast; rfl]
                refine exs_cons (ex_join (J152d body sa acc i1 low rest2)
                  (ex_if (ts_cmp (ev_idx (ev_local G rfl h1 (ev_local G rfl rfl (it_strN (by omega) hb2' (ev_str (l := [92]) rfl (op_eqs (tr_bool ⟨fun hb => ?_, fun hb => ?_⟩)))))))) ) fun σ3 hJ => ?_)
                · have hc : c2 = 92 := by simpa using hb
                  refine exs_cons (ex_aug G hL rfl rfl (ev_int (op_iadd (exs_nil ⟨rfl, i1 + 1 + 1 + 1, h1, h2, h3, by rw [show (((i1 + 1 + 1 : Nat) : Int) + 1) = ((i1 + 1 + 1 + 1 : Nat) : Int) by push_cast; rfl]; rfl, rfl, h5, by omega, by omega, ?_⟩))))
                  rw [hr2, hc]; exact hd3
                · have hc : c2 ≠ 92 := by simpa using hb
                  refine exs_nil ⟨rfl, i1 + 1 + 1, h1, h2, h3, rfl, rfl, h5, by omega, by omega, ?_⟩
                  rw [hd2, hr2]; unfold unesc; rw [if_neg (by simpa using hc)]
                · obtain ⟨i3, k1, k2, k3, k4, k5, k6, k7, k8, k9⟩ := hJ
                  rw [g3] at k9
                  obtain ⟨_, hd4, hlt4⟩ := hat i3 high rest3 k9
                  refine exs_cons (ex_set G hL rfl (ev_cuts (ev_local G rfl k1 ⟨_, rfl, blen, evp_some (ev_local G rfl k4 ⟨_, rfl, evp_some (ev_binop (ev_local G rfl k4 (ev_int (op_add ⟨_, rfl, ?_⟩))))⟩)⟩)))
                  rw [ecut, k9, show (high :: rest3).take 1 = [high] from rfl]
                  refine exs_cons (ex_aug G hL rfl k4 (ev_int (op_iadd (exs_nil ⟨rfl, i3 + 1, high, rest3, o3, k1, k2, k3, by rw [show ((i3 : Int) + 1) = ((i3 + 1 : Nat) : Int) by push_cast; rfl]; rfl, k5, rfl, k6, by omega, by omega, hd4, g4, hsub i3 high rest3 k9, g5, g6⟩))))
            · -- a hyphen at the end
              have hc2 : ¬ 1 < rest.length := by simp at hb2; omega
              rcases h8' with ⟨_, o3, g1, g2⟩ | ⟨rest2, high, rest3, o3, g1, g2, g3, g4, g5, g6⟩
              · exact exs_nil ⟨rfl, i1 + 1, low, rest, o3, h1, h2, h3, rfl, rfl, rfl, h5, by omega, by omega, hd1, Nat.le_refl _, hlow1000, g1, by rw [g2]; unfold span; rw [show low + 1 - low = 1 by omega]; rfl⟩
              · exfalso; rw [g1] at hc2; simp at hc2; exact g2 hc2
          · rw [ecut, hd1] at hb
            have hc1 : ¬ rest.head? = some 45 := by
              cases rest with
              | nil => simp
              | cons x xs => simp at hb ⊢; exact hb
            refine ⟨fun h => (by cases h), fun _ => ?_⟩
            rcases h8' with ⟨_, o3, g1, g2⟩ | ⟨rest2, high, rest3, o3, g1, g2, g3, g4, g5, g6⟩
            · exact exs_nil ⟨rfl, i1 + 1, low, rest, o3, h1, h2, h3, rfl, rfl, rfl, h5, by omega, by omega, hd1, Nat.le_refl _, hlow1000, g1, by rw [g2]; unfold span; rw [show low + 1 - low = 1 by omega]; rfl⟩
            · exfalso; rw [g1] at hc1; simp at hc1
          · obtain ⟨i2, high, restX, o3, k1, k2, k3, k4, k5, k6, k7, k8, k9, k10, k11, k12, k13, k14⟩ := hJ
            have splen : (span low (high + 1)).length ≤ 1000 := by rw [span_len]; omega
            have hex : span low (high + 1) = ((((List.range (rsz ((low : Nat) : Int) ((high + 1 : Nat) : Int) 1)).map fun (j : Nat) => ((low : Nat) : Int) + (j : Int) * 1).filter fun _ => true).map fun i => [i.toNat]) := (span_eq low (high + 1)).symm
            have hnlt : decide ([high] < [low]) = false := by
              apply decide_eq_false
              intro h
              rcases List.cons_lt_cons_iff.mp h with h | ⟨_, h⟩
              · omega
              · cases h
            refine exs_cons (ex_if (ts_or3 (ts_cmp (ev_local G rfl k2 (ev_str (l := [93]) rfl (op_nes (tr_bool ⟨fun _ => ts_cmp (ev_local G rfl k5 (ev_str (l := []) rfl (op_eqs (tr_bool ⟨fun _ => ts_cmp (ev_local G rfl k6 (ev_local G rfl k5 (op_lts (tr_bool ⟨fun hb => ?_, fun _ => ?_⟩)))), fun hb => ?_⟩)))), fun hb => ?_⟩)))))))
            · exfalso; rw [hnlt] at hb; cases hb
            · refine exs_nil (exs_cons (ex_expr (ev_meth (ev_local G rfl k3 ⟨"list.extend", mt_extend k7, evs_cons (ev_comp (cl := []) (emb := AV.int) (fun i => [i.toNat]) (fun _ => true) G (by exact clOk0 rfl rfl rfl rfl) (by rfl) inj_int
                (src_range hh (ev_callty G (ev_builtin G rfl rfl rfl (.ty _) ⟨_, rfl, evs_cons (ev_call G (ev_builtin G rfl rfl rfl (.bi _) ⟨.bi _, evs_cons (ev_local G rfl k5 (evs_nil (cl_ord (evs_cons (ev_binop (ev_call G (ev_builtin G rfl rfl rfl (.bi _) ⟨.bi _, evs_cons (ev_local G rfl k6 (evs_nil (cl_ord (ev_int (op_add (evs_nil (cl_range2 ⟨?_, ?_, ?_, ?_, ?_⟩)))))))⟩)))))))⟩))⟩))))⟩)) rfl))
              · exact small_one (by show (-2 ^ 62 : Int) ≤ (low : Int); omega) (by show (low : Int) < 2 ^ 62; omega) (by show (-2 ^ 62 : Int) ≤ (high : Int) + 1; omega) (by show (high : Int) + 1 < 2 ^ 62; omega)
              · rw [List.length_map, List.length_range]
                show rsz ((low : Nat) : Int) ((high + 1 : Nat) : Int) 1 ≤ 1000000
                rw [rsz_len]; omega
              · intro C os g hg G'; exact rfl
              · intro C os g hg _ G'
                obtain ⟨j, hj, rfl⟩ := List.mem_map.mp hg
                have hj' : j < rsz ((low : Nat) : Int) ((high + 1 : Nat) : Int) 1 := List.mem_range.mp hj
                rw [rsz_len] at hj'
                refine ev_call G' (ev_builtin G' rfl rfl rfl (.bi _) ⟨.bi _, evs_cons (ev_local G' rfl rfl (evs_nil (cl_chr ?_ ?_ rfl)))⟩)
                · show 0 ≤ (low : Int) + (j : Int) * 1; omega
                · show (low : Int) + (j : Int) * 1 ≤ 1114111; omega
              · refine evs_nil (cl_extend k7 accl ?_ (exs_nil ⟨(i2, restX, acc ++ span low (high + 1), o3), ?_, k1, k2, k3, k4, ?_, k8, k10, k13, ?_⟩))
                · rw [List.length_map]
                  exact Nat.le_trans (Nat.le_of_eq (congrArg List.length hex).symm) (by omega)
                · show restX.length < r.length
                  rw [← k10, hr0, ← h7, List.length_drop, List.length_drop]; omega
                · rw [St.put_mu, if_pos rfl]
                  show some (vstrs acc ++ vstrs _) = some (vstrs (acc ++ span low (high + 1)))
                  rw [show vstrs (acc ++ span low (high + 1)) = vstrs acc ++ vstrs (span low (high + 1)) from List.map_append .., hex]
                  rfl
                · rw [h9, k14, List.append_assoc]
            · exfalso; simp at hb
            · exfalso; simp at hb
      · have hi : i = body.length := by simp at hb; omega
        have hr : r = [] := by rw [← h7, hi]; simp
        subst hr
        have ho2 : o2 = [] := by
          generalize hg : ([] : List Nat) = q at h8
          cases h8 with
          | nil => rfl
          | one h => rw [← hg] at h; simp [unesc] at h
          | rng h => rw [← hg] at h; simp [unesc] at h
        refine exs_cons (ex_ret (ev_local G rfl h3 ⟨_, .ref h5 (Frzs.same ..), ?_⟩))
        rw [ho2, List.append_nil] at h9
        rw [← h9]; exact hq
    · refine ⟨rfl, rfl, rfl, rfl, ?_, by show 0 ≤ _; omega, rfl, hsc, rfl⟩
      rw [St.set_mu, St.set_mu, St.put_mu, if_pos rfl]; rfl
end Mine
end

section
open PySem PySem.W PyProof.Rows PySem.Calls
set_option Elab.async false
set_option maxRecDepth 100000
set_option maxHeartbeats 4000000
set_option linter.unusedVariables false
namespace Mine

theorem cl152 {c : Cx} {σ : St} {piece : List Nat} {out : List (List Nat)} {Q : AV → St → Prop} (G : Gl c) (hd : c.A.depth < 600) (hu : c.A.units < 4990) (hh : c.A.handled = none) (ht : Told piece out) (h : Q (.list (vstrs out)) σ) : Cl c (.ref 152) [.str piece] σ Q :=
  cl_def (as' := [.str piece]) G (ok152 c.w) rfl hd hu (fun φ s vs R hc => ⟨vs, by obtain ⟨v, rfl, h1⟩ := concs1 hc; exact .of_eq rfl, hc⟩) fun L hLt => body152 c L piece out ht _ (G.callee (ok152 c.w) hd hu hLt) hh h

theorem ok55 (w : World) : FnOk (KK w) 55 (fnD 55) (fnB 55) ["pattern"] where
  obj := ⟨_, _, _, rfl⟩
  code := rfl
  body := rfl
  cell := by decide +kernel
  loc := by decide +kernel
  co := rfl
  gen := rfl
  fn := rfl
  gl := rfl
  bl := rfl

noncomputable def mapO : Obj := match (KF p0).lookup 45 with
  | some o => o
  | none => { cls := .none }
noncomputable def mapE : Array DictEntry := match mapO.data with
  | .dict es _ => es
  | _ => #[]
noncomputable def mapF : Int → Option Value := fun k => findBy Value.isInt mapE k
theorem map_look (w : World) : (KK w).lookup 45 = some mapO := rfl
theorem map_at {prog : Program} {w : World} {h : Heap} (K : (KK w).In h) : h.MapOf (intKind prog w) 45 mapF := by
  refine ⟨mapO, mapE, _, K _ _ (map_look w), ⟨rfl, rfl, rfl⟩, rfl, ?_, fun k => rfl⟩
  intro e he
  have hall : (mapE.toList.all fun e => match e.key with | .int k _ => e.hash == hashInt k | _ => false) = true := by decide +kernel
  have := List.all_eq_true.mp hall e (Array.mem_toList_iff.mpr he)
  cases hk : e.key with
  | int k t => rw [hk] at this; exact ⟨k, by simp [intKind, Value.isInt], by simpa [intKind] using this⟩
  | _ => rw [hk] at this; simp at this
theorem mapF_44 : mapF 44 = none := rfl
theorem mapF_32 : ∃ t, mapF 32 = some (.str ⟨#[92, 32]⟩ t) := ⟨_, rfl⟩
theorem mapF_93 : ∃ t, mapF 93 = some (.str ⟨#[92, 93]⟩ t) := ⟨_, rfl⟩

section
variable {prog : Program} {w : World} {A : Around} {E : Value → Shared → Prop} {s : Shared}
theorem wp_look_text {ch : Nat} {x : Str} {t : Tok} {Q : Builtin.Str.Mapped → Shared → Prop} (K : (KK w).In s.heap) (hf : mapF ch = some (.str x t)) (h : ∀ tk, s.toks ≤ tk → Q (.text x) { s with toks := tk }) : wpAny (model prog w) A (Builtin.Str.tableLookup (.ref 45) ch) Q E s := by
  unfold Builtin.Str.tableLookup
  refine wpAny_bind (wpAny_attempt (wpAny_bind (wpAny_mkInt ?_)))
  refine wpAny_getItem_of (knd := intKind prog w) (k := ch) (by simp [intKind, Value.isInt]) (map_at K) hf ?_
  exact wpAny_pure (h _ (by show s.toks ≤ s.toks + 1 + 1; omega))
theorem sub_key_lookup : isSubtype (.type "KeyError") (.type "LookupError") = pure true := by rfl
theorem wp_look_keep {ch : Nat} {Q : Builtin.Str.Mapped → Shared → Prop} (hh : A.handled = none) (K : (KK w).In s.heap) (hf : mapF ch = none) (h : ∀ h' tk, s.toks ≤ tk → (∀ b o, s.heap.get? b = some o → h'.get? b = some o) → Q .keep { s with heap := h', toks := tk }) : wpAny (model prog w) A (Builtin.Str.tableLookup (.ref 45) ch) Q E s := by
  unfold Builtin.Str.tableLookup
  refine wpAny_bind (wpAny_attempt (wpAny_bind (wpAny_mkInt ?_)))
  refine wpAny_getItem_missing_of (knd := intKind prog w) (k := ch) (by simp [intKind, Value.isInt]) (by rfl) hh (map_at K) hf fun h' e N => ?_
  obtain ⟨ob, t, ho, hc, _⟩ := N.there
  refine wpAny_bind (wpAny_isInstance ⟨ob, ho, hc⟩ sub_key_lookup ?_)
  simp only [if_true]
  refine wpAny_bind (wpAny_rule (wpAny_pure (h _ _ (by show s.toks ≤ s.toks + 1 + 1; omega) N.keeps)))
theorem trans_text {ch : Nat} {x : Str} {t : Tok} (hch : (#[ch] : Array Nat).all (· < 128) = true) (hx : x.length = 2) (hf : mapF ch = some (.str x t)) (u : Tok) {Q : Fin → Shared → Prop} (K : (KK w).In s.heap) (h : ∀ tk t', Q (.done (.ret (.str x t'))) { s with toks := tk }) :
    wpAny (model prog w) A (Builtin.«str.translate» ⟨[.str ⟨#[ch]⟩ u, .ref 45], []⟩) Q E s := by
  obtain ⟨hp, g, d, tk, os⟩ := s
  wp_walk
  dsimp only
  rw [if_pos hch]
  show wpAny _ _ (Builtin.Str.tableLookup (.ref 45) ch >>= _) _ _ _
  refine wpAny_bind (wp_look_text K hf fun tk' ht' => ?_)
  dsimp only
  rw [hx]
  show wpAny _ _ (rule "str.translate.fast-road-left" >>= _) _ _ _
  refine wpAny_bind (wpAny_rule ?_)
  show wpAny _ _ (Builtin.Str.tableLookup (.ref 45) ch >>= _) _ _ _
  refine wpAny_bind (wp_look_text K hf fun tk'' ht'' => ?_)
  refine wpAny_pure ?_
  refine wpAny_pure ?_
  dsimp only
  have htl : Builtin.Str.tooLong (0 + x.length) = false := by rw [hx]; rfl
  simp only [htl]
  have e : (⟨List.foldl (fun acc p => acc ++ p.cps) #[] [x].reverse⟩ : Str) = x := by simp
  rw [e]
  rw [if_neg (by decide)]
  show wpAny _ _ (mkStr x >>= fun v => ret v) _ _ _
  refine wpAny_bind (wpAny_mkStr (wpAny_pure (h _ _)) (by rw [hx, PySem.sizeLine_eq]; omega))
theorem trans_keep {ch : Nat} (hh : A.handled = none) (hch : (#[ch] : Array Nat).all (· < 128) = true) (hf : mapF ch = none) (u : Tok) {Q : Fin → Shared → Prop} (K : (KK w).In s.heap) (h : ∀ h' tk t', (∀ b o, s.heap.get? b = some o → h'.get? b = some o) → Q (.done (.ret (.str ⟨#[ch]⟩ t'))) { s with heap := h', toks := tk }) :
    wpAny (model prog w) A (Builtin.«str.translate» ⟨[.str ⟨#[ch]⟩ u, .ref 45], []⟩) Q E s := by
  obtain ⟨hp, g, d, tk, os⟩ := s
  wp_walk
  dsimp only
  rw [if_pos hch]
  show wpAny _ _ (Builtin.Str.tableLookup (.ref 45) ch >>= _) _ _ _
  refine wpAny_bind (wp_look_keep hh K hf fun h' tk' ht' hk => ?_)
  dsimp only
  refine wpAny_bind (wpAny_pure ?_)
  refine wpAny_pure ?_
  refine wpAny_pure ?_
  dsimp only
  rw [if_neg (by decide)]
  show wpAny _ _ (mkStr ⟨#[ch]⟩ >>= fun v => ret v) _ _ _
  exact wpAny_bind (wpAny_mkStr (wpAny_pure (h _ _ _ hk)) (by rw [PySem.sizeLine_eq]; show 1 ≤ _; omega))
end

noncomputable def esc1 (ch : Nat) : List Nat := if ch = 44 then [44] else [92, ch]
section
variable {c : Cx} {σ : St}
theorem cl_trans {ch : Nat} {Q : AV → St → Prop} (G : Gl c) (hh : c.A.handled = none) (hch : ch = 44 ∨ ch = 32 ∨ ch = 93) (h : Q (.str (esc1 ch)) σ) : Cl c (.bi "str.translate") [.str [ch], .ref 45] σ Q := cl2 fun φ s fv v u R hf ha hx => by
  cases hf; cases ha; cases hx
  rename_i t
  have K := R.K G
  refine lift R.tk (wpAny_call_entry PySem.F.slot_str_translate (typeIs_str _ _ _) PySem.F.entry_str_translate ?_ (PySem.F.args_str_translate_2 _ _))
  rcases hch with rfl | rfl | rfl
  · refine trans_keep (by exact hh) (by decide +kernel) mapF_44 t K fun h' tk t' hk => ⟨_, rfl, ?_⟩
    exact post_grown R.toRel0 hk (.str [44] _) h
  · obtain ⟨u, e⟩ := mapF_32
    refine trans_text (by decide +kernel) rfl e t K fun tk t' => ⟨_, rfl, ?_⟩
    exact post_toks R.toRel0 (.str [92, 32] _) h
  · obtain ⟨u, e⟩ := mapF_93
    refine trans_text (by decide +kernel) rfl e t K fun tk t' => ⟨_, rfl, ?_⟩
    exact post_toks R.toRel0 (.str [92, 93] _) h
theorem mt_translate {l : List Nat} : Mt c (.str l) "translate" "str.translate" σ := fun φ s v pl Q' R hc hq => by
  cases hc
  exact getMethod_builtin (typeIs_str _ _ _) PySem.F.plainAttrs_str PySem.F.slot_str_translate PySem.F.type_str_translate (fun a e => by cases e) hq
theorem cl_isstr {l : List Nat} {Q : AV → St → Prop} (h : Q (.bool true) σ) : Cl c (.bi "isinstance") [.str l, .ty "str"] σ Q := cl2 fun φ s fv v u R hf ha hx => by
  cases hf; cases ha; cases hx
  exact call_isinstance_yes (typeIs_str _ _ _) (by rfl) (by rfl) (post_here R (.bool _) h)
end
theorem body55 (c : Cx) (L : Addr) (ch : Nat) (hch : ch = 44 ∨ ch = 32 ∨ ch = 93) (Q : AV → Prop) (G : Gl (calleeCx c (fnD 55) 55 L)) (hh : c.A.handled = none)
    (hq : Q (.str (esc1 ch))) :
    Exs (calleeCx c (fnD 55) 55 L) (fnB 55) (startSt ["pattern"] [.str [ch]]) (Gives Q) := by
  have hL : (calleeCx c (fnD 55) 55 L).env.locals ∈ (calleeCx c (fnD 55) 55 L).own := .head _
  refine exs_cons (ex_if (ts_value (ev_call G (ev_builtin G rfl rfl rfl (.bi _) ⟨.bi _, evs_cons (ev_local G rfl rfl (evs_cons (ev_builtin G rfl rfl rfl (.ty _) (evs_nil (cl_isstr (tr_bool ⟨fun _ => ?_, fun hb => (by cases hb)⟩))))))⟩))))
  refine exs_cons (ex_ret (ev_meth (ev_local G rfl rfl ⟨"str.translate", mt_translate, evs_cons (ev_global G rfl rfl (evs_nil (cl_trans G hh hch ⟨_, .same _, hq⟩)))⟩)))
theorem cl55 {c : Cx} {σ : St} {ch : Nat} {Q : AV → St → Prop} (G : Gl c) (hd : c.A.depth < 600) (hu : c.A.units < 4990) (hh : c.A.handled = none) (hch : ch = 44 ∨ ch = 32 ∨ ch = 93) (h : Q (.str (esc1 ch)) σ) : Cl c (.ref 55) [.str [ch]] σ Q :=
  cl_def (as' := [.str [ch]]) G (ok55 c.w) rfl hd hu (fun φ s vs R hc => ⟨vs, by obtain ⟨v, rfl, h1⟩ := concs1 hc; exact .of_eq rfl, hc⟩) fun L hLt => body55 c L ch hch _ (G.callee (ok55 c.w) hd hu hLt) hh h
end Mine
end

section
open PySem PySem.W PyProof.Rows PySem.Calls
set_option Elab.async false
set_option maxRecDepth 100000
set_option maxHeartbeats 4000000
set_option linter.unusedVariables false
namespace Mine

namespace Bd
theorem slot_md : Slot "method_descriptor" "__get__" "method_descriptor.__get__" :=
  .of (owner := "method_descriptor") (n := "__get__") (by rw [typeLookup_type, builtinLookup_eq_fast]; kernel_rfl) (by decide +kernel) (by decide +kernel) (by decide +kernel)
    (by first | exact .inl (by decide +kernel) | exact .inr (by decide +kernel)) (by rw [isSubtype_type]; kernel_rfl)
theorem entry_md : entryFor table "method_descriptor.__get__" = some Builtin.«method_descriptor.__get__» := entryFor_of_tree (by kernel_rfl)
theorem args_md (a b c : Value) : argsOk "method_descriptor.__get__" ⟨[a, b, c], []⟩ := by unfold argsOk; kernel_rfl
theorem slot_wd : Slot "wrapper_descriptor" "__get__" "wrapper_descriptor.__get__" :=
  .of (owner := "wrapper_descriptor") (n := "__get__") (by rw [typeLookup_type, builtinLookup_eq_fast]; kernel_rfl) (by decide +kernel) (by decide +kernel) (by decide +kernel)
    (by first | exact .inl (by decide +kernel) | exact .inr (by decide +kernel)) (by rw [isSubtype_type]; kernel_rfl)
theorem entry_wd : entryFor table "wrapper_descriptor.__get__" = some Builtin.«wrapper_descriptor.__get__» := entryFor_of_tree (by kernel_rfl)
theorem args_wd (a b c : Value) : argsOk "wrapper_descriptor.__get__" ⟨[a, b, c], []⟩ := by unfold argsOk; kernel_rfl
theorem type_app : typeOf (.builtin "list.append") = pure (.type "method_descriptor") := PySem.F.type_list_append
theorem type_con : typeOf (.builtin "list.__contains__") = pure (.type "wrapper_descriptor") := by show builtinType _ = _; rw [builtinType_eq_fast]; kernel_rfl
theorem no_set_md : typeLookup (.type "method_descriptor") "__set__" = pure none := by rw [typeLookup_type, builtinLookup_eq_fast]; kernel_rfl
theorem no_del_md : typeLookup (.type "method_descriptor") "__delete__" = pure none := by rw [typeLookup_type, builtinLookup_eq_fast]; kernel_rfl
theorem no_set_wd : typeLookup (.type "wrapper_descriptor") "__set__" = pure none := by rw [typeLookup_type, builtinLookup_eq_fast]; kernel_rfl
theorem no_del_wd : typeLookup (.type "wrapper_descriptor") "__delete__" = pure none := by rw [typeLookup_type, builtinLookup_eq_fast]; kernel_rfl
theorem lk_app : typeLookup (.type "list") "append" = pure (some (.builtin "list.append")) := F.slot_list_append.lookup
theorem lk_con : typeLookup (.type "list") "__contains__" = pure (some (.builtin "list.__contains__")) := F.slot_list_contains.lookup
theorem sub_ll : isSubtype (.type "list") (.type "list") = pure true := by first | rfl | (rw [isSubtype_type]; kernel_rfl)
theorem own_app : (".".intercalate ("list.append".cutAt '.').dropLast) = "list" := by decide +kernel
theorem own_con : (".".intercalate ("list.__contains__".cutAt '.').dropLast) = "list" := by decide +kernel
section
variable {prog : Program} {w : World} {M : Model} {A : Around} {E : Value → Shared → Prop} {s : Shared} {a : Addr} {items : Array Value} {n : Nat} {sl : Array (Option Value)}
theorem get_app {P : Fin → Shared → Prop} (hl : s.heap.get? a = some (lob items n sl)) (h : P (.done (.ret (.ref s.heap.objs.size))) { s with heap := s.heap.push (bob "builtin_function_or_method" "list.append" (.ref a)) }) :
    wpAny M A (Builtin.«method_descriptor.__get__» ⟨[.builtin "list.append", .ref a, .type "list"], []⟩) P E s := by
  obtain ⟨hp, g, d, t, os⟩ := s
  have hT : (⟨hp, g, d, t, os⟩ : Shared).TypeIs (.ref a) "list" := ⟨_, hl, rfl⟩
  have f1 : isSubtype (.type "list") (.type (".".intercalate ("list.append".cutAt '.').dropLast)) = pure true := by rw [own_app]; exact sub_ll
  repeat (any_goals (first | assumption | wp_step))
theorem get_con {P : Fin → Shared → Prop} (hl : s.heap.get? a = some (lob items n sl)) (h : P (.done (.ret (.ref s.heap.objs.size))) { s with heap := s.heap.push (bob "method-wrapper" "list.__contains__" (.ref a)) }) :
    wpAny M A (Builtin.«wrapper_descriptor.__get__» ⟨[.builtin "list.__contains__", .ref a, .type "list"], []⟩) P E s := by
  obtain ⟨hp, g, d, t, os⟩ := s
  have hT : (⟨hp, g, d, t, os⟩ : Shared).TypeIs (.ref a) "list" := ⟨_, hl, rfl⟩
  have f1 : isSubtype (.type "list") (.type (".".intercalate ("list.__contains__".cutAt '.').dropLast)) = pure true := by rw [own_con]; exact sub_ll
  repeat (any_goals (first | assumption | wp_step))

theorem ga_app {tk : Tok} {Q : Fin → Shared → Prop} (hl : s.heap.get? a = some (lob items n sl)) (hq : Q (.done (.ret (.ref s.heap.objs.size))) { s with heap := s.heap.push (bob "builtin_function_or_method" "list.append" (.ref a)) }) :
    wpAny (model prog w) A (Builtin.«object.__getattribute__» ⟨[.ref a, .str "append" tk], []⟩) Q E s := by
  obtain ⟨hp, g, d, t, os⟩ := s
  have hT : (⟨hp, g, d, t, os⟩ : Shared).TypeIs (.ref a) "list" := ⟨_, hl, rfl⟩
  have f4 := lk_app
  have f5 := type_app
  have f6 := slot_md.lookup
  have f7 := no_set_md
  have f8 := no_del_md
  repeat (any_goals (first | assumption | wp_step))
  have hT5 : (⟨hp, g, d, t, os⟩ : Shared).TypeIs (.builtin "list.append") "method_descriptor" := type_app
  refine codeAny_call_builtin slot_md.plain entry_md (slot_md.check _ _ _ _ _ _ _ _ hT5 (args_md _ _ _) (get_app hl ?_))
  exact wpAny_pure hq
theorem ga_con {tk : Tok} {Q : Fin → Shared → Prop} (hl : s.heap.get? a = some (lob items n sl)) (hq : Q (.done (.ret (.ref s.heap.objs.size))) { s with heap := s.heap.push (bob "method-wrapper" "list.__contains__" (.ref a)) }) :
    wpAny (model prog w) A (Builtin.«object.__getattribute__» ⟨[.ref a, .str "__contains__" tk], []⟩) Q E s := by
  obtain ⟨hp, g, d, t, os⟩ := s
  have hT : (⟨hp, g, d, t, os⟩ : Shared).TypeIs (.ref a) "list" := ⟨_, hl, rfl⟩
  have f4 := lk_con
  have f5 := type_con
  have f6 := slot_wd.lookup
  have f7 := no_set_wd
  have f8 := no_del_wd
  repeat (any_goals (first | assumption | wp_step))
  have hT5 : (⟨hp, g, d, t, os⟩ : Shared).TypeIs (.builtin "list.__contains__") "wrapper_descriptor" := type_con
  refine codeAny_call_builtin slot_wd.plain entry_wd (slot_wd.check _ _ _ _ _ _ _ _ hT5 (args_wd _ _ _) (get_con hl ?_))
  exact wpAny_pure hq
theorem attr_app {Q : Value → Shared → Prop} (hl : s.heap.get? a = some (lob items n sl)) (hq : Q (.ref s.heap.objs.size) { s with heap := s.heap.push (bob "builtin_function_or_method" "list.append" (.ref a)), toks := s.toks + 1 }) :
    wpAny (model prog w) A (getAttr (.ref a) "append" true) Q E s := by
  obtain ⟨hp, g, d, t, os⟩ := s
  have hT : ∀ t, (⟨hp, g, d, t, os⟩ : Shared).TypeIs (.ref a) "list" := fun _ => ⟨_, hl, rfl⟩
  have hT' := hT (t + 1)
  have f2 := F.slot_list_getattribute.lookup
  have f3 := F.slot_list_getattribute.bind (.ref a)
  unfold getAttr
  repeat (any_goals (first | assumption | wp_step))
  refine codeAny_call_builtin F.slot_list_getattribute.plain F.entry_list_ga (F.slot_list_getattribute.check _ _ _ _ _ _ _ _ hT' (F.args_list_getattribute_2 _ _) (ga_app hl ?_))
  repeat (any_goals (first | assumption | wp_step))
theorem attr_con {Q : Value → Shared → Prop} (hl : s.heap.get? a = some (lob items n sl)) (hq : Q (.ref s.heap.objs.size) { s with heap := s.heap.push (bob "method-wrapper" "list.__contains__" (.ref a)), toks := s.toks + 1 }) :
    wpAny (model prog w) A (getAttr (.ref a) "__contains__" true) Q E s := by
  obtain ⟨hp, g, d, t, os⟩ := s
  have hT : ∀ t, (⟨hp, g, d, t, os⟩ : Shared).TypeIs (.ref a) "list" := fun _ => ⟨_, hl, rfl⟩
  have hT' := hT (t + 1)
  have f2 := F.slot_list_getattribute.lookup
  have f3 := F.slot_list_getattribute.bind (.ref a)
  unfold getAttr
  repeat (any_goals (first | assumption | wp_step))
  refine codeAny_call_builtin F.slot_list_getattribute.plain F.entry_list_ga (F.slot_list_getattribute.check _ _ _ _ _ _ _ _ hT' (F.args_list_getattribute_2 _ _) (ga_con hl ?_))
  repeat (any_goals (first | assumption | wp_step))

theorem kind_app : builtinKind "list.append" = some .method := by decide +kernel
theorem kind_con : builtinKind "list.__contains__" = some .slot := by decide +kernel
theorem chk_con {v : Value} : checkBoundCall "list.__contains__" ⟨[.ref a, v], []⟩ = pure () := by
  unfold checkBoundCall
  rw [kind_con]
  exact F.args_list_contains_2 _ _
end
end Bd
end Mine
end

section
open PySem PySem.W PyProof.Rows PySem.Calls
set_option Elab.async false
set_option maxRecDepth 100000
set_option maxHeartbeats 4000000
set_option linter.unusedVariables false
namespace Mine
namespace Bd
section
variable {prog : Program} {w : World} {M : Model} {A : Around} {E : Value → Shared → Prop} {s : Shared} {a : Addr} {items : Array Value} {n : Nat} {sl : Array (Option Value)}
theorem sub_lm : isSubtype (.type "list") (.type "module") = pure false := by rw [isSubtype_type]; kernel_rfl
theorem sub_lt : isSubtype (.type "list") (.type "type") = pure false := by rw [isSubtype_type]; kernel_rfl
theorem full_app (a : Addr) (v : Value) : (match Manifest.sig_list.lookup (String.ofList ['d', 'n', 'e', 'p', 'p', 'a'].reverse) with
    | some sig => Bind.checkArgs "list.append" { machinery := sig.machinery, full := toString (Bind.lastOf "list") ++ toString "." ++ toString (Bind.lastOf "list.append"), short := sig.short, receiver := sig.receiver, params := sig.params } ⟨[.ref a, v], []⟩
    | none => pure ()) = pure () := by kernel_rfl
theorem chk_app {v : Value} {Q : Unit → Shared → Prop} (hl : s.heap.get? a = some (lob items n sl)) (h : Q () s) : wpAny M A (checkBoundCall "list.append" ⟨[.ref a, v], []⟩) Q E s := by
  obtain ⟨hp, g, d, t, os⟩ := s
  have hT : (⟨hp, g, d, t, os⟩ : Shared).TypeIs (.ref a) "list" := ⟨_, hl, rfl⟩
  have f1 := sub_lm
  have f2 := sub_lt
  have f3 := full_app a v
  unfold checkBoundCall
  rw [signature?_of (id := "list.append") (n := ['d', 'n', 'e', 'p', 'p', 'a']) (o := ['t', 's', 'i', 'l']) (by kernel_rfl) F.owner_list, kind_app]
  cases hsig : Manifest.sig_list.lookup (String.ofList ['d', 'n', 'e', 'p', 'p', 'a'].reverse) with
  | none => exact wpAny_pure h
  | some sig =>
    rw [hsig] at f3
    dsimp only at f3
    show wpAny _ _ (isInstance (.ref a) (.type "module") >>= _) _ _ _
    refine wpAny_bind (wpAny_isInstance hT f1 ?_)
    have hv : (Manifest.varargsMethods.contains "list.append" || false) = false := by decide +kernel
    rw [hv]
    repeat (any_goals (first | assumption | wp_step))
end
end Bd
end Mine
end

section
open PySem PySem.W PyProof.Rows PySem.Calls
set_option Elab.async false
set_option maxRecDepth 100000
set_option maxHeartbeats 4000000
set_option linter.unusedVariables false
namespace Mine

theorem wp_bound {prog : Program} {w : World} {A : Around} {E : Value → Shared → Prop} {s : Shared} {u : Addr} {T id : String} {sv : Value} {vs : List Value} {B : Builtin} {Q : Value → Shared → Prop} (hu : s.heap.get? u = some (bob T id sv)) (hT : T = "builtin_function_or_method" ∨ T = "method-wrapper")
    (hp : plainId id = true) (hent : entryFor table id = some B) (hchk : ∀ (A' : Around) (Q' : Unit → Shared → Prop) (E' : Value → Shared → Prop), Q' () s → wpAny (model prog w) A' (checkBoundCall id ⟨sv :: vs, []⟩) Q' E' s)
    {S : PySem.Spec} (g : Meets (B ⟨sv :: vs, []⟩) S) (h : S A (wants Q E) s) : wpAny (model prog w) A (call (.ref u) vs) Q E s := by
  refine wpAny_call (codeAny_of_tree ?_)
  show wpAny _ A.in1 (callAny (.ref u) ⟨vs, []⟩) _ _ s
  unfold callAny
  refine wpAny_bind (wpAny_load hu ?_)
  have h1 : ((Value.type T == Value.type "method" || Value.type T == Value.type "builtin_function_or_method" || Value.type T == Value.type "method-wrapper") = true) := by
    rcases hT with rfl | rfl <;> decide
  have h2 : (Value.type T != Value.type "method") = true := by rcases hT with rfl | rfl <;> decide
  show wpAny _ _ (if (Value.type T == Value.type "method" || Value.type T == Value.type "builtin_function_or_method" || Value.type T == Value.type "method-wrapper") = true then _ else _) _ _ s
  rw [if_pos h1]
  show wpAny _ _ (if (Value.type T != Value.type "method") = true then _ else _) _ _ s
  rw [if_pos h2]
  refine wpAny_bind (hchk _ _ _ ?_)
  refine wpAny_pure ⟨plainId_quiet hp _, codeAny_builtin hent ?_⟩
  rw [Around.under_plainId hp]
  exact g prog w A _ s h

section
variable {c : Cx} {φ : PH} {σ : St} {s : Shared}
theorem Conc.bob {T id : String} {self : AV} {v : Value} (h : Conc φ (.bm T id self) v) : ∃ u sv, v = .ref u ∧ φ u = some (bob T id sv) ∧ Conc φ self sv := by
  cases h with
  | bm h hs => exact ⟨_, _, rfl, h, hs⟩
theorem cl_badd {a : Addr} {xs : List AV} {x : AV} {Q : AV → St → Prop} (hm : σ.mu a = some xs) (hl : xs.length ≤ 1000000) (h : Q .none (σ.put a (xs ++ [x]))) : Cl c (.bm "builtin_function_or_method" "list.append" (.ref a)) [x] σ Q := cl1 fun φ s fv v R hf hx => by
  obtain ⟨u, sv, rfl, hu, hsv⟩ := hf.bob
  cases hsv
  obtain ⟨items, n, hL, hs, e⟩ := mu_isL R.toRel0 hm
  refine lift R.tk (wp_bound (R.keep _ _ hu) (.inl rfl) F.slot_list_append.plain PySem.F.entry_list_append (fun A' Q' E' hq => Bd.chk_app hL hq) (list_append a items n v (size_ok (e ▸ hl))) ⟨hL, ?_⟩)
  exact post_mapSeq R.toRel0 hm hL (hs.push hx) .none h
theorem ev_badd {x : Str} {np pos} {a : Addr} {xs : List AV} {Q : AV → St → Prop} (G : Gl c) (hk : c.env.kindOf x = some .local) (hx : σ.m x = some (.ref a)) (hm : σ.mu a = some xs) (h : Q (.bm "builtin_function_or_method" "list.append" (.ref a)) σ) (hd : (x == ("__debug__" : Str)) = false := by decide) :
    Ev c (.Attribute (.Name x np) "append" pos) σ Q := fun φ s R => by
  obtain ⟨m, hn, hm'⟩ := R.ns
  obtain ⟨v, hv, hc⟩ := hm' x _ hx hk
  cases hc
  obtain ⟨items, n, hL, hs, e⟩ := mu_isL R.toRel0 hm
  refine lift R.tk (Attribute_name (wpAny_Name (wpAny_loadName_local G.fn hk hn hv (Bd.attr_app hL ?_)) hd))
  exact post_frozen R.toRel0 (push_k _ _) (push_new _) (Heap.get?_push_size _ rfl) (.bm (PH.add_self ..) (.ref _)) h

theorem op_isNot_str {l : List Nat} {b : Addr} {Q : AV → St → Prop} (h : Q (.bool true) σ) : Op2 c (compareOp .IsNot) (.str l) (.ref b) σ Q := fun φ s v u R hv hu => by
  cases hv; cases hu
  exact wpAny_isNot_plain (by rfl) (post_here R (.bool _) (by exact h))

noncomputable def Jn (c : Cx) (es : List Expr) (acc : List Nat) (σ : St) (Q : List Nat → St → Prop) : Prop := match es with
  | [] => Q acc σ
  | e :: es => Ev c e σ fun a σ₁ => ∃ l, a = .str l ∧ (acc ++ l).length ≤ 1000000 ∧ Jn c es (acc ++ l) σ₁ Q
theorem joins_of {φ₀ σ₀ s₀} : ∀ {es : List Expr} {acc : List Nat} {σ : St} {Q : List Nat → St → Prop} {Q' : Str → Shared → Prop} {φ s}, Jn c es acc σ Q → Ext c φ₀ σ₀ s₀ φ σ s → Rel c φ σ s →
    (∀ φ' σ' s' l, Ext c φ₀ σ₀ s₀ φ' σ' s' → Rel c φ' σ' s' → Q l σ' → Q' ⟨l.toArray⟩ s') → Joins (model c.prog c.w) c.A c.E (evalEach es c.env) ⟨acc.toArray⟩ Q' s
  | [], acc, σ, Q, Q', φ, s, h, x, R, k => k φ σ s acc x R h
  | e :: es, acc, σ, Q, Q', φ, s, h, x, R, k => by
    show wpAny _ _ (eval e c.env) _ _ s
    have h' : Ev c e σ _ := h
    refine (h' φ s R).then fun φ₁ σ₁ s₁ a va x₁ R₁ hc₁ h₁ => ?_
    obtain ⟨l, rfl, hl, hj⟩ := h₁
    cases hc₁
    refine ⟨_, _, rfl, ?_, ?_⟩
    · rw [str_append]; simp only [Str.length, List.size_toArray]; rw [PySem.sizeLine_eq]; omega
    · rw [str_append]; exact joins_of hj (x.trans x₁) R₁ k
theorem ev_join {e₁ e₂ : Expr} {es : List Expr} {pos} {Q : AV → St → Prop} (h : Jn c (e₁ :: e₂ :: es) [] σ fun l σ' => l.length ≤ 1000000 ∧ Q (.str l) σ') : Ev c (.JoinedStr (e₁ :: e₂ :: es) pos) σ Q := fun φ s R => by
  refine lift R.tk (wpAny_JoinedStr (joins_of (es := e₁ :: e₂ :: es) (acc := []) h (Ext.refl ..) R fun φ' σ' s' l x R' hq => ⟨?_, ?_⟩))
  · simp only [Str.length, List.size_toArray]; rw [PySem.sizeLine_eq]; omega
  · exact (post_toks (tk := s'.toks + 1) R'.toRel0 (.str l _) hq.2).after x
theorem ev_fmt {e : Expr} {pos} {Q : AV → St → Prop} (h : Ev c e σ fun a σ₁ => ∃ l, a = .str l ∧ l.length ≤ 1000000 ∧ Q (.str l) σ₁) : Ev c (.FormattedValue e (-1) none pos) σ Q := fun φ s R =>
  wpAny_FormattedValue_plain ((h φ s R).then fun φ₁ σ₁ s₁ a va x₁ R₁ hc₁ h₁ => by
    obtain ⟨l, rfl, hl, hq⟩ := h₁
    cases hc₁
    exact lift R₁.tk (formatField_str (fun t' tk => (post_toks R₁.toRel0 (.str l _) hq)) (by simp only [Str.length, List.size_toArray]; rw [PySem.sizeLine_eq]; omega)) |>.after x₁)
end
end Mine
end

section
open PySem PySem.W PyProof.Rows PySem.Calls
set_option Elab.async false
set_option maxRecDepth 100000
set_option maxHeartbeats 4000000
set_option linter.unusedVariables false
namespace Mine

theorem ex_pair {c : Cx} {σ : St} {x y : Str} {k px py tpos pos} {e : Expr} {Q : AF → St → Prop} (G : Gl c) (hh : c.A.handled = none) (hL : c.env.locals ∈ c.own) (hx : c.env.kindOf x = some .local) (hy : c.env.kindOf y = some .local) (h : Ev c e σ fun a σ₁ => ∃ a1 a2, a = .tup [a1, a2] ∧ Q .next ((σ₁.set y a2).set x a1))
    (hs : swapsWithSole [.Tuple [.Name x px, .Name y py] k tpos] e pos.line c.env = pure false := by rfl)
    (hw : swappedStores [.Tuple [.Name x px, .Name y py] k tpos] e c.env = pure (some [x, y]) := by rfl) : Ex c (.Assign [.Tuple [.Name x px, .Name y py] k tpos] e pos) σ Q := fun φ s R =>
  Assign_Tuple_swapped (names := [x, y]) ((h φ s R).then fun φ₁ σ₁ s₁ a va x₁ R₁ hc₁ h₁ => by
    obtain ⟨a1, a2, rfl, hq⟩ := h₁
    cases hc₁ with
    | tup ho hc =>
    rename_i t items n sl
    obtain ⟨v1, v2, e, h1, h2⟩ := concs2 hc
    have eit : items = #[v1, v2] := by rw [← Array.toArray_toList (xs := items), e]
    subst eit
    refine unpackItems_tuple (items := #[v1, v2]) hh ⟨_, R₁.keep _ _ ho, rfl, _, rfl⟩ fun h' hk' => ?_
    have hk : ∀ b o, s₁.heap.get? b = some o → h'.get? b = some o := fun b o e => hk' b o (fun w => by rw [w, push_new] at e; cases e) e
    have x₁' : Ext c φ σ s φ₁ σ₁ { s₁ with heap := h' } := x₁.trans (Ext.grow (tk := s₁.toks) hk)
    have R₁' : Rel c φ₁ σ₁ { s₁ with heap := h' } := ⟨R₁.grow hk, R₁.tk⟩
    clear x₁ R₁
    show wpAny _ _ (assignInOrder [fun v => bindName c.env y v, fun v => bindName c.env x v] [v2, v1]) _ _ _
    refine wpAny_assignInOrder_more (bindName_ (Wp.then (sto R₁' hL hy G.fn h2 (Q := fun σ' => Q .next (σ'.set x a1)) hq) fun φ₂ σ₂ s₂ _ _ x₂ R₂ _ h₂ => ?_))
    refine wpAny_assignInOrder_more (bindName_ (Wp.then (sto R₂ hL hx G.fn (h1.mono x₂.le) (Q := fun σ' => Q .next σ') h₂) fun φ₃ σ₃ s₃ _ _ x₃ R₃ _ h₃ => ?_))
    exact wpAny_assignInOrder_none ((post_here R₃ (C := CFl) .next h₃).after ((x₁'.trans x₂).trans x₃))) hs hw
theorem ok69 (w : World) : FnOk (KK w) 69 (fnD 69) (fnB 69) ["inp", "STAR"] where
  obj := ⟨_, _, _, rfl⟩
  code := rfl
  body := rfl
  cell := by decide +kernel
  loc := by decide +kernel
  co := rfl
  gen := rfl
  fn := rfl
  gl := rfl
  bl := rfl
noncomputable def frame (ps : List (List Nat)) : List Nat := [40, 63, 115, 58] ++ jn [] ps ++ [41, 92, 90]
theorem body69 (c : Cx) (L : Addr) (ps : List (List Nat)) (b : Addr) (hp : ps.length ≤ 1000) (hj : jsum [] ps ≤ 900000) (hjl : (jn [] ps).length ≤ 900000) (Q : AV → Prop) (G : Gl (calleeCx c (fnD 69) 69 L)) (hh : c.A.handled = none)
    (hq : Q (.str (frame ps))) :
    Exs (calleeCx c (fnD 69) 69 L) (fnB 69) (startSt ["inp", "STAR"] [.list (vstrs ps), .ref b]) (Gives Q) := by
  have hL : (calleeCx c (fnD 69) 69 L).env.locals ∈ (calleeCx c (fnD 69) 69 L).own := .head _
  have hE : PassesOwn (model (calleeCx c (fnD 69) 69 L).prog (calleeCx c (fnD 69) 69 L).w) (calleeCx c (fnD 69) 69 L).A (calleeCx c (fnD 69) 69 L).env (calleeCx c (fnD 69) 69 L).E := PassesOwn.never
  refine exs_cons (ex_set G hL rfl (ev_listm (evs_nil ⟨by decide, fun ra hra => ?_⟩)))
  refine exs_cons (ex_set G hL rfl (ev_badd (a := ra) (xs := []) G rfl rfl (by rw [St.set_mu, St.put_mu, if_pos rfl]) ?_))
  refine exs_cons (ex_pair G hh hL rfl rfl (ev_tuple (evs_cons (ev_int (evs_cons (ev_call G (ev_builtin G rfl rfl rfl (.bi _) ⟨.bi _, evs_cons (ev_local G rfl rfl (evs_nil (cl_len (by simp; omega) (evs_nil ⟨by show 2 ≤ sizeLine; decide, _, _, rfl, ?_⟩))))⟩)))))))
  have hmu : ((vstrs ps).length : Int) = ps.length := by simp
  rw [hmu]
  refine exs_cons (ex_while (wl_inv (α := Nat) (fun k σ => σ.m "inp" = some (.list (vstrs ps)) ∧ σ.m "STAR" = some (.ref b) ∧ σ.m "add" = some (.bm "builtin_function_or_method" "list.append" (.ref ra)) ∧ σ.m "res" = some (.ref ra) ∧ σ.m "n" = some (.int ps.length) ∧ σ.m "i" = some (.int k) ∧ k ≤ ps.length ∧ σ.mu ra = some (vstrs (ps.take k))) (fun k => ps.length - k) hE ?_ 0 ?_))
  · rintro k σ ⟨h1, h2, h3, h4, h5, h6, h7, h8⟩
    refine ts_and2 (ts_cmp (ev_local G rfl h6 (ev_local G rfl h5 (op_lt (tr_bool ⟨fun hb => ?_, fun hb => ?_⟩)))))
    · have hk : k < ps.length := by simp at hb; omega
      have hget : (vstrs ps)[k]? = some (.str ps[k]) := by rw [List.getElem?_map, List.getElem?_eq_getElem hk]; rfl
      refine ts_cmp (ev_idx (ev_local G rfl h1 (ev_local G rfl h6 (it_listN (by omega) hget (ev_local G rfl h2 (op_isNot_str (tr_bool ⟨fun _ => ?_, fun hb => (by cases hb)⟩)))))))
      refine exs_cons (ex_expr (ev_call G (ev_local G rfl h3 ⟨.bm _ _ _ (.inl rfl), evs_cons (ev_idx (ev_local G rfl h1 (ev_local G rfl h6 (it_listN (by omega) hget (evs_nil (cl_badd h8 (by simp; omega) ?_))))))⟩)) rfl)
      refine exs_cons (ex_aug G hL rfl h6 (ev_int (op_iadd (exs_nil ⟨k + 1, by omega, h1, h2, h3, h4, h5, by rw [show ((k : Int) + 1) = ((k + 1 : Nat) : Int) by push_cast; rfl]; rfl, by omega, ?_⟩))))
      rw [St.set_mu, St.put_mu, if_pos rfl, List.take_add_one, List.getElem?_eq_getElem hk, Option.toList_some]
      show _ = some (vstrs (ps.take k ++ [ps[k]]))
      rw [show vstrs (ps.take k ++ [ps[k]]) = vstrs (ps.take k) ++ [.str ps[k]] from List.map_append ..]
    · have hk : k = ps.length := by simp at hb; omega
      subst hk
      refine ⟨fun h => (by cases h), fun _ => ?_⟩
      rw [List.take_length] at h8
      refine exs_cons (ex_while (wl_turn hE (ts_cmp (ev_local G rfl h6 (ev_local G rfl h5 (op_lt (tr_bool ⟨fun hb => ?_, fun _ => ?_⟩)))))))
      · exfalso; simp at hb
      refine exs_cons (ex_assert (ts_cmp (ev_local G rfl h6 (ev_local G rfl h5 (op_eq (tr_bool ⟨by simp, ?_⟩))))))
      refine exs_cons (ex_set G hL rfl (ev_meth (ev_str (l := []) rfl ⟨"str.join", mt_join, evs_cons (ev_local G rfl h4 (evs_nil (cl_joinm (l := ps) h8 (by omega) ?_)))⟩)))
      refine exs_cons (ex_ret (ev_join (ev_str (l := [40, 63, 115, 58]) rfl ⟨_, rfl, by decide, ev_fmt (ev_local G rfl rfl ⟨_, rfl, by omega, _, rfl, ?_, ev_str (l := [41, 92, 90]) rfl ⟨_, rfl, ?_, ?_, _, .same _, ?_⟩⟩)⟩)))
      · simp; omega
      · simp; omega
      · simp; omega
      · simpa [frame] using hq
  · refine ⟨rfl, rfl, rfl, rfl, rfl, rfl, by omega, ?_⟩
    rw [St.set_mu, St.set_mu, St.set_mu, St.set_mu, St.put_mu, if_pos rfl]; rfl
theorem cl69 {c : Cx} {σ : St} {ps : List (List Nat)} {b : Addr} {Q : AV → St → Prop} (G : Gl c) (hd : c.A.depth < 600) (hu : c.A.units < 4990) (hh : c.A.handled = none) (hp : ps.length ≤ 1000) (hj : jsum [] ps ≤ 900000) (hjl : (jn [] ps).length ≤ 900000) (h : Q (.str (frame ps)) σ) : Cl c (.ref 69) [.list (vstrs ps), .ref b] σ Q :=
  cl_def (as' := [.list (vstrs ps), .ref b]) G (ok69 c.w) rfl hd hu (fun φ s vs R hc => ⟨vs, by obtain ⟨v, u, rfl, h1, h2⟩ := concs2 hc; exact .of_eq rfl, hc⟩) fun L hLt => body69 c L ps b hp hj hjl _ (G.callee (ok69 c.w) hd hu hLt) hh h
end Mine
end

section
open PySem PySem.W PyProof.Rows PySem.Calls
set_option Elab.async false
set_option maxRecDepth 100000
set_option maxHeartbeats 4000000
set_option linter.unusedVariables false
namespace Mine

theorem ok121 (w : World) : FnOk (KK w) 121 (fnD 121) (fnB 121) ["obj", "short"] where
  obj := ⟨_, _, _, rfl⟩
  code := rfl
  body := rfl
  cell := by decide +kernel
  loc := by decide +kernel
  co := rfl
  gen := rfl
  fn := rfl
  gl := rfl
  bl := rfl
theorem ex_try {c : Cx} {σ : St} {body : List Stmt} {h₀ : ExceptHandler} {hs : List ExceptHandler} {pos : Pos} {Q : AF → St → Prop} (hE : c.E = fun _ _ => False) (h : Exs c body σ Q) : Ex c (.Try body (h₀ :: hs) [] [] pos) σ Q := fun φ s R => by
  rw [Wp, arm_exec_Try]
  refine wpAny_bind (wpAny_standAt (wpAny_tryStmt_except ?_))
  have h1 := h φ s R
  rw [Wp, hE] at h1
  refine wpAny_mono h1 (fun f s₁ z => ?_) fun _ _ z => z.elim
  cases f with
  | next => exact wpAny_execs_nil z
  | brk => exact z
  | cont => exact z
  | ret v => exact z

noncomputable def showRow (r : List Int) : List Nat := 91 :: (jn [44, 32] (r.map itx) ++ [93])
noncomputable def showRows (rs : List (List Int)) : List Nat := 91 :: (jn [44, 32] (rs.map showRow) ++ [93])
noncomputable def sepk (k : Nat) : List Nat := if 0 < k then [44, 32] else []
theorem textFrom_jn : ∀ (ts : List (List Nat)) (k : Nat) (acc : List Nat), textFrom k ⟨acc.toArray⟩ (ts.map fun t => (⟨t.toArray⟩ : Str)) = ⟨(acc ++ (if ts = [] then [] else sepk k ++ jn [44, 32] ts)).toArray⟩
  | [], k, acc => by simp [textFrom]
  | t :: ts, k, acc => by
    show textFrom (k + 1) (⟨acc.toArray⟩ ++ (if k > 0 then ", " else "" : String) ++ ⟨t.toArray⟩ : Str) (ts.map fun t => (⟨t.toArray⟩ : Str)) = _
    have e : (Str.ofString (if k > 0 then ", " else "" : String)) = ⟨(sepk k).toArray⟩ := by
      unfold sepk; split <;> rfl
    rw [e, str_append, str_append, textFrom_jn ts (k + 1)]
    cases ts with
    | nil => simp [jn]
    | cons u ts => simp [jn, sepk]
theorem listText_jn (ts : List (List Nat)) : listText (ts.map fun t => (⟨t.toArray⟩ : Str)) = ⟨(91 :: (jn [44, 32] ts ++ [93])).toArray⟩ := by
  unfold listText
  have h1 : (Str.ofString "[") = ⟨[91].toArray⟩ := rfl
  have h2 : (Str.ofString "]") = ⟨[93].toArray⟩ := rfl
  rw [h1, h2, textFrom_jn, str_append]
  cases ts with
  | nil => simp [jn]
  | cons u ts => simp [sepk]
theorem shownAll_ints : ∀ r : List Int, PyData.shownAll (pds (vints r)) = (r.map itx).map fun t => (⟨t.toArray⟩ : Str)
  | [] => by simp [pds, PyData.shownAll]
  | i :: r => by
    show PyData.shownAll (pd (.int i) :: pds (vints r)) = _
    simp only [pd, PyData.shownAll, PyData.shown, shownAll_ints r, List.map_cons]
    congr 1
theorem shown_row (r : List Int) : (pd (.list (vints r))).shown = ⟨(showRow r).toArray⟩ := by
  simp only [pd, PyData.shown, shownAll_ints]
  exact listText_jn _
theorem shownAll_rows : ∀ rs : List (List Int), PyData.shownAll (pds (vrows rs)) = (rs.map showRow).map fun t => (⟨t.toArray⟩ : Str)
  | [] => by simp [pds, PyData.shownAll]
  | r :: rs => by
    show PyData.shownAll (pd (.list (vints r)) :: pds (vrows rs)) = _
    simp only [PyData.shownAll, shown_row, shownAll_rows rs, List.map_cons]
theorem shown_rows (rs : List (List Int)) : (pd (.list (vrows rs))).shown = ⟨(showRows rs).toArray⟩ := by
  simp only [pd, PyData.shown, shownAll_rows]
  exact listText_jn _
theorem showable_ints : ∀ {r : List Int}, (∀ x ∈ r, x.natAbs < 10 ^ 7) → PyData.showableAll (pds (vints r)) = true
  | [], _ => by simp [pds, PyData.showableAll]
  | i :: r, h => by
    show PyData.showableAll (pd (.int i) :: pds (vints r)) = true
    simp only [pd, PyData.showableAll, PyData.showable, Bool.and_eq_true, decide_eq_true_eq]
    exact ⟨log_small (h i (by simp)), showable_ints fun x hx => h x (by simp [hx])⟩
theorem showable_rows : ∀ {rs : List (List Int)}, (∀ r ∈ rs, okRow r) → PyData.showableAll (pds (vrows rs)) = true
  | [], _ => by simp [pds, PyData.showableAll]
  | r :: rs, h => by
    show PyData.showableAll (pd (.list (vints r)) :: pds (vrows rs)) = true
    simp only [pd, PyData.showableAll, PyData.showable, Bool.and_eq_true]
    exact ⟨showable_ints (h r (by simp)).2, showable_rows fun x hx => h x (by simp [hx])⟩
theorem noDict_ints : ∀ (r : List Int), PyData.hasDictAll (pds (vints r)) = false
  | [] => by simp [pds, PyData.hasDictAll]
  | i :: r => by
    show PyData.hasDictAll (pd (.int i) :: pds (vints r)) = false
    simp only [pd, PyData.hasDictAll, PyData.hasDict, noDict_ints r, Bool.or_false]
theorem noDict_rows : ∀ (rs : List (List Int)), PyData.hasDictAll (pds (vrows rs)) = false
  | [] => by simp [pds, PyData.hasDictAll]
  | r :: rs => by
    show PyData.hasDictAll (pd (.list (vints r)) :: pds (vrows rs)) = false
    simp only [pd, PyData.hasDictAll, PyData.hasDict, noDict_rows rs, noDict_ints, Bool.or_false]
theorem dats_rows : ∀ {rs : List (List Int)}, dats (vrows rs) = true
  | [] => rfl
  | r :: rs => by
    show (dats (vints r) && dats (vrows rs)) = true
    rw [dats_rows, dats_ints]; rfl
theorem deps_rows : ∀ {rs : List (List Int)}, deps (vrows rs) ≤ 1
  | [] => by show (0 : Nat) ≤ 1; omega
  | r :: rs => by
    show max (deps (vints r) + 1) (deps (vrows rs)) ≤ 1
    have := @deps_rows rs
    rw [deps_ints]; omega
theorem cl_repr {c : Cx} {σ : St} {rs : List (List Int)} {Q : AV → St → Prop} (G : Gl c) (hr : ∀ r ∈ rs, okRow r) (hl : (showRows rs).length ≤ 1000000) (h : Q (.str (showRows rs)) σ) : Cl c (.bi "repr") [.list (vrows rs)] σ Q := cl1 fun φ s fv v R hf hx => by
  cases hf
  obtain ⟨as, r⟩ := reads_of R.keep hx (show dat (.list (vrows rs)) = true from dats_rows)
  cases hx with
  | list ho hs =>
  refine lift R.tk (repr_of_reads' r ?_ (fun hd => ?_) G.gd ?_ (fun b o e => e) (fun h' u tk hk => ?_) ?_)
  · simp only [pd, PyData.showable]; exact showable_rows hr
  · exfalso; simp only [pd, PyData.hasDict, noDict_rows] at hd; cases hd
  · rw [depth_pd]
    have := @deps_rows rs
    have := G.un
    show c.A.units + (deps (vrows rs) + 1 + 1) < cLine
    rw [show cLine = 9900 from rfl]; omega
  · rw [shown_rows]
    exact post_grown R.toRel0 hk (.str _ _) h
  · rw [shown_rows, PySem.sizeLine_eq]; simp only [Str.length, List.size_toArray]; omega
theorem body121 (c : Cx) (L : Addr) (rs : List (List Int)) (hr : ∀ r ∈ rs, okRow r) (hl : (showRows rs).length ≤ 1000000) (Q : AV → Prop) (G : Gl (calleeCx c (fnD 121) 121 L)) (hh : c.A.handled = none)
    (hq : Q (.str (showRows rs))) :
    Exs (calleeCx c (fnD 121) 121 L) (fnB 121) (startSt ["obj", "short"] [.list (vrows rs), .bool false]) (Gives Q) := by
  have hL : (calleeCx c (fnD 121) 121 L).env.locals ∈ (calleeCx c (fnD 121) 121 L).own := .head _
  refine exs_cons (ex_try rfl (exs_cons (ex_set G hL rfl (ev_call G (ev_builtin G rfl rfl rfl (.bi _) ⟨.bi _, evs_cons (ev_local G rfl rfl (evs_nil (cl_repr G hr hl ?_)))⟩)))))
  refine exs_nil ?_
  refine exs_cons (ex_if (ts_or2 (ts_not (ts_value (ev_local G rfl rfl (tr_bool ⟨fun h => (by cases h), fun _ => ⟨fun _ => ?_, fun h => (by cases h)⟩⟩))))))
  exact exs_cons (ex_ret (ev_local G rfl rfl ⟨_, .same _, hq⟩))
noncomputable def ob114 : Obj := match (KF p0).lookup 114 with
  | some o => o
  | none => { cls := .none }
theorem look114 (w : World) : (KK w).lookup 114 = some ob114 := rfl
theorem cl121 {c : Cx} {σ : St} {rs : List (List Int)} {Q : AV → St → Prop} (G : Gl c) (hd : c.A.depth < 600) (hu : c.A.units < 4990) (hh : c.A.handled = none) (hr : ∀ r ∈ rs, okRow r) (hl : (showRows rs).length ≤ 1000000) (h : Q (.str (showRows rs)) σ) : Cl c (.ref 121) [.list (vrows rs)] σ Q :=
  cl_def (as' := [.list (vrows rs), .bool false]) G (ok121 c.w) rfl hd hu (fun φ s vs R hc => by
    obtain ⟨v, rfl, h1⟩ := concs1 hc
    refine ⟨[v, .bool false], .of_defaults (T := 114) (o := ob114) (items := #[.bool false]) (n := 0) rfl (R.K G _ _ (look114 _)) rfl rfl rfl, .cons h1 (.cons (.bool _) .nil)⟩) fun L hLt => body121 c L rs hr hl _ (G.callee (ok121 c.w) hd hu hLt) hh h
end Mine
end

section
open PySem PySem.W PyProof.Rows PySem.Calls
set_option Elab.async false
set_option maxRecDepth 100000
set_option maxHeartbeats 4000000
set_option linter.unusedVariables false
namespace Mine

noncomputable def twin : Array Nat := #[14, 14, 4, 1, 1, 9, 0, 64, 0, 1342177280, 0, 0, 0, 0, 0, 17, 0, 13, 11, 9, 0, 64, 0, 1342177280, 0, 0, 0, 0, 0, 17, 1, 1]
noncomputable def noTwin (c : Nat) : Prop := c < 94 ∧ c ≠ 38
theorem twin_bits : ∀ c, c < 94 → c ≠ 38 → (twin.getD (5 + (1 + c / 32)) 0).testBit (c % 32) = false := by
  intro c h1 h2
  have := (by decide +kernel : ∀ c : Fin 94, c.val ≠ 38 → (twin.getD (5 + (1 + c.val / 32)) 0).testBit (c.val % 32) = false) ⟨c, h1⟩ h2
  exact this
theorem twin_set (c : Nat) (h : noTwin c) (seen : Sre.Seen) : Sre.inSet twin c twin.size 5 true seen = .ok (false, (seen.add 9).add 0) := by
  have hb := twin_bits c h.1 h.2
  show Sre.inSet twin c (30 + 1 + 1) 5 true seen = _
  have e1 : Sre.ops[twin.getD (5 + 0) 0]? = some .CHARSET := by rfl
  have e2 : Sre.ops[twin.getD (5 + 9 + 0) 0]? = some .FAILURE := by rfl
  unfold Sre.inSet
  simp only [e1, hb, Bool.and_false, Bool.false_eq_true, if_false]
  unfold Sre.inSet
  simp only [e2]
  rfl
theorem twin_admitted (m : Sre.M) (hc : m.code = twin) (ht : ∀ s, s < m.lim → noTwin (m.text.getD s 0)) : ∀ fuel s seen, ∃ seen', Sre.M.admitted m fuel s seen = .ok (none, seen')
  | 0, s, seen => ⟨_, rfl⟩
  | fuel + 1, s, seen => by
    unfold Sre.M.admitted
    by_cases h : s ≥ m.lim
    · rw [if_pos h]; exact ⟨_, rfl⟩
    · rw [if_neg h, hc]
      rw [twin_set (m.text.getD s 0) (ht s (by omega)) seen]
      exact twin_admitted m hc ht fuel (s + 1) _
noncomputable def Lost (m : Sre.M) : Prop := m.answer = some false ∧ m.frames = [] ∧ m.outcome = none
theorem twin_attempt (m : Sre.M) (s : Nat) (first : Bool) (hc : m.code = twin) (ht : ∀ s, s < m.lim → noTwin (m.text.getD s 0)) (hf : m.frames = []) (ho : m.outcome = none) : Lost (m.attemptFrom s first) := by
  have hfs : m.hasFirstSet = true := by unfold Sre.M.hasFirstSet; rw [hc]; rfl
  unfold Sre.M.attemptFrom
  rw [hfs]
  obtain ⟨seen', e⟩ := twin_admitted m hc ht (m.lim + 1 - s) s m.seen
  rw [e]
  exact ⟨rfl, hf, ho⟩
theorem twin_search (text : Array Nat) (ht : ∀ s, s < text.size → noTwin (text.getD s 0)) : Lost (Sre.forSearch twin text 1 0 text.size false) := by
  unfold Sre.forSearch
  dsimp only
  split
  · exact ⟨rfl, rfl, rfl⟩
  · exact twin_attempt _ 0 true rfl ht rfl rfl
theorem lost_run {m : Sre.M} (h : Lost m) : (m.runFor Builtin.Re.reTurnSteps).outcome = some .failed := by
  obtain ⟨h1, h2, h3⟩ := h
  have e1 : m.step = { m with outcome := some .failed } := by
    unfold Sre.M.step
    rw [h3, h1, h2]; rfl
  show (Sre.M.runFor 4 m).outcome = _
  unfold Sre.M.runFor
  rw [h3, e1]
  rfl
section
variable {M : Model} {A : Around} {E : Value → Shared → Prop} {s : Shared}
theorem wp_rules {α : Type} (f : α → Bool) (g : α → String) : ∀ (l : List α) {Q : PUnit → Shared → Prop}, Q ⟨⟩ s → wpAny M A (forIn l PUnit.unit fun i _ => if f i = true then (do rule (g i); pure (ForInStep.yield PUnit.unit)) else pure (ForInStep.yield PUnit.unit)) Q E s
  | [], Q, h => wpAny_pure h
  | a :: l, Q, h => by
    rw [List.forIn_cons]
    cases hf : f a with
    | true => exact wpAny_bind (wpAny_bind (wpAny_rule (wpAny_pure (wp_rules f g l h))))
    | false => exact wpAny_bind (wpAny_pure (wp_rules f g l h))
theorem wp_lost {m : Sre.M} {Q : Option Sre.M → Shared → Prop} (h : Lost m) (hq : Q none s) : wpAny M A (Builtin.Re.reRunToEnd m) Q E s := by
  have hr := lost_run h
  unfold Builtin.Re.reRunToEnd
  refine wpAny_bind ?_
  show wpAny _ _ (Builtin.Re.reDrive ((2 ^ 64 - 1) + 1) m) _ _ s
  unfold Builtin.Re.reDrive
  dsimp only
  rw [hr]
  refine wpAny_pure ?_
  refine wpAny_bind ?_
  refine wp_rules _ _ _ ?_
  rw [hr]
  exact wpAny_pure hq
end

noncomputable def ob36 : Obj := match (KF p0).lookup 36 with
  | some o => o
  | none => { cls := .none }
noncomputable def ob35 : Obj := match (KF p0).lookup 35 with
  | some o => o
  | none => { cls := .none }
theorem look36 (w : World) : (KK w).lookup 36 = some ob36 := rfl
theorem look35 (w : World) : (KK w).lookup 35 = some ob35 := rfl
section
variable {prog : Program} {w : World} {A : Around} {E : Value → Shared → Prop} {s : Shared}
theorem wp_target {l : List Nat} {t : Tok} (K : (KK w).In s.heap) {Q : Builtin.Re.ReTarget → Shared → Prop} (h : Q { pattern := .ref 36, string := .str ⟨l.toArray⟩ t, code := twin, text := l.toArray, kind := 0, groups := 1, pos := 0, lim := l.toArray.size } s) :
    wpAny (model prog w) A (Builtin.Re.reWholeTarget (.ref 36) (.str ⟨l.toArray⟩ t)) Q E s := by
  obtain ⟨hp, g, d, tk, os⟩ := s
  have h36 : hp.get? 36 = some ob36 := K _ _ (look36 w)
  have h35 : hp.get? 35 = some ob35 := K _ _ (look35 w)
  have key : ∀ cd gr, cd = twin → gr = 1 → Q { pattern := .ref 36, string := .str ⟨l.toArray⟩ t, code := cd, text := l.toArray, kind := 0, groups := gr, pos := 0, lim := l.toArray.size } ⟨hp, g, d, tk, os⟩ := fun cd gr e1 e2 => by rw [e1, e2]; exact h
  wp_walk
  exact key _ _ (by decide +kernel) (by rfl)
theorem entry_loop : entryFor table "re.Pattern.sub.loop" = some Builtin.«re.Pattern.sub.loop» := entryFor_of_tree (by kernel_rfl)
theorem sub_loop {l : List Nat} {t : Tok} {f p : Addr} {n : Nat} (hl : ∀ ch ∈ l, noTwin ch) (h1000 : l.length ≤ 1000000) (K : (KK w).In s.heap) (hp : s.heap.get? p = some (lob #[] n #[])) {Q : Fin → Shared → Prop}
    (h : ∀ t' h' tk, (∀ b o, b ≠ p → s.heap.get? b = some o → h'.get? b = some o) → Q (.done (.ret (.str ⟨l.toArray⟩ t'))) { s with heap := h', toks := tk }) :
    wpAny (model prog w) A (Builtin.«re.Pattern.sub.loop» ⟨[.ref 36, .str ⟨l.toArray⟩ t, .ref f, rawInt 1, rawInt 0, rawInt 0, rawInt 0, rawInt 0, .bool false, .ref p, .bool false], []⟩) Q E s := by
  unfold Builtin.«re.Pattern.sub.loop»
  refine wpAny_bind (wp_target K ?_)
  have hlost : Lost (Sre.forSearch twin l.toArray 1 0 l.toArray.size false) := twin_search _ fun s hs => by
    have : l.toArray.getD s 0 = l[s]'(by simpa using hs) := by
      have hs' : s < l.length := by simpa using hs
      simp [Array.getD, hs']
    rw [this]; exact hl _ (List.getElem_mem ..)
  show wpAny _ _ (Builtin.Re.reRunToEnd (Sre.forSearch twin l.toArray 1 0 l.toArray.size false) >>= _) _ _ _
  refine wpAny_bind (wp_lost hlost ?_)
  dsimp only
  have hr0 : ∀ (tx : Array Nat) (b e : Nat), Builtin.Re.reSlice tx 0 b e = mkStr ⟨tx.extract b e⟩ := fun _ _ _ => rfl
  by_cases h0 : l = []
  · subst h0
    show wpAny _ _ (Builtin.Re.reSlice #[] 0 0 0 >>= _) _ _ _
    rw [hr0]
    refine wpAny_bind (wpAny_mkStr ?_ (by rw [PySem.sizeLine_eq]; decide))
    refine wpAny_bind (wpAny_seqItems hp rfl ?_)
    refine wpAny_bind (wpAny_pure ?_)
    exact wpAny_pure (h _ s.heap _ fun b o _ e => e)
  · have hpos : 0 < l.length := List.length_pos_iff.mpr h0
    have hcond : (Int.toNat 0 < l.toArray.size) := by simpa using hpos
    rw [if_pos hcond]
    show wpAny _ _ (Builtin.Re.reSlice l.toArray 0 0 l.toArray.size >>= _) _ _ _
    rw [hr0]
    have hext : (l.toArray.extract 0 l.toArray.size) = l.toArray := by simp
    rw [hext]
    refine wpAny_bind (wpAny_mkStr ?_ (by simp only [Str.length, List.size_toArray]; rw [PySem.sizeLine_eq]; omega))
    refine wpAny_bind (wpAny_updateSeq (s := { s with toks := s.toks + 1 }) hp rfl ?_ (by rw [PySem.sizeLine_eq]; decide) (by rw [PySem.sizeLine_eq]; show 1 ≤ _; omega))
    have hp' : IsL (s.heap.update p (Obj.mapSeq fun xs => xs.push (.str ⟨l.toArray⟩ s.toks))) p #[.str ⟨l.toArray⟩ s.toks] _ := IsL.update (n := n) (items := #[]) (h := s.heap) (l := p) hp fun xs => xs.push (.str ⟨l.toArray⟩ s.toks)
    rw [hr0]
    refine wpAny_bind (wpAny_mkStr ?_ (by rw [PySem.sizeLine_eq]; simp [Str.length]))
    refine wpAny_bind (wpAny_seqItems hp' rfl ?_)
    rw [if_neg (by simp)]
    have e0 : (⟨l.toArray.extract 0 0⟩ : Str) = ⟨([] : List Nat).toArray⟩ := by simp
    rw [e0]
    have hcs : Concs (fun _ => none) (vstrs [l]) (#[Value.str ⟨l.toArray⟩ s.toks] : Array Value).toList := .cons (.str l s.toks) .nil
    refine wpAny_bind (wp_join (l := [l]) ⟨_, hp', rfl, _, rfl⟩ hcs (by unfold jsum; simp; omega) fun t' k => ?_)
    exact wpAny_pure (h _ _ _ fun b o hb e => ((Heap.SameBut.update s.heap p _).2 b hb).trans e)
theorem lk_fun_call : typeLookup (.type "function") "__call__" = pure (some (.builtin "function.__call__")) := by rw [typeLookup_type, builtinLookup_eq_fast]; kernel_rfl
theorem sub_sub {l : List Nat} {t : Tok} {f : Addr} {fo : Obj} (hl : ∀ ch ∈ l, noTwin ch) (h1000 : l.length ≤ 1000000) (K : (KK w).In s.heap) (hf : s.heap.get? f = some fo) (hfc : fo.cls = .type "function") {R : Result → Shared → Prop}
    (h : ∀ t' h' tk, (∀ b o, s.heap.get? b = some o → h'.get? b = some o) → R (.ok (.ret (.str ⟨l.toArray⟩ t'))) { s with heap := h', toks := tk }) :
    wpAny (model prog w) A.in1 (Builtin.«re.Pattern.sub» ⟨[.ref 36, .ref f, .str ⟨l.toArray⟩ t], []⟩) (fun fin s' => match fin with | .done f => R (.ok f) s' | .again c' => c'.quiet = true ∧ codeAny (model prog w) A c' R s') (fun e s' => R (.error e) s') s := by
  obtain ⟨hp, g, d, tk, os⟩ := s
  have hT : (⟨hp, g, d, tk, os⟩ : Shared).TypeIs (.ref f) "function" := ⟨_, hf, hfc⟩
  have f1 := lk_fun_call
  have f2 : isSubtype (.type "str") (.type "bytearray") = pure false := by rw [isSubtype_type]; kernel_rfl
  unfold Builtin.«re.Pattern.sub» Builtin.Re.reSubstitute
  repeat (any_goals (first | assumption | with_reducible refine wp_target K ?_ | wp_step))
  refine ⟨plainId_quiet (by decide +kernel) _, codeAny_builtin entry_loop ?_⟩
  rw [Around.under_plainId (by decide +kernel)]
  have K' : (KK w).In (hp.push { cls := .type "list", data := .seq #[] }) := K.keeps (push_k _ _)
  refine sub_loop (p := hp.objs.size) (n := 0) hl h1000 K' (Heap.get?_push_size _ rfl) fun t' h' tk' hk => ?_
  exact h t' h' tk' fun b o e => hk b o (fun w => by rw [w, push_new] at e; cases e) (push_k _ _ _ _ e)
theorem slot_sub : Slot "re.Pattern" "sub" "re.Pattern.sub" :=
  .of (owner := "re.Pattern") (n := "sub") (by rw [typeLookup_type, builtinLookup_eq_fast]; kernel_rfl) (by decide +kernel) (by decide +kernel) (by decide +kernel)
    (by first | exact .inl (by decide +kernel) | exact .inr (by decide +kernel)) (by rw [isSubtype_type]; kernel_rfl)
theorem entry_sub : entryFor table "re.Pattern.sub" = some Builtin.«re.Pattern.sub» := entryFor_of_tree (by kernel_rfl)
theorem args_sub (a b c : Value) : argsOk "re.Pattern.sub" ⟨[a, b, c], []⟩ := by unfold argsOk; kernel_rfl
theorem wp_sub {l : List Nat} {t : Tok} {f : Addr} {fo : Obj} (hl : ∀ ch ∈ l, noTwin ch) (h1000 : l.length ≤ 1000000) (K : (KK w).In s.heap) (hf : s.heap.get? f = some fo) (hfc : fo.cls = .type "function") {Q : Value → Shared → Prop}
    (h : ∀ t' h' tk, (∀ b o, s.heap.get? b = some o → h'.get? b = some o) → Q (.str ⟨l.toArray⟩ t') { s with heap := h', toks := tk }) : wpAny (model prog w) A (call (.builtin "re.Pattern.sub") [.ref 36, .ref f, .str ⟨l.toArray⟩ t]) Q E s := by
  have h36 : s.heap.get? 36 = some ob36 := K _ _ (look36 w)
  exact wpAny_call (codeAny_call_builtin slot_sub.plain entry_sub (slot_sub.check _ _ _ _ _ _ _ _ ⟨_, h36, rfl⟩ (args_sub _ _ _) (sub_sub (R := fun r s' => match r with | .ok (.ret v) => Q v s' | .ok _ => False | .error e => E e s') hl h1000 K hf hfc fun t' h' tk hk => h t' h' tk hk)))
end
end Mine
end

section
open PySem PySem.W PyProof.Rows PySem.Calls
set_option Elab.async false
set_option maxRecDepth 100000
set_option maxHeartbeats 4000000
set_option linter.unusedVariables false
namespace Mine

section
variable {c : Cx} {φ : PH} {σ : St} {s : Shared}

theorem Rel0.table (R : Rel0 c φ σ s) (G : Gl c) {s' : Shared} {ps : Array Value} (hk : ∀ b o, b ≠ tabP → s.heap.get? b = some o → s'.heap.get? b = some o) (h1 : s'.heap.IsCode tabC tabP ps) (h2 : s'.heap.TableAt tabC tabP ps) (hg : c.q = false → AllBare s'.gens) (hos : s'.os = s.os) : Rel0 c φ σ s' := by
  have nL := R.tabL
  refine ⟨R.base, fun a o e => hk _ _ (fun w => by rw [w, R.pt] at e; cases e) (R.keep _ _ e), ?_, fun p hp => ?_, R.cdist, fun a ha => ?_, fun a ha => ?_, fun a xs e => ?_, ⟨ps, h1, h2⟩, hg, hos.trans R.os, R.pt⟩
  · obtain ⟨m, ⟨oL, es, ep, hoL, hLd, r⟩, h⟩ := R.ns
    exact ⟨m, ⟨oL, es, ep, hk _ _ (Ne.symm nL.2) hoL, hLd, r⟩, h⟩
  · obtain ⟨ob, v, e, hd, r⟩ := R.cells p hp
    refine ⟨ob, v, hk _ _ (fun w => ?_) e, hd, r⟩
    obtain ⟨ps', _, t2⟩ := R.tab
    have := t2.2; rw [← w, e] at this; cases this; cases hd
  · obtain ⟨h1, h2, h3⟩ := R.own a ha
    obtain ⟨o, e⟩ := Option.isSome_iff_exists.mp h3
    exact ⟨h1, h2, isSome_of (hk _ _ (fun w => G.tn.1 (w ▸ ha)) e)⟩
  · obtain ⟨h1, h2, h3, h4⟩ := R.outs a ha
    obtain ⟨o, e⟩ := Option.isSome_iff_exists.mp h3
    exact ⟨h1, h2, isSome_of (hk _ _ (fun w => G.tn.2 (w ▸ ha)) e), h4⟩
  · obtain ⟨h1, o, e', r⟩ := R.mu a xs e
    exact ⟨h1, o, hk _ _ (Ne.symm (R.tabMu e).2) e', r⟩
theorem Ext.table (R : Rel0 c φ σ s) (G : Gl c) (hq : c.q = false) {s' : Shared} {ob : Obj} (hk : ∀ b o, b ≠ tabP → s.heap.get? b = some o → s'.heap.get? b = some o) (hP : s'.heap.get? tabP = some ob) : Ext c φ σ s φ σ s' := by
  refine ⟨PLe.refl _, fun a o h0 _ _ _ e => hk _ _ h0 e, fun a o h e => ⟨o.slots, hk _ _ (fun w => G.tn.2 (w ▸ h)) e⟩, fun a e => ?_, fun _ h h' => absurd h h', fun _ h h' => absurd h h', fun q => by rw [hq] at q; cases q⟩
  by_cases w : a = tabP
  · rw [w]; exact isSome_of hP
  · obtain ⟨o, e⟩ := Option.isSome_iff_exists.mp e
    exact isSome_of (hk _ _ w e)

theorem Gl.bmod (G : Gl c) (R : Rel0 c φ σ s) : ∃ mg, s.heap.Ns mainGlobals mg ∧ s.heap.BuiltinsAt mg tabP := by
  obtain ⟨mg, mb, hg, hb, hboot, bm, ob, e1, e2, e3, e4, e5, e6⟩ := G.T
  have k : ∀ b o, c.h₀.get? b = some o → s.heap.get? b = some o := fun b o e => R.keep _ _ (R.base _ _ e)
  refine ⟨mg, hg.keeps k, bm, ob, e1, e2, fun w => ?_, fun w => ?_, k _ _ e3, e4, e5, e6⟩
  · obtain ⟨o, es, ep, ho, hd, _⟩ := hg
    rw [w, ho] at e3; cases e3; rw [hd] at e6; cases e6
  · obtain ⟨ps, _, t2⟩ := R.tab
    have := t2.2; rw [← w, k _ _ e3] at this; cases this; cases e4

theorem ev_lambda {params : Arguments} {body : Expr} {scope : Scope} {pos : Pos} {clos : List (Str × Addr)} (G : Gl c) (hq : c.q = false) (hcode : c.env.code = .ref tabC) (hcl : closureFor scope c.env = pure clos) (hdef : defaultsOf params c.env = ([], [])) (R : Rel c φ σ s) {Q : Value → Shared → Prop}
    (h : ∀ f fo h' tk, 0 < tk → h'.get? f = some fo → fo.cls = .type "function" → Ext c φ σ s φ σ { s with heap := h', toks := tk } → Rel c φ σ { s with heap := h', toks := tk } → Q (.ref f) { s with heap := h', toks := tk }) :
    wpAny (model c.prog c.w) c.A (eval (.Lambda params body scope pos) c.env) Q c.E s := by
  obtain ⟨mg, hg, hb⟩ := G.bmod R.toRel0
  obtain ⟨ps, t1, t2⟩ := R.tab
  have tk := R.tk
  obtain ⟨o, vs, file, tf, flags, tg, inF, text, tt, op, e1, e2, e3, e4, e5, e6, e7, e8, e9, e10, e11⟩ := id t1
  have hP : s.heap.get? tabP = some (tabObj ps) := t2.2
  refine wp_tk (Q := fun v s' => ∃ f fo h' tk, v = .ref f ∧ s' = { s with heap := h', toks := tk } ∧ h'.get? f = some fo ∧ fo.cls = .type "function" ∧ Ext c φ σ s φ σ { s with heap := h', toks := tk } ∧ Rel0 c φ σ { s with heap := h', toks := tk }) tk (kla_eval hdef ?_) ?_
  · cases hf : codeAmong pos ps.toList with
    | none =>
      refine kla_makeFunction hcl G.gl hg hcode (CodeHd.of t1 t2) hP e10 hf (by decide) hb fun c' ctv h' tk' hx hge hlt hcr hP' => ?_
      have hk : ∀ b o, b ≠ tabP → s.heap.get? b = some o → h'.get? b = some o := fun b o hb e => hx b o hb e
      have t1' : h'.IsCode tabC tabP (ps ++ #[rawInt pos.line, rawInt pos.col, .ref c']) := ⟨o, vs, file, tf, flags, tg, inF, text, tt, _, hk _ _ e11 e1, e2, e3, e4, e5, e6, e7, hP', rfl, by rw [Array.toList_append]; exact TriplesOk_snoc _ _ _ _ e10, e11⟩
      have t2' : h'.TableAt tabC tabP (ps ++ #[rawInt pos.line, rawInt pos.col, .ref c']) := by
        obtain ⟨⟨o', vs', a1, a2, a3, a4⟩, _⟩ := t2
        exact ⟨⟨o', vs', hk _ _ e11 a1, a2, a3, a4⟩, hP'⟩
      have R' : Rel0 c φ σ { s with heap := h', toks := tk' } := R.toRel0.table (s' := { s with heap := h', toks := tk' }) G hk t1' t2' R.gens rfl
      have X' : Ext c φ σ s φ σ { s with heap := h', toks := tk' } := Ext.table (s' := { s with heap := h', toks := tk' }) R.toRel0 G hq hk hP'
      exact ⟨_, _, _, tk', rfl, rfl, Heap.get?_push_size _ rfl, rfl, X'.trans (Ext.grow (s := { s with heap := h', toks := tk' }) (push_k _ _)), R'.grow (push_k _ _)⟩
    | some cv =>
      refine kla_makeFunctionHit hcl G.gl hg hcode (CodeHd.of t1 t2) hP e10 hf hb fun ctv h' tk' hk hsz => ?_
      exact ⟨_, _, _, tk', rfl, rfl, Heap.get?_push_size _ rfl, rfl, Ext.grow fun b o e => push_k _ _ _ _ (hk _ _ e), R.toRel0.grow fun b o e => push_k _ _ _ _ (hk _ _ e)⟩
  · rintro v s' ht ⟨f, fo, h', tk', rfl, rfl, hfo, hfc, X, R'⟩
    exact h f fo h' tk' ht hfo hfc X ⟨R', ht⟩
theorem plainAttrs_pattern : PlainAttrs "re.Pattern" :=
  ⟨⟨"object.__getattribute__", by rw [typeLookup_type, builtinLookup_eq_fast]; kernel_rfl, by decide +kernel⟩, by rw [typeLookup_type, builtinLookup_eq_fast]; kernel_rfl⟩
end
end Mine
end

section
open PySem PySem.W PyProof.Rows PySem.Calls
set_option Elab.async false
set_option maxRecDepth 100000
set_option maxHeartbeats 4000000
set_option linter.unusedVariables false
namespace Mine

theorem occ_free {x : Str} {ch : Nat} (h : ch ∉ x.cps.toList) (k : Nat) : (Builtin.Str.occurrences x ⟨#[ch]⟩ 0 x.length (k + 1)) = [] := by
  rcases StrLaws.occ_head x ⟨#[ch]⟩ (k + 1) (by omega) with ⟨h1, _⟩ | ⟨i, r, _, h2, _⟩
  · exact h1
  · exfalso
    have := (StrLaws.subAt_one x ch i).mp h2
    exact h (List.mem_of_getElem? this)
theorem replace_free {prog : Program} {w : World} {A : Around} {E : Value → Shared → Prop} {s : Shared} {x z : Str} {ch : Nat} {t u v : Tok} {Q : Value → Shared → Prop} (h : ch ∉ x.cps.toList) (hq : Q (.str x t) s) : wpAny (model prog w) A (call (.builtin "str.replace") [.str x t, .str ⟨#[ch]⟩ u, .str z v]) Q E s := by
  have e : ((Builtin.Str.occurrences x ⟨#[ch]⟩ 0 x.length (x.length + 1)).isEmpty || ((⟨#[ch]⟩ : Str).length == 0 && z.length == 0)) = true := by rw [occ_free h]; rfl
  refine call_gives F.slot_str_replace (typeIs_str _ _ _) F.entry_str_replace (F.args_str_replace_3 _ _ _) (gives_str_replace x ⟨#[ch]⟩ z t u v fun hc => by rw [e] at hc; cases hc) ?_
  rw [if_pos e]; exact hq

theorem elt_text {prog : Program} {w : World} {A : Around} {E : Value → Shared → Prop} {s : Shared} {env : Env} {x y1 z1 y2 z2 : Str} {k1 k2 k3 k4 p1 p2 p3 p4} {np a1 a2 q1 q2 : Pos} {l : List Nat} {t : Tok} {m : Str → Option Value} {Q : Value → Shared → Prop}
    (hfn : env.scope.kind = .function) (hk : env.kindOf x = some .local) (hn : s.heap.Ns env.locals m) (hv : m x = some (.str ⟨l.toArray⟩ t)) (h92 : 92 ∉ l) (hl : l.length ≤ 1000000) (hy1 : y1 = ⟨#[92]⟩) (hy2 : y2 = ⟨#[45]⟩) (hz2 : z2 = ⟨[92, 45].toArray⟩) (hd : (x == ("__debug__" : Str)) = false)
    {pl1 pl2 : Sem Bool} (hq : ∀ t' tk, Q (.str ⟨(rep 45 [92, 45] l).toArray⟩ t') { s with toks := tk })
    (he2 : eval (.Call (.Attribute (.Call (.Attribute (.Name x np) "replace" a1) [.Constant (.str y1) k1 p1, .Constant (.str z1) k2 p2] [] q1) "replace" a2) [.Constant (.str y2) k3 p3, .Constant (.str z2) k4 p4] [] q2) env = (do
      let ov ← eval (.Call (.Attribute (.Name x np) "replace" a1) [.Constant (.str y1) k1 p1, .Constant (.str z1) k2 p2] [] q1) env
      standAt a2.atName
      let (f, first) ← holding [ov] (getMethod ov "replace" pl2)
      callWith q2 f first (backTo q2 (starEach [.Constant (.str y2) k3 p3, .Constant (.str z2) k4 p4] env)) []) := by rfl)
    (he1 : eval (.Call (.Attribute (.Name x np) "replace" a1) [.Constant (.str y1) k1 p1, .Constant (.str z1) k2 p2] [] q1) env = (do
      let ov ← eval (.Name x np) env
      standAt a1.atName
      let (f, first) ← holding [ov] (getMethod ov "replace" pl1)
      callWith q1 f first (backTo q1 (starEach [.Constant (.str y1) k1 p1, .Constant (.str z1) k2 p2] env)) []) := by rfl) :
    wpAny (model prog w) A (eval (.Call (.Attribute (.Call (.Attribute (.Name x np) "replace" a1) [.Constant (.str y1) k1 p1, .Constant (.str z1) k2 p2] [] q1) "replace" a2) [.Constant (.str y2) k3 p3, .Constant (.str z2) k4 p4] [] q2) env) Q E s := by
  subst hy1 hy2 hz2
  refine MethodCall_ (pl := pl2) (MethodCall_ (pl := pl1) (wpAny_Name (wpAny_loadName_local hfn hk hn hv ?_) hd) he1) he2
  refine GM.replace (callWith_method1 ?_ (by rfl) (by rfl))
  refine wpAny_items_cons (wpAny_Constant_str (wpAny_items_cons (wpAny_Constant_str (wpAny_items_nil ?_)) (by rfl))) (by rfl)
  refine replace_free (by simpa using h92) ?_
  refine GM.replace (callWith_method1 ?_ (by rfl) (by rfl))
  refine wpAny_items_cons (wpAny_Constant_str (wpAny_items_cons (wpAny_Constant_str (wpAny_items_nil ?_)) (by rfl))) (by rfl)
  refine SC.replaceW (by show s.toks + 1 + 1 ≠ 0; omega) (by show s.toks + 1 + 1 + 1 ≠ 0; omega) (by show s.toks + 1 + 1 ≠ s.toks + 1 + 1 + 1; omega) (by rfl) (by simp [Str.length]; omega) (by decide) fun t' k => ?_
  have e := rep_replace ⟨l.toArray⟩ 45 [92, 45]
  have e2 : Txt.replace ⟨l.toArray⟩ ⟨#[45]⟩ ⟨[92, 45].toArray⟩ = ⟨(rep 45 [92, 45] l).toArray⟩ := by
    rw [show Txt.replace ⟨l.toArray⟩ ⟨#[45]⟩ ⟨[92, 45].toArray⟩ = ⟨(Txt.replace ⟨l.toArray⟩ ⟨#[45]⟩ ⟨[92, 45].toArray⟩).cps.toList.toArray⟩ from by simp, e]
  rw [e2]
  exact hq t' k

section
variable {c : Cx} {φ : PH} {σ : St} {s : Shared}
theorem ev_joingen {x y : Str} {sp : Str} {ks ps px py : Nat} {elt : Expr} {scope : Scope} {gpos spos xpos ypos apos pos : Pos} {ca : Addr} {cs : List (List Nat)} {sep : List Nat} {f : List Nat → List Nat} {Q : AV → St → Prop} (G : Gl c) (hq0 : c.q = false) (hh : c.A.handled = none) (hcode : c.env.code = .ref tabC)
    (hco : scope.isCoroutine = false) (hclos : closureFor scope c.env = pure []) (hcell : ∀ y ∈ scope.names, y.2 ≠ .cell) (h0 : scope.names.lookup (".0" : Str) = some NameKind.local) (hxl : scope.names.lookup x = some .local) (hkind : scope.kind = .function)
    (hk : c.env.kindOf y = some .local) (hy : σ.m y = some (.ref ca)) (hm : σ.mu ca = some (vstrs cs)) (hcs : cs.length ≤ 1000) (hsp : sp = ⟨sep.toArray⟩) (hd : (y == ("__debug__" : Str)) = false)
    (helt : ∀ (A' : Around) (E' : Value → Shared → Prop) (env : Env) (l : List Nat) (t : Tok) (s₂ : Shared) (m₂ : Str → Option Value) (Q' : Value → Shared → Prop), l ∈ cs → env.scope = scope → s₂.heap.Ns env.locals m₂ → m₂ x = some (.str ⟨l.toArray⟩ t) → (∀ t' tk, Q' (.str ⟨(f l).toArray⟩ t') { s₂ with toks := tk }) → wpAny (model c.prog c.w) A' (eval elt env) Q' E' s₂)
    {pl : Sem Bool} (hok : jsum sep (cs.map f) ≤ 1000000) (h : Q (.str (jn sep (cs.map f))) σ)
    (he : eval (.Call (.Attribute (.Constant (.str sp) ks spos) "join" apos) [.GeneratorExp elt [⟨.Name x xpos, .Name y ypos, [], 0⟩] scope gpos] [] pos) c.env = (do
      let ov ← eval (.Constant (.str sp) ks spos) c.env
      standAt apos.atName
      let (f, first) ← holding [ov] (getMethod ov "join" pl)
      callWith pos f first (backTo pos (starEach [.GeneratorExp elt [⟨.Name x xpos, .Name y ypos, [], 0⟩] scope gpos] c.env)) []) := by rfl) :
    Ev c (.Call (.Attribute (.Constant (.str sp) ks spos) "join" apos) [.GeneratorExp elt [⟨.Name x xpos, .Name y ypos, [], 0⟩] scope gpos] [] pos) σ Q := fun φ s R => by
  subst hsp
  have tk0 := R.tk
  have he0 := he
  clear he
  obtain ⟨mm, hn, hm'⟩ := R.ns
  obtain ⟨v, hv, hc⟩ := hm' y _ hy hk
  cases hc
  obtain ⟨items, n, hL, hs, e⟩ := mu_isL R.toRel0 hm
  have he : items.size = cs.length := by simpa using e
  refine lift R.tk (MethodCall_ (pl := pl) (wpAny_Constant_str ?_) he0)
  refine GM.join (callWith_method1 ?_ (by rfl) (by rfl))
  refine wpAny_items_cons ?_ (by rfl)
  refine wpAny_GeneratorExp_walksQ hh hco hclos hcell h0 hxl hkind (by have := G.dep; unfold recursionLimit; omega) ?_ (by intro _; rfl)
  refine wpAny_Name (wpAny_loadName_local G.fn hk (s := { s with toks := s.toks + 1 }) hn hv ?_) hd
  refine wpAny_pyIter_list hL.isList ?_
  obtain ⟨ps, t1, t2⟩ := R.tab
  have hI := push_new s.heap
  have hne : ca ≠ s.heap.objs.size := fun w => by rw [← w, hL] at hI; cases hI
  have hpk := push_k s.heap { cls := .type "list_iterator", data := .fields #[.ref ca, .int 0 0] }
  have t1' := t1.keeps hpk
  have t2' := t2.keeps hpk
  have cont : ∀ (code : Value) (h₃ : Heap) (tk₃ : Nat) (ps₃ : Array Value), (∀ b o, b ≠ tabP → (s.heap.push { cls := .type "list_iterator", data := .fields #[.ref ca, .int 0 0] }).get? b = some o → h₃.get? b = some o) → s.heap.objs.size < h₃.objs.size → h₃.IsCode tabC tabP ps₃ → h₃.TableAt tabC tabP ps₃ →
      wpAny (model c.prog c.w) c.A (builtinsFor c.env.globals c.env.builtins) (fun bi s₄ =>
        ∃ I fp wr n₀ P St₀ pz F, Value.ref s.heap.objs.size = .ref I ∧ (∀ A' : Around, A'.handled = none → Walks c.prog c.w A' I fp wr n₀ P St₀) ∧ St₀ 0 s₄.heap ∧ (∀ b ∈ fp, b < s₄.heap.objs.size) ∧ s₄.heap.NoLimit ∧ cStatics ∉ wr ∧
          (∀ href : Heap, (∀ b o, s₄.heap.get? b = some o → href.get? b = some o) →
            QuietGen c.prog c.w (genEnv scope [] s₄.heap.objs.size code bi c.env) x [] elt (List.range s₄.heap.objs.size) wr P pz F href) ∧
          (∀ a h₅ tk gs, gs.bare = true → s₄.heap.objs.size < a → h₅.objs.size = a + 1 → (∀ b o, s₄.heap.get? b = some o → h₅.get? b = some o) →
            WalksS c.prog c.w c.A.in4 a (a :: s₄.heap.objs.size :: List.range s₄.heap.objs.size) (s₄.heap.objs.size :: wr) (GenOnlyQ s₄.gens.size) (passing pz n₀ 0).length
              (fun j y => ∃ i, (passing pz n₀ 0)[j]? = some i ∧ F i y) (GenAt c.prog c.w c.A.in4 a s₄.gens.size s₄.heap.objs.size (List.range s₄.heap.objs.size) wr pz n₀ F) →
            GenAt c.prog c.w c.A.in4 a s₄.gens.size s₄.heap.objs.size (List.range s₄.heap.objs.size) wr pz n₀ F 0 { s₄ with gens := s₄.gens.push gs, toks := tk, heap := h₅ } →
            wpAny (model c.prog c.w) c.A (spliced (backTo pos (starEach [] c.env))) (fun vs s₂ => wpAny (model c.prog c.w) c.A (call (.builtin "str.join") ([.str ⟨sep.toArray⟩ s.toks] ++ (.ref a :: vs))) (Post0 c φ σ s Conc Q) c.E s₂) c.E { s₄ with gens := s₄.gens.push gs, toks := tk, heap := h₅ })) c.E { s with heap := h₃, toks := tk₃ } := by
    intro code h₃ tk₃ ps₃ hk₃ hsz₃ c1 c2
    have hks : ∀ b o, b ≠ tabP → s.heap.get? b = some o → h₃.get? b = some o := fun b o hb e => hk₃ b o hb (hpk b o e)
    have R₃ : Rel0 c φ σ { s with heap := h₃, toks := tk₃ } := R.toRel0.table (s' := { s with heap := h₃, toks := tk₃ }) G hks c1 c2 R.gens rfl
    obtain ⟨mg, mb, hg, hb, hboot, bm, ob, e1, e2, e3, e4, e5, e6⟩ := G.T
    have k₃ : ∀ b o, c.h₀.get? b = some o → h₃.get? b = some o := fun b o e => R₃.keep _ _ (R₃.base _ _ e)
    refine wpAny_builtinsFor (by rw [G.gl]; exact hg.keeps k₃) e1 e2 (k₃ _ _ e3) e4 e5 e6 ?_
    have hIP : s.heap.objs.size ≠ tabP := R.toRel0.tabNew' hI
    have hit₃ : h₃.IsListIter s.heap.objs.size ca 0 := ⟨_, hk₃ _ _ hIP (Heap.get?_push_size _ rfl), rfl, rfl⟩
    have hL₃ : IsL h₃ ca items n := hks _ _ (Ne.symm (R.toRel0.tabMu hm).2) hL
    have hlim₃ : h₃.NoLimit := G.lim.keeps k₃
    refine ⟨s.heap.objs.size, [s.heap.objs.size, ca], [s.heap.objs.size], cs.length, fun i v => items[i]? = some v, fun i h => h.IsListIter s.heap.objs.size ca i ∧ h.IsList ca items, fun _ => true, fun i y => ∃ t, y = .str ⟨(f (cs.getD i [])).toArray⟩ t, rfl, fun A' hA' => he ▸ Walks.list hA' s.heap.objs.size ca hne items, ⟨hit₃, hL₃.isList⟩, fun b hb => ?_, hlim₃, fun hc => ?_, fun href hhref => ⟨fun A' E' i v s₂ m₂ hA' hPv hn' hm' hk' => ?_, fun A' E' i v s₂ m₂ hA' hPv hpz hn' hm' hk' => ?_⟩, fun a h₅ tk gs hgb hag hsz₅ hk₅ W hat => ?_⟩
    · have hca : ca < s.heap.objs.size := Heap.lt_size hL
      rcases List.mem_cons.mp hb with w | w
      · rw [w]; exact hsz₃
      · rw [List.mem_singleton.mp w]; exact Nat.lt_trans hca hsz₃
    · obtain ⟨_, hns, _⟩ := hlim₃
      obtain ⟨_, hns', _⟩ := G.lim
      obtain ⟨o, es, ep, ho, hd, _⟩ := hns'
      have := R.gns _ _ ho
      rw [List.mem_singleton.mp hc, hI] at this; cases this
    · exact wpAny_pure ⟨rfl, s₂.heap, s₂.toks, rfl, fun _ _ e => e⟩
    · obtain ⟨av, hav, hcv⟩ := hs.get' i v (by simpa using hPv)
      rw [List.getElem?_map] at hav
      cases hci : cs[i]? with
      | none => rw [hci] at hav; simp at hav
      | some l =>
        rw [hci] at hav; simp at hav; subst hav
        cases hcv
        rename_i t
        refine helt A' E' _ l t s₂ m₂ _ (List.mem_of_getElem? hci) rfl hn' hm' fun t' tk => ⟨⟨t', ?_⟩, s₂.heap, tk, rfl, fun _ _ e => e⟩
        rw [List.getD_eq_getElem?_getD, hci]; rfl
    · have hpass : passing (fun _ => true) cs.length 0 = List.range cs.length := by unfold passing; simp
      rw [hpass] at W
      have W2 := (W.of_in1).of_in1
      refine wpAny_items_nil ?_
      refine SC.joinGen W2 (fun i s' st => st.1.typeIs) hat (fun b hb => ?_) List.mem_cons_self (fun i v hv => ?_) (fun s' l hmv hit => ?_) ?_
      · show b < h₅.objs.size
        rw [hsz₅]
        rcases List.mem_cons.mp hb with w | w
        · rw [w]; exact Nat.lt_succ_self _
        · rcases List.mem_cons.mp w with w | w
          · rw [w]; exact Nat.lt_succ_of_lt hag
          · exact Nat.lt_succ_of_lt (Nat.lt_trans (List.mem_range.mp w) hag)
      · obtain ⟨j, _, t, rfl⟩ := hv; exact ⟨_, _, rfl⟩
      · have hlen : l.length = cs.length := by
          have := hit.1
          simpa [strValues] using this
        have htx : l.map (·.1) = (cs.map f).map fun z => (⟨z.toArray⟩ : Str) := by
          apply List.ext_getElem?
          intro j
          rw [List.getElem?_map, List.getElem?_map, List.getElem?_map]
          by_cases hj : j < cs.length
          · have hlj : l[j]? = some l[j] := List.getElem?_eq_getElem (by omega)
            obtain ⟨i, hi, t, ht⟩ := hit.2 j (.str l[j].1 l[j].2) (by simp [strValues, hlj])
            rw [List.getElem?_range hj] at hi
            cases hi
            injection ht with ht1 ht2
            rw [hlj, List.getElem?_eq_getElem hj]
            simp only [Option.map_some]
            rw [ht1, List.getD_eq_getElem?_getD, List.getElem?_eq_getElem hj]; rfl
          · rw [List.getElem?_eq_none (by omega), List.getElem?_eq_none (by omega)]; rfl
        rw [htx]
        refine ⟨joinOk_of _ _ hok, fun t' k => ?_⟩
        have e : Txt.join ⟨sep.toArray⟩ ((cs.map f).map fun z => (⟨z.toArray⟩ : Str)) = ⟨(jn sep (cs.map f)).toArray⟩ := by
          rw [← jn_join]; exact StrLaws.glued_eq_join _ _
        rw [e]
        have hkf : ∀ b o, b ≠ tabP → s.heap.get? b = some o → s'.heap.get? b = some o := fun b o hb e => by
          have hlt : b < s.heap.objs.size := Heap.lt_size e
          refine hmv.heap b o (fun w => ?_) (hk₅ _ _ (hks b o hb e))
          rcases List.mem_cons.mp w with w | w
          · have : b < h₃.objs.size := Nat.lt_trans hlt hsz₃
            rw [w] at this; exact Nat.lt_irrefl _ this
          · rw [List.mem_singleton.mp w] at hlt; exact Nat.lt_irrefl _ hlt
        have hkt : ∀ b o, b < s.heap.objs.size → h₃.get? b = some o → s'.heap.get? b = some o := fun b o hlt e => by
          refine hmv.heap b o (fun w => ?_) (hk₅ _ _ e)
          rcases List.mem_cons.mp w with w | w
          · have : b < h₃.objs.size := Nat.lt_trans hlt hsz₃
            rw [w] at this; exact Nat.lt_irrefl _ this
          · rw [List.mem_singleton.mp w] at hlt; exact Nat.lt_irrefl _ hlt
        have hPl : tabP < s.heap.objs.size := Heap.lt_size t2.2
        have hCl : tabC < s.heap.objs.size := by
          obtain ⟨⟨o, vs, a1, _⟩, _⟩ := t2; exact Heap.lt_size a1
        have c2' : s'.heap.TableAt tabC tabP ps₃ := by
          obtain ⟨⟨o', vs', a1, a2, a3, a4⟩, a5⟩ := c2
          exact ⟨⟨o', vs', hkt _ _ hCl a1, a2, a3, a4⟩, hkt _ _ hPl a5⟩
        have c1' : s'.heap.IsCode tabC tabP ps₃ := by
          obtain ⟨o, vs, file, tf, flags, tg, inF, text, tt, op, e1, e2, e3, e4, e5, e6, e7, e8, e9, e10, e11⟩ := c1
          exact ⟨o, vs, file, tf, flags, tg, inF, text, tt, op, hkt _ _ hCl e1, e2, e3, e4, e5, e6, e7, hkt _ _ hPl e8, e9, e10, e11⟩
        have hgens : AllBare s'.gens := AllBare.movedS ((R.gens hq0).push hgb) hmv
        exact ⟨φ, σ, .str _, Ext.table (s' := { s' with toks := k }) R.toRel0 G hq0 hkf c2'.2, R.toRel0.table (s' := { s' with toks := k }) G hkf c1' c2' (fun _ => hgens) (hmv.os.trans rfl), .str _ _, h⟩
      · rw [List.length_range, PySem.sizeLine_eq]; omega
  refine ⟨G.lim.keeps fun b o e => hpk _ _ (R.gns b o e), ?_⟩
  cases hf : codeAmong gpos ps.toList with
  | none => exact wpAny_genexprCodeX hcode t1' t2' hf fun c' h₃ tk₃ hx hge hlt hcode₃ _ htab₃ _ => cont _ h₃ tk₃ _ (fun b o hb e => hx b o hb e) (by rw [Heap.size_push] at hge; exact Nat.lt_trans (Nat.lt_of_succ_le hge) hlt) hcode₃ htab₃
  | some cv => exact wpAny_genexprCode_hit hcode t1' hf (cont cv _ _ ps (fun b o _ e => e) (by show s.heap.objs.size < (s.heap.push _).objs.size; rw [Heap.size_push]; exact Nat.lt_succ_self _) t1' t2')
end
end Mine
end

section
open PySem PySem.W PyProof.Rows PySem.Calls
set_option Elab.async false
set_option maxRecDepth 100000
set_option maxHeartbeats 4000000
set_option linter.unusedVariables false
namespace Mine

theorem type_sub : typeOf (.builtin "re.Pattern.sub") = pure (.type "method_descriptor") := by show builtinType _ = _; rw [builtinType_eq_fast]; kernel_rfl
section
variable {c : Cx} {φ : PH} {σ : St} {s : Shared}
theorem ev_sub {tw y : Str} {tp yp apos pos lpos : Pos} {params : Arguments} {body : Expr} {scope : Scope} {clos : List (Str × Addr)} {l : List Nat} {Q : AV → St → Prop} (G : Gl c) (hq : c.q = false) (hcode : c.env.code = .ref tabC) (hcl : closureFor scope c.env = pure clos) (hdef : defaultsOf params c.env = ([], []))
    (hkt : c.env.kindOf tw = some .globalImplicit) (hxt : nsIn (KK c.w) mainGlobals tw = some (some (.ref 36))) (hk : c.env.kindOf y = some .local) (hy : σ.m y = some (.str l)) (hl : ∀ ch ∈ l, noTwin ch) (h1000 : l.length ≤ 1000000) (hdt : (tw == ("__debug__" : Str)) = false) (hd : (y == ("__debug__" : Str)) = false)
    {pl : Sem Bool} (h : Q (.str l) σ)
    (he : eval (.Call (.Attribute (.Name tw tp) "sub" apos) [.Lambda params body scope lpos, .Name y yp] [] pos) c.env = (do
      let ov ← eval (.Name tw tp) c.env
      standAt apos.atName
      let (f, first) ← holding [ov] (getMethod ov "sub" pl)
      callWith pos f first (backTo pos (starEach [.Lambda params body scope lpos, .Name y yp] c.env)) []) := by rfl) :
    Ev c (.Call (.Attribute (.Name tw tp) "sub" apos) [.Lambda params body scope lpos, .Name y yp] [] pos) σ Q := fun φ s R => by
  refine MethodCall_ (pl := pl) ?_ he
  refine wpAny_mono (ev_global (x := tw) (pos := tp) (Q := fun a σ' => a = .ref 36 ∧ σ' = σ) G hkt hxt ⟨rfl, rfl⟩ hdt φ s R) (fun v s₁ z => ?_) fun _ _ z => z
  obtain ⟨φ₁, σ₁, a, x₁, R₁, hc, rfl, rfl⟩ := z
  cases hc
  have h36 : s₁.heap.get? 36 = some ob36 := R₁.K G _ _ (look36 _)
  refine getMethod_builtin ⟨_, h36, rfl⟩ plainAttrs_pattern slot_sub type_sub (fun b e => by cases e; exact ⟨_, h36, rfl⟩) ?_
  refine callWith_method1 ?_ (by rfl) (by rfl)
  refine wpAny_items_cons (ev_lambda G hq hcode hcl hdef R₁ fun f fo h' tk ht hfo hfc X R' => ?_) (by rfl)
  obtain ⟨m, hn, hm⟩ := R'.ns
  obtain ⟨v, hv, hcv⟩ := hm y _ hy hk
  cases hcv
  refine wpAny_items_cons (wpAny_Name (wpAny_loadName_local G.fn hk hn hv (wpAny_items_nil ?_)) hd) (by rfl)
  refine lift R'.tk (wp_sub hl h1000 (R'.K G) hfo hfc fun t' h'' tk' hk' => ?_)
  exact (post_grown (Q := Q) R'.toRel0 hk' (.str l t') h).after (x₁.trans X)
end
end Mine
end

section
open PySem PySem.W PyProof.Rows PySem.Calls
set_option Elab.async false
set_option maxRecDepth 100000
set_option maxHeartbeats 4000000
set_option linter.unusedVariables false
namespace Mine

inductive Pc where
  | ch (c : Nat)
  | br (cs : List (List Nat))
noncomputable def Pc.text : Pc → List Nat
  | .ch c => [c]
  | .br cs => 91 :: (jn [45] cs ++ [93])
noncomputable def mgd : List (List Nat) → List (List Nat)
  | c0 :: c1 :: r => if c1.headD 0 < c0.getLastD 0 then (c0.dropLast ++ c1.drop 1) :: r else c0 :: c1 :: r
  | cs => cs
noncomputable def stuffOf (cs : List (List Nat)) : List Nat := jn [45] ((mgd cs).map (rep 45 [92, 45]))
noncomputable def brk (cs : List (List Nat)) : List Nat :=
  if stuffOf cs = [] then [40, 63, 33, 41] else if (stuffOf cs).headD 0 = 91 then 91 :: ((92 :: stuffOf cs) ++ [93]) else 91 :: (stuffOf cs ++ [93])
noncomputable def Pc.out : Pc → List Nat
  | .ch c => esc1 c
  | .br cs => brk cs
structure OkCs (cs : List (List Nat)) : Prop where
  c0 : ∃ c0 r, cs = c0 :: r ∧ c0 ≠ [] ∧ 45 ∉ c0.drop 1
  rest : ∀ r ∈ cs.tail, r ≠ [] ∧ 45 ∉ r ∧ 48 ≤ r.headD 0
  mid : ∀ r ∈ cs.tail.dropLast, 2 ≤ r.length ∧ r.getLastD 0 = 32
  chars : ∀ r ∈ cs, ∀ ch ∈ r, noTwin ch ∧ ch ≠ 92 ∧ ch ≠ 33
  close : 93 ∉ (jn [45] cs).drop 1
  len : (jn [45] cs).length ≤ 500
  num : cs.length ≤ 50
noncomputable def OkPc : Pc → Prop
  | .ch c => c = 44 ∨ c = 32 ∨ c = 93
  | .br cs => OkCs cs
noncomputable def flat (pcs : List Pc) : List Nat := (pcs.map Pc.text).flatten

theorem findc_at {ch : Nat} {l : List Nat} {lo hi p : Nat} (h1 : lo ≤ p) (h2 : p < hi) (h3 : l[p]? = some ch) (h4 : ∀ q, lo ≤ q → q < p → l[q]? ≠ some ch) : findc ch l lo hi = p := by
  unfold findc
  have : (List.range' lo (hi - lo)).find? (fun i => l[i]? == some ch) = some p := by
    rw [show hi - lo = (p - lo) + (1 + (hi - p - 1)) by rw [Nat.add_comm 1, Nat.sub_add_cancel (Nat.sub_pos_of_lt h2), Nat.add_comm, Nat.sub_add_sub_cancel (Nat.le_of_lt h2) h1], ← List.range'_append_1, List.find?_append]
    rw [List.find?_eq_none.mpr (by intro x hx; have := List.mem_range'_1.mp hx; simpa using h4 x this.1 (by omega))]
    rw [show 1 + (hi - p - 1) = (hi - p - 1) + 1 by omega, List.range'_succ]
    rw [show lo + (p - lo) = p by omega]
    simp [h3]
  rw [this]
theorem findc_no {ch : Nat} {l : List Nat} {lo hi : Nat} (h4 : ∀ q, lo ≤ q → q < hi → l[q]? ≠ some ch) : findc ch l lo hi = -1 := by
  unfold findc
  rw [List.find?_eq_none.mpr (by intro x hx; have := List.mem_range'_1.mp hx; simpa using h4 x this.1 (by omega))]
theorem drop_of {α : Type} {l : List α} {i : Nat} {a b : List α} (h : l.drop i = a ++ b) : l.drop (i + a.length) = b := by
  rw [← List.drop_drop, h]; simp
theorem get_of {α : Type} {l : List α} {i : Nat} {m : List α} (h : l.drop i = m) (q : Nat) : l[i + q]? = m[q]? := by rw [← h, List.getElem?_drop]

theorem rep_mem {ch : Nat} {z l : List Nat} {x : Nat} (h : x ∈ rep ch z l) : x ∈ z ∨ x ∈ l := by
  unfold rep at h
  obtain ⟨k, hk, hx⟩ := List.mem_flatMap.mp h
  split at hx
  · exact .inl hx
  · simp at hx; subst hx; exact .inr hk
theorem jn_mem {sep : List Nat} : ∀ {l : List (List Nat)} {x : Nat}, x ∈ jn sep l → x ∈ sep ∨ ∃ r ∈ l, x ∈ r
  | [], x, h => by simp [jn] at h
  | [a], x, h => .inr ⟨a, by simp, h⟩
  | a :: b :: r, x, h => by
    have h' : x ∈ a ++ sep ++ jn sep (b :: r) := h
    rcases List.mem_append.mp h' with h' | h'
    · rcases List.mem_append.mp h' with h' | h'
      · exact .inr ⟨a, by simp, h'⟩
      · exact .inl h'
    · rcases jn_mem h' with h' | ⟨q, hq, hx⟩
      · exact .inl h'
      · exact .inr ⟨q, by simp at hq ⊢; right; exact hq, hx⟩
theorem mgd_mem {cs : List (List Nat)} {r : List Nat} {x : Nat} (h : r ∈ mgd cs) (hx : x ∈ r) : ∃ q ∈ cs, x ∈ q := by
  match cs, h with
  | [], h => simp [mgd] at h
  | [a], h => simp [mgd] at h; subst h; exact ⟨r, by simp, hx⟩
  | a :: b :: t, h =>
    have h : r ∈ (if b.headD 0 < a.getLastD 0 then (a.dropLast ++ b.drop 1) :: t else a :: b :: t) := h
    split at h
    · rcases List.mem_cons.mp h with h | h
      · subst h
        rcases List.mem_append.mp hx with hx | hx
        · exact ⟨a, by simp, List.dropLast_subset _ hx⟩
        · exact ⟨b, by simp, List.drop_subset _ _ hx⟩
      · exact ⟨r, by simp [h], hx⟩
    · exact ⟨r, h, hx⟩
theorem stuff_mem {cs : List (List Nat)} (h : OkCs cs) : ∀ x ∈ stuffOf cs, noTwin x ∧ x ≠ 33 := by
  intro x hx
  unfold stuffOf at hx
  rcases jn_mem hx with hx | ⟨r, hr, hx⟩
  · simp at hx; subst hx; exact ⟨⟨by decide, by decide⟩, by decide⟩
  · obtain ⟨q, hq, rfl⟩ := List.mem_map.mp hr
    rcases rep_mem hx with hx | hx
    · simp at hx; rcases hx with rfl | rfl <;> exact ⟨⟨by decide, by decide⟩, by decide⟩
    · obtain ⟨q', hq', hx'⟩ := mgd_mem hq hx
      exact ⟨(h.chars q' hq' x hx').1, (h.chars q' hq' x hx').2.2⟩
theorem jn_has {sep : Nat} {a b : List Nat} {r : List (List Nat)} : sep ∈ jn [sep] (a :: b :: r) := by
  show sep ∈ a ++ [sep] ++ jn [sep] (b :: r)
  simp
theorem s_mem {cs : List (List Nat)} (h : OkCs cs) : ∀ x ∈ jn [45] cs, noTwin x ∧ x ≠ 92 ∧ x ≠ 33 := by
  intro x hx
  rcases jn_mem hx with hx | ⟨r, hr, hx⟩
  · simp at hx; subst hx; exact ⟨⟨by decide, by decide⟩, by decide, by decide⟩
  · exact h.chars r hr x hx
theorem rep_len (ch : Nat) (z : List Nat) (hz : z.length ≤ 2) : ∀ l : List Nat, (rep ch z l).length ≤ 2 * l.length
  | [] => by simp [rep]
  | k :: l => by
    have ih := rep_len ch z hz l
    unfold rep at ih ⊢
    rw [List.flatMap_cons, List.length_append, List.length_cons]
    have hle : (if k = ch then z else [k]).length ≤ 2 := by
      split
      · exact hz
      · simp
    omega

theorem jn_len (sep : List Nat) : ∀ l : List (List Nat), (jn sep l).length ≤ jsum sep l
  | [] => by simp [jn]
  | [a] => by simp [jn, jsum]
  | a :: b :: r => by
    have ih := jn_len sep (b :: r)
    show (a ++ sep ++ jn sep (b :: r)).length ≤ _
    unfold jsum at ih ⊢
    simp only [List.length_append, List.map_cons, List.sum_cons, List.length_cons] at ih ⊢
    rw [Nat.add_mul (r.length + 1) 1]; omega
theorem sum_le_jn (sep : List Nat) : ∀ l : List (List Nat), (l.map List.length).sum ≤ (jn sep l).length
  | [] => by simp
  | [a] => by simp [jn]
  | a :: b :: r => by
    have ih := sum_le_jn sep (b :: r)
    show _ ≤ (a ++ sep ++ jn sep (b :: r)).length
    simp only [List.length_append, List.map_cons, List.sum_cons] at ih ⊢
    omega
theorem mgd_sum : ∀ cs : List (List Nat), ((mgd cs).map List.length).sum ≤ (cs.map List.length).sum ∧ (mgd cs).length ≤ cs.length
  | [] => by simp [mgd]
  | [a] => by simp [mgd]
  | a :: b :: t => by
    show ((if b.headD 0 < a.getLastD 0 then (a.dropLast ++ b.drop 1) :: t else a :: b :: t).map List.length).sum ≤ _ ∧ (if b.headD 0 < a.getLastD 0 then (a.dropLast ++ b.drop 1) :: t else a :: b :: t).length ≤ _
    split
    · simp only [List.map_cons, List.sum_cons, List.length_append, List.length_dropLast, List.length_drop, List.length_cons]
      omega
    · exact ⟨Nat.le_refl _, Nat.le_refl _⟩
theorem rep_sum : ∀ l : List (List Nat), ((l.map (rep 45 [92, 45])).map List.length).sum ≤ 2 * (l.map List.length).sum
  | [] => by simp
  | a :: l => by
    have ih := rep_sum l
    have := rep_len 45 [92, 45] (by decide) a
    simp only [List.map_cons, List.sum_cons] at ih ⊢
    omega
theorem stuff_sum {cs : List (List Nat)} (h : OkCs cs) : jsum [45] ((mgd cs).map (rep 45 [92, 45])) ≤ 2000 := by
  have h1 := sum_le_jn [45] cs
  have h2 := mgd_sum cs
  have h3 := rep_sum (mgd cs)
  have h4 := h.len
  have h5 := h.num
  unfold jsum
  rw [List.length_map]
  show _ + (mgd cs).length * 1 ≤ _
  omega
theorem stuff_len {cs : List (List Nat)} (h : OkCs cs) : (stuffOf cs).length ≤ 2000 := Nat.le_trans (jn_len _ _) (stuff_sum h)
theorem stuff_one {cs : List (List Nat)} (h : OkCs cs) (h45 : 45 ∉ jn [45] cs) : stuffOf cs = jn [45] cs := by
  obtain ⟨c0, r, rfl, _⟩ := h.c0
  cases r with
  | nil => show rep 45 [92, 45] c0 = c0; exact rep_free _ _ _ h45
  | cons b r => exact absurd jn_has h45

theorem OkCs.at {cs D rest : List (List Nat)} {r : List Nat} (h : OkCs cs) (e : cs = D ++ r :: rest) : r ≠ [] ∧ (∀ q, (if D = [] then 1 else 2) ≤ q → r[q]? ≠ some 45) ∧ (rest ≠ [] → (if D = [] then 1 else 2) ≤ r.length) ∧ (D ≠ [] → 45 ∉ r) := by
  cases D with
  | nil =>
    obtain ⟨c0, r', e', h1, h2⟩ := h.c0
    rw [e] at e'; cases e'
    refine ⟨h1, fun q hq hc => h2 ?_, fun _ => List.length_pos_iff.mpr h1, fun hd => absurd rfl hd⟩
    simp at hq
    refine List.mem_of_getElem? (i := q - 1) ?_
    rw [List.getElem?_drop, show 1 + (q - 1) = q by omega]; exact hc
  | cons d D =>
    have hm : r ∈ cs.tail := by rw [e]; simp
    have hr := h.rest r hm
    refine ⟨hr.1, fun q _ hc => hr.2.1 (List.mem_of_getElem? hc), fun hne => ?_, fun _ => hr.2.1⟩
    have hmd : r ∈ cs.tail.dropLast := by
      rw [e]
      obtain ⟨x, xs, rfl⟩ := List.exists_cons_of_ne_nil hne
      show r ∈ (D ++ r :: x :: xs).dropLast
      rw [List.dropLast_append_of_ne_nil (by simp)]
      simp
    exact (h.mid r hmd).1
theorem pylongm1 (a : Int) : Builtin.divisionGoesByPylong a (-1) = false := by
  unfold Builtin.divisionGoesByPylong
  show (decide (_ > 300) && _) = false
  rw [show (decide ((if ((-1 : Int) == 0) = true then 0 else (-1 : Int).natAbs.log2 / 30 + 1) > 300)) = false from by decide +kernel]; rfl

theorem sing_lt {x y : Nat} : ([y] : List Nat) < [x] ↔ y < x := by rw [List.cons_lt_cons_iff]; simp
theorem mem_len {r : List Nat} : ∀ {l : List (List Nat)}, r ∈ l → r.length ≤ (l.map List.length).sum
  | a :: l, h => by
    rw [List.map_cons, List.sum_cons]
    rcases List.mem_cons.mp h with rfl | h
    · omega
    · have := mem_len h; omega
theorem rsz_down (n : Nat) : rsz (n : Int) 0 (-1) = n := by
  unfold rsz Builtin.Range.rangeSize
  rw [if_neg (by decide)]
  split
  · show (((n : Int) - 0 - 1) / 1 + 1).toNat = n
    rw [Int.ediv_one]; omega
  · show (0 : Int).toNat = n
    omega
theorem it_muN {c : Cx} {σ : St} {a : Addr} {xs : List AV} {i : Nat} {x : AV} {Q : AV → St → Prop} (hm : σ.mu a = some xs) (h2 : i ≤ 1000000) (hi : xs[i]? = some x) (h : Q x σ) : It c (.ref a) (.int i) σ Q :=
  it_mu hm (by omega) (by omega) (by simpa using hi) h
theorem it_muP {c : Cx} {σ : St} {a : Addr} {xs : List AV} {i : Nat} {x : AV} {Q : AV → St → Prop} (hm : σ.mu a = some xs) (h2 : i ≤ 1000000) (hi : xs[i]? = some x) (h : Q x σ) : It c (.ref a) (.int (((i + 1 : Nat) : Int) - 1)) σ Q := by
  rw [show (((i + 1 : Nat) : Int) - 1) = (i : Int) by omega]
  exact it_muN hm h2 hi h
theorem it_str_last {c : Cx} {σ : St} {l : List Nat} {x : Nat} {Q : AV → St → Prop} (hl : l.getLast? = some x) (h : Q (.str [x]) σ) : It c (.str l) (.int (-1)) σ Q := by
  have hne : l ≠ [] := by intro w; rw [w] at hl; simp at hl
  have hp := List.length_pos_iff.mpr hne
  refine it_str (by decide) (by decide) ?_ h
  rw [seqIndex_idxOf (by omega) (by omega), show idxOf (-1) l.length = l.length - 1 by unfold idxOf; rw [if_pos (by omega)]; omega]
  rw [List.getLast?_eq_getElem?] at hl
  exact hl
theorem OkCs.ne {cs : List (List Nat)} (h : OkCs cs) {r : List Nat} (hr : r ∈ cs) : r ≠ [] := by
  obtain ⟨c0, t, rfl, h1, _⟩ := h.c0
  rcases List.mem_cons.mp hr with rfl | hr
  · exact h1
  · exact (h.rest r hr).1
theorem mgd_one {cs : List (List Nat)} (h : cs.length = 1) : mgd cs = cs := by
  match cs, h with
  | [a], _ => rfl
theorem OkCs.gap {cs : List (List Nat)} (h : OkCs cs) {k : Nat} {a b : List Nat} {x y : Nat} (ha : cs[k + 1]? = some a) (hb : cs[k + 2]? = some b) (hx : a.getLast? = some x) (hy : b.head? = some y) : x ≤ y := by
  obtain ⟨c0, t, rfl, _, _⟩ := h.c0
  rw [List.getElem?_cons_succ] at ha hb
  have h1 := h.mid a (by
    show a ∈ t.dropLast
    refine List.mem_of_getElem? (i := k) ?_
    rw [List.getElem?_dropLast, if_pos (by have := (List.getElem?_eq_some_iff.mp hb).1; omega)]; exact ha)
  have h2 := (h.rest b (List.mem_of_getElem? hb)).2.2
  rw [List.getLastD_eq_getLast?, hx] at h1
  have : b.headD 0 = y := by rw [List.headD_eq_head?_getD, hy]; rfl
  rw [this] at h2
  have h1' : x = 32 := h1.2
  omega

theorem ok62 (w : World) : FnOk (KK w) 62 (fnD 62) (fnB 62) ["pat", "STAR", "QUESTION_MARK"] where
  obj := ⟨_, _, _, rfl⟩
  code := rfl
  body := rfl
  cell := by decide +kernel
  loc := by decide +kernel
  co := rfl
  gen := rfl
  fn := rfl
  gl := rfl
  bl := rfl

theorem two_of {α : Type} {l : List α} {a b : α} (h0 : l[0]? = some a) (h1 : l[1]? = some b) : ∃ t, l = a :: b :: t := by
  cases l with
  | nil => cases h0
  | cons x l =>
    cases l with
    | nil => cases h1
    | cons y t => cases h0; cases h1; exact ⟨t, rfl⟩
theorem plus_back {a b q : Nat} (h : a + b ≤ q) : ∃ c, q = a + c := ⟨q - a, (Nat.add_sub_cancel' (Nat.le_trans (Nat.le_add_right a b) h)).symm⟩
noncomputable abbrev J62a (pat : List Nat) (ra : Addr) (pcs : List Pc) (a : List Pc × List Pc × Nat) (σ : St) : Prop :=
  σ.m "pat" = some (.str pat) ∧ σ.m "add" = some (.bm "builtin_function_or_method" "list.append" (.ref ra)) ∧ σ.m "res" = some (.ref ra) ∧ σ.m "n" = some (.int pat.length) ∧ σ.m "i" = some (.int a.2.2) ∧ σ.mu ra = some (vstrs (a.1.map Pc.out)) ∧ pcs = a.1 ++ a.2.1 ∧ pat.drop a.2.2 = flat a.2.1 ∧ a.2.2 ≤ pat.length

noncomputable abbrev J62b (pat : List Nat) (ra : Addr) (done : List Pc) (i : Nat) (sx : List Nat) (σ' : St) : Prop :=
  ∃ j : Nat, σ'.m "pat" = some (.str pat) ∧ σ'.m "add" = some (.bm "builtin_function_or_method" "list.append" (.ref ra)) ∧ σ'.m "res" = some (.ref ra) ∧ σ'.m "n" = some (.int pat.length) ∧ σ'.m "i" = some (.int (i + 1 : Nat)) ∧ σ'.m "j" = some (.int j) ∧ σ'.mu ra = some (vstrs (done.map Pc.out)) ∧
          i + 1 ≤ j ∧ j ≤ i + 1 + sx.length ∧ (∀ q, j ≤ q → q < i + 1 + sx.length → pat[q]? ≠ some 93)

noncomputable abbrev J62c (pat : List Nat) (ra : Addr) (done : List Pc) (i : Nat) (sx : List Nat) (j : Nat) (σ : St) : Prop :=
  σ.m "pat" = some (.str pat) ∧ σ.m "add" = some (.bm "builtin_function_or_method" "list.append" (.ref ra)) ∧ σ.m "res" = some (.ref ra) ∧ σ.m "n" = some (.int pat.length) ∧ σ.m "i" = some (.int (i + 1 : Nat)) ∧ σ.m "j" = some (.int j) ∧ σ.mu ra = some (vstrs (done.map Pc.out)) ∧
          i + 1 ≤ j ∧ j ≤ i + 1 + sx.length ∧ (∀ q, j ≤ q → q < i + 1 + sx.length → pat[q]? ≠ some 93)

noncomputable abbrev J62d (pat : List Nat) (ra : Addr) (done : List Pc) (i : Nat) (sx : List Nat) (cs : List (List Nat)) (σ' : St) : Prop :=
  σ'.m "pat" = some (.str pat) ∧ σ'.m "add" = some (.bm "builtin_function_or_method" "list.append" (.ref ra)) ∧ σ'.m "res" = some (.ref ra) ∧ σ'.m "n" = some (.int pat.length) ∧ σ'.m "j" = some (.int (i + 1 + sx.length : Nat)) ∧ σ'.m "stuff" = some (.str (stuffOf cs)) ∧ σ'.mu ra = some (vstrs (done.map Pc.out))

noncomputable abbrev J62e (pat : List Nat) (ra : Addr) (done : List Pc) (i : Nat) (sx : List Nat) (cs : List (List Nat)) (ca : Addr) (rem' : List Pc) (a : List (List Nat) × List (List Nat) × Nat) (σ : St) : Prop :=
  σ.m "pat" = some (.str pat) ∧ σ.m "add" = some (.bm "builtin_function_or_method" "list.append" (.ref ra)) ∧ σ.m "res" = some (.ref ra) ∧ σ.m "n" = some (.int pat.length) ∧ σ.m "j" = some (.int (i + 1 + sx.length : Nat)) ∧ σ.mu ra = some (vstrs (done.map Pc.out)) ∧ σ.m "chunks" = some (.ref ca) ∧ σ.mu ca = some (vstrs a.1) ∧
              σ.m "i" = some (.int a.2.2) ∧ σ.m "k" = some (.int (a.2.2 + (if a.1 = [] then 1 else 2) : Nat)) ∧ cs = a.1 ++ a.2.1 ∧ a.2.1 ≠ [] ∧ pat.drop a.2.2 = jn [45] a.2.1 ++ (93 :: flat rem') ∧ a.2.2 + (jn [45] a.2.1).length = i + 1 + sx.length

noncomputable abbrev J62f (pat : List Nat) (ra : Addr) (done : List Pc) (i : Nat) (sx : List Nat) (cs : List (List Nat)) (ca : Addr) (σ' : St) : Prop :=
  σ'.m "pat" = some (.str pat) ∧ σ'.m "add" = some (.bm "builtin_function_or_method" "list.append" (.ref ra)) ∧ σ'.m "res" = some (.ref ra) ∧ σ'.m "n" = some (.int pat.length) ∧ σ'.m "j" = some (.int (i + 1 + sx.length : Nat)) ∧ σ'.mu ra = some (vstrs (done.map Pc.out)) ∧ σ'.m "chunks" = some (.ref ca) ∧ σ'.mu ca = some (vstrs cs)

noncomputable abbrev J62g (pat : List Nat) (ra : Addr) (done : List Pc) (i : Nat) (sx : List Nat) (cs : List (List Nat)) (ca : Addr) (q : Nat) (σ : St) : Prop :=
  σ.m "pat" = some (.str pat) ∧ σ.m "add" = some (.bm "builtin_function_or_method" "list.append" (.ref ra)) ∧ σ.m "res" = some (.ref ra) ∧ σ.m "n" = some (.int pat.length) ∧ σ.m "j" = some (.int (i + 1 + sx.length : Nat)) ∧ σ.mu ra = some (vstrs (done.map Pc.out)) ∧ σ.m "chunks" = some (.ref ca) ∧ σ.mu ca = some (vstrs (if q + 1 < cs.length then cs else mgd cs))

noncomputable abbrev J62h (pat : List Nat) (ra : Addr) (done : List Pc) (i : Nat) (sx : List Nat) (st' : List Nat) (d : Nat) (σ' : St) : Prop :=
  σ'.m "pat" = some (.str pat) ∧ σ'.m "add" = some (.bm "builtin_function_or_method" "list.append" (.ref ra)) ∧ σ'.m "res" = some (.ref ra) ∧ σ'.m "n" = some (.int pat.length) ∧ σ'.m "i" = some (.int (i + (sx.length + 2) : Nat)) ∧ σ'.m "stuff" = some (.str (if d = 91 then 92 :: st' else st')) ∧ σ'.mu ra = some (vstrs (done.map Pc.out))

theorem body62 (c : Cx) (L : Addr) (pcs : List Pc) (st : AV) (hp : ∀ p ∈ pcs, OkPc p) (hlen : (flat pcs).length ≤ 5000) (hn : pcs.length ≤ 500) (Q : AV → Prop) (G : Gl (calleeCx c (fnD 62) 62 L)) (hd : c.A.depth < 590) (hu : c.A.units < 4900) (hh : c.A.handled = none) (hq0 : c.q = false)
    (hq : Q (.list (vstrs (pcs.map Pc.out)))) :
    Exs (calleeCx c (fnD 62) 62 L) (fnB 62) (startSt ["pat", "STAR", "QUESTION_MARK"] [.str (flat pcs), st, .str [46]]) (Gives Q) := by
  have hL : (calleeCx c (fnD 62) 62 L).env.locals ∈ (calleeCx c (fnD 62) 62 L).own := .head _
  have hE : PassesOwn (model (calleeCx c (fnD 62) 62 L).prog (calleeCx c (fnD 62) 62 L).w) (calleeCx c (fnD 62) 62 L).A (calleeCx c (fnD 62) 62 L).env (calleeCx c (fnD 62) 62 L).E := PassesOwn.never
  have hd' : (calleeCx c (fnD 62) 62 L).A.depth < 600 := by show c.A.depth + 1 < 600; omega
  have hu' : (calleeCx c (fnD 62) 62 L).A.units < 4990 := by show c.A.units + 3 < 4990; omega
  generalize hpat : flat pcs = pat at hlen ⊢
  refine exs_cons (ex_set G hL rfl (ev_listm (evs_nil ⟨by decide, fun ra hra => ?_⟩)))
  refine exs_cons (ex_set G hL rfl (ev_badd (a := ra) (xs := []) G rfl rfl (by rw [St.set_mu, St.put_mu, if_pos rfl]) ?_))
  refine exs_cons (ex_pair G hh hL rfl rfl (ev_tuple (evs_cons (ev_int (evs_cons (ev_call G (ev_builtin G rfl rfl rfl (.bi _) ⟨.bi _, evs_cons (ev_local G rfl rfl (evs_nil (cl_lens (by omega) (evs_nil ⟨by show 2 ≤ sizeLine; decide, _, _, rfl, ?_⟩))))⟩)))))))
  refine exs_cons (ex_while (wl_inv (α := List Pc × List Pc × Nat) (J62a pat ra pcs) (fun a => a.2.1.length) hE ?_ ([], pcs, 0) ?_))
  · rintro ⟨done, rem, i⟩ σ ⟨h1, h2, h3, h4, h5, h6, h7, h8, h9⟩
    dsimp only at h1 h2 h3 h4 h5 h6 h7 h8 h9
    have hdn : done.length ≤ 500 := by
      have := congrArg List.length h7; simp at this; omega
    refine ts_cmp (ev_local G rfl h5 (ev_local G rfl h4 (op_lt (tr_bool ⟨fun hb => ?_, fun hb => ?_⟩))))
    · have hi : i < pat.length := by simp at hb; omega
      obtain ⟨pc, rem', rfl⟩ : ∃ pc rem', rem = pc :: rem' := by
        cases rem with
        | nil => have := congrArg List.length h8; simp [flat] at this; omega
        | cons pc rem' => exact ⟨pc, rem', rfl⟩
      have hok : OkPc pc := hp pc (by rw [h7]; simp)
      have hfl : flat (pc :: rem') = pc.text ++ flat rem' := by simp [flat]
      rw [hfl] at h8
      have hdrop : pat.drop (i + pc.text.length) = flat rem' := drop_of h8
      have hile : i + pc.text.length ≤ pat.length := by
        have := congrArg List.length h8
        rw [List.length_drop, List.length_append] at this; omega
      have h6l : (vstrs (done.map Pc.out)).length ≤ 1000000 := by simp; omega
      have fin : ∀ σ' : St, σ'.m "pat" = some (.str pat) → σ'.m "add" = some (.bm "builtin_function_or_method" "list.append" (.ref ra)) → σ'.m "res" = some (.ref ra) → σ'.m "n" = some (.int pat.length) → σ'.m "i" = some (.int ((i + pc.text.length : Nat))) → σ'.mu ra = some (vstrs (done.map Pc.out) ++ [.str pc.out]) →
          ∃ a' : List Pc × List Pc × Nat, (fun a : List Pc × List Pc × Nat => a.2.1.length) a' < (fun a : List Pc × List Pc × Nat => a.2.1.length) (done, pc :: rem', i) ∧ J62a pat ra pcs a' σ' := fun σ' g1 g2 g3 g4 g5 g6 => by
        refine ⟨(done ++ [pc], rem', i + pc.text.length), by simp, g1, g2, g3, g4, g5, ?_, by rw [h7]; simp, hdrop, hile⟩
        rw [g6]; simp
      cases pc with
      | ch ch =>
        have hch : ch = 44 ∨ ch = 32 ∨ ch = 93 := hok
        have hg : pat[i]? = some ch := by have := get_of h8 0; simpa [Pc.text] using this
        refine exs_cons (ex_set G hL rfl (ev_idx (ev_local G rfl h1 (ev_local G rfl h5 (it_strN (by omega) hg ?_)))))
        refine exs_cons (ex_set G hL rfl (ev_binop (ev_local G rfl h5 (ev_int (op_add ?_)))))
        rw [show ((i : Int) + 1) = ((i + 1 : Nat) : Int) by push_cast; rfl]
        refine exs_cons (ex_if (ts_cmp (ev_local G rfl rfl (ev_str (l := [42]) rfl (op_eqs (tr_bool ⟨fun hb => ?_, fun _ => ?_⟩))))))
        · exfalso; simp at hb; omega
        refine exs_cons (ex_if (ts_cmp (ev_local G rfl rfl (ev_str (l := [63]) rfl (op_eqs (tr_bool ⟨fun hb => ?_, fun _ => ?_⟩))))))
        · exfalso; simp at hb; omega
        refine exs_cons (ex_if (ts_cmp (ev_local G rfl rfl (ev_str (l := [91]) rfl (op_eqs (tr_bool ⟨fun hb => ?_, fun _ => ?_⟩))))))
        · exfalso; simp at hb; omega
        refine exs_cons (ex_expr (ev_call G (ev_local G rfl h2 ⟨.bm _ _ _ (.inl rfl), evs_cons (ev_call G (ev_global G rfl rfl ⟨.ref _ rfl, evs_cons (ev_local G rfl rfl (evs_nil (cl55 G hd' hu' hh hch (evs_nil (cl_badd h6 h6l ?_)))))⟩))⟩)) rfl)
        refine exs_nil (exs_nil (exs_nil (exs_nil ?_)))
        exact fin _ h1 h2 h3 h4 rfl (by rw [St.put_mu, if_pos rfl]; rfl)
      | br cs =>
        have hcs : OkCs cs := hok
        have hg : pat[i]? = some 91 := by have := get_of h8 0; simpa [Pc.text] using this
        have hs : pat.drop (i + 1) = jn [45] cs ++ (93 :: flat rem') := by
          have := congrArg (List.drop 1) h8
          rw [List.drop_drop] at this
          rw [this]; simp [Pc.text]
        have htl : (Pc.br cs).text.length = (jn [45] cs).length + 2 := by simp [Pc.text]
        have hsmem := s_mem hcs
        have hslen := hcs.len
        have hsclose := hcs.close
        have hstuff := stuff_mem hcs
        have hjs : jsum [45] ((mgd cs).map (rep 45 [92, 45])) ≤ 1000000 := Nat.le_trans (stuff_sum hcs) (by decide)
        have hstl5 : (stuffOf cs).length ≤ 2000 := stuff_len hcs
        have hstl : (stuffOf cs).length ≤ 1000000 := by omega
        have hsne : jn [45] cs ≠ [] := by
          obtain ⟨c0, r, rfl, h0, _⟩ := hcs.c0
          cases r with
          | nil => exact h0
          | cons b r => simp [jn]
        rw [htl] at fin hile
        generalize hsd : jn [45] cs = sx at hs hsmem hslen hsclose hsne fin hile htl
        have hget : ∀ q, q < sx.length → pat[i + 1 + q]? = sx[q]? := fun q hq => by rw [get_of hs q, List.getElem?_append_left hq]
        have hend : pat[i + 1 + sx.length]? = some 93 := by rw [get_of hs sx.length]; simp
        have hpos : 0 < sx.length := List.length_pos_iff.mpr hsne
        refine exs_cons (ex_set G hL rfl (ev_idx (ev_local G rfl h1 (ev_local G rfl h5 (it_strN (by omega) hg ?_)))))
        refine exs_cons (ex_set G hL rfl (ev_binop (ev_local G rfl h5 (ev_int (op_add ?_)))))
        rw [show ((i : Int) + 1) = ((i + 1 : Nat) : Int) by push_cast; rfl]
        refine exs_cons (ex_if (ts_cmp (ev_local G rfl rfl (ev_str (l := [42]) rfl (op_eqs (tr_bool ⟨fun hb => ?_, fun _ => ?_⟩))))))
        · exfalso; simp at hb
        refine exs_cons (ex_if (ts_cmp (ev_local G rfl rfl (ev_str (l := [63]) rfl (op_eqs (tr_bool ⟨fun hb => ?_, fun _ => ?_⟩))))))
        · exfalso; simp at hb
        refine exs_cons (ex_if (ts_cmp (ev_local G rfl rfl (ev_str (l := [91]) rfl (op_eqs (tr_bool ⟨fun _ => ?_, fun hb => ?_⟩))))))
        rotate_left
        · exfalso; simp at hb
        refine exs_cons (ex_set G hL rfl (ev_local G rfl rfl ?_))
        obtain ⟨x0, sr, hx0⟩ : ∃ x0 sr, sx = x0 :: sr := List.exists_cons_of_ne_nil hsne
        have hp0 : pat[i + 1]? = some x0 := by have := hget 0 hpos; rw [hx0] at this; simpa using this
        have hx033 : x0 ≠ 33 := (hsmem x0 (by rw [hx0]; simp)).2.2
        have hi1 : i + 1 < pat.length := by omega
        have no93 : ∀ q, i + 2 ≤ q → q < i + 1 + sx.length → pat[q]? ≠ some 93 := fun q hq1 hq2 => by
          obtain ⟨q', rfl⟩ : ∃ q', q = i + 1 + (q' + 1) := ⟨q - (i + 2), by omega⟩
          rw [hget (q' + 1) (by omega)]
          intro hc
          refine hsclose (List.mem_of_getElem? (i := q') ?_)
          rw [List.getElem?_drop, Nat.add_comm]; exact hc
        refine exs_cons (ex_if (ts_and2 (ts_cmp (ev_local G rfl rfl (ev_local G rfl h4 (op_lt (tr_bool ⟨fun _ => ts_cmp (ev_idx (ev_local G rfl h1 (ev_local G rfl rfl (it_strN (by omega) hp0 (ev_str (l := [33]) rfl (op_eqs (tr_bool ⟨fun hb => ?_, fun _ => ?_⟩))))))), fun hb => ?_⟩)))))))
        · exfalso; simp at hb; exact hx033 hb
        rotate_left
        · exfalso; simp at hb; omega
        refine exs_nil ?_
        refine exs_cons (ex_join (J62b pat ra done i sx)
          (ex_if (ts_and2 (ts_cmp (ev_local G rfl rfl (ev_local G rfl h4 (op_lt (tr_bool ⟨fun _ => ts_cmp (ev_idx (ev_local G rfl h1 (ev_local G rfl rfl (it_strN (by omega) hp0 (ev_str (l := [93]) rfl (op_eqs (tr_bool ⟨fun hb => ?_, fun hb => ?_⟩))))))), fun hb => ?_⟩))))))) fun σ' hJ => ?_)
        · have hx93 : x0 = 93 := by simpa using hb
          refine exs_cons (ex_set G hL rfl (ev_binop (ev_local G rfl rfl (ev_int (op_add (exs_nil ⟨rfl, i + 2, h1, h2, h3, h4, rfl, by rw [show (((i + 1 : Nat) : Int) + 1) = ((i + 2 : Nat) : Int) by push_cast; omega]; rfl, h6, by omega, by omega, fun q hq1 hq2 => ?_⟩))))))
          exact no93 q (by omega) hq2
        · have hx93 : x0 ≠ 93 := by simpa using hb
          refine exs_nil ⟨rfl, i + 1, h1, h2, h3, h4, rfl, rfl, h6, by omega, by omega, fun q hq1 hq2 => ?_⟩
          by_cases hq0 : q = i + 1
          · rw [hq0, hp0]; simpa using hx93
          · exact no93 q (by omega) hq2
        · exfalso; simp at hb; omega
        obtain ⟨j0, k1, k2, k3, k4, k5, k6, k7, k8, k9, k10⟩ := hJ
        refine exs_cons (ex_while (wl_inv (α := Nat) (J62c pat ra done i sx) (fun j => i + 1 + sx.length - j) hE ?_ j0 ⟨k1, k2, k3, k4, k5, k6, k7, k8, k9, k10⟩))
        clear k1 k2 k3 k4 k5 k6 k7 k8 k9 k10
        rintro j σ2 ⟨k1, k2, k3, k4, k5, k6, k7, k8, k9, k10⟩
        have hjp : j < pat.length := by omega
        refine ts_and2 (ts_cmp (ev_local G rfl k6 (ev_local G rfl k4 (op_lt (tr_bool ⟨fun _ => ?_, fun hb => ?_⟩)))))
        rotate_left
        · exfalso; simp at hb; omega
        obtain ⟨xj, hxj⟩ : ∃ xj, pat[j]? = some xj := ⟨_, List.getElem?_eq_getElem hjp⟩
        refine ts_cmp (ev_idx (ev_local G rfl k1 (ev_local G rfl k6 (it_strN (by omega) hxj (ev_str (l := [93]) rfl (op_nes (tr_bool ⟨fun hb => ?_, fun hb => ?_⟩)))))))
        · have hx93 : xj ≠ 93 := by simpa using hb
          have hje : j < i + 1 + sx.length := by
            rcases Nat.lt_or_ge j (i + 1 + sx.length) with h | h
            · exact h
            · exfalso
              have : j = i + 1 + sx.length := by omega
              rw [this, hend] at hxj; cases hxj; exact hx93 rfl
          refine exs_cons (ex_set G hL rfl (ev_binop (ev_local G rfl k6 (ev_int (op_add (exs_nil ⟨j + 1, Nat.sub_succ_lt_self _ _ hje, k1, k2, k3, k4, k5, by rw [show ((j : Int) + 1) = ((j + 1 : Nat) : Int) by push_cast; rfl]; rfl, k7, by omega, by omega, fun q hq1 hq2 => k10 q (by omega) hq2⟩))))))
        · have hx93 : xj = 93 := by simpa using hb
          have hje : j = i + 1 + sx.length := by
            rcases Nat.lt_or_ge j (i + 1 + sx.length) with h | h
            · exfalso; exact k10 j (Nat.le_refl _) h (by rw [hxj, hx93])
            · omega
          subst hje
          refine exs_cons (ex_if (ts_cmp (ev_local G rfl k6 (ev_local G rfl k4 (op_ge (tr_bool ⟨fun hb => ?_, fun _ => ?_⟩))))))
          · exfalso; simp at hb; omega
          have hpl : pat.length ≤ sizeLine := by rw [PySem.sizeLine_eq]; omega
          refine exs_cons (ex_set G hL rfl (ev_cuts (ev_local G rfl k1 ⟨_, rfl, hpl, evp_some (ev_local G rfl k5 ⟨_, rfl, evp_some (ev_local G rfl k6 ⟨_, rfl, ?_⟩)⟩)⟩)))
          have hcut : cut (some ((i + 1 : Nat) : Int)) (some ((i + 1 + sx.length : Nat) : Int)) pat = sx := by
            rw [cut_eq, hs, show i + 1 + sx.length - (i + 1) = sx.length from Nat.add_sub_cancel_left ..]; simp
          rw [hcut]
          refine exs_cons (ex_join (J62d pat ra done i sx cs)
            (ex_if (ts_cmp (ev_str (l := [45]) rfl (ev_local G rfl rfl (op_notIn1 (tr_bool ⟨fun hb => ?_, fun hb => ?_⟩)))))) fun σ3 hJ => ?_)
          · -- no hyphen
            have h45 : 45 ∉ sx := by simpa using hb
            have hcs1 : stuffOf cs = sx := by rw [← hsd] at h45 ⊢; exact stuff_one hcs h45
            refine exs_cons (ex_set G hL rfl (ev_replace (ch := 92) (zl := [92, 92]) rfl rfl (by decide) (by rfl) (ev_local G rfl rfl ⟨_, rfl, by omega, ?_⟩)))
            rw [rep_free 92 _ sx fun hm => (hsmem 92 hm).2.1 rfl]
            exact exs_nil ⟨rfl, k1, k2, k3, k4, k6, by rw [hcs1]; rfl, k7⟩
          · -- the chunks
            have h45 : 45 ∈ sx := by simpa using hb
            refine exs_cons (ex_set G hL rfl (ev_listm (evs_nil ⟨by decide, fun ca hca => ?_⟩)))
            have hcr : ca ≠ ra := fun w => by rw [w, St.set_mu, k7] at hca; cases hca
            refine exs_cons (ex_set G hL rfl (ev_ifexp (ts_cmp (ev_idx (ev_local G rfl k1 (ev_local G rfl k5 (it_strN (by omega) hp0 (ev_str (l := [33]) rfl (op_eqs (tr_bool ⟨fun hb => ?_, fun _ => ?_⟩))))))))))
            · exfalso; simp at hb; exact hx033 hb
            refine ev_binop (ev_local G rfl k5 (ev_int (op_add ?_)))
            rw [show (((i + 1 : Nat) : Int) + 1) = ((i + 1 + 1 : Nat) : Int) by push_cast; rfl]
            refine exs_cons (ex_while (wl_inv (α := List (List Nat) × List (List Nat) × Nat) (J62e pat ra done i sx cs ca rem') (fun a => a.2.1.length) hE ?_ ([], cs, i + 1) ?_))
            rotate_left
            · refine ⟨k1, k2, k3, k4, k6, ?_, rfl, ?_, k5, rfl, rfl, ?_, by rw [hsd]; exact hs, by rw [hsd]⟩
              · rw [St.set_mu, St.set_mu, St.put_mu, if_neg (Ne.symm hcr)]; exact k7
              · rw [St.set_mu, St.set_mu, St.put_mu, if_pos rfl]; rfl
              · obtain ⟨c0, r, e, _⟩ := hcs.c0; rw [e]; simp
            rintro ⟨D, Rr, ii⟩ σ5 ⟨n1, n2, n3, n4, n5, n6, n7, n8, n9, n10, n11, n12, n13, n14⟩
            dsimp only at n1 n2 n3 n4 n5 n6 n7 n8 n9 n10 n11 n12 n13 n14
            have hDl : D.length ≤ 50 := by
              have := congrArg List.length n11; simp at this; have := hcs.num; omega
            obtain ⟨r, rest, rfl⟩ : ∃ r rest, Rr = r :: rest := List.exists_cons_of_ne_nil n12
            have hat := hcs.at n11
            refine ts_value (ev_bool (tr_bool ⟨fun _ => ?_, fun hb => (by cases hb)⟩))
            have hfl' : i + 1 + sx.length ≤ pat.length := by omega
            refine exs_cons (ex_set G hL rfl (ev_meth (ev_local G rfl n1 ⟨"str.find", mt_find, evs_cons (ev_str (l := [45]) rfl (evs_cons (ev_local G rfl n10 (evs_cons (ev_local G rfl n5 (evs_nil (cl_find hfl' (by omega) ?_)))))))⟩)))
            cases rest with
            | nil =>
              have hno : findc 45 pat (ii + (if D = [] then 1 else 2)) (i + 1 + sx.length) = -1 := findc_no fun q hq1 hq2 => by
                obtain ⟨q', rfl⟩ : ∃ q', q = ii + q' := plus_back hq1
                have hr' : (jn [45] [r]) = r := rfl
                rw [hr'] at n13 n14
                rw [get_of n13, List.getElem?_append_left (by omega)]
                exact hat.2.1 q' (by omega)
              rw [hno]
              refine exs_cons (ex_if (ts_cmp (ev_local G rfl rfl (ev_int (op_lt (tr_bool ⟨fun _ => ?_, fun hb => (by simp at hb)⟩))))))
              refine exs_cons (ex_break ?_)
              have hjr : jn [45] [r] = r := rfl
              rw [hjr] at n13 n14
              refine exs_cons (ex_set G hL rfl (ev_cuts (ev_local G rfl n1 ⟨_, rfl, hpl, evp_some (ev_local G rfl n9 ⟨_, rfl, evp_some (ev_local G rfl n5 ⟨_, rfl, ?_⟩)⟩)⟩)))
              have hcr2 : cut (some (ii : Int)) (some ((i + 1 + sx.length : Nat) : Int)) pat = r := by
                rw [cut_eq, n13, show i + 1 + sx.length - ii = r.length from by rw [← n14]; exact Nat.add_sub_cancel_left ..]; simp
              rw [hcr2]
              have hcn : 1 ≤ cs.length := by rw [n11]; simp
              have hcn2 : cs.length ≤ 50 := hcs.num
              refine exs_cons (ex_join (J62f pat ra done i sx cs ca)
                (ex_if (ts_value (ev_local G rfl rfl (tr_str (by omega) ⟨fun hb => ?_, fun hb => ?_⟩)))) fun σ6 hJ => ?_)
              · refine exs_cons (ex_expr (ev_meth (ev_local G rfl n7 ⟨"list.append", mt_append n8, evs_cons (ev_local G rfl rfl (evs_nil (cl_append n8 (by simp; omega) (exs_nil ⟨rfl, n1, n2, n3, n4, n5, ?_, n7, ?_⟩))))⟩)) rfl)
                · rw [St.put_mu, if_neg (Ne.symm hcr)]; exact n6
                · rw [St.put_mu, if_pos rfl, n11]; simp
              · exfalso; simp at hb; exact hat.1 hb
              obtain ⟨p1, p2, p3, p4, p5, p6, p7, p8⟩ := hJ
              refine exs_cons (ex_for_range hh (ev_callty G (ev_builtin G rfl rfl rfl (.ty _) ⟨_, rfl, evs_cons (ev_binop (ev_call G (ev_builtin G rfl rfl rfl (.bi _) ⟨.bi _, evs_cons (ev_local G rfl p7 (evs_nil (cl_lenm p8 (by simp; omega) (ev_int (op_sub ?_)))))⟩)))⟩)))
              rw [show (((vstrs cs).length : Nat) : Int) - 1 = ((cs.length - 1 : Nat) : Int) by simp; omega]
              refine evs_cons (ev_int (evs_cons (ev_unary (ev_int (op_neg (evs_nil (cl_range3 (by decide) (pylongm1 _) ⟨small_down (by show (-2 ^ 62 : Int) ≤ _; omega) (by show _ < (2 ^ 62 : Int); omega) (by show (-2 ^ 62 : Int) ≤ 0; decide) (by show (0 : Int) < 2 ^ 62; decide), ?_⟩)))))))
              rw [show rsz (((cs.length - 1 : Nat) : Int), (0 : Int), (-1 : Int)).1 (((cs.length - 1 : Nat) : Int), (0 : Int), (-1 : Int)).2.1 (((cs.length - 1 : Nat) : Int), (0 : Int), (-1 : Int)).2.2 = cs.length - 1 from rsz_down _]
              refine fo_inv (J62g pat ra done i sx cs ca) G hE hL rfl ⟨p1, p2, p3, p4, p5, p6, p7, ?_⟩ (fun q σ7 hq hI => ?_) (fun σ7 hI => ?_)
              · rw [p8]
                split
                · rfl
                · rw [mgd_one (by omega)]
              · obtain ⟨g1, g2, g3, g4, g5, g6, g7, g8⟩ := hI
                rw [if_pos (by omega)] at g8
                obtain ⟨kk, hkk⟩ : ∃ kk, cs.length - 1 - q = kk + 1 := Nat.exists_eq_succ_of_ne_zero (Nat.ne_of_gt (Nat.sub_pos_of_lt hq))
                show Exs _ _ (σ7.set "k" (.int (((cs.length - 1 : Nat) : Int) + q * (-1)))) _
                rw [show ((cs.length - 1 : Nat) : Int) + (q : Int) * (-1) = ((kk + 1 : Nat) : Int) by rw [← hkk, Int.natCast_sub (Nat.le_of_lt hq), Int.mul_neg, Int.mul_one]; rfl]
                obtain ⟨a, ha⟩ : ∃ a, cs[kk]? = some a := ⟨_, List.getElem?_eq_getElem (by omega)⟩
                obtain ⟨b, hb⟩ : ∃ b, cs[kk + 1]? = some b := ⟨_, List.getElem?_eq_getElem (by omega)⟩
                have ha' : (vstrs cs)[kk]? = some (.str a) := by simp [ha]
                have hb' : (vstrs cs)[kk + 1]? = some (.str b) := by simp [hb]
                have hane := hcs.ne (List.mem_of_getElem? ha)
                have hbne := hcs.ne (List.mem_of_getElem? hb)
                obtain ⟨x, hx⟩ : ∃ x, a.getLast? = some x := ⟨_, List.getLast?_eq_some_getLast hane⟩
                obtain ⟨y, hy⟩ : ∃ y, b.head? = some y := ⟨_, List.head?_eq_some_head hbne⟩
                have hy0 : b[0]? = some y := by rw [← List.head?_eq_getElem?]; exact hy
                refine exs_cons (ex_if (ts_cmp (ev_idx (ev_idx (ev_local G rfl g7 (ev_binop (ev_local G rfl rfl (ev_int (op_sub (it_muP g8 (by omega) ha' (ev_unary (ev_int (op_neg (it_str_last hx (ev_idx (ev_idx (ev_local G rfl g7 (ev_local G rfl rfl (it_muN g8 (by omega) hb' (ev_int (it_strN (i := 0) (by omega) hy0 (op_gts (tr_bool ⟨fun hc => ?_, fun hc => ?_⟩)))))))))))))))))))))))
                · have hyx : y < x := sing_lt.mp (of_decide_eq_true hc)
                  have hk0 : kk = 0 := by
                    cases kk with
                    | zero => rfl
                    | succ k0 => have := hcs.gap ha hb hx hy; omega
                  subst hk0
                  obtain ⟨t, hct⟩ : ∃ t, cs = a :: b :: t := two_of ha hb
                  have hmg : mgd cs = (a.dropLast ++ b.drop 1) :: t := by
                    rw [hct]
                    show (if b.headD 0 < a.getLastD 0 then _ else _) = _
                    rw [if_pos]
                    rw [List.getLastD_eq_getLast?, hx, List.headD_eq_head?_getD, hy]; exact hyx
                  have hal : a.length ≤ 500 := Nat.le_trans (mem_len (List.mem_of_getElem? ha)) (Nat.le_trans (sum_le_jn [45] cs) hcs.len)
                  have hbl : b.length ≤ 500 := Nat.le_trans (mem_len (List.mem_of_getElem? hb)) (Nat.le_trans (sum_le_jn [45] cs) hcs.len)
                  have has : a.length ≤ sizeLine := by rw [PySem.sizeLine_eq]; omega
                  have hbs : b.length ≤ sizeLine := by rw [PySem.sizeLine_eq]; omega
                  have hvl : (vstrs cs).length = cs.length := by simp
                  refine exs_cons (ex_setItem (ev_binop (ev_cuts (ev_idx (ev_local G rfl g7 (ev_binop (ev_local G rfl rfl (ev_int (op_sub (it_muP g8 (by omega) ha' ⟨_, rfl, has, evp_none (evp_some (ev_unary (ev_int (op_neg ⟨-1, rfl, ev_cuts (ev_idx (ev_local G rfl g7 (ev_local G rfl rfl (it_muN g8 (by omega) hb' ⟨_, rfl, hbs, evp_some (ev_int ⟨1, rfl, evp_none (op_adds ?_ (ev_local G rfl g7 (ev_binop (ev_local G rfl rfl (ev_int (op_sub (si_mu g8 (by omega) (by omega) (by omega) ?_)))))))⟩)⟩))))⟩))))⟩))))))))))
                  · rw [PySem.sizeLine_eq, cut_init, show (1 : Int) = ((1 : Nat) : Int) from rfl, cut_drop, List.length_dropLast, List.length_drop]; omega
                  · refine exs_cons (ex_delItem (ev_local G rfl g7 (ev_local G rfl rfl (di_mu (by rw [St.put_mu, if_pos rfl]) (by simp; omega) (by omega) (by simp; omega) (exs_nil (exs_nil ⟨g1, g2, g3, g4, g5, ?_, g7, ?_⟩))))))
                    · rw [St.put_mu, if_neg (Ne.symm hcr), St.put_mu, if_neg (Ne.symm hcr)]; exact g6
                    · rw [if_neg (by omega), St.put_mu, if_pos rfl, hmg, cut_init, show (1 : Int) = ((1 : Nat) : Int) from rfl, cut_drop]
                      show some (((vstrs cs).set 0 _).eraseIdx 1) = _
                      rw [hct]
                      rfl
                · have hyx : x ≤ y := Nat.le_of_not_lt fun w => (of_decide_eq_false hc) (sing_lt.mpr w)
                  refine exs_nil (exs_nil ⟨g1, g2, g3, g4, g5, g6, g7, ?_⟩)
                  rw [show (σ7.set "k" (.int ((kk + 1 : Nat) : Int))).mu ca = σ7.mu ca from rfl, g8]
                  split
                  · rfl
                  · have hk0 : kk = 0 := by omega
                    subst hk0
                    obtain ⟨t, hct⟩ : ∃ t, cs = a :: b :: t := two_of ha hb
                    rw [hct]
                    show _ = some (vstrs (if b.headD 0 < a.getLastD 0 then _ else _))
                    rw [if_neg]
                    rw [List.getLastD_eq_getLast?, hx, List.headD_eq_head?_getD, hy]; exact Nat.not_lt.mpr hyx
              · obtain ⟨g1, g2, g3, g4, g5, g6, g7, g8⟩ := hI
                rw [if_neg (by omega)] at g8
                have hml := (mgd_sum cs).2
                refine exs_cons (ex_set G hL rfl (ev_joingen (ps := 0) (px := 0) (py := 0) (ca := ca) (cs := mgd cs) (sep := [45]) (f := rep 45 [92, 45]) G hq0 hh rfl rfl rfl (by decide +kernel) rfl rfl rfl rfl g7 g8 (by omega) rfl rfl (fun A' E' env l t s₂ m₂ Q' hl he hn hv hq => ?_) hjs ?_))
                · refine elt_text (by rw [he]) (by unfold Env.kindOf; rw [he]; rfl) hn hv ?_ ?_ rfl rfl rfl rfl hq (by rfl) (by rfl)
                  · intro h92
                    obtain ⟨q, hq, hx⟩ := mgd_mem hl h92
                    exact (hcs.chars q hq 92 hx).2.1 rfl
                  · have h1 := mem_len hl
                    have h2 := (mgd_sum cs).1
                    have h3 := sum_le_jn [45] cs
                    have h4 := hcs.len
                    omega
                · exact exs_nil ⟨rfl, g1, g2, g3, g4, g5, rfl, g6⟩
            | cons r' rr =>
              have hjn : jn [45] (r :: r' :: rr) = r ++ [45] ++ jn [45] (r' :: rr) := rfl
              rw [hjn] at n13 n14
              have hl14 : ii + r.length + 1 + (jn [45] (r' :: rr)).length = i + 1 + sx.length := by
                simp only [List.length_append, List.length_cons, List.length_nil] at n14; omega
              have hr2 := hat.2.2.1 (by simp)
              have hpos' : findc 45 pat (ii + (if D = [] then 1 else 2)) (i + 1 + sx.length) = ((ii + r.length : Nat) : Int) := by
                refine findc_at (by omega) (by omega) ?_ fun q hq1 hq2 => ?_
                · rw [get_of n13]; simp
                · obtain ⟨q', rfl⟩ : ∃ q', q = ii + q' := plus_back hq1
                  rw [get_of n13, List.append_assoc, List.append_assoc, List.getElem?_append_left (by omega)]
                  exact hat.2.1 q' (by omega)
              rw [hpos']
              refine exs_cons (ex_if (ts_cmp (ev_local G rfl rfl (ev_int (op_lt (tr_bool ⟨fun hb => ?_, fun _ => ?_⟩))))))
              · exfalso; simp at hb; omega
              have hcutr : cut (some (ii : Int)) (some ((ii + r.length : Nat) : Int)) pat = r := by
                rw [cut_eq, n13, show ii + r.length - ii = r.length from Nat.add_sub_cancel_left ..]; simp
              refine exs_nil (exs_cons (ex_expr (ev_meth (ev_local G rfl n7 ⟨"list.append", mt_append n8, evs_cons (ev_cuts (ev_local G rfl n1 ⟨_, rfl, hpl, evp_some (ev_local G rfl n9 ⟨_, rfl, evp_some (ev_local G rfl rfl ⟨_, rfl, evs_nil (cl_append n8 (by simp; omega) ?_)⟩)⟩)⟩))⟩)) rfl))
              rw [hcutr]
              refine exs_cons (ex_set G hL rfl (ev_binop (ev_local G rfl rfl (ev_int (op_add ?_)))))
              refine exs_cons (ex_set G hL rfl (ev_binop (ev_local G rfl rfl (ev_int (op_add ?_)))))
              refine exs_nil ⟨(D ++ [r], r' :: rr, ii + r.length + 1), by simp, n1, n2, n3, n4, n5, ?_, n7, ?_, by rw [show (((ii + r.length : Nat) : Int) + 1) = ((ii + r.length + 1 : Nat) : Int) by push_cast; rfl]; rfl, ?_, by rw [n11]; simp, by simp, ?_, hl14⟩
              · rw [St.set_mu, St.set_mu, St.put_mu, if_neg (Ne.symm hcr)]; exact n6
              · rw [St.set_mu, St.set_mu, St.put_mu, if_pos rfl]; simp
              · rw [if_neg (by simp)]
                rw [show (((ii + r.length : Nat) : Int) + 3) = ((ii + r.length + 1 + 2 : Nat) : Int) by push_cast; omega]; rfl
              · have := congrArg (List.drop (r.length + 1)) n13
                rw [List.drop_drop, ← Nat.add_assoc] at this
                rw [this]
                simp [List.drop_append]
          · obtain ⟨m1, m2, m3, m4, m6, m7, m8⟩ := hJ
            generalize hst : stuffOf cs = st' at m7 hstuff hstl hstl5 hjs
            refine exs_cons (ex_set G hL rfl (ev_sub (clos := []) G hq0 rfl rfl rfl rfl rfl rfl m7 (fun ch hc => (hstuff ch hc).1) hstl (by decide) (by decide) ?_))
            refine exs_cons (ex_set G hL rfl (ev_binop (ev_local G rfl m6 (ev_int (op_add ?_)))))
            rw [show (((i + 1 + sx.length : Nat) : Int) + 1) = ((i + (sx.length + 2) : Nat) : Int) by push_cast; omega]
            have hout : Pc.out (.br cs) = if st' = [] then [40, 63, 33, 41] else if st'.headD 0 = 91 then 91 :: ((92 :: st') ++ [93]) else 91 :: (st' ++ [93]) := by
              show brk cs = _
              unfold brk; rw [hst]
            rw [hout] at fin
            have h6l' : (vstrs (done.map Pc.out)).length ≤ 1000000 := h6l
            refine exs_cons (ex_if (ts_not (ts_value (ev_local G rfl rfl (tr_str hstl ⟨fun hb => ?_, fun hb => ?_⟩)))))
            · have h0 : st' = [] := by simpa using hb
              rw [if_pos h0] at fin
              refine exs_cons (ex_expr (ev_call G (ev_local G rfl m2 ⟨.bm _ _ _ (.inl rfl), evs_cons (ev_str (l := [40, 63, 33, 41]) rfl (evs_nil (cl_badd m8 h6l' ?_)))⟩)) rfl)
              refine exs_nil (exs_nil (exs_nil (exs_nil (exs_nil (exs_nil ?_)))))
              exact fin _ m1 m2 m3 m4 rfl (by rw [St.put_mu, if_pos rfl])
            · have h0 : st' ≠ [] := by simpa using hb
              obtain ⟨d, sr', hd0⟩ : ∃ d sr', st' = d :: sr' := List.exists_cons_of_ne_nil h0
              have hdm := hstuff d (by rw [hd0]; simp)
              rw [if_neg h0] at fin
              refine exs_cons (ex_if (ts_cmp (ev_local G rfl rfl (ev_str (l := [33]) rfl (op_eqs (tr_bool ⟨fun hb => ?_, fun _ => ?_⟩))))))
              · exfalso
                have : st' = [33] := by simpa using hb
                exact (hstuff 33 (by rw [this]; simp)).2 rfl
              have hd1 : st'[0]? = some d := by rw [hd0]; rfl
              have hhead : st'.headD 0 = d := by rw [hd0]; rfl
              rw [hhead] at fin
              refine exs_cons (ex_join (J62h pat ra done i sx st' d)
                (ex_if (ts_cmp (ev_idx (ev_local G rfl rfl (ev_int (it_strN (i := 0) (by omega) hd1 (ev_str (l := [33]) rfl (op_eqs (tr_bool ⟨fun hb => ?_, fun _ => ?_⟩)))))))) ) fun σ4 hJ => ?_)
              · exfalso
                have : d = 33 := by simpa using hb
                exact hdm.2 this
              · refine exs_cons (ex_if (ts_cmp (ev_idx (ev_local G rfl rfl (ev_int (it_strN (i := 0) (by omega) hd1 (ev_tuple (evs_cons (ev_str (l := [94]) rfl (evs_cons (ev_str (l := [91]) rfl (evs_nil ⟨by show 2 ≤ sizeLine; decide, op_int (l := [[94], [91]]) G (okS_of (by decide)) (by simp; have := hdm.1.1; omega) (tr_bool ⟨fun hb => ?_, fun hb => ?_⟩)⟩))))))))))))
                · have hd91 : d = 91 := by
                    have := hdm.1.1
                    simp at hb; omega
                  refine exs_cons (ex_set G hL rfl (ev_binop (ev_str (l := [92]) rfl (ev_local G rfl rfl (op_adds (by rw [PySem.sizeLine_eq]; show 1 + st'.length ≤ _; omega) ?_)))))
                  exact exs_nil (exs_nil ⟨rfl, m1, m2, m3, m4, rfl, by rw [if_pos hd91]; rfl, m8⟩)
                · have hd91 : d ≠ 91 := by
                    intro w; rw [w] at hb; simp at hb
                  exact exs_nil (exs_nil ⟨rfl, m1, m2, m3, m4, rfl, by rw [if_neg hd91]; rfl, m8⟩)
              · obtain ⟨r1, r2, r3, r4, r5, r6, r7⟩ := hJ
                have hstl3 : st'.length ≤ 5000 := by omega
                have hstl2 : (if d = 91 then 92 :: st' else st').length ≤ 5001 := by
                  split
                  · simp; omega
                  · omega
                refine exs_cons (ex_expr (ev_call G (ev_local G rfl r2 ⟨.bm _ _ _ (.inl rfl), evs_cons (ev_join (ev_str (l := [91]) rfl ⟨_, rfl, by decide, ev_fmt (ev_local G rfl r6 ⟨_, rfl, ?_, _, rfl, ?_, ev_str (l := [93]) rfl ⟨_, rfl, ?_, ?_, evs_nil (cl_badd r7 h6l' ?_)⟩⟩)⟩))⟩)) rfl)
                · omega
                · simp only [List.length_append, List.length_cons, List.length_nil]; omega
                · simp only [List.length_append, List.length_cons, List.length_nil]; omega
                · simp only [List.length_append, List.length_cons, List.length_nil]; omega
                · refine exs_nil (exs_nil (exs_nil (exs_nil (exs_nil (exs_nil (exs_nil ?_))))))
                  refine fin _ r1 r2 r3 r4 r5 ?_
                  rw [St.put_mu, if_pos rfl]
                  split <;> simp
    · have hi : i = pat.length := by simp at hb; omega
      have hrem : rem = [] := by
        cases rem with
        | nil => rfl
        | cons pc rem' =>
          exfalso
          rw [hi, List.drop_length] at h8
          have hfl : flat (pc :: rem') = pc.text ++ flat rem' := by simp [flat]
          rw [hfl] at h8
          cases pc <;> simp [Pc.text] at h8
      subst hrem
      rw [List.append_nil] at h7
      refine exs_cons (ex_assert (ts_cmp (ev_local G rfl h5 (ev_local G rfl h4 (op_eq (tr_bool ⟨by simp [hi], ?_⟩))))))
      refine exs_cons (ex_ret (ev_local G rfl h3 ⟨_, .ref h6 (Frzs.same ..), ?_⟩))
      rw [← h7]; exact hq
  · refine ⟨rfl, rfl, rfl, rfl, rfl, ?_, rfl, by rw [← hpat]; rfl, by show 0 ≤ _; omega⟩
    rw [St.set_mu, St.set_mu, St.set_mu, St.set_mu, St.put_mu, if_pos rfl]; rfl
theorem cl62 {c : Cx} {σ : St} {pcs : List Pc} {st : Addr} {Q : AV → St → Prop} (G : Gl c) (hd : c.A.depth < 590) (hu : c.A.units < 4900) (hh : c.A.handled = none) (hq0 : c.q = false) (hp : ∀ p ∈ pcs, OkPc p) (hlen : (flat pcs).length ≤ 5000) (hn : pcs.length ≤ 500) (h : Q (.list (vstrs (pcs.map Pc.out))) σ) : Cl c (.ref 62) [.str (flat pcs), .ref st, .str [46]] σ Q :=
  cl_def (as' := [.str (flat pcs), .ref st, .str [46]]) G (ok62 c.w) rfl (by omega) (by omega) (fun φ s vs R hc => ⟨vs, by obtain ⟨v, u, w, rfl, h1, h2, h3⟩ := concs3 hc; exact .of_eq rfl, hc⟩) fun L hLt => body62 c L pcs (.ref st) hp hlen hn _ (G.callee (ok62 c.w) (by omega) (by omega) hLt) hd hu hh hq0 h
theorem cl147 {c : Cx} {σ : St} {rows : List (List Int)} {Q : AV → St → Prop} (G : Gl c) (hd : c.A.depth < 590) (hu : c.A.units < 4900) (hh : c.A.handled = none) (hr : rows.length ≤ 20) (hne : rows ≠ []) (hrow : ∀ r ∈ rows, okRow r) (h : Q (.list ((itemsOf rows).map vitem)) σ) : Cl c (.ref 147) [.list (vrows rows)] σ Q :=
  cl_def (as' := [.list (vrows rows)]) G (ok147 c.w) rfl (by omega) (by omega) (fun φ s vs R hc => ⟨vs, by obtain ⟨v, rfl, h1⟩ := concs1 hc; exact .of_eq rfl, hc⟩) fun L hLt => body147 c L rows hr hne hrow _ (G.callee (ok147 c.w) (by omega) (by omega) hLt) hd hu hh h
end Mine
end

section
open PySem PySem.W PyProof.Rows PySem.Calls
set_option Elab.async false
set_option maxRecDepth 100000
set_option maxHeartbeats 4000000
set_option linter.unusedVariables false
namespace Mine

theorem mro_object : mroOf (.type "object") = pure [.type "object"] := by kernel_rfl
theorem lookup_object_new : typeLookup (.type "object") "__new__" = pure (some (.builtin "object.__new__")) := by rw [typeLookup_type, builtinLookup_eq_fast]; kernel_rfl
theorem canCreate_object : ((Manifest.find? "object").bind (·.mro.findSome? fun t => (Manifest.find? t).bind fun b => if b.noNew then some true else if b.attrs.any (·.1 == "__new__") then some false else none)).getD false = false := by decide +kernel
theorem plain_object_new : plainId "object.__new__" = true := by decide +kernel
theorem sub_object : isSubtype (.type "object") (.type "object") = pure true := by rw [isSubtype_type]; kernel_rfl
theorem made_object : Bind.madeBy (.type "object") = pure (some "object.__new__") := madeBy_type mro_object lookup_object_new (by decide +kernel)
theorem typeCall_object : checkTypeCall "object" ⟨[], []⟩ = pure () := by kernel_rfl
theorem newCall_object : checkBuiltinCall "object.__new__" ⟨[.type "object"], []⟩ = pure () := by kernel_rfl
theorem called_object : TypeCalled "object" "object.__new__" "object.__init__" :=
  ⟨by decide +kernel, canCreate_object, ⟨_, _, mro_object⟩, made_object, plain_object_new, sub_object, PySem.F.slot_object_init⟩
noncomputable def objO : Obj := { cls := .type "object", data := .plain }
theorem isType_object : isType (.type "object") = pure true := by kernel_rfl
theorem madeHere_object : Bind.madeHere "object.__new__" (.type "object") = pure () := by
  unfold Bind.madeHere
  kernel_rfl
theorem meets_object_new : Meets (Builtin.«object.__new__» ⟨[.type "object"], []⟩) (fun _ R s => R (.ok (.ret (.ref s.heap.objs.size))) { s with heap := s.heap.push objO }) :=
  .of_wp fun prog w A R s h => by
    have h1 := isType_object
    have h2 := madeHere_object
    have h3 : ((Manifest.find? "object").elim false (·.mro.any fun t => (Manifest.find? t).elim false (·.noNew))) = false := by decide +kernel
    have h4 : typeHasDict (.type "object") = false := by decide +kernel
    have h5 : diesByItsTypesDel "object" = false := by decide +kernel
    unfold Builtin.«object.__new__»
    repeat (any_goals (first | assumption | wp_step))
    exact ⟨_, rfl, h⟩
theorem call_object {prog : Program} {w : World} {A : Around} {E : Value → Shared → Prop} {s : Shared} {Q : Value → Shared → Prop} (h : Q (.ref s.heap.objs.size) { s with heap := s.heap.push objO }) : wpAny (model prog w) A (call (.type "object") []) Q E s :=
  callType_meets (Q₁ := fun obj s₁ => obj = .ref s.heap.objs.size ∧ s₁ = { s with heap := s.heap.push objO }) called_object typeCall_object newCall_object PySem.F.entry_object_new PySem.F.entry_object_init meets_object_new ⟨rfl, rfl⟩ fun obj s₁ hq => by
    obtain ⟨rfl, rfl⟩ := hq
    exact ⟨⟨_, Heap.get?_push_size _ rfl, rfl⟩, PySem.F.args_object_init_1 _, _, Meets.of_wp (S := fun _ R s => R (.ok (.ret .none)) s) fun prog w A R s h => wpAny_pure ⟨_, rfl, h⟩, rfl, h⟩
theorem cl_object {c : Cx} {σ : St} {Q : AV → St → Prop} (h : ∀ a, Q (.ref a) σ) : Cl c (.ty "object") [] σ Q := fun φ s fv vs R hf hv => by
  cases hf; cases hv
  exact lift R.tk (call_object (post_grown (tk := s.toks) R.toRel0 (push_k _ _) (.ref _) (h _)))

theorem ev_callty0 {c : Cx} {σ : St} {x : Str} {np pos} {Q : AV → St → Prop} (h : Ev c (.Name x np) σ fun f σ₁ => ∃ T, f = .ty T ∧ Cl c f [] σ₁ Q) : Ev c (.Call (.Name x np) [] [] pos) σ Q := fun φ s R =>
  wpAny_Call_ofName ((h φ s R).then fun φ₁ σ₁ s₁ f fv x₁ R₁ hc₁ h₁ => by
    obtain ⟨T, rfl, h₁⟩ := h₁
    cases hc₁
    exact PyProof.Rows.callWith_type0 ((h₁ φ₁ s₁ _ _ R₁ (.ty _) .nil).after x₁))

theorem ok43 (w : World) : FnOk (KK w) 43 (fnD 43) (fnB 43) ["pat"] where
  obj := ⟨_, _, _, rfl⟩
  code := rfl
  body := rfl
  cell := by decide +kernel
  loc := by decide +kernel
  co := rfl
  gen := rfl
  fn := rfl
  gl := rfl
  bl := rfl
theorem body43 (c : Cx) (L : Addr) (pcs : List Pc) (hp : ∀ p ∈ pcs, OkPc p) (hlen : (flat pcs).length ≤ 5000) (hn : pcs.length ≤ 500) (hj : jsum [] (pcs.map Pc.out) ≤ 900000) (Q : AV → Prop) (G : Gl (calleeCx c (fnD 43) 43 L)) (hd : c.A.depth < 580) (hu : c.A.units < 4800) (hh : c.A.handled = none) (hq0 : c.q = false)
    (hq : Q (.str (frame (pcs.map Pc.out)))) :
    Exs (calleeCx c (fnD 43) 43 L) (fnB 43) (startSt ["pat"] [.str (flat pcs)]) (Gives Q) := by
  have hL : (calleeCx c (fnD 43) 43 L).env.locals ∈ (calleeCx c (fnD 43) 43 L).own := .head _
  have hd' : (calleeCx c (fnD 43) 43 L).A.depth < 590 := by show c.A.depth + 1 < 590; omega
  have hu' : (calleeCx c (fnD 43) 43 L).A.units < 4900 := by show c.A.units + 3 < 4900; omega
  have hjl : (jn [] (pcs.map Pc.out)).length ≤ 900000 := Nat.le_trans (jn_len _ _) hj
  refine exs_cons (ex_set G hL rfl (ev_callty0 (ev_builtin G rfl rfl rfl (.ty _) ⟨_, rfl, cl_object fun sa => ?_⟩)))
  refine exs_cons (ex_set G hL rfl (ev_call G (ev_global G rfl rfl ⟨.ref _ rfl, evs_cons (ev_local G rfl rfl (evs_cons (ev_local G rfl rfl (evs_cons (ev_str (l := [46]) rfl (evs_nil (cl62 G hd' hu' hh hq0 hp hlen hn ?_)))))))⟩)))
  refine exs_cons (ex_ret (ev_call G (ev_global G rfl rfl ⟨.ref _ rfl, evs_cons (ev_local G rfl rfl (evs_cons (ev_local G rfl rfl (evs_nil (cl69 G (by omega) (by omega) hh (by simp; omega) hj hjl ⟨_, .same _, hq⟩)))))⟩)))
theorem cl43 {c : Cx} {σ : St} {pcs : List Pc} {Q : AV → St → Prop} (G : Gl c) (hd : c.A.depth < 580) (hu : c.A.units < 4800) (hh : c.A.handled = none) (hq0 : c.q = false) (hp : ∀ p ∈ pcs, OkPc p) (hlen : (flat pcs).length ≤ 5000) (hn : pcs.length ≤ 500) (hj : jsum [] (pcs.map Pc.out) ≤ 900000) (h : Q (.str (frame (pcs.map Pc.out))) σ) : Cl c (.ref 43) [.str (flat pcs)] σ Q :=
  cl_def (as' := [.str (flat pcs)]) G (ok43 c.w) rfl (by omega) (by omega) (fun φ s vs R hc => ⟨vs, by obtain ⟨v, rfl, h1⟩ := concs1 hc; exact .of_eq rfl, hc⟩) fun L hLt => body43 c L pcs hp hlen hn hj _ (G.callee (ok43 c.w) (by omega) (by omega) hLt) hd hu hh hq0 h
end Mine
end

section
open PySem PySem.W PyProof.Rows PySem.Calls
set_option Elab.async false
set_option maxRecDepth 100000
set_option maxHeartbeats 4000000
set_option linter.unusedVariables false
namespace Mine

structure Fro (c : Cx) (s : Shared) : Prop where
  fr : ∃ l, c.A.frames = some (c.env :: l) ∧ ∀ env ∈ l, env.scope.kind ≠ .module ∧ ∃ L o, env.frame = some L ∧ L ∈ c.outs ∧ s.heap.get? L = some o ∧ ∀ vs, o.data ≠ .fields vs
  me : c.env.frame = some c.env.locals
  own : c.env.locals ∈ c.own
  kind : c.env.scope.kind ≠ .module
  tabs : tabC ∉ c.own ∧ tabP ∉ c.own ∧ tabC ∉ c.outs ∧ tabP ∉ c.outs

section
variable {c : Cx} {φ φ' : PH} {σ σ' : St} {s s' : Shared}
theorem Fro.ext (F : Fro c s) (x : Ext c φ σ s φ' σ' s') : Fro c s' := by
  obtain ⟨l, h1, h2⟩ := F.fr
  refine ⟨⟨l, h1, fun env he => ?_⟩, F.me, F.own, F.kind, F.tabs⟩
  obtain ⟨k, L, o, e1, e2, e3, e4⟩ := h2 env he
  obtain ⟨sl, e5⟩ := x.fo L o e2 e3
  exact ⟨k, L, _, e1, e2, e5, e4⟩

noncomputable def loose (o : Obj) : Prop := match o.data with
  | .fields _ => True
  | .plain => True
  | _ => False
theorem loose_fields {o : Obj} {vs : Array Value} (h : o.data = .fields vs) : loose o := by unfold loose; rw [h]; trivial
structure Off (c : Cx) (φ : PH) (σ : St) (h : Heap) (b : Addr) : Prop where
  φ : φ b = none
  mu : σ.mu b = none
  own : b ∉ c.own
  outs : b ∉ c.outs
  tabs : b ≠ tabC ∧ b ≠ tabP
  dat : ∃ o, h.get? b = some o ∧ loose o
structure Still (c : Cx) (hid : List Addr) (h h' : Heap) : Prop where
  k : ∀ b o, b ∉ hid → b ∉ c.own → b ∉ c.outs → h.get? b = some o → h'.get? b = some o
  ks : ∀ b o, b ∈ c.own ∨ b ∈ c.outs → h.get? b = some o → ∃ sl, h'.get? b = some { o with slots := sl }
  al : ∀ b, (h.get? b).isSome = true → (h'.get? b).isSome = true
theorem Still.sl {hid : List Addr} {h h' : Heap} (k : Still c hid h h') {b : Addr} {o : Obj} (hb : b ∉ hid) (e : h.get? b = some o) : ∃ sl, h'.get? b = some { o with slots := sl } := by
  by_cases h1 : b ∈ c.own
  · exact k.ks b o (.inl h1) e
  · by_cases h2 : b ∈ c.outs
    · exact k.ks b o (.inr h2) e
    · exact ⟨o.slots, k.k b o hb h1 h2 e⟩
theorem Rel0.still (R : Rel0 c φ σ s) (F : Fro c s) {hid : List Addr} {h' : Heap} {tk : Nat} (hh : ∀ b ∈ hid, Off c φ σ s.heap b) (k : Still c hid s.heap h') : Rel0 c φ σ { s with heap := h', toks := tk } := by
  have nd : ∀ b o, ¬ loose o → s.heap.get? b = some o → b ∉ hid := fun b o hd e q => by
    obtain ⟨o', e', hd'⟩ := (hh b q).dat
    rw [e] at e'; cases e'; exact hd hd'
  refine ⟨R.base, fun a o e => ?_, ?_, fun p hp => ?_, R.cdist, fun a ha => ?_, fun a ha => ?_, fun a xs e => ?_, ?_, R.gens, R.os, R.pt⟩
  · exact k.k a o (fun q => by rw [(hh a q).φ] at e; cases e) (fun q => by rw [(R.own a q).1] at e; cases e) (fun q => by rw [(R.outs a q).1] at e; cases e) (R.keep _ _ e)
  · obtain ⟨m, ⟨oL, es, ep, hL, hd, r⟩, h⟩ := R.ns
    obtain ⟨sl, hL'⟩ := k.sl (nd _ _ (by unfold loose; rw [hd]; exact id) hL) hL
    exact ⟨m, ⟨{ oL with slots := sl }, es, ep, hL', hd, r⟩, h⟩
  · obtain ⟨ob, v, e, hd, r⟩ := R.cells p hp
    obtain ⟨sl, e'⟩ := k.sl (nd _ _ (by unfold loose; rw [hd]; exact id) e) e
    exact ⟨{ ob with slots := sl }, v, e', hd, r⟩
  · obtain ⟨h1, h2, h3⟩ := R.own a ha
    exact ⟨h1, h2, k.al _ h3⟩
  · obtain ⟨h1, h2, h3, h4⟩ := R.outs a ha
    exact ⟨h1, h2, k.al _ h3, h4⟩
  · obtain ⟨h1, o, h2, h3⟩ := R.mu a xs e
    obtain ⟨it, n, rfl, hs⟩ := id h3
    exact ⟨h1, _, k.k a _ (nd _ _ id h2) (fun q => by have := (R.own a q).2.1; rw [e] at this; cases this) (fun q => by have := (R.outs a q).2.1; rw [e] at this; cases this) h2, h3⟩
  · obtain ⟨ps, t1, t2⟩ := R.tab
    have nC : tabC ∉ hid := fun q => (hh _ q).tabs.1 rfl
    have nP : tabP ∉ hid := fun q => (hh _ q).tabs.2 rfl
    have kC : ∀ o, s.heap.get? tabC = some o → h'.get? tabC = some o := fun o e => k.k _ _ nC F.tabs.1 F.tabs.2.2.1 e
    have kP : ∀ o, s.heap.get? tabP = some o → h'.get? tabP = some o := fun o e => k.k _ _ nP F.tabs.2.1 F.tabs.2.2.2 e
    have kk : ∀ b o, b ∉ hid → b ∉ c.own → b ∉ c.outs → s.heap.get? b = some o → h'.get? b = some o := k.k
    obtain ⟨o, vs, file, tf, flags, tg, inF, text, tt, op, e1, e2, e3, e4, e5, e6, e7, e8, e9, e10, e11⟩ := t1
    obtain ⟨⟨o', vs', a1, a2, a3, a4⟩, a5⟩ := t2
    exact ⟨ps, ⟨o, vs, file, tf, flags, tg, inF, text, tt, op, kC _ e1, e2, e3, e4, e5, e6, e7, kP _ e8, e9, e10, e11⟩, ⟨⟨o', vs', kC _ a1, a2, a3, a4⟩, kP _ a5⟩⟩
theorem Ext.still {s₀ : Shared} {φ₀ : PH} {σ₀ : St} (x : Ext c φ₀ σ₀ s₀ φ σ s) (R₀ : Rel0 c φ₀ σ₀ s₀) (F : Fro c s) {hid : List Addr} {h' : Heap} {tk : Nat} (hh : ∀ b ∈ hid, s₀.heap.get? b = none) (k : Still c hid s.heap h') : Ext c φ₀ σ₀ s₀ φ σ { s with heap := h', toks := tk } := by
  have nh : ∀ {b o}, s₀.heap.get? b = some o → b ∉ hid := fun e q => by rw [hh _ q] at e; cases e
  refine ⟨x.le, fun a o h0 h1 h2 h3 e => k.k a o (nh e) h1 h2 (x.fr a o h0 h1 h2 h3 e), fun a o h e => ?_, fun a e => k.al _ (x.al _ e), x.nφ, x.nm, fun q => ⟨(x.gd q).1, (x.gd q).2.1, fun o e => k.k _ _ (nh e) F.tabs.2.1 F.tabs.2.2.2 ((x.gd q).2.2 o e)⟩⟩
  obtain ⟨sl, e1⟩ := x.fo a o h e
  obtain ⟨sl', e2⟩ := k.ks a _ (.inr h) e1
  exact ⟨sl', e2⟩

structure Exn (c : Cx) (φ : PH) (σ : St) (h₀ : Heap) (cls : String) (kn : Bool) (e : Addr) (nt : Bool) (h : Heap) : Prop where
  off : Off c φ σ h e
  new : h₀.get? e = none
  it : ∃ oe vs a0, h.get? e = some oe ∧ oe.cls = .type cls ∧ oe.data = .fields vs ∧ vs[0]? = some a0 ∧ (kn = true → vs[2]? = some .none) ∧ 2 < vs.size ∧
    ((nt = false ∧ vs[1]? = some .none) ∨ ∃ T oT ts, vs[1]? = some (.ref T) ∧ T ≠ e ∧ Off c φ σ h T ∧ h₀.get? T = none ∧ h.get? T = some oT ∧ oT.data = .fields ts ∧ (ts[3]? = some .none ∨ ts[3]? = some (rawInt c.env.locals)))
theorem Off.of {h h' : Heap} {b : Addr} (x : Off c φ σ h b) (d : ∃ o, h'.get? b = some o ∧ loose o) : Off c φ σ h' b := ⟨x.φ, x.mu, x.own, x.outs, x.tabs, d⟩

theorem Exn.weak {h₀ : Heap} {cls : String} {kn : Bool} {e : Addr} {h : Heap} (X : Exn c φ σ h₀ cls kn e true h) : Exn c φ σ h₀ cls kn e false h := by
  obtain ⟨h1, h2, oe, vs, a0, e1, e2, e3, e4, e5, e6, e7⟩ := X
  refine ⟨h1, h2, oe, vs, a0, e1, e2, e3, e4, e5, e6, ?_⟩
  rcases e7 with ⟨w, _⟩ | w
  · cases w
  · exact .inr w
theorem Exn.base {h₀ h₁ : Heap} {cls : String} {kn nt : Bool} {e : Addr} {h : Heap} (X : Exn c φ σ h₁ cls kn e nt h) (k : ∀ b, h₁.get? b = none → h₀.get? b = none) : Exn c φ σ h₀ cls kn e nt h := by
  obtain ⟨h1, h2, oe, vs, a0, e1, e2, e3, e4, e5, e6, e7⟩ := X
  refine ⟨h1, k _ h2, oe, vs, a0, e1, e2, e3, e4, e5, e6, ?_⟩
  rcases e7 with w | ⟨T, oT, ts, t1, t2, t3, t4, t5⟩
  · exact .inl w
  · exact .inr ⟨T, oT, ts, t1, t2, t3, k _ t4, t5⟩
theorem Exn.kn {h₀ : Heap} {cls : String} {kn nt : Bool} {e : Addr} {h : Heap} (X : Exn c φ σ h₀ cls kn e nt h) : Exn c φ σ h₀ cls false e nt h := by
  obtain ⟨h1, h2, oe, vs, a0, e1, e2, e3, e4, e5, e6, e7⟩ := X
  exact ⟨h1, h2, oe, vs, a0, e1, e2, e3, e4, fun w => (by cases w), e6, e7⟩

theorem Fro.frames (F : Fro c s) (R : Rel0 c φ σ s) {hid : List Addr} (hh : ∀ b ∈ hid, Off c φ σ s.heap b) : ∃ l, c.A.frames = some (c.env :: l) ∧ (∀ b ∈ (c.env :: l).filterMap (·.frame), b ∈ c.own ∨ b ∈ c.outs) ∧
    s.heap.FunFrames (hideAll s.heap (hid ++ (c.env :: l).filterMap (·.frame))) (c.env :: l) := by
  obtain ⟨l, h1, h2⟩ := F.fr
  have hin : ∀ l' : List Env, (∀ env ∈ l', env.scope.kind ≠ .module ∧ ∃ L o, env.frame = some L ∧ L ∈ c.outs ∧ s.heap.get? L = some o ∧ ∀ vs, o.data ≠ .fields vs) → (∀ env ∈ l', ∀ L, env.frame = some L → L ∈ hid ++ (c.env :: l).filterMap (·.frame)) →
      s.heap.FunFrames (hideAll s.heap (hid ++ (c.env :: l).filterMap (·.frame))) l' := by
    intro l'
    induction l' with
    | nil => intros; trivial
    | cons env l' ih =>
      intro k1 k2
      obtain ⟨a, L, o, b1, b2, b3, b4⟩ := k1 env (.head _)
      exact ⟨a, ⟨L, o, b1, hideAll_none _ (k2 env (.head _) L b1), b3, b4⟩, ih (fun e he => k1 e (.tail _ he)) fun e he => k2 e (.tail _ he)⟩
  refine ⟨l, h1, fun b hb => ?_, F.kind, ?_, hin l h2 fun env he L e => ?_⟩
  · rw [List.filterMap_cons, F.me] at hb
    rcases List.mem_cons.mp hb with rfl | hb
    · exact .inl F.own
    · obtain ⟨env, he, hf⟩ := List.mem_filterMap.mp hb
      obtain ⟨_, L, _, b1, b2, _⟩ := h2 env he
      rw [b1] at hf; cases hf; exact .inr b2
  · obtain ⟨m, ⟨oL, es, ep, hL, hd, r⟩, h⟩ := R.ns
    refine ⟨c.env.locals, oL, F.me, hideAll_none _ (List.mem_append.mpr (.inr ?_)), hL, fun vs q => by rw [hd] at q; cases q⟩
    rw [List.filterMap_cons, F.me]; exact .head _
  · exact List.mem_append.mpr (.inr (List.mem_filterMap.mpr ⟨env, .tail _ he, e⟩))

end
end Mine
end

section
open PySem PySem.W PyProof.Rows PySem.Calls
set_option Elab.async false
set_option maxRecDepth 100000
set_option maxHeartbeats 4000000
set_option linter.unusedVariables false
namespace Mine
section
variable {c : Cx} {φ φ' : PH} {σ σ' : St} {s s' : Shared} {M : Model} {A : Around} {E : Value → Shared → Prop}

theorem Rel0.tabC_alive (R : Rel0 c φ σ s) : (s.heap.get? tabC).isSome = true := by
  obtain ⟨ps, t1, _⟩ := R.tab
  obtain ⟨o, vs, file, tf, flags, tg, inF, text, tt, op, ho, hd, _⟩ := t1
  exact isSome_of ho
theorem Rel0.tabP_alive (R : Rel0 c φ σ s) : (s.heap.get? tabP).isSome = true := by
  obtain ⟨ps, _, t2⟩ := R.tab
  exact isSome_of t2.2
theorem Rel0.off_new (R : Rel0 c φ σ s) {b : Addr} (hn : s.heap.get? b = none) {h' : Heap} (d : ∃ o, h'.get? b = some o ∧ loose o) : Off c φ σ h' b := by
  have F := R.fresh hn
  refine ⟨F.φ, F.mu, F.own, F.outs, ⟨fun w => ?_, fun w => ?_⟩, d⟩
  · have := R.tabC_alive; rw [← w, hn] at this; cases this
  · have := R.tabP_alive; rw [← w, hn] at this; cases this
theorem none_of {h₀ h : Heap} {b : Addr} (al : ∀ b, (h₀.get? b).isSome = true → (h.get? b).isSome = true) (e : h.get? b = none) : h₀.get? b = none := by
  cases q : h₀.get? b with
  | none => rfl
  | some o => have := al b (isSome_of q); rw [e] at this; cases this

theorem wp_entry {base : Heap} {env : Env} {outer : List Env} {L e : Addr} {oe : Obj} {vs : Array Value} {head : Value} {hadNext : Bool} {Q : Unit → Shared → Prop}
    (hfr : A.frames = some (env :: outer)) (hl : s.heap.FunFrames base (env :: outer)) (hf : env.frame = some L) (he : s.heap.get? e = some oe) (hd : oe.data = .fields vs) (hsz : 1 < vs.size) (heL : e ∉ (env :: outer).filterMap (·.frame))
    (h : ∀ h' T oT ts, s.heap.get? T = none → (∀ b o, b ≠ e → b ∉ (env :: outer).filterMap (·.frame) → s.heap.get? b = some o → h'.get? b = some o) → (∀ b o, b ≠ e → s.heap.get? b = some o → ∃ sl, h'.get? b = some { o with slots := sl }) →
      h'.get? e = some (oe.mapFields (·.setIfInBounds 1 (.ref T))) → h'.get? T = some oT → oT.data = .fields ts → ts[3]? = some (rawInt L) → Q () { s with heap := h' }) :
    wpAny M A (do let a ← frameOf env; let pl ← entryPlaceOf L hadNext; let b ← EntryCells.newEntry head a .none (rawInt L) .none pl; setField (.ref e) 1 b) Q E s := by
  refine wpAny_bind (wpAny_frameOf_fun hfr hl hf fun h₁ hs₁ => ?_)
  refine wpAny_bind (wpAny_entryPlaceOf fun pl hpl => ?_)
  unfold EntryCells.newEntry newFields
  refine wpAny_bind (wpAny_newObj_type ?_ (hpl.sizeOk5 _ _ _ _ _))
  have he₁ : h₁.get? e = some oe := (hs₁.2.1 e heL).trans he
  have he₂ := Heap.get?_push_of_some (h := h₁) { cls := .type "traceback", dict := none, data := .fields ([head, .ref L, .none, rawInt L, .none] ++ (if pl.isEmpty then List.replicate 6 Value.none else pl)).toArray } he₁
  refine wpAny_setField he₂ hd hsz ?_
  have hTe : h₁.objs.size ≠ e := Nat.ne_of_gt (Heap.lt_size he₁)
  have he₃ := Heap.get?_update_self (Obj.mapFields (·.setIfInBounds 1 (Value.ref h₁.objs.size))) he₂ (Obj.isFreed_of_fields (Obj.data_mapFields hd _))
  have hT₃ := (Heap.get?_update_other (h₁.push { cls := .type "traceback", dict := none, data := .fields ([head, .ref L, .none, rawInt L, .none] ++ (if pl.isEmpty then List.replicate 6 Value.none else pl)).toArray })
    (Obj.mapFields (·.setIfInBounds 1 (Value.ref h₁.objs.size))) (Ne.symm hTe)).trans (Heap.get?_push_size h₁ rfl)
  have keep : ∀ b o, b ≠ e → h₁.get? b = some o → ((h₁.push { cls := .type "traceback", dict := none, data := .fields ([head, .ref L, .none, rawInt L, .none] ++ (if pl.isEmpty then List.replicate 6 Value.none else pl)).toArray }).update e (Obj.mapFields (·.setIfInBounds 1 (Value.ref h₁.objs.size)))).get? b = some o := fun b o hbe hb => by
    rw [Heap.get?_update_other _ _ (Ne.symm hbe)]
    exact Heap.get?_push_of_some _ hb
  refine h _ h₁.objs.size _ _ ?_ (fun b o hb hbf e => keep b o hb ((hs₁.2.1 b hbf).trans e)) (fun b o hb e => ?_) he₃ hT₃ rfl ?_
  · cases q : s.heap.get? h₁.objs.size with
    | none => rfl
    | some o => obtain ⟨sl, q'⟩ := hs₁.2.2 _ _ q; exact absurd (Heap.lt_size q') (Nat.lt_irrefl _)
  · obtain ⟨sl, q'⟩ := hs₁.2.2 _ _ e
    exact ⟨sl, keep b _ hb q'⟩
  · first | (simp; done) | (rcases hpl with rfl | ⟨_, _, _, _, _, _, _, rfl⟩ <;> simp)

theorem noteF {h₀ : Heap} {cls : String} {kn nt : Bool} {e : Addr} {Q : Unit → Shared → Prop} (R : Rel0 c φ σ s) (F : Fro c s) (hA : A.frames = c.A.frames) (X : Exn c φ σ h₀ cls kn e nt s.heap) (al : ∀ b, (h₀.get? b).isSome = true → (s.heap.get? b).isSome = true)
    (hQ : ∀ h' hid, (∀ b ∈ hid, Off c φ σ s.heap b ∧ h₀.get? b = none) → Still c hid s.heap h' → Exn c φ σ h₀ cls kn e true h' → Q () { s with heap := h' }) : wpAny M A (noteFrame (.ref e) c.env) Q E s := by
  obtain ⟨off, new, oe, vs, a0, he, hc, hd, h0, h2, hsz, hfl⟩ := id X
  obtain ⟨l, hfr, hfs, hff⟩ := F.frames R (hid := []) (by simp)
  have efs : ∀ b, Off c φ σ s.heap b → b ∉ (c.env :: l).filterMap (·.frame) := fun b o q => (hfs b q).elim o.own o.outs
  rcases hfl with ⟨_, h1⟩ | ⟨T, oT, ts, h1, hTe, offT, newT, hT, hdT, h3⟩
  · unfold noteFrame
    simp only [F.me]
    refine wpAny_bind (wpAny_field he hd h1 ?_)
    rw [if_neg (by decide)]
    refine wp_entry (hA.trans hfr) hff F.me he hd (by omega) (efs e off) fun h' T oT ts hTn k1 k2 k3 k4 k5 k6 => ?_
    have hde : (oe.mapFields (·.setIfInBounds 1 (.ref T))).data = .fields (vs.setIfInBounds 1 (.ref T)) := Obj.data_mapFields hd _
    refine hQ h' [e] (fun b hb => by rw [List.mem_singleton.mp hb]; exact ⟨off, new⟩) ⟨fun b o h1 h2 h3 q => k1 b o (by simpa using h1) (fun w => (hfs b w).elim h2 h3) q, fun b o hb q => k2 b o (fun w => by rw [w] at hb; exact hb.elim off.own off.outs) q, fun b q => ?_⟩
      ⟨off.of ⟨_, k3, loose_fields hde⟩, new, _, _, a0, k3, by rw [Obj.cls_mapFields]; exact hc, hde, by rw [Array.getElem?_setIfInBounds_ne (by decide)]; exact h0, fun w => by rw [Array.getElem?_setIfInBounds_ne (by decide)]; exact h2 w, by rw [Array.size_setIfInBounds]; exact hsz,
        .inr ⟨T, oT, ts, by simp [show 1 < vs.size by omega], (fun w => by rw [w, he] at hTn; cases hTn), R.off_new hTn ⟨_, k4, loose_fields k5⟩, none_of al hTn, k4, k5, .inr k6⟩⟩
    obtain ⟨o, q⟩ := Option.isSome_iff_exists.mp q
    by_cases w : b = e
    · rw [w]; exact isSome_of k3
    · obtain ⟨sl, z⟩ := k2 b o w q; exact isSome_of z
  · rcases h3 with h3 | h3
    · have noF : ∀ b o, s.heap.get? b = some o → (∀ vs, o.data ≠ .fields vs) → b ≠ T := fun b o hb hnf q => by
        rw [q, hT] at hb; cases hb; exact hnf ts hdT
      have other : ∀ b, b ≠ T → (s.heap.update T (Obj.mapFields (·.setIfInBounds 3 Value.none))).get? b = s.heap.get? b := fun b hb => Heap.get?_update_other _ _ (Ne.symm hb)
      have hTs := Heap.get?_update_self (Obj.mapFields (·.setIfInBounds 3 Value.none)) hT (Obj.isFreed_of_fields (Obj.data_mapFields hdT _))
      unfold noteFrame
      simp only [F.me]
      refine wpAny_bind (wpAny_field he hd h1 ?_)
      rw [if_pos (show (Value.ref T != Value.none) = true from by simp)]
      refine wpAny_bind (wpAny_field hT hdT h3 ?_)
      rw [if_neg (show ¬ ((Value.none == rawInt c.env.locals) = true) from by simp [rawInt])]
      refine wpAny_bind (wpAny_setField hT hdT (Array.getElem?_eq_some_iff.mp h3).1 ?_)
      refine wp_entry (s := { s with heap := s.heap.update T (Obj.mapFields (·.setIfInBounds 3 Value.none)) }) (hA.trans hfr) (hff.of_keeps fun b o hb hnf => ⟨o, (other b (noF b o hb hnf)).trans hb, rfl⟩) F.me ((other e (Ne.symm hTe)).trans he) hd (by omega) (efs e off) fun h' U oU us hUn k1 k2 k3 k4 k5 k6 => ?_
      have hde : (oe.mapFields (·.setIfInBounds 1 (.ref U))).data = .fields (vs.setIfInBounds 1 (.ref U)) := Obj.data_mapFields hd _
      have hUn' : s.heap.get? U = none := by
        cases q : s.heap.get? U with
        | none => rfl
        | some o =>
          by_cases w : U = T
          · rw [w] at hUn; rw [hTs] at hUn; cases hUn
          · have := (other U w).trans q; rw [hUn] at this; cases this
      refine hQ h' [e, T] (fun b hb => ?_) ⟨fun b o h1 h2 h3 q => ?_, fun b o hb q => ?_, fun b q => ?_⟩
        ⟨off.of ⟨_, k3, loose_fields hde⟩, new, _, _, a0, k3, by rw [Obj.cls_mapFields]; exact hc, hde, by rw [Array.getElem?_setIfInBounds_ne (by decide)]; exact h0, fun w => by rw [Array.getElem?_setIfInBounds_ne (by decide)]; exact h2 w, by rw [Array.size_setIfInBounds]; exact hsz,
          .inr ⟨U, oU, us, by simp [show 1 < vs.size by omega], (fun w => by rw [w, he] at hUn'; cases hUn'), R.off_new hUn' ⟨_, k4, loose_fields k5⟩, none_of al hUn', k4, k5, .inr k6⟩⟩
      · rcases List.mem_cons.mp hb with w | w
        · rw [w]; exact ⟨off, new⟩
        · rw [List.mem_singleton.mp w]; exact ⟨offT, newT⟩
      · have hbe : b ≠ e := fun w => h1 (by simp [w])
        have hbT : b ≠ T := fun w => h1 (by simp [w])
        exact k1 b o hbe (fun w => (hfs b w).elim h2 h3) ((other b hbT).trans q)
      · have hbe : b ≠ e := fun w => by rw [w] at hb; exact hb.elim off.own off.outs
        have hbT : b ≠ T := fun w => by rw [w] at hb; exact hb.elim offT.own offT.outs
        exact k2 b o hbe ((other b hbT).trans q)
      · obtain ⟨o, q⟩ := Option.isSome_iff_exists.mp q
        by_cases w : b = e
        · rw [w]; exact isSome_of k3
        · by_cases w' : b = T
          · rw [w'] at w ⊢
            obtain ⟨sl, z⟩ := k2 T _ w hTs; exact isSome_of z
          · obtain ⟨sl, z⟩ := k2 b o w ((other b w').trans q); exact isSome_of z
    · unfold noteFrame
      simp only [F.me]
      refine wpAny_bind (wpAny_field he hd h1 ?_)
      rw [if_pos (show (Value.ref T != Value.none) = true from by simp)]
      refine wpAny_bind (wpAny_field hT hdT h3 ?_)
      rw [if_pos (show (rawInt c.env.locals == rawInt c.env.locals) = true from by simp)]
      refine wpAny_pure (hQ s.heap [] (by simp) ⟨fun _ _ _ _ _ q => q, fun b o _ q => ⟨o.slots, q⟩, fun _ q => q⟩ ⟨off, new, oe, vs, a0, he, hc, hd, h0, h2, hsz, .inr ⟨T, oT, ts, h1, hTe, offT, newT, hT, hdT, .inr h3⟩⟩)
theorem flightF {h₀ : Heap} {cls : String} {kn : Bool} {e : Addr} {fl : Option Addr} {Q : Unit → Shared → Prop} (R : Rel0 c φ σ s) (hfl : fl = none ∨ fl = some c.env.locals) (X : Exn c φ σ h₀ cls kn e true s.heap)
    (hQ : ∀ h' hid, (∀ b ∈ hid, Off c φ σ s.heap b ∧ h₀.get? b = none) → Still c hid s.heap h' → Exn c φ σ h₀ cls kn e true h' → Q () { s with heap := h' }) : wpAny M A (setFlight (.ref e) fl) Q E s := by
  obtain ⟨off, new, oe, vs, a0, he, hc, hd, h0, h2, hsz, hx⟩ := id X
  rcases hx with ⟨w, _⟩ | ⟨T, oT, ts, h1, hTe, offT, newT, hT, hdT, h3⟩
  · cases w
  have hs3 : 3 < ts.size := by rcases h3 with h3 | h3 <;> exact (Array.getElem?_eq_some_iff.mp h3).1
  unfold setFlight
  refine wpAny_bind (wpAny_field he hd h1 ?_)
  rw [if_pos (show (Value.ref T != Value.none) = true from by simp)]
  refine wpAny_setField hT hdT hs3 ?_
  generalize hv : (fl.elim Value.none fun f => rawInt f) = v
  have hv' : v = .none ∨ v = rawInt c.env.locals := by
    rcases hfl with rfl | rfl
    · exact .inl hv.symm
    · exact .inr hv.symm
  have other : ∀ b, b ≠ T → (s.heap.update T (Obj.mapFields (·.setIfInBounds 3 v))).get? b = s.heap.get? b := fun b hb => Heap.get?_update_other _ _ (Ne.symm hb)
  have hTs := Heap.get?_update_self (Obj.mapFields (·.setIfInBounds 3 v)) hT (Obj.isFreed_of_fields (Obj.data_mapFields hdT _))
  have hdt : (oT.mapFields (·.setIfInBounds 3 v)).data = .fields (ts.setIfInBounds 3 v) := Obj.data_mapFields hdT _
  refine hQ _ [T] (fun b hb => by rw [List.mem_singleton.mp hb]; exact ⟨offT, newT⟩) ⟨fun b o h1 _ _ q => (other b (by simpa using h1)).trans q, fun b o hb q => ⟨o.slots, (other b fun w => by rw [w] at hb; exact hb.elim offT.own offT.outs).trans q⟩, fun b q => ?_⟩
    ⟨off.of ⟨_, (other e (Ne.symm hTe)).trans he, loose_fields hd⟩, new, oe, vs, a0, (other e (Ne.symm hTe)).trans he, hc, hd, h0, h2, hsz, .inr ⟨T, _, _, h1, hTe, offT.of ⟨_, hTs, loose_fields hdt⟩, newT, hTs, hdt, ?_⟩⟩
  · by_cases w : b = T
    · rw [w]; exact isSome_of hTs
    · rw [other b w]; exact q
  · rcases hv' with rfl | rfl
    · exact .inl (by simp [hs3])
    · exact .inr (by simp [hs3])

noncomputable def PostE (c : Cx) (φ : PH) (σ : St) (s : Shared) (cls : String) (kn : Bool) (P : St → Prop) : Value → Shared → Prop := fun v s' => ∃ e φ' σ', v = .ref e ∧ Ext c φ σ s φ' σ' s' ∧ Rel c φ' σ' s' ∧ Exn c φ' σ' s.heap cls kn e false s'.heap ∧ P σ'
noncomputable def PostN (c : Cx) (φ : PH) (σ : St) (s : Shared) (cls : String) (kn : Bool) (P : St → Prop) (e : Addr) : Shared → Prop := fun s' => ∃ φ' σ', Ext c φ σ s φ' σ' s' ∧ Rel c φ' σ' s' ∧ Exn c φ' σ' s.heap cls kn e true s'.heap ∧ P σ'
theorem PostE.after {cls : String} {kn : Bool} {P : St → Prop} {φ₁ σ₁ s₁} (x : Ext c φ σ s φ₁ σ₁ s₁) {v s''} (h : PostE c φ₁ σ₁ s₁ cls kn P v s'') : PostE c φ σ s cls kn P v s'' := by
  obtain ⟨e, φ', σ', rfl, x', R', X, hp⟩ := h
  exact ⟨e, φ', σ', rfl, x.trans x', R', X.base fun b hb => none_of x.al hb, hp⟩
theorem PostN.weak {cls : String} {kn : Bool} {P : St → Prop} {e : Addr} (h : PostN c φ σ s cls kn P e s') : PostE c φ σ s cls kn P (.ref e) s' := by
  obtain ⟨φ', σ', x', R', X, hp⟩ := h
  exact ⟨e, φ', σ', rfl, x', R', X.weak, hp⟩
theorem noteE {cls : String} {kn : Bool} {P : St → Prop} {v : Value} {Q : Unit → Shared → Prop} (R : Rel0 c φ σ s) (F : Fro c s) (hA : A.frames = c.A.frames) (h : PostE c φ σ s cls kn P v s') (hQ : ∀ e s'', v = .ref e → PostN c φ σ s cls kn P e s'' → Q () s'') : wpAny M A (noteFrame v c.env) Q E s' := by
  obtain ⟨e, φ', σ', rfl, x', R', X, hp⟩ := h
  refine noteF R'.toRel0 (F.ext x') hA X x'.al fun h' hid hh k X' => hQ e _ rfl ⟨φ', σ', Ext.still (tk := s'.toks) x' R (F.ext x') (fun b hb => (hh b hb).2) k, ⟨R'.toRel0.still (tk := s'.toks) (F.ext x') (fun b hb => (hh b hb).1) k, R'.tk⟩, X', hp⟩
theorem flightE {cls : String} {kn : Bool} {P : St → Prop} {e : Addr} {fl : Option Addr} {Q : Unit → Shared → Prop} (R : Rel0 c φ σ s) (F : Fro c s) (hfl : fl = none ∨ fl = some c.env.locals) (h : PostN c φ σ s cls kn P e s') (hQ : ∀ s'', PostN c φ σ s cls kn P e s'' → Q () s'') : wpAny M A (setFlight (.ref e) fl) Q E s' := by
  obtain ⟨φ', σ', x', R', X, hp⟩ := h
  refine flightF R'.toRel0 hfl X fun h' hid hh k X' => hQ _ ⟨φ', σ', Ext.still (tk := s'.toks) x' R (F.ext x') (fun b hb => (hh b hb).2) k, ⟨R'.toRel0.still (tk := s'.toks) (F.ext x') (fun b hb => (hh b hb).1) k, R'.tk⟩, X', hp⟩
theorem PostN.marked {cls : String} {kn : Bool} {P : St → Prop} {e : Addr} (h : PostN c φ σ s cls kn P e s') : ∃ oe vs T, s'.heap.get? e = some oe ∧ oe.data = .fields vs ∧ vs[1]? = some (.ref T) := by
  obtain ⟨φ', σ', x', R', X, hp⟩ := h
  obtain ⟨off, new, oe, vs, a0, he, hc, hd, h0, h2, hsz, hx⟩ := id X
  rcases hx with ⟨w, _⟩ | ⟨T, oT, ts, h1, _⟩
  · cases w
  · exact ⟨oe, vs, T, he, hd, h1⟩
theorem cameE {cls : String} {kn : Bool} {P : St → Prop} {e : Addr} {E' : Value → Shared → Prop} (R : Rel0 c φ σ s) (F : Fro c s) (h : PostN c φ σ s cls kn P e s') (hQ : ∀ s'', PostN c φ σ s cls kn P e s'' → E' (.ref e) s'') : cameBackBy M A c.env E' (.ref e) s' := by
  obtain ⟨oe, vs, T, h1, h2, h3⟩ := h.marked
  refine wpAny_bind (wpAny_field h1 h2 h3 ?_)
  rw [if_neg (show ¬ ((Value.ref T == Value.none) = true) from by simp)]
  first
    | exact wpAny_bind (wpAny_pure (flightE R F (.inr F.me) h hQ))
    | exact flightE R F (.inr F.me) h hQ
theorem passE {cls : String} {kn : Bool} {P : St → Prop} {A' : Around} (R : Rel0 c φ σ s) (F : Fro c s) (hA : A'.frames = c.A.frames) : PassesOwnAt M A' A c.env (PostE c φ σ s cls kn P) := fun v s' h =>
  noteE R F hA h fun e s'' hv hn => by subst hv; exact cameE R F hn fun s₃ h₃ => h₃.weak
end
end Mine
end

section
open PySem PySem.W PyProof.Rows PySem.Calls
set_option Elab.async false
set_option maxRecDepth 100000
set_option maxHeartbeats 4000000
set_option linter.unusedVariables false
namespace Mine
section
variable {c : Cx} {φ φ' : PH} {σ σ' : St} {s s' : Shared}

noncomputable def Hd (c : Cx) (σ : St) (s : Shared) : Prop := c.A.handled = none ∨ ∃ e oe vs, c.A.handled = some (.ref e) ∧ e ∉ c.own ∧ e ∉ c.outs ∧ e ≠ tabP ∧ σ.mu e = none ∧ s.heap.get? e = some oe ∧ oe.data = .fields vs ∧ vs[2]? = some .none
theorem Hd.ext (H : Hd c σ s) (x : Ext c φ σ s φ' σ' s') : Hd c σ' s' := by
  rcases H with H | ⟨e, oe, vs, h1, h2, h3, h4, h5, h6, h7⟩
  · exact .inl H
  · refine .inr ⟨e, oe, vs, h1, h2, h3, h4, ?_, x.fr e oe h4 h2 h3 h5 h6, h7⟩
    cases q : σ'.mu e with
    | none => rfl
    | some xs => have := x.nm e h5 (by rw [q]; simp); rw [this] at h6; cases h6
structure Sit (c : Cx) (σ : St) (s : Shared) : Prop where
  fro : Fro c s
  hd : Hd c σ s
theorem Sit.ext (S : Sit c σ s) (x : Ext c φ σ s φ' σ' s') : Sit c σ' s' := ⟨S.fro.ext x, S.hd.ext x⟩

noncomputable def Never (c : Cx) : Prop := ∀ e s, ¬ c.E e s
noncomputable def EvX (c : Cx) (e : Expr) (σ : St) (Q : AV → St → Prop) (cls : String) (kn : Bool) (P : St → Prop) : Prop := ∀ φ s, Rel c φ σ s → Sit c σ s → wpAny (model c.prog c.w) c.A (eval e c.env) (Post c φ σ s Conc Q) (PostE c φ σ s cls kn P) s
noncomputable def TsX (c : Cx) (e : Expr) (σ : St) (Q : Bool → St → Prop) (cls : String) (kn : Bool) (P : St → Prop) : Prop := ∀ φ s, Rel c φ σ s → Sit c σ s → wpAny (model c.prog c.w) c.A (isTrue e c.env (eval e c.env)) (Post c φ σ s CEq Q) (PostE c φ σ s cls kn P) s
noncomputable def ExX (c : Cx) (st : Stmt) (σ : St) (Q : AF → St → Prop) (cls : String) (kn : Bool) (P : St → Prop) : Prop := ∀ φ s, Rel c φ σ s → Sit c σ s → wpAny (model c.prog c.w) c.A (exec st c.env) (Post c φ σ s CFl Q) (PostE c φ σ s cls kn P) s
noncomputable def ExsX (c : Cx) (st : List Stmt) (σ : St) (Q : AF → St → Prop) (cls : String) (kn : Bool) (P : St → Prop) : Prop := ∀ φ s, Rel c φ σ s → Sit c σ s → wpAny (model c.prog c.w) c.A (execs st c.env) (Post c φ σ s CFl Q) (PostE c φ σ s cls kn P) s

variable {cls : String} {kn : Bool} {P : St → Prop}
theorem tsX_of {e : Expr} {Q : Bool → St → Prop} (N : Never c) (h : Ts c e σ Q) : TsX c e σ Q cls kn P := fun φ s R _ => wpAny_mono (h φ s R) (fun _ _ z => z) fun e s' z => (N e s' z).elim
theorem exX_of {e : Stmt} {Q : AF → St → Prop} (N : Never c) (h : Ex c e σ Q) : ExX c e σ Q cls kn P := fun φ s R _ => wpAny_mono (h φ s R) (fun _ _ z => z) fun e s' z => (N e s' z).elim
theorem Wp.thenN {α β : Type} {C : PH → α → β → Prop} {Q : α → St → Prop} {t : Sem β} {F : β → Shared → Prop} {E' : Value → Shared → Prop} (N : Never c) (h : Wp c t (Post c φ σ s C Q) s)
    (k : ∀ φ' σ' s' a v, Ext c φ σ s φ' σ' s' → Rel c φ' σ' s' → C φ' a v → Q a σ' → F v s') : wpAny (model c.prog c.w) c.A t F E' s :=
  Wp.seq (β' := Unit) h (fun e s' z => (N e s' z).elim) k
theorem thenX {α β : Type} {C : PH → α → β → Prop} {Q : α → St → Prop} {t : Sem β} {F : β → Shared → Prop} {E' : Value → Shared → Prop} (h : wpAny (model c.prog c.w) c.A t (Post c φ σ s C Q) (PostE c φ σ s cls kn P) s)
    (k : ∀ φ' σ' s' a v, Ext c φ σ s φ' σ' s' → Rel c φ' σ' s' → C φ' a v → Q a σ' → F v s') (kE : ∀ v s', PostE c φ σ s cls kn P v s' → E' v s') : wpAny (model c.prog c.w) c.A t F E' s :=
  wpAny_mono h (fun v s' ⟨φ', σ', a, x, R, hc, hq⟩ => k φ' σ' s' a v x R hc hq) kE
theorem afterX {α β : Type} {C : PH → α → β → Prop} {Q : α → St → Prop} {t : Sem β} {s₁ : Shared} (x : Ext c φ σ s φ' σ' s') (h : wpAny (model c.prog c.w) c.A t (Post c φ' σ' s' C Q) (PostE c φ' σ' s' cls kn P) s₁) : wpAny (model c.prog c.w) c.A t (Post c φ σ s C Q) (PostE c φ σ s cls kn P) s₁ :=
  wpAny_mono h (fun _ _ z => z.after x) fun _ _ z => z.after x

theorem exsX_nil {Q : AF → St → Prop} (h : Q .next σ) : ExsX c [] σ Q cls kn P := fun _ _ R _ => wpAny_execs_nil (post_here R .next h)
noncomputable def ContX (c : Cx) (rest : List Stmt) (Q : AF → St → Prop) (cls : String) (kn : Bool) (P : St → Prop) : AF → St → Prop
  | .next, σ => ExsX c rest σ Q cls kn P
  | .brk, σ => Q .brk σ
  | .cont, σ => Q .cont σ
  | .ret v, σ => Q (.ret v) σ
theorem exsX_cons {st : Stmt} {rest : List Stmt} {Q : AF → St → Prop} (h : ExX c st σ (ContX c rest Q cls kn P) cls kn P) : ExsX c (st :: rest) σ Q cls kn P := fun φ s R S =>
  wpAny_execs_cons (thenX (h φ s R S) (fun φ₁ σ₁ s₁ a va x₁ R₁ hc₁ h₁ => by
    cases hc₁ with
    | next => exact afterX x₁ (h₁ φ₁ s₁ R₁ (S.ext x₁))
    | brk => exact (post_here R₁ (C := CFl) (Q := Q) .brk h₁).after x₁
    | cont => exact (post_here R₁ (C := CFl) (Q := Q) .cont h₁).after x₁
    | ret hv => exact (post_here R₁ (C := CFl) (Q := Q) (.ret hv) h₁).after x₁) fun _ _ z => z)
theorem exX_if {t : Expr} {b o : List Stmt} {pos} {Q : AF → St → Prop} (h : TsX c t σ (fun v σ₁ => (v = true → ExsX c b σ₁ Q cls kn P) ∧ (v = false → ExsX c o σ₁ Q cls kn P)) cls kn P) : ExX c (.If t b o pos) σ Q cls kn P := fun φ s R S =>
  wpAny_If (thenX (h φ s R S) (fun φ₁ σ₁ s₁ a va x₁ R₁ hc₁ h₁ => by
    cases hc₁
    cases a with
    | true => exact afterX x₁ (h₁.1 rfl φ₁ s₁ R₁ (S.ext x₁))
    | false => exact afterX x₁ (h₁.2 rfl φ₁ s₁ R₁ (S.ext x₁))) fun _ _ z => z)
theorem exX_set {x : Str} {e : Expr} {p pos} {Q : AF → St → Prop} (G : Gl c) (N : Never c) (hL : c.env.locals ∈ c.own) (hk : c.env.kindOf x = some .local) (h : EvX c e σ (fun a σ₁ => Q .next (σ₁.set x a)) cls kn P) (hs : swapsWith e (some (.Name x p)) pos.line c.env = pure false := by rfl) : ExX c (.Assign [.Name x p] e pos) σ Q cls kn P := fun φ s R S =>
  wpAny_Assign_Name (thenX (h φ s R S) (fun φ₁ σ₁ s₁ a va x₁ R₁ hc₁ h₁ => Wp.thenN N (sto R₁ hL hk G.fn hc₁ (Q := fun σ' => Q .next σ') h₁) fun φ₂ σ₂ s₂ _ _ x₂ R₂ _ h₂ => (post_here R₂ (C := CFl) .next h₂).after (x₁.trans x₂)) fun _ _ z => z) hs
theorem tsX_cmp {l r : Expr} {op pos} {Q : Bool → St → Prop} (N : Never c) (h : EvX c l σ (fun a σ₁ => Ev c r σ₁ fun b σ₂ => Op2 c (compareOp op) a b σ₂ fun v σ₃ => Tr c v σ₃ Q) cls kn P) (hm : behindInMarks op r = false := by with_unfolding_all rfl) : TsX c (.Compare l [op] [r] pos) σ Q cls kn P := fun φ s R S =>
  wpAny_isTrue_Compare1 (thenX (h φ s R S) (fun φ₁ σ₁ s₁ a va x₁ R₁ hc₁ h₁ => Wp.thenN N (h₁ φ₁ s₁ R₁) fun φ₂ σ₂ s₂ b vb x₂ R₂ hc₂ h₂ =>
    Wp.thenN N (h₂ φ₂ s₂ va vb R₂ (hc₁.mono x₂.le) hc₂) fun φ₃ σ₃ s₃ v vv x₃ R₃ hc₃ h₃ => wpAny_mono ((h₃ φ₃ s₃ vv R₃ hc₃).after ((x₁.trans x₂).trans x₃)) (fun _ _ z => z) fun e s' z => (N e s' z).elim) fun _ _ z => z) hm

theorem exX_while0 {test : Expr} {body : List Stmt} {pos} {Q : AF → St → Prop} (h : TsX c test σ (fun b σ₁ => b = false ∧ Q .next σ₁) cls kn P) : ExX c (.While test body [] pos) σ Q cls kn P := fun φ s R S =>
  whl_start 0 (whl_turn (k := 0) (passE R.toRel0 S.fro rfl) (thenX (h φ s R S) (fun φ₁ σ₁ s₁ a va x₁ R₁ hc₁ h₁ => by
    cases hc₁
    obtain ⟨rfl, hq⟩ := h₁
    exact WhlIf.no rfl (wpAny_execs_nil ((post_here R₁ (C := CFl) .next hq).after x₁))) fun _ _ z => z))

noncomputable def WlX (c : Cx) (test : Expr) (body : List Stmt) (σ : St) (Q : AF → St → Prop) (cls : String) (kn : Bool) (P : St → Prop) : Prop := ∀ φ s, Rel c φ σ s → Sit c σ s → WhlRest c.prog c.w c.A (PostE c φ σ s cls kn P) c.env test body [] (Post c φ σ s CFl Q) 0 s
noncomputable def LContX (next : St → Prop) (Q : AF → St → Prop) : AF → St → Prop
  | .next, σ => next σ
  | .cont, σ => next σ
  | .brk, σ => Q .next σ
  | .ret v, σ => Q (.ret v) σ
theorem cameE_mono {M : Model} {A : Around} {env : Env} {E E' : Value → Shared → Prop} (h : ∀ e s, E e s → E' e s) {e s} (z : cameBackBy M A env E e s) : cameBackBy M A env E' e s := wpAny_mono z (fun _ _ q => h _ _ q) h
theorem wlX_inv {α : Type} {test : Expr} {body : List Stmt} {Q : AF → St → Prop} (I : α → St → Prop) (m : α → Nat)
    (step : ∀ a σ, I a σ → TsX c test σ (fun b σ₁ => (b = true → ExsX c body σ₁ (LContX (fun σ' => ∃ a', m a' < m a ∧ I a' σ') Q) cls kn P) ∧ (b = false → Q .next σ₁)) cls kn P) (a : α) (h : I a σ) : WlX c test body σ Q cls kn P := by
  have H : ∀ k a σ, m a < k → I a σ → WlX c test body σ Q cls kn P := by
    intro k
    induction k with
    | zero => intro a σ h _; omega
    | succ k ih =>
      intro a σ hk hI φ s R S
      refine whl_turn (k := 0) (passE R.toRel0 S.fro rfl) (thenX (step a σ hI φ s R S) (fun φ₁ σ₁ s₁ b vb x₁ R₁ hc₁ h₁ => ?_) fun _ _ z => z)
      cases hc₁
      cases b with
      | true =>
        refine WhlIf.yes rfl (thenX (h₁.1 rfl φ₁ s₁ R₁ (S.ext x₁)) (fun φ₂ σ₂ s₂ f vf x₂ R₂ hc₂ h₂ => ?_) fun _ _ z => z.after x₁)
        have more : (∃ a', m a' < m a ∧ I a' σ₂) → WhlRest c.prog c.w c.A (PostE c φ σ s cls kn P) c.env test body [] (Post c φ σ s CFl Q) 0 s₂ := by
          rintro ⟨a', h1, h2⟩
          refine codeAny_mono (ih a' σ₂ (by omega) h2 φ₂ s₂ R₂ ((S.ext x₁).ext x₂)) fun r s'' z => ?_
          cases r with
          | ok f => exact z.after (x₁.trans x₂)
          | error e => exact cameE_mono (fun _ _ q => q.after (x₁.trans x₂)) z
        cases hc₂ with
        | next => exact more h₂
        | cont => exact more h₂
        | brk => exact (post_here R₂ (C := CFl) .next h₂).after (x₁.trans x₂)
        | ret hv => exact (post_here R₂ (C := CFl) (Q := Q) (.ret hv) h₂).after (x₁.trans x₂)
      | false => exact WhlIf.no rfl (wpAny_execs_nil ((post_here R₁ (C := CFl) .next (h₁.2 rfl)).after x₁))
  exact H (m a + 1) a σ (by omega) h
theorem exX_while {test : Expr} {body : List Stmt} {pos} {Q : AF → St → Prop} (h : WlX c test body σ Q cls kn P) : ExX c (.While test body [] pos) σ Q cls kn P := fun φ s R S => whl_start 0 (h φ s R S)
end
end Mine
end

section
open PySem PySem.W PyProof.Rows PySem.Calls
set_option Elab.async false
set_option maxRecDepth 100000
set_option maxHeartbeats 4000000
set_option linter.unusedVariables false
namespace Mine
theorem entry_unchain : entryFor table "proto.unchain" = some Builtin.«proto.unchain» := entryFor_of_tree (by kernel_rfl)
section
variable {c : Cx} {φ φ' : PH} {σ σ' : St} {s s' : Shared} {A : Around}
theorem post_raised {cls : String} {kn : Bool} {P : St → Prop} (R : Rel c φ σ s) {h' : Heap} {tk : Nat} {e : Addr} {oe : Obj} {vs : Array Value} {a0 : Value} (ht : 0 < tk) (k : ∀ b o, s.heap.get? b = some o → h'.get? b = some o) (hn : s.heap.get? e = none) (he : h'.get? e = some oe) (hc : oe.cls = .type cls) (hd : oe.data = .fields vs)
    (h0 : vs[0]? = some a0) (h1 : vs[1]? = some .none) (h2 : kn = true → vs[2]? = some .none) (hz : 2 < vs.size) (hp : P σ) : PostE c φ σ s cls kn P (.ref e) { s with heap := h', toks := tk } :=
  ⟨e, φ, σ, rfl, Ext.grow k, ⟨R.toRel0.grow k, ht⟩, ⟨R.toRel0.off_new hn ⟨_, he, loose_fields hd⟩, hn, oe, vs, a0, he, hc, hd, h0, h2, hz, .inl ⟨rfl, h1⟩⟩, hp⟩
theorem wp_raise {α : Type} {cls msg : String} {kn : Bool} {P : St → Prop} {Q : α → Shared → Prop} (hpl : PlainExc cls) (R : Rel c φ σ s) (H : Hd c σ s) (hA : A.handled = c.A.handled) (hk : kn = true → c.A.handled = none) (hp : P σ) :
    wpAny (model c.prog c.w) A (raiseErrorWords cls msg : Sem α) Q (PostE c φ σ s cls kn P) s := by
  have tk := R.tk
  unfold raiseErrorWords
  refine wpAny_bind (wpAny_mkText (wpAny_bind ?_))
  unfold newExc newTuple
  refine wpAny_bind (wpAny_newObj_type ?_)
  refine wpAny_bind (m := firstArgMember _ _) (wpAny_of_eq (a := Value.none) (by simp only [firstArgMember, hpl.first]; rfl) ?_)
  rw [hpl.own]
  refine wpAny_newObj_type ?_
  unfold raiseNew
  refine wpAny_bind (wpAny_handled ?_)
  rw [hA]
  rcases H with hh | ⟨h, oh, vh, hh, h1, h2, h3, h4, h5, h6, h7⟩
  · rw [hh]
    first
      | refine wpAny_throw ?_
      | refine wpAny_bind (wpAny_pure (wpAny_throw ?_))
    exact post_raised R (by show 0 < s.toks + 1; omega) (fun b o hb => Heap.get?_push_of_some _ (Heap.get?_push_of_some _ hb)) (Heap.get?_none_of_le (by simp)) (Heap.get?_push_size _ rfl) rfl rfl rfl rfl (fun _ => rfl) (by simp) hp
  · rw [hh]
    dsimp only
    have hlt := Heap.lt_size h5
    have hne : h ≠ (s.heap.push { cls := .type "tuple", data := .seq [Value.str (Str.ofString msg) s.toks].toArray }).objs.size := by
      rw [Heap.size_push]
      exact Nat.ne_of_lt (Nat.lt_succ_of_lt hlt)
    have hne' : (Value.ref h != Value.ref (s.heap.push { cls := .type "tuple", data := .seq [Value.str (Str.ofString msg) s.toks].toArray }).objs.size) = true := by
      rw [bne_iff_ne]; intro w; exact hne (Value.ref.inj w)
    rw [if_pos hne']
    have hks : ∀ b o, s.heap.get? b = some o → ((s.heap.push { cls := Value.type "tuple", data := Data.seq [Value.str (Str.ofString msg) s.toks].toArray }).push
          { cls := Value.type cls, data := Data.fields (#[Value.ref s.heap.objs.size, Value.none, Value.none, Value.none, Value.bool false, Value.none] ++ #[]) }).get? b = some o := fun b o hb => Heap.get?_push_of_some _ (Heap.get?_push_of_some _ hb)
    refine wpAny_bind (wpAny_holding (wpAny_runValue (codeAny_builtin entry_unchain ?_)))
    unfold Builtin.«proto.unchain»
    refine wpAny_bind (wpAny_field (hks _ _ h5) h6 h7 ?_)
    rw [if_pos (by decide)]
    refine wpAny_pure ?_
    have hself := Heap.get?_push_size (s.heap.push { cls := Value.type "tuple", data := Data.seq [Value.str (Str.ofString msg) s.toks].toArray }) (o := { cls := Value.type cls, data := Data.fields (#[Value.ref s.heap.objs.size, Value.none, Value.none, Value.none, Value.bool false, Value.none] ++ #[]) }) rfl
    have hupd := Heap.get?_update_self (Obj.mapFields (·.setIfInBounds 2 (Value.ref h))) hself rfl
    refine wpAny_bind (wpAny_setField hself rfl (by simp) ?_)
    refine wpAny_throw ?_
    refine post_raised (vs := (#[Value.ref s.heap.objs.size, Value.none, Value.none, Value.none, Value.bool false, Value.none] : Array Value).setIfInBounds 2 (Value.ref h)) R (by show 0 < s.toks + 1; omega) (fun b o hb => (Heap.get?_update_other _ _ (fun w => ?_)).trans (hks b o hb)) (Heap.get?_none_of_le (by simp)) hupd rfl rfl rfl rfl (fun w => by rw [hk w] at hh; cases hh) (by simp) hp
    rw [← w] at hb
    exact absurd (Heap.lt_size hb) (by rw [Heap.size_push]; exact Nat.not_lt_of_le (Nat.le_succ _))
theorem item_out {prog : Program} {w : World} {A : Around} {E : Value → Shared → Prop} {l : Addr} {items : Array Value} {k : Nat} {t : Tok} {Q : Value → Shared → Prop} (hl : s.heap.IsList l items) (hx : items[k]? = none) (hfit : Builtin.List.listFitsIndex (Int.ofNat k) = true)
    {k' : Int} (hk' : k' = Int.ofNat k) (hr : ∀ (A' : Around), A'.handled = A.handled → ∀ {α : Type} (Q' : α → Shared → Prop), wpAny (model prog w) A' (raiseErrorWords "IndexError" "list index out of range" : Sem α) Q' E s) :
    wpAny (model prog w) A (getItem (.ref l) (.int k' t)) Q E s := by
  obtain ⟨o, ho, hc, ne, hd⟩ := id hl
  rw [← hk'] at hfit
  unfold getItem
  try with_reducible refine wpAny_holding ?_
  first | refine wpAny_bind (wpAny_pure ?_) | skip
  refine wpAny_bind (wpAny_sequenceKey hl.typeIs (by decide) ?_)
  refine wpAny_bind (wpAny_callSpecial?_slot (name := Str.ofString "__getitem__") hl.typeIs slot_list_getitem (wpAny_call_entry slot_list_getitem hl.typeIs entry_list_getitem ?_ (args_list_getitem _ _)))
  show wpAny _ _ (Builtin.List.listSubscript? (.int k' t) >>= _) _ _ s
  refine wpAny_bind (wpAny_listSubscript_int hfit ?_)
  clear hfit
  subst hk'
  show wpAny _ _ ((seqItemAt l k >>= fun r => pure (r.map (k, ·))) >>= _) _ _ s
  refine wpAny_bind (wpAny_bind (wpAny_seqItemAt ho hd (wpAny_pure ?_)))
  rw [hx]
  first
    | exact wpAny_bind (wpAny_rule (hr A.in1 rfl _))
    | exact wpAny_bind (wpAny_rule (wpAny_bind (hr A.in1 rfl _)))
    | exact wpAny_bind (wpAny_bind (wpAny_rule (hr A.in1 rfl _)))
    | exact wpAny_rule (hr A.in1 rfl _)
theorem getItem_out {l : Addr} {items : Array Value} {k : Nat} {t : Tok} {kn : Bool} {P : St → Prop} {Q : Value → Shared → Prop} (R : Rel c φ σ s) (H : Hd c σ s) (hk : kn = true → c.A.handled = none) (hp : P σ) (hl : s.heap.IsList l items) (hout : items.size ≤ k) (hhi : k ≤ 1000000) :
    wpAny (model c.prog c.w) c.A (getItem (.ref l) (.int k t)) Q (PostE c φ σ s "IndexError" kn P) s :=
  item_out hl (Array.getElem?_eq_none hout) (fitsIndex_both (k := (k : Int)) (by omega) (by omega)) rfl fun A' hA _ _ => wp_raise plainExc_IndexError R H hA hk hp
theorem evX_item {x y : Str} {px py pos} {xs : List AV} {n : Nat} {kn : Bool} {P : St → Prop} {Q : AV → St → Prop} (G : Gl c) (N : Never c) (hkx : c.env.kindOf x = some .local) (hky : c.env.kindOf y = some .local) (hx : σ.m x = some (.list xs)) (hy : σ.m y = some (.int n)) (hlen : xs.length ≤ 100000) (hn : n ≤ 1000000) (hk : kn = true → c.A.handled = none)
    (hin : ∀ a, xs[n]? = some a → Q a σ) (hout : xs.length ≤ n → P σ) (hdx : (x == ("__debug__" : Str)) = false := by decide) (hdy : (y == ("__debug__" : Str)) = false := by decide) : EvX c (.Subscript (.Name x px) (.Name y py) pos) σ Q "IndexError" kn P := fun φ s R S => by
  refine Subscript_ (Wp.thenN N (ev_local (Q := fun a σ' => a = .list xs ∧ σ' = σ) G hkx hx ⟨rfl, rfl⟩ hdx φ s R) fun φ₁ σ₁ s₁ a va x₁ R₁ hc₁ h₁ => ?_)
  obtain ⟨rfl, rfl⟩ := h₁
  refine Wp.thenN N (ev_local (Q := fun a σ' => a = .int n ∧ σ' = σ₁) G hky hy ⟨rfl, rfl⟩ hdy φ₁ s₁ R₁) fun φ₂ σ₂ s₂ b vb x₂ R₂ hc₂ h₂ => ?_
  obtain ⟨rfl, rfl⟩ := h₂
  have hc₁' := hc₁.mono x₂.le
  cases hc₂ with
  | int i t =>
  cases hc₁' with
  | list ho hs =>
  rename_i l items n' sl
  have hT := R₂.keep _ _ ho
  have hl : s₂.heap.IsList l items := ⟨_, hT, rfl, _, rfl⟩
  have e := hs.length
  rw [Array.length_toList] at e
  refine tail_any hl.typeIs list_getitem_lookup (afterX (x₁.trans x₂) ?_) (by rfl)
  by_cases hlt : n < xs.length
  · obtain ⟨v, hv, hcv⟩ := hs.get n _ (List.getElem?_eq_getElem hlt)
    exact wpAny_mono (lift R₂.tk (wpAny_getItem_list hl (by omega) (by omega) (by simpa using hv) (post_same R₂.toRel0 hcv (hin _ (List.getElem?_eq_getElem hlt))))) (fun _ _ z => z) fun e s' z => (N e s' z).elim
  · exact getItem_out R₂ ((S.ext (x₁.trans x₂)).hd) hk (hout (by omega)) hl (by omega) hn
end
end Mine
end

section
open PySem PySem.W PyProof.Rows PySem.Calls
set_option Elab.async false
set_option maxRecDepth 100000
set_option maxHeartbeats 4000000
set_option linter.unusedVariables false
namespace Mine
section
variable {c : Cx} {φ φ' : PH} {σ σ' : St} {s s' : Shared} {A : Around}

noncomputable def Cx.at (c : Cx) (A : Around) : Cx := { c with A := A }
theorem Rel.at (R : Rel c φ σ s) (A : Around) : Rel (c.at A) φ σ s := ⟨⟨R.base, R.keep, R.ns, R.cells, R.cdist, R.own, R.outs, R.mu, R.tab, R.gens, R.os, R.pt⟩, R.tk⟩
theorem Rel.back (R : Rel (c.at A) φ σ s) : Rel c φ σ s := ⟨⟨R.base, R.keep, R.ns, R.cells, R.cdist, R.own, R.outs, R.mu, R.tab, R.gens, R.os, R.pt⟩, R.tk⟩
theorem Ext.back (x : Ext (c.at A) φ σ s φ' σ' s') : Ext c φ σ s φ' σ' s' := ⟨x.le, x.fr, x.fo, x.al, x.nφ, x.nm, x.gd⟩
theorem Post.back {α β : Type} {C : PH → α → β → Prop} {Q : α → St → Prop} {v : β} (h : Post (c.at A) φ σ s C Q v s') : Post c φ σ s C Q v s' := by
  obtain ⟨φ', σ', a, x, R, hc, hq⟩ := h
  exact ⟨φ', σ', a, x.back, R.back, hc, hq⟩
theorem Off.back {h : Heap} {b : Addr} (o : Off (c.at A) φ σ h b) : Off c φ σ h b := ⟨o.φ, o.mu, o.own, o.outs, o.tabs, o.dat⟩
theorem Exn.back {h₀ : Heap} {cls : String} {kn nt : Bool} {e : Addr} {h : Heap} (X : Exn (c.at A) φ σ h₀ cls kn e nt h) : Exn c φ σ h₀ cls kn e nt h := by
  obtain ⟨h1, h2, oe, vs, a0, e1, e2, e3, e4, e5, e6, e7⟩ := X
  refine ⟨h1.back, h2, oe, vs, a0, e1, e2, e3, e4, e5, e6, ?_⟩
  rcases e7 with w | ⟨T, oT, ts, t1, t2, t3, t4⟩
  · exact .inl w
  · exact .inr ⟨T, oT, ts, t1, t2, t3.back, t4⟩
theorem PostE.back {cls : String} {kn : Bool} {P : St → Prop} {v : Value} (h : PostE (c.at A) φ σ s cls kn P v s') : PostE c φ σ s cls kn P v s' := by
  obtain ⟨e, φ', σ', rfl, x, R, X, hp⟩ := h
  exact ⟨e, φ', σ', rfl, x.back, R.back, X.back, hp⟩
theorem Gl.mark (G : Gl c) (e : Option Value) : Gl (c.at (c.A.mark e)) := ⟨G.K, G.T, G.lim, G.dig, G.gl, G.bl, G.fn, G.dep, G.un, G.gd, G.tn⟩
theorem Off.ext {b : Addr} (x : Ext c φ σ s φ' σ' s') (o : Off c φ σ s.heap b) : Off c φ' σ' s'.heap b := by
  obtain ⟨ob, h1, h2⟩ := o.dat
  refine ⟨?_, ?_, o.own, o.outs, o.tabs, ob, x.fr b ob o.tabs.2 o.own o.outs o.mu h1, h2⟩
  · cases q : φ' b with
    | none => rfl
    | some _ => have := x.nφ b o.φ (by rw [q]; simp); rw [this] at h1; cases h1
  · cases q : σ'.mu b with
    | none => rfl
    | some _ => have := x.nm b o.mu (by rw [q]; simp); rw [this] at h1; cases h1
theorem Exn.ext {h₀ : Heap} {cls : String} {kn nt : Bool} {e : Addr} (x : Ext c φ σ s φ' σ' s') (X : Exn c φ σ h₀ cls kn e nt s.heap) : Exn c φ' σ' h₀ cls kn e nt s'.heap := by
  obtain ⟨h1, h2, oe, vs, a0, e1, e2, e3, e4, e5, e6, e7⟩ := X
  have kp : ∀ {b o}, Off c φ σ s.heap b → s.heap.get? b = some o → s'.heap.get? b = some o := fun {b o} w q => x.fr b o w.tabs.2 w.own w.outs w.mu q
  refine ⟨h1.ext x, h2, oe, vs, a0, kp h1 e1, e2, e3, e4, e5, e6, ?_⟩
  rcases e7 with w | ⟨T, oT, ts, t1, t2, t3, t4, t5, t6, t7⟩
  · exact .inl w
  · exact .inr ⟨T, oT, ts, t1, t2, t3.ext x, t4, kp t3 t5, t6, t7⟩
theorem PostN.ext {cls : String} {kn : Bool} {P' : St → Prop} {e : Addr} {φ₁ σ₁ s₁ φ₂ σ₂ s₂} (x₁ : Ext c φ σ s φ₁ σ₁ s₁) (X : Exn c φ₁ σ₁ s.heap cls kn e true s₁.heap) (x₂ : Ext c φ₁ σ₁ s₁ φ₂ σ₂ s₂) (R₂ : Rel c φ₂ σ₂ s₂) (hp : P' σ₂) : PostN c φ σ s cls kn P' e s₂ :=
  ⟨φ₂, σ₂, x₁.trans x₂, R₂, X.ext x₂, hp⟩

theorem exX_ret {e : Expr} {pos} {Q : AF → St → Prop} {cls : String} {kn : Bool} {P : St → Prop} (h : EvX c e σ (fun a σ₁ => Q (.ret a) σ₁) cls kn P) : ExX c (.Return (some e) pos) σ Q cls kn P := fun φ s R S =>
  wpAny_Return_some (thenX (h φ s R S) (fun φ₁ σ₁ s₁ a va x₁ R₁ hc₁ h₁ => (post_here R₁ (C := CFl) (.ret hc₁) h₁).after x₁) fun _ _ z => z)

theorem sub_ie : isSubtype (.type "IndexError") (.type "IndexError") = pure true := by rw [isSubtype_type]; kernel_rfl
theorem exX_try {body hb : List Stmt} {b₀ : Stmt} {np hpos pos : Pos} {Q : AF → St → Prop} {cls' : String} {kn kn' : Bool} {P P' : St → Prop} (G : Gl c) (N : Never c) (hk : c.env.kindOf ("IndexError" : Str) = some .globalImplicit) (hx : nsIn (KK c.w) mainGlobals ("IndexError" : Str) = some none)
    (hbody : ExsX c body σ Q "IndexError" kn P) (hhand : ∀ e σ', P σ' → Exs (c.at (c.A.mark (some (.ref e)))) (b₀ :: hb) σ' Q) : ExX c (.Try body [.ExceptHandler (some (.Name ("IndexError" : Str) np)) none (b₀ :: hb) hpos] [] [] pos) σ Q cls' kn' P' := fun φ s R S => by
  refine wpAny_Try_except (thenX (hbody φ s R S) (fun φ₁ σ₁ s₁ a va x₁ R₁ hc₁ h₁ => ?_) fun v s' hPE => ?_)
  · cases hc₁ with
    | next => exact wpAny_execs_nil ((post_here R₁ (C := CFl) .next h₁).after x₁)
    | brk => exact (post_here R₁ (C := CFl) (Q := Q) .brk h₁).after x₁
    | cont => exact (post_here R₁ (C := CFl) (Q := Q) .cont h₁).after x₁
    | ret hv => exact (post_here R₁ (C := CFl) (Q := Q) (.ret hv) h₁).after x₁
  · refine noteE R.toRel0 S.fro rfl hPE fun e s₁ hv hn => ?_
    subst hv
    refine flightE R.toRel0 S.fro (.inl rfl) hn fun s₂ hn₂ => ?_
    obtain ⟨φ₂, σ₂, x₂, R₂, X₂, hp₂⟩ := hn₂
    have NM : Never (c.at (c.A.mark (some (.ref e)))) := N
    refine wpAny_handleBy_builtin (X := "IndexError") (T := "IndexError") (b := true) PySem.F.isExc_IndexError PySem.F.notTuple_IndexError sub_ie ?_
    refine Wp.thenN NM (ev_builtin (Q := fun a σ' => a = .ty "IndexError" ∧ σ' = σ₂) (G.mark _) hk hx PyProof.Rows.Boot.«IndexError» (.ty _) ⟨rfl, rfl⟩ (by decide) (by decide) φ₂ s₂ (R₂.at _)) fun φ₃ σ₃ s₃ a va x₃ R₃ hc₃ h₃ => ?_
    obtain ⟨rfl, rfl⟩ := h₃
    cases hc₃
    have X₃ := X₂.ext x₃.back
    obtain ⟨_, _, oe, vs, a0, e1, e2, _⟩ := id X₃
    refine ⟨rfl, ⟨oe, e1, e2⟩, ?_⟩
    rw [if_pos rfl]
    refine flightE R.toRel0 S.fro (.inl rfl) (PostN.ext (P' := P) x₂ X₂ x₃.back R₃.back hp₂) fun s₄ hn₄ => ?_
    obtain ⟨φ₄, σ₄, x₄, R₄, X₄, hp₄⟩ := hn₄
    exact wpAny_mono (hhand e σ₄ hp₄ φ₄ s₄ (R₄.at _)) (fun _ _ z => z.back.after x₄) fun e s' z => (NM e s' z).elim

theorem exX_finally {body fs : List Stmt} {f₀ : Stmt} {pos : Pos} {Q : AF → St → Prop} {cls : String} {P P1 : St → Prop}
    (hbody : ExsX c body σ (fun f σ' => f = .next ∧ ExsX c (f₀ :: fs) σ' (fun g σ'' => g = .next ∧ Q .next σ'') cls false P) cls true P1)
    (hfin : ∀ e σ', P1 σ' → ExsX (c.at (c.A.mark (some (.ref e)))) (f₀ :: fs) σ' (fun g σ'' => g = .next ∧ P σ'') cls false P) : ExX c (.Try body [] [] (f₀ :: fs) pos) σ Q cls false P := fun φ s R S => by
  refine wpAny_Try_finally (thenX (hbody φ s R S) (fun φ₁ σ₁ s₁ a va x₁ R₁ hc₁ h₁ => ?_) fun v s' hPE => ?_)
  · obtain ⟨rfl, hf⟩ := h₁
    cases hc₁
    refine wpAny_execs_nil (thenX (hf φ₁ s₁ R₁ (S.ext x₁)) (fun φ₂ σ₂ s₂ a va x₂ R₂ hc₂ h₂ => ?_) fun v s' z => ?_)
    · obtain ⟨rfl, hq⟩ := h₂
      cases hc₂
      exact (post_here R₂ (C := CFl) .next hq).after (x₁.trans x₂)
    · exact passE R.toRel0 S.fro rfl v s' (z.after x₁)
  · refine noteE R.toRel0 S.fro rfl hPE fun e s₁ hv hn => ?_
    subst hv
    refine ⟨ref_ne_byPass e, noteE R.toRel0 S.fro rfl hn.weak fun e' s₂ hv hn₂ => ?_⟩
    cases hv
    refine flightE R.toRel0 S.fro (.inl rfl) hn₂ fun s₃ hn₃ => ?_
    obtain ⟨φ₃, σ₃, x₃, R₃, X₃, hp₃⟩ := hn₃
    obtain ⟨off, _, oe, vs, a0, e1, _, e3, _, e5, _⟩ := id X₃
    have F₃ := S.fro.ext x₃
    refine thenX (hfin e σ₃ hp₃ φ₃ s₃ (R₃.at _) ⟨⟨F₃.fr, F₃.me, F₃.own, F₃.kind, F₃.tabs⟩, .inr ⟨e, oe, vs, rfl, off.own, off.outs, off.tabs.2, off.mu, e1, e3, e5 rfl⟩⟩) (fun φ₄ σ₄ s₄ a va x₄ R₄ hc₄ h₄ => ?_) fun v s' z => ?_
    · obtain ⟨rfl, hq⟩ := h₄
      cases hc₄
      have hn₄ : PostN c φ σ s cls true P e s₄ := PostN.ext x₃ X₃ x₄.back R₄.back hq
      obtain ⟨oe', vs', T, g1, g2, g3⟩ := hn₄.marked
      show wpAny _ _ (PySem.passOn "try.finally" (.ref e) c.env) _ _ _
      unfold PySem.passOn
      refine wpAny_bind (wpAny_field g1 g2 g3 ?_)
      rw [if_neg (show ¬ ((Value.ref T == Value.none) = true) from by simp)]
      have fin : ∀ s₅, PostN c φ σ s cls true P e s₅ → PostE c φ σ s cls false P (.ref e) s₅ := fun s₅ z => by
        obtain ⟨φ₅, σ₅, x₅, R₅, X₅, hp₅⟩ := z
        exact ⟨e, φ₅, σ₅, rfl, x₅, R₅, X₅.weak.kn, hp₅⟩
      first
        | exact wpAny_bind (wpAny_pure (wpAny_bind (flightE R.toRel0 S.fro (.inr S.fro.me) hn₄ fun s₅ z => wpAny_throw (fin s₅ z))))
        | exact wpAny_bind (flightE R.toRel0 S.fro (.inr S.fro.me) hn₄ fun s₅ z => wpAny_throw (fin s₅ z))
    · exact passE (A' := c.A.mark (some (.ref e))) R.toRel0 S.fro rfl v s' (z.back.after x₃)

theorem Fro.callee {fd : FuncData} {f : Addr} {body : List Stmt} {names : List Str} (R : Rel c φ σ s) (Fr : Fro c s) (F : FnOk (KK c.w) f fd body names) {h₀ : Heap} (hk : ∀ b o, s.heap.get? b = some o → h₀.get? b = some o) {tk : Nat} : Fro (calleeCx c fd f s.heap.objs.size) { s with heap := h₀, toks := tk } := by
  obtain ⟨l, h1, h2⟩ := Fr.fr
  have nL := push_new s.heap
  refine ⟨⟨c.env :: l, Around.frames_deeper h1, fun env he => ?_⟩, rfl, .head _, ?_, ?_⟩
  · rcases List.mem_cons.mp he with rfl | he
    · obtain ⟨m, ⟨oL, es, ep, hL, hd, r⟩, h⟩ := R.ns
      exact ⟨Fr.kind, c.env.locals, oL, Fr.me, List.mem_append.mpr (.inl Fr.own), hk _ _ hL, fun vs q => by rw [hd] at q; cases q⟩
    · obtain ⟨a, L, o, b1, b2, b3, b4⟩ := h2 env he
      exact ⟨a, L, o, b1, List.mem_append.mpr (.inr b2), hk _ _ b3, b4⟩
  · show fd.scope.kind ≠ .module
    rw [F.fn]; decide
  · have hC := R.toRel0.tabC_alive
    have hP := R.toRel0.tabP_alive
    refine ⟨fun q => ?_, fun q => ?_, fun q => ?_, fun q => ?_⟩
    · rw [List.mem_singleton.mp q, nL] at hC; cases hC
    · rw [List.mem_singleton.mp q, nL] at hP; cases hP
    · exact (List.mem_append.mp q).elim Fr.tabs.1 Fr.tabs.2.2.1
    · exact (List.mem_append.mp q).elim Fr.tabs.2.1 Fr.tabs.2.2.2
theorem cl_defX {f : Addr} {fd : FuncData} {body : List Stmt} {names : List Str} {as as' : List AV} {Q : AV → St → Prop} {cls : String} {kn : Bool} (G : Gl c) (hFr : ∀ φ σ s, Rel c φ σ s → Fro c s) (F : FnOk (KK c.w) f fd body names) (hcl : fd.closure = []) (hd : c.A.depth < 600) (hu : c.A.units < 4990) (hh : c.A.handled = none)
    (hb : ∀ φ s vs, Rel c φ σ s → Concs φ as vs → ∃ vs', BindsTo s fd ⟨vs, []⟩ (names.zip vs') ∧ Concs φ as' vs')
    (h : ∀ L, L ≠ tabP → ExsX (calleeCx c fd f L) body (startSt names as') (Gives fun b => Q b σ) cls kn (fun _ => False)) : Cl c (.ref f) as σ Q := fun φ s fv vs R hf ha => by
  cases hf
  obtain ⟨oc, od, osl, ho⟩ := F.obj
  obtain ⟨vs', hbind, hc'⟩ := hb φ s vs R ha
  have X := R.K G
  refine wpAny_call (codeAny_call_def (fd := fd) (body := body) (binds := names.zip vs') (by have := G.dep; unfold recursionLimit; omega) (X _ _ ho) rfl (G.lim.keeps R.gns) (codeRec_of X F.code) F.body hbind F.cell (fun x hx => F.loc _ (List.of_mem_zip hx).1) (fun h₀ hn hk => ?_) F.co F.gen F.fn)
  have R' := R.enter (f := f) F hc' hn hk (tk := s.toks + (names.zip vs').length) (by have := R.tk; omega) hcl
  have hLt : s.heap.objs.size ≠ tabP := fun w => by
    obtain ⟨ps, _, h2⟩ := R.tab
    have := h2.2; rw [← w, push_new] at this; cases this
  refine wpAny_mono (h s.heap.objs.size hLt φ _ R' ⟨(hFr φ σ s R).callee R F hk, .inl hh⟩) (fun fl s₂ hp => ?_) fun e s' hf => ?_
  · obtain ⟨φ₂, σ₂, a, x, R₂, hc, hq⟩ := hp
    obtain ⟨x', R''⟩ := R.leave hk x R₂
    cases hc with
    | next => exact ⟨_, σ, .none, x', R'', .none, hq⟩
    | brk => exact ⟨_, σ, .none, x', R'', .none, hq⟩
    | cont => exact ⟨_, σ, .none, x', R'', .none, hq⟩
    | ret hv =>
      obtain ⟨b, hz, hq⟩ := hq
      exact ⟨_, σ, b, x', R'', hz.conc R₂.toRel0 hv, hq⟩
  · obtain ⟨_, _, _, _, _, _, _, hp⟩ := hf
    exact hp.elim
end
end Mine
end

section
open PySem PySem.W PyProof.Rows PySem.Calls
set_option Elab.async false
set_option maxRecDepth 100000
set_option maxHeartbeats 4000000
set_option linter.unusedVariables false
namespace Mine

theorem ok128 (w : World) : FnOk (KK w) 128 (fnD 128) (fnB 128) ["expected", "actual"] where
  obj := ⟨_, _, _, rfl⟩
  code := rfl
  body := rfl
  cell := by decide +kernel
  loc := by decide +kernel
  co := rfl
  gen := rfl
  fn := rfl
  gl := rfl
  bl := rfl
noncomputable abbrev sg (l : List Nat) : List (List Nat) := l.map fun c => [c]
noncomputable abbrev vcs (l : List Nat) : List AV := vstrs (sg l)
theorem vcs_get (l : List Nat) (n : Nat) : (vcs l)[n]? = (l[n]?).map fun c => .str [c] := by simp [vcs, sg]; rfl
theorem vcs_len (l : List Nat) : (vcs l).length = l.length := by simp
theorem vcs_append (a b : List Nat) : vcs (a ++ b) = vcs a ++ vcs b := by simp [vcs, sg]
theorem vcs_drop (l : List Nat) (n : Nat) : (vcs l).drop n = vcs (l.drop n) := by simp [vcs, sg, List.map_drop]

structure SI (xs ys : List Nat) (i j : Nat) (mis une : List Nat) (ma ua : Addr) (σ : St) : Prop where
  ex : σ.m "expected" = some (.list (vcs xs))
  ac : σ.m "actual" = some (.list (vcs ys))
  i : σ.m "i" = some (.int i)
  j : σ.m "j" = some (.int j)
  mi : σ.m "missing" = some (.ref ma)
  un : σ.m "unexpected" = some (.ref ua)
  ma : σ.mu ma = some (vcs mis)
  ua : σ.mu ua = some (vcs une)
noncomputable def SP (xs ys R1 R2 : List Nat) (ma ua : Addr) (σ : St) : Prop := ∃ i j mis une, SI xs ys i j mis une ma ua σ ∧ mis.length + xs.length ≤ 1000 ∧ une.length + ys.length ≤ 1000 ∧ R1 = mis ++ xs.drop i ∧ R2 = une ++ ys.drop j
noncomputable def ne' (l : List Nat) (x : Nat) : Bool := !decide (x ∈ l)
structure SJ (xs ys R1 R2 : List Nat) (ma ua : Addr) (a : Nat × Nat × List Nat × List Nat) (σ : St) : Prop where
  s : SI xs ys a.1 a.2.1 a.2.2.1 a.2.2.2 ma ua σ
  hi : a.1 ≤ xs.length
  hj : a.2.1 ≤ ys.length
  lm : a.2.2.1.length ≤ a.1
  lu : a.2.2.2.length ≤ a.2.1
  r1 : R1 = a.2.2.1 ++ (xs.drop a.1).filter (ne' (ys.drop a.2.1))
  r2 : R2 = a.2.2.2 ++ (ys.drop a.2.1).filter (ne' (xs.drop a.1))
theorem filter_all {l m : List Nat} (h : ∀ x ∈ l, x ∉ m) : l.filter (ne' m) = l := by
  rw [List.filter_eq_self]; intro x hx; simp [ne', h x hx]
theorem filter_cons_out {x : Nat} {l m : List Nat} (h : ∀ y ∈ l, y ≠ x) : l.filter (ne' (x :: m)) = l.filter (ne' m) := by
  apply List.filter_congr; intro y hy; simp [ne', h y hy]
theorem drop_cons {l : List Nat} {i x : Nat} (h : l[i]? = some x) : l.drop i = x :: l.drop (i + 1) := by
  obtain ⟨hlt, e⟩ := List.getElem?_eq_some_iff.mp h
  rw [List.drop_eq_getElem_cons hlt, e]
theorem asc_lt {l : List Nat} (h : l.Pairwise (· < ·)) {i j x y : Nat} (hij : i < j) (hx : l[i]? = some x) (hy : l[j]? = some y) : x < y := by
  obtain ⟨h1, rfl⟩ := List.getElem?_eq_some_iff.mp hx
  obtain ⟨h2, rfl⟩ := List.getElem?_eq_some_iff.mp hy
  exact List.pairwise_iff_getElem.mp h i j h1 h2 hij
theorem asc_drop {l : List Nat} (h : l.Pairwise (· < ·)) {i x : Nat} (hx : l[i]? = some x) : ∀ y ∈ l.drop (i + 1), x < y := by
  intro y hy
  obtain ⟨j, hj⟩ := List.mem_iff_getElem?.mp hy
  rw [List.getElem?_drop] at hj
  exact asc_lt h (by omega) hx hj
theorem dec_sing {x y : Nat} : decide (([x] : List Nat) < [y]) = decide (x < y) := by
  by_cases h : x < y
  · rw [decide_eq_true h, decide_eq_true (sing_lt.mpr h)]
  · rw [decide_eq_false h, decide_eq_false fun w => h (sing_lt.mp w)]

theorem body128 (c : Cx) (L : Addr) (xs ys : List Nat) (hx : xs.Pairwise (· < ·)) (hy : ys.Pairwise (· < ·)) (lx : xs.length ≤ 100) (ly : ys.length ≤ 100) (Q : AV → Prop) (G : Gl (calleeCx c (fnD 128) 128 L)) (hh : c.A.handled = none)
    (hq : Q (.tup [.list (vcs (xs.filter (ne' ys))), .list (vcs (ys.filter (ne' xs)))])) :
    ExsX (calleeCx c (fnD 128) 128 L) (fnB 128) (startSt ["expected", "actual"] [.list (vcs xs), .list (vcs ys)]) (Gives Q) "IndexError" false (fun _ => False) := by
  have hL : (calleeCx c (fnD 128) 128 L).env.locals ∈ (calleeCx c (fnD 128) 128 L).own := .head _
  have N : Never (calleeCx c (fnD 128) 128 L) := fun _ _ h => h
  have hh' : (calleeCx c (fnD 128) 128 L).A.handled = none := hh
  refine exsX_cons (exX_of N (ex_set2 G hL rfl rfl (ev_int ?_)))
  refine exsX_cons (exX_of N (ex_set G hL rfl (ev_listm (evs_nil ⟨by decide, fun ma hma => ?_⟩))))
  refine exsX_cons (exX_of N (ex_set G hL rfl (ev_listm (evs_nil ⟨by decide, fun ua hua => ?_⟩))))
  have hne : ua ≠ ma := fun w => by rw [w, St.set_mu, St.put_get] at hua; cases hua
  generalize hR1 : xs.filter (ne' ys) = R1 at hq
  generalize hR2 : ys.filter (ne' xs) = R2 at hq
  refine exsX_cons (exX_while (wlX_inv (α := Nat × Nat × List Nat × List Nat) (SJ xs ys R1 R2 ma ua) (fun a => (xs.length - a.1) + (ys.length - a.2.1)) ?_ (0, 0, [], []) ?_))
  · rintro ⟨i, j, mis, une⟩ σ ⟨S, hi, hj, lm, lu, r1, r2⟩
    dsimp only at S hi hj lm lu r1 r2
    refine tsX_of N (ts_value (ev_bool (tr_bool ⟨fun _ => ?_, fun hb => (by cases hb)⟩)))
    have out : ∀ σ' i' j' mis' une', SI xs ys i' j' mis' une' ma ua σ' → mis'.length ≤ 200 → une'.length ≤ 200 → R1 = mis' ++ xs.drop i' → R2 = une' ++ ys.drop j' → SP xs ys R1 R2 ma ua σ' := fun σ' i' j' mis' une' S' k1 k2 k3 k4 => ⟨i', j', mis', une', S', by omega, by omega, k3, k4⟩
    refine exsX_cons (exX_try (kn := false) (P := SP xs ys R1 R2 ma ua) G N rfl rfl ?_ ?_)
    · refine exsX_cons (exX_set G N hL rfl (evX_item G N rfl rfl S.ex S.i (by simp; omega) (by omega) (fun h => (by cases h)) (fun ae hae => ?_) fun hout => ?_))
      rotate_left
      · have hd : xs.drop i = [] := List.drop_of_length_le (by rw [vcs_len] at hout; exact hout)
        rw [hd] at r1 r2
        rw [filter_all (by simp)] at r2
        exact out σ i j mis une S (by omega) (by omega) (by rw [hd]; exact r1) r2
      rw [vcs_get] at hae
      obtain ⟨x, hxi, rfl⟩ := Option.map_eq_some_iff.mp hae
      have hdx := drop_cons hxi
      have S1 : SI xs ys i j mis une ma ua (σ.set "e" (.str [x])) := ⟨S.ex, S.ac, S.i, S.j, S.mi, S.un, S.ma, S.ua⟩
      refine exsX_cons (exX_set G N hL rfl (evX_item G N rfl rfl S1.ac S1.j (by simp; omega) (by omega) (fun h => (by cases h)) (fun aa haa => ?_) fun hout => ?_))
      rotate_left
      · have hd : ys.drop j = [] := List.drop_of_length_le (by rw [vcs_len] at hout; exact hout)
        rw [hd] at r1 r2
        rw [filter_all (by simp)] at r1
        exact out _ i j mis une S1 (by omega) (by omega) r1 (by rw [hd]; exact r2)
      rw [vcs_get] at haa
      obtain ⟨y, hyj, rfl⟩ := Option.map_eq_some_iff.mp haa
      have hdy := drop_cons hyj
      have hilt : i < xs.length := (List.getElem?_eq_some_iff.mp hxi).1
      have hjlt : j < ys.length := (List.getElem?_eq_some_iff.mp hyj).1
      have gx := asc_drop hx hxi
      have gy := asc_drop hy hyj
      have S2 : SI xs ys i j mis une ma ua ((σ.set "e" (.str [x])).set "a" (.str [y])) := ⟨S.ex, S.ac, S.i, S.j, S.mi, S.un, S.ma, S.ua⟩
      generalize hσ2 : (σ.set "e" (.str [x])).set "a" (.str [y]) = σ2 at S2 ⊢
      have he2 : σ2.m "e" = some (.str [x]) := by rw [← hσ2]; rfl
      have ha2 : σ2.m "a" = some (.str [y]) := by rw [← hσ2]; rfl
      have xne : ∀ k, i < k → ∀ x', xs[k]? = some x' → x' ≠ x := fun k hk x' hx' w => by have := asc_lt hx hk hxi hx'; omega
      have yne : ∀ k, j < k → ∀ y', ys[k]? = some y' → y' ≠ y := fun k hk y' hy' w => by have := asc_lt hy hk hyj hy'; omega
      refine exsX_cons (exX_if (tsX_of N (ts_cmp (ev_local G rfl he2 (ev_local G rfl ha2 (op_lts (tr_bool ⟨fun hb => ?_, fun hb => ?_⟩)))))))
      · -- e < a
        rw [dec_sing] at hb
        have hxy : x < y := of_decide_eq_true hb
        have xny : x ∉ ys.drop j := by
          rw [hdy]; intro w
          rcases List.mem_cons.mp w with w | w
          · omega
          · have := gy x w; omega
        have r1' : R1 = (mis ++ [x]) ++ (xs.drop (i + 1)).filter (ne' (ys.drop j)) := by
          rw [r1, hdx, List.filter_cons, if_pos (by simp [ne', xny])]; simp
        have r2' : R2 = une ++ (ys.drop j).filter (ne' (xs.drop (i + 1))) := by
          rw [r2, hdx, filter_cons_out (x := x) fun z hz w => xny (by rw [← w]; exact hz)]
        refine exsX_cons (exX_of N (ex_expr (ev_meth (ev_local G rfl S2.mi ⟨"list.append", mt_append S2.ma, evs_cons (ev_local G rfl he2 (evs_nil (cl_append S2.ma (by simp; omega) ?_)))⟩)) rfl))
        refine exsX_cons (exX_of N (ex_aug G hL rfl S2.i (ev_int (op_iadd ?_))))
        rw [show ((i : Int) + 1) = ((i + 1 : Nat) : Int) by push_cast; rfl]
        have S3 : SI xs ys (i + 1) j (mis ++ [x]) une ma ua ((σ2.put ma (vcs mis ++ [.str [x]])).set "i" (.int ((i + 1 : Nat) : Int))) := ⟨S2.ex, S2.ac, rfl, S2.j, S2.mi, S2.un, by rw [St.set_mu, St.put_get, vcs_append]; rfl, by rw [St.set_mu, St.put_get_ne _ _ hne]; exact S2.ua⟩
        refine exsX_cons (exX_while0 (tsX_cmp N (evX_item G N rfl rfl S3.ex S3.i (by simp; omega) (by omega) (fun h => (by cases h)) (fun b hb => ?_) fun hout => ?_)))
        · rw [vcs_get] at hb
          obtain ⟨x', hx', rfl⟩ := Option.map_eq_some_iff.mp hb
          refine ev_local G rfl he2 (op_eqs (tr_bool ⟨?_, ?_⟩))
          · simp [xne (i + 1) (by omega) x' hx']
          · exact exsX_nil (exsX_nil (exsX_nil ⟨(i + 1, j, mis ++ [x], une), by dsimp only; omega, S3, by dsimp only; omega, hj, by simp; omega, lu, r1', r2'⟩))
        · have hd : xs.drop (i + 1) = [] := List.drop_of_length_le (by rw [vcs_len] at hout; exact hout)
          refine out _ (i + 1) j (mis ++ [x]) une S3 (by simp; omega) (by omega) ?_ ?_
          · rw [r1', hd]; simp
          · rw [r2', hd, filter_all (by simp)]
      · rw [dec_sing] at hb
        have hxy : ¬ x < y := of_decide_eq_false hb
        refine exsX_cons (exX_if (tsX_of N (ts_cmp (ev_local G rfl he2 (ev_local G rfl ha2 (op_gts (tr_bool ⟨fun hb => ?_, fun hb => ?_⟩)))))))
        · -- e > a
          rw [dec_sing] at hb
          have hyx : y < x := of_decide_eq_true hb
          have ynx : y ∉ xs.drop i := by
            rw [hdx]; intro w
            rcases List.mem_cons.mp w with w | w
            · omega
            · have := gx y w; omega
          have r2' : R2 = (une ++ [y]) ++ (ys.drop (j + 1)).filter (ne' (xs.drop i)) := by
            rw [r2, hdy, List.filter_cons, if_pos (by simp [ne', ynx])]; simp
          have r1' : R1 = mis ++ (xs.drop i).filter (ne' (ys.drop (j + 1))) := by
            rw [r1, hdy, filter_cons_out (x := y) fun z hz w => ynx (by rw [← w]; exact hz)]
          refine exsX_cons (exX_of N (ex_expr (ev_meth (ev_local G rfl S2.un ⟨"list.append", mt_append S2.ua, evs_cons (ev_local G rfl ha2 (evs_nil (cl_append S2.ua (by simp; omega) ?_)))⟩)) rfl))
          refine exsX_cons (exX_of N (ex_aug G hL rfl S2.j (ev_int (op_iadd ?_))))
          rw [show ((j : Int) + 1) = ((j + 1 : Nat) : Int) by push_cast; rfl]
          have S3 : SI xs ys i (j + 1) mis (une ++ [y]) ma ua ((σ2.put ua (vcs une ++ [.str [y]])).set "j" (.int ((j + 1 : Nat) : Int))) := ⟨S2.ex, S2.ac, S2.i, rfl, S2.mi, S2.un, by rw [St.set_mu, St.put_get_ne _ _ (Ne.symm hne)]; exact S2.ma, by rw [St.set_mu, St.put_get, vcs_append]; rfl⟩
          refine exsX_cons (exX_while0 (tsX_cmp N (evX_item G N rfl rfl S3.ac S3.j (by simp; omega) (by omega) (fun h => (by cases h)) (fun b hb => ?_) fun hout => ?_)))
          · rw [vcs_get] at hb
            obtain ⟨y', hy', rfl⟩ := Option.map_eq_some_iff.mp hb
            refine ev_local G rfl ha2 (op_eqs (tr_bool ⟨?_, ?_⟩))
            · simp [yne (j + 1) (by omega) y' hy']
            · exact exsX_nil (exsX_nil (exsX_nil (exsX_nil ⟨(i, j + 1, mis, une ++ [y]), by dsimp only; omega, S3, hi, by dsimp only; omega, lm, by simp; omega, r1', r2'⟩)))
          · have hd : ys.drop (j + 1) = [] := List.drop_of_length_le (by rw [vcs_len] at hout; exact hout)
            refine out _ i (j + 1) mis (une ++ [y]) S3 (by omega) (by simp; omega) ?_ ?_
            · rw [r1', hd, filter_all (by simp)]
            · rw [r2', hd]; simp
        · -- the same
          rw [dec_sing] at hb
          have hyx : ¬ y < x := of_decide_eq_false hb
          have hxy' : y = x := by omega
          subst hxy'
          have r1' : R1 = mis ++ (xs.drop (i + 1)).filter (ne' (ys.drop (j + 1))) := by
            rw [r1, hdx, hdy, List.filter_cons, if_neg (by simp [ne']), filter_cons_out fun z hz w => by have := gx z hz; omega]
          have r2' : R2 = une ++ (ys.drop (j + 1)).filter (ne' (xs.drop (i + 1))) := by
            rw [r2, hdx, hdy, List.filter_cons, if_neg (by simp [ne']), filter_cons_out fun z hz w => by have := gy z hz; omega]
          refine exsX_cons (exX_of N (ex_aug G hL rfl S2.i (ev_int (op_iadd ?_))))
          rw [show ((i : Int) + 1) = ((i + 1 : Nat) : Int) by push_cast; rfl]
          have S3 : SI xs ys (i + 1) j mis une ma ua (σ2.set "i" (.int ((i + 1 : Nat) : Int))) := ⟨S2.ex, S2.ac, rfl, S2.j, S2.mi, S2.un, S2.ma, S2.ua⟩
          generalize hσ3 : σ2.set "i" (.int ((i + 1 : Nat) : Int)) = σ3 at S3 ⊢
          have he3 : σ3.m "e" = some (.str [y]) := by rw [← hσ3]; exact he2
          have ha3 : σ3.m "a" = some (.str [y]) := by rw [← hσ3]; exact ha2
          refine exsX_cons (exX_finally (P1 := fun σ' => σ' = σ3 ∧ xs.drop (i + 1) = []) ?_ ?_)
          · refine exsX_cons (exX_while0 (tsX_cmp N (evX_item G N rfl rfl S3.ex S3.i (by simp; omega) (by omega) (fun _ => hh') (fun b hb => ?_) fun hout => ⟨rfl, List.drop_of_length_le (by rw [vcs_len] at hout; exact hout)⟩)))
            rw [vcs_get] at hb
            obtain ⟨x', hx', rfl⟩ := Option.map_eq_some_iff.mp hb
            refine ev_local G rfl he3 (op_eqs (tr_bool ⟨?_, ?_⟩))
            · simp [xne (i + 1) (by omega) x' hx']
            refine exsX_nil ⟨rfl, ?_⟩
            refine exsX_cons (exX_of N (ex_aug G hL rfl S3.j (ev_int (op_iadd ?_))))
            rw [show ((j : Int) + 1) = ((j + 1 : Nat) : Int) by push_cast; rfl]
            have S4 : SI xs ys (i + 1) (j + 1) mis une ma ua (σ3.set "j" (.int ((j + 1 : Nat) : Int))) := ⟨S3.ex, S3.ac, S3.i, rfl, S3.mi, S3.un, S3.ma, S3.ua⟩
            refine exsX_cons (exX_while0 (tsX_cmp N (evX_item G N rfl rfl S4.ac S4.j (by simp; omega) (by omega) (fun h => (by cases h)) (fun b hb => ?_) fun hout => ?_)))
            · rw [vcs_get] at hb
              obtain ⟨y', hy', rfl⟩ := Option.map_eq_some_iff.mp hb
              refine ev_local G rfl ha3 (op_eqs (tr_bool ⟨?_, ?_⟩))
              · simp [yne (j + 1) (by omega) y' hy']
              · exact exsX_nil ⟨rfl, exsX_nil (exsX_nil (exsX_nil (exsX_nil ⟨(i + 1, j + 1, mis, une), by dsimp only; omega, S4, by dsimp only; omega, by dsimp only; omega, by dsimp only; omega, by dsimp only; omega, r1', r2'⟩)))⟩
            · have hd : ys.drop (j + 1) = [] := List.drop_of_length_le (by rw [vcs_len] at hout; exact hout)
              refine out _ (i + 1) (j + 1) mis une S4 (by omega) (by omega) ?_ ?_
              · rw [r1', hd, filter_all (by simp)]
              · rw [r2', hd]; simp
          · rintro e σ' ⟨rfl, hdx'⟩
            have GM := G.mark (some (.ref e))
            have NM : Never ((calleeCx c (fnD 128) 128 L).at ((calleeCx c (fnD 128) 128 L).A.mark (some (.ref e)))) := N
            have fin : R1 = mis ++ xs.drop (i + 1) ∧ R2 = une ++ ys.drop (j + 1) := by
              rw [hdx'] at r1' r2' ⊢
              rw [filter_all (by simp)] at r2'
              exact ⟨r1', r2'⟩
            refine exsX_cons (exX_of NM (ex_aug GM hL rfl S3.j (ev_int (op_iadd ?_))))
            rw [show ((j : Int) + 1) = ((j + 1 : Nat) : Int) by push_cast; rfl]
            have S4 : SI xs ys (i + 1) (j + 1) mis une ma ua (σ'.set "j" (.int ((j + 1 : Nat) : Int))) := ⟨S3.ex, S3.ac, S3.i, rfl, S3.mi, S3.un, S3.ma, S3.ua⟩
            have fin' : SP xs ys R1 R2 ma ua (σ'.set "j" (.int ((j + 1 : Nat) : Int))) := out _ (i + 1) (j + 1) mis une S4 (by omega) (by omega) fin.1 fin.2
            refine exsX_cons (exX_while0 (tsX_cmp NM (evX_item GM NM rfl rfl S4.ac S4.j (by simp; omega) (by omega) (fun h => (by cases h)) (fun b hb => ?_) fun hout => fin')))
            rw [vcs_get] at hb
            obtain ⟨y', hy', rfl⟩ := Option.map_eq_some_iff.mp hb
            refine ev_local GM rfl ha3 (op_eqs (tr_bool ⟨?_, ?_⟩))
            · simp [yne (j + 1) (by omega) y' hy']
            · exact exsX_nil ⟨rfl, fin'⟩
    · rintro e σ' ⟨i', j', mis', une', S', k1, k2, k3, k4⟩
      have GM := G.mark (some (.ref e))
      have lxs : (vcs xs).length ≤ sizeLine := by rw [vcs_len, PySem.sizeLine_eq]; omega
      have lys : (vcs ys).length ≤ sizeLine := by rw [vcs_len, PySem.sizeLine_eq]; omega
      refine exs_cons (ex_expr (ev_meth (ev_local GM rfl S'.mi ⟨"list.extend", mt_extend S'.ma, evs_cons (ev_cutl (ev_local GM rfl S'.ex ⟨_, rfl, lxs, evp_some (ev_local GM rfl S'.i ⟨_, rfl, evp_none (evs_nil (cl_extend S'.ma (by simp; omega) ?_ ?_))⟩)⟩))⟩)) rfl)
      · rw [cut_drop, vcs_drop, vcs_len, List.length_drop]; omega
      rw [cut_drop, vcs_drop, ← vcs_append, ← k3]
      refine exs_cons (ex_expr (ev_meth (ev_local GM rfl S'.un ⟨"list.extend", mt_extend (by rw [St.put_get_ne _ _ hne]; exact S'.ua), evs_cons (ev_cutl (ev_local GM rfl S'.ac ⟨_, rfl, lys, evp_some (ev_local GM rfl S'.j ⟨_, rfl, evp_none (evs_nil (cl_extend (by rw [St.put_get_ne _ _ hne]; exact S'.ua) (by simp; omega) ?_ ?_))⟩)⟩))⟩)) rfl)
      · rw [cut_drop, vcs_drop, vcs_len, List.length_drop]; omega
      rw [cut_drop, vcs_drop, ← vcs_append, ← k4]
      refine exs_cons (ex_break ?_)
      show ExsX _ _ _ _ _ _ _
      have h1 : ((σ'.put ma (vcs R1)).put ua (vcs R2)).mu ma = some (vcs R1) := by rw [St.put_get_ne _ _ (Ne.symm hne), St.put_get]
      have h2 : ((σ'.put ma (vcs R1)).put ua (vcs R2)).mu ua = some (vcs R2) := by rw [St.put_get]
      refine exsX_cons (exX_of N (ex_ret (ev_tuple (evs_cons (ev_local G rfl S'.mi (evs_cons (ev_local G rfl S'.un (evs_nil ⟨by show 2 ≤ sizeLine; decide, _, .tup (.cons (.ref h1 (Frzs.same ..)) (.cons (.ref h2 (Frzs.same ..)) .nil)), hq⟩))))))))
  · refine ⟨⟨rfl, rfl, rfl, rfl, rfl, rfl, ?_, ?_⟩, by show 0 ≤ _; omega, by show 0 ≤ _; omega, by simp, by simp, by simpa using hR1.symm, by simpa using hR2.symm⟩
    · rw [St.set_mu, St.put_get_ne _ _ (Ne.symm hne), St.set_mu, St.put_get]; rfl
    · rw [St.set_mu, St.put_get]; rfl
theorem cl128 {c : Cx} {σ : St} {xs ys : List Nat} {Q : AV → St → Prop} (G : Gl c) (hFr : ∀ φ σ s, Rel c φ σ s → Fro c s) (hd : c.A.depth < 600) (hu : c.A.units < 4990) (hh : c.A.handled = none) (hx : xs.Pairwise (· < ·)) (hy : ys.Pairwise (· < ·)) (lx : xs.length ≤ 100) (ly : ys.length ≤ 100)
    (h : Q (.tup [.list (vcs (xs.filter (ne' ys))), .list (vcs (ys.filter (ne' xs)))]) σ) : Cl c (.ref 128) [.list (vcs xs), .list (vcs ys)] σ Q :=
  cl_defX (as' := [.list (vcs xs), .list (vcs ys)]) G hFr (ok128 c.w) rfl hd hu hh (fun φ s vs R hc => ⟨vs, by obtain ⟨v, u, rfl, h1, h2⟩ := concs2 hc; exact .of_eq rfl, hc⟩) fun L hLt => body128 c L xs ys hx hy lx ly _ (G.callee (ok128 c.w) hd hu hLt) hh h
end Mine
end

section
open PySem PySem.W PyProof.Rows PySem.Calls Builtin Builtin.ObjectAttr Builtin.Getset_descriptor
set_option Elab.async false
set_option maxRecDepth 100000
set_option maxHeartbeats 4000000
set_option linter.unusedVariables false
namespace Mine

noncomputable abbrev insO (dx : Addr) (sl : Array (Option Value)) : Obj := { cls := .ref 102, dict := some dx, data := .plain, slots := sl }
noncomputable abbrev itO (l : Addr) (k : Nat) : Obj := { cls := .type "list_iterator", data := .fields #[.ref l, .int k 0] }
theorem inst_at {h : Heap} {x dx : Addr} {sl : Array (Option Value)} (hx : h.get? x = some (insO dx sl)) (hd : h.get? dx = some emptyDict) : PySem.W.InstAt h x (insO dx sl) 102 (some emptyDict) := ⟨hx, rfl, rfl, hd⟩
section
variable {prog : Program} {w : World} {A : Around} {E : Value → Shared → Prop} {s : Shared} {R : Result → Shared → Prop}
noncomputable abbrev putSl (i : Nat) (v : Value) (o : Obj) : Obj := { o with slots := (o.slots ++ Array.replicate (i + 1 - o.slots.size) none).setIfInBounds i (some v) }
theorem slot_put {K : Frag} {C x p : Addr} {ox : Obj} {od : Option Obj} {v : Value} {i : Nat} (X : K.In s.heap) (I : PySem.W.InstAt s.heap x ox C od) (hp : slotIn K p C = some i) (hi : i < 1000)
    (h : R (.ok (.ret .none)) { s with heap := s.heap.update x (putSl i v) }) : codeAny (model prog w) A (.call (.builtin "member_descriptor.__set__") ⟨[.ref p, .ref x, v], []⟩) R s := by
  obtain ⟨n, tn, owner, behind, tb, d, sl, cd, ho, hc, hm, hb, rfl⟩ := slot_of X hp
  obtain ⟨hh, g, dr, t, os⟩ := s
  have L0 := I.type (M := model prog w)
  have L1 := looks_mroIn (M := model prog w) X hm
  have L2 : Looks (model prog w) hh (Slots.slotNamesOf (.ref C)) cd.slotNames := (looks_clsIn X hc).andThen .now
  have hx := I.at_
  dsimp only at ho hx L0 L1
  have f0 := looks_field (M := model prog w) ho 0 (v := .str n tn) rfl
  have f1 := looks_field (M := model prog w) ho 1 (v := owner) rfl
  have f3 := looks_field (M := model prog w) ho 3 (v := .builtin "proto.slot#set") rfl
  have f4 := looks_field (M := model prog w) ho 4 (v := .int behind tb) rfl
  refine codeAny_call_builtin KF.slot_mset.plain KF.entry_mset (KF.slot_mset.check _ _ _ _ _ _ _ _ ⟨_, ho, rfl⟩ (KF.args_mset _ _ _) ?_)
  unfold Builtin.«member_descriptor.__set__» descrSet descrStoreThrough descrCheckInstance descrNameAndClass isInstance
  have f5 : Looks (model prog w) hh (descrItself (.ref p)) [.ref p] := ((Looks.ld (part := none) ho).andThen .now).andThen (Looks.of_pure (by kernel_rfl))
  repeat lk
  refine ⟨Code.quiet_builtin _ (by decide +kernel), codeAny_builtin KF.entry_slotset ?_⟩
  unfold Builtin.«proto.slot#set» Slots.target
  repeat lk
  rw [if_neg hb]
  refine wpAny_pure (wpAny_bind ?_)
  unfold setSlotAt
  dsimp only
  rw [if_neg (by rw [sizeLine_eq]; omega)]
  exact wpAny_updatePart hx (wpAny_pure h)
theorem set_it {x dx : Addr} {sl : Array (Option Value)} {v : Value} {Q : Unit → Shared → Prop} (X : (KK w).In s.heap) (hx : s.heap.get? x = some (insO dx sl)) (hd : s.heap.get? dx = some emptyDict)
    (h : Q () { s with heap := s.heap.update x (putSl 1 v), toks := s.toks + 1 }) : wpAny (model prog w) A (setAttr (.ref x) "_it" v) Q E s :=
  set_plain X (inst_at hx hd) rfl (osa_descr (s := { s with toks := s.toks + 1 }) KF.slot_mset X (inst_at hx hd) rfl (show takerIn (KK w) 102 "_it" = some (some (.ref 104)) from rfl) rfl (slot_put (s := { s with toks := s.toks + 1 }) X (inst_at hx hd) (show slotIn (KK w) 104 102 = some 1 from rfl) (by decide) h))
theorem set_func {x dx : Addr} {sl : Array (Option Value)} {v : Value} {Q : Unit → Shared → Prop} (X : (KK w).In s.heap) (hx : s.heap.get? x = some (insO dx sl)) (hd : s.heap.get? dx = some emptyDict)
    (h : Q () { s with heap := s.heap.update x (putSl 0 v), toks := s.toks + 1 }) : wpAny (model prog w) A (setAttr (.ref x) "_func" v) Q E s :=
  set_plain X (inst_at hx hd) rfl (osa_descr (s := { s with toks := s.toks + 1 }) KF.slot_mset X (inst_at hx hd) rfl (show takerIn (KK w) 102 "_func" = some (some (.ref 103)) from rfl) rfl (slot_put (s := { s with toks := s.toks + 1 }) X (inst_at hx hd) (show slotIn (KK w) 103 102 = some 0 from rfl) (by decide) h))
theorem get_func {x dx : Addr} {sl : Array (Option Value)} {u : Addr} {Q : Value → Shared → Prop} (X : (KK w).In s.heap) (hx : s.heap.get? x = some (insO dx sl)) (hd : s.heap.get? dx = some emptyDict) (hv : (sl[0]?).join = some (.ref u))
    (h : Q (.ref u) { s with toks := s.toks + 1 }) : wpAny (model prog w) A (getAttr (.ref x) "_func" true) Q E s :=
  get_bind X (inst_at hx hd) (plainGet_of (show plainGet (KK w) 102 "_func" = true from rfl)).1 (findObj_data (K := KK w) (a := .ref 103) (g := .builtin "member_descriptor.__get__") rfl rfl rfl rfl) (plainGet_of (show plainGet (KK w) 102 "_func" = true from rfl)).2
    (wpAny_call (slot_get (s := { s with toks := s.toks + 1 }) X (inst_at hx hd) (show slotIn (KK w) 103 102 = some 0 from rfl) hv (handed_on rfl h)))
theorem get_it {x dx : Addr} {sl : Array (Option Value)} {u : Addr} {Q : Value → Shared → Prop} (X : (KK w).In s.heap) (hx : s.heap.get? x = some (insO dx sl)) (hd : s.heap.get? dx = some emptyDict) (hv : (sl[1]?).join = some (.ref u))
    (h : Q (.ref u) { s with toks := s.toks + 1 }) : wpAny (model prog w) A (getAttr (.ref x) "_it" true) Q E s :=
  get_bind X (inst_at hx hd) (plainGet_of (show plainGet (KK w) 102 "_it" = true from rfl)).1 (findObj_data (K := KK w) (a := .ref 104) (g := .builtin "member_descriptor.__get__") rfl rfl rfl rfl) (plainGet_of (show plainGet (KK w) 102 "_it" = true from rfl)).2
    (wpAny_call (slot_get (s := { s with toks := s.toks + 1 }) X (inst_at hx hd) (show slotIn (KK w) 104 102 = some 1 from rfl) hv (handed_on rfl h)))
theorem call_iter {l : Addr} {items : Array Value} {Q : Value → Shared → Prop} (hl : s.heap.IsList l items) (h : Q (.ref s.heap.objs.size) { s with heap := s.heap.push (itO l 0) }) : wpAny (model prog w) A (call (.builtin "iter") [.ref l]) Q E s := by
  refine call_function_entry (by decide +kernel) (by decide +kernel) kdk_entry_iter (kdk_args_iter _) ?_
  unfold Builtin.«iter»
  refine wpAny_bind (m := someArgs "iter" 1 2 _) (wpAny_of_eq (a := [Value.ref l]) (by first | rfl | kernel_rfl) ?_)
  show wpAny _ _ (pyIter (.ref l) >>= _) _ _ _
  exact wpAny_bind (wpAny_pyIter_list hl (wpAny_pure ⟨_, rfl, h⟩))
theorem call_next {l i : Addr} {k : Nat} {items : Array Value} {v : Value} {Q : Value → Shared → Prop} (hi : s.heap.get? i = some (itO l k)) (hl : s.heap.IsList l items) (hv : items[k]? = some v)
    (h : Q v { s with heap := s.heap.update i (Obj.mapFields (·.setIfInBounds 1 (rawInt (k + 1)))) }) : wpAny (model prog w) A (call (.builtin "next") [.ref i]) Q E s := by
  obtain ⟨ol, hol, _, nl, hdl⟩ := hl
  have hT : s.TypeIs (.ref i) "list_iterator" := ⟨_, hi, rfl⟩
  refine call_function_entry (by decide +kernel) (by decide +kernel) kdk_entry_next (kdk_args_next _) ?_
  unfold Builtin.«next»
  refine wpAny_bind (m := someArgs "next" 1 2 _) (wpAny_of_eq (a := [Value.ref i]) (by first | rfl | kernel_rfl) ?_)
  dsimp only
  refine wpAny_bind (wpAny_specialOf (name := Str.ofString "__next__") hT slot_listiter_next.lookup ?_)
  refine wpAny_ite_split (fun hab => absurd hab (by decide)) (fun _ => ?_)
  refine wpAny_bind (wpAny_callSpecial?_slot (name := Str.ofString "__next__") hT slot_listiter_next (wpAny_call_entry slot_listiter_next hT entry_listiter_next ?_ (args_listiter_next _)))
  show wpAny _ _ (field (.ref i) 0 >>= _) _ _ s
  refine wpAny_bind (wpAny_field hi rfl (x := .ref l) rfl ?_)
  show wpAny _ _ (if (Value.ref l == Value.none) = true then _ else _) _ _ s
  rw [if_neg (show ¬ ((Value.ref l == Value.none) = true) from Bool.false_ne_true)]
  show wpAny _ _ (field (.ref i) 1 >>= _) _ _ s
  refine wpAny_bind (wpAny_field hi rfl (x := .int k 0) rfl ?_)
  show wpAny _ _ (seqItems? (.ref l) >>= _) _ _ s
  refine wpAny_bind (wpAny_seqItems hol hdl ?_)
  simp only [Int.toNat_natCast, hv]
  refine wpAny_bind (wpAny_setField hi rfl (by simp) (wpAny_pure ⟨v, rfl, wpAny_pure ⟨v, rfl, h⟩⟩))
theorem call_next_end {l i : Addr} {k : Nat} {items : Array Value} {Q : Value → Shared → Prop} (hh : A.handled = none) (hi : s.heap.get? i = some (itO l k)) (hl : s.heap.IsList l items) (hv : items[k]? = none)
    (h : ∀ h' e oe vs a0, (∀ b o, b ≠ i → s.heap.get? b = some o → h'.get? b = some o) → (∃ o, h'.get? i = some o ∧ ∃ vs, o.data = .fields vs) → s.heap.get? e = none → h'.get? e = some oe → oe.cls = .type "StopIteration" → oe.data = .fields vs → vs[0]? = some a0 → vs[1]? = some .none → vs[2]? = some .none → E (.ref e) { s with heap := h' }) :
    wpAny (model prog w) A (call (.builtin "next") [.ref i]) Q E s := by
  obtain ⟨ol, hol, _, nl, hdl⟩ := hl
  have hT : s.TypeIs (.ref i) "list_iterator" := ⟨_, hi, rfl⟩
  refine call_function_entry (by decide +kernel) (by decide +kernel) kdk_entry_next (kdk_args_next _) ?_
  unfold Builtin.«next»
  refine wpAny_bind (m := someArgs "next" 1 2 _) (wpAny_of_eq (a := [Value.ref i]) (by first | rfl | kernel_rfl) ?_)
  dsimp only
  refine wpAny_bind (wpAny_specialOf (name := Str.ofString "__next__") hT slot_listiter_next.lookup ?_)
  refine wpAny_ite_split (fun hab => absurd hab (by decide)) (fun _ => ?_)
  refine wpAny_bind (wpAny_callSpecial?_slot (name := Str.ofString "__next__") hT slot_listiter_next (wpAny_call_entry slot_listiter_next hT entry_listiter_next ?_ (args_listiter_next _)))
  show wpAny _ _ (field (.ref i) 0 >>= _) _ _ s
  refine wpAny_bind (wpAny_field hi rfl (x := .ref l) rfl ?_)
  show wpAny _ _ (if (Value.ref l == Value.none) = true then _ else _) _ _ s
  rw [if_neg (show ¬ ((Value.ref l == Value.none) = true) from Bool.false_ne_true)]
  show wpAny _ _ (field (.ref i) 1 >>= _) _ _ s
  refine wpAny_bind (wpAny_field hi rfl (x := .int k 0) rfl ?_)
  show wpAny _ _ (seqItems? (.ref l) >>= _) _ _ s
  refine wpAny_bind (wpAny_seqItems hol hdl ?_)
  simp only [Int.toNat_natCast, hv]
  refine wpAny_bind (wpAny_rule (wpAny_bind (wpAny_setField hi rfl (by simp) ?_)))
  show wpAny _ _ (newExc (.type "StopIteration") [] >>= _) _ _ _
  refine wpAny_bind ?_
  simp only [newExc, newTuple]
  refine wpAny_bind (wpAny_newObj_type ?_ (by size_fits))
  refine wpAny_bind (m := firstArgMember _ _) (wpAny_of_eq (a := Value.none) (by first | rfl | (simp only [firstArgMember]; rfl)) ?_)
  refine wpAny_newObj_type ?_ (by size_fits)
  simp only [raiseNew]
  refine wpAny_bind (wpAny_handled ?_)
  rw [show A.in1.in1.handled = none from hh]
  refine wpAny_bind (wpAny_pure (wpAny_throw ?_))
  have hu := Heap.get?_update_self (Obj.mapFields (·.setIfInBounds 0 Value.none)) hi (Obj.isFreed_of_fields (Obj.data_mapFields rfl _))
  refine h _ _ _ _ _ (fun b o hb e => Heap.get?_push_of_some _ (Heap.get?_push_of_some _ ((Heap.get?_update_other _ _ (Ne.symm hb)).trans e))) ⟨_, Heap.get?_push_of_some _ (Heap.get?_push_of_some _ hu), _, Obj.data_mapFields rfl _⟩ ?_ (Heap.get?_push_size _ rfl) rfl rfl rfl rfl rfl
  exact Heap.get?_none_of_le (by simp [Heap.update])
end
end Mine
end

section
open PySem PySem.W PyProof.Rows PySem.Calls
set_option Elab.async false
set_option maxRecDepth 100000
set_option maxHeartbeats 4000000
set_option linter.unusedVariables false
namespace Mine
theorem ok84 (w : World) : FnOk (KK w) 84 (fnD 84) (fnB 84) ["self", "function", "iterable"] where
  obj := ⟨_, _, _, rfl⟩
  code := rfl
  body := rfl
  cell := by decide +kernel
  loc := by decide +kernel
  co := rfl
  gen := rfl
  fn := rfl
  gl := rfl
  bl := rfl
theorem ok91 (w : World) : FnOk (KK w) 91 (fnD 91) (fnB 91) ["self"] where
  obj := ⟨_, _, _, rfl⟩
  code := rfl
  body := rfl
  cell := by decide +kernel
  loc := by decide +kernel
  co := rfl
  gen := rfl
  fn := rfl
  gl := rfl
  bl := rfl
theorem ok98 (w : World) : FnOk (KK w) 98 (fnD 98) (fnB 98) ["self"] where
  obj := ⟨_, _, _, rfl⟩
  code := rfl
  body := rfl
  cell := by decide +kernel
  loc := by decide +kernel
  co := rfl
  gen := rfl
  fn := rfl
  gl := rfl
  bl := rfl

section
variable {c : Cx} {φ φ' : PH} {σ σ' : St} {s s' : Shared} {A : Around} {E : Value → Shared → Prop}
theorem nm_builtin {M : Model} {env : Env} {x : Str} {pos} {v : Value} {Q : Value → Shared → Prop} (G : Gl c) (k : ∀ b o, c.h₀.get? b = some o → s.heap.get? b = some o) (hf : env.scope.kind = .function) (hg : env.globals = mainGlobals) (hb : env.builtins = builtinsNs) (hk : env.kindOf x = some .globalImplicit) (hx : nsIn (KK c.w) mainGlobals x = some none) (hv : bootBuiltins x = some v) (h : Q v s)
    (hn : x ≠ "__name__" := by decide) (hd : (x == ("__debug__" : Str)) = false := by decide) : wpAny M A (eval (.Name x pos) env) Q E s := by
  obtain ⟨mg, mb, hgn, hbn, hboot, _⟩ := G.T
  exact Name_function_global hf hk (loadGlobal_builtin (by rw [hg]; exact hgn.keeps k) (mg_none_of G.K hgn hx) (by rw [hb]; exact hbn.keeps k) ((hboot x hn).trans hv) h) hd
theorem ns_other {h : Heap} {L a : Addr} {f : Obj → Obj} {m : Str → Option Value} (hn : h.Ns L m) (hne : L ≠ a) : (h.update a f).Ns L m := by
  obtain ⟨oL, es, ep, hL, hd, r⟩ := hn
  exact ⟨oL, es, ep, (Heap.get?_update_other _ _ (Ne.symm hne)).trans hL, hd, r⟩
theorem ns_keeps {h h' : Heap} {L : Addr} {m : Str → Option Value} (hn : h.Ns L m) (k : ∀ b o, h.get? b = some o → h'.get? b = some o) : h'.Ns L m := hn.keeps k
theorem mk_call {u l : Addr} {items : Array Value} {Q : Value → Shared → Prop} (G : Gl c) (R : Rel c φ σ s) (hd : c.A.depth < 590) (hl : s.heap.IsList l items)
    (h : ∀ h' tk x dx i, 0 < tk → (∀ b o, s.heap.get? b = some o → h'.get? b = some o) → s.heap.get? x = none → s.heap.get? dx = none → s.heap.get? i = none → x ≠ i → x ≠ dx → dx ≠ i → h'.get? x = some (insO dx #[some (.ref u), some (.ref i)]) → h'.get? dx = some emptyDict → h'.get? i = some (itO l 0) → Q (.ref x) { s with heap := h', toks := tk }) :
    wpAny (model c.prog c.w) c.A (call (.ref 102) [.ref u, .ref l]) Q E s := by
  have X := R.K G
  have kb := R.gns
  obtain ⟨hp, g, d, t, os⟩ := s
  dsimp only at X kb hl h
  have nD : hp.get? hp.objs.size = none := push_new hp
  have nX : hp.get? (hp.objs.size + 1) = none := Heap.get?_none_of_le (Nat.le_succ _)
  have k1 : ∀ b o, hp.get? b = some o → ((hp.push emptyDict).push (instObj 102 hp.objs.size)).get? b = some o := fun b o e => Heap.get?_push_of_some _ (Heap.get?_push_of_some _ e)
  refine wpAny_call (make_core (makes_of X rfl) (looks_findIn X (show findIn (KK c.w) (.ref 102) "__init__" = some (some (.ref 84)) from rfl)) (fun self => bind_fn X self rfl) (.inl rfl) ?_)
  generalize hx : hp.objs.size + 1 = x at nX
  have hxo : ((hp.push emptyDict).push (instObj 102 hp.objs.size)).get? x = some (insO hp.objs.size #[]) := by
    rw [← hx]
    have := Heap.get?_push_size (hp.push emptyDict) (o := instObj 102 hp.objs.size) rfl
    rwa [Heap.size_push] at this
  have hdo : ((hp.push emptyDict).push (instObj 102 hp.objs.size)).get? hp.objs.size = some emptyDict := Heap.get?_push_of_some _ (Heap.get?_push_size _ rfl)
  generalize hdx : hp.objs.size = dx at nD hxo hdo k1 hx
  generalize hh1 : (hp.push emptyDict).push (instObj 102 dx) = h1 at k1 hxo hdo
  obtain ⟨oc, od, osl, ho⟩ := (ok84 c.w).obj
  refine codeAny_call_def (fd := fnD 84) (body := fnB 84) (binds := (["self", "function", "iterable"] : List Str).zip [Value.ref x, Value.ref u, Value.ref l]) (by show c.A.depth + 1 < recursionLimit; unfold recursionLimit; omega) (k1 _ _ (X _ _ ho)) rfl (G.lim.keeps fun b o e => k1 _ _ (kb b o e)) (codeRec_of (X.keeps k1) (ok84 c.w).code) (ok84 c.w).body (.of_eq rfl) (ok84 c.w).cell (fun y hy => (ok84 c.w).loc _ (List.of_mem_zip hy).1) (fun h₀ hn hk => ?_) (ok84 c.w).co (ok84 c.w).gen (ok84 c.w).fn
  have nL : h1.get? h1.objs.size = none := push_new h1
  generalize hL : h1.objs.size = L at hn hk nL
  have kb0 : ∀ b o, c.h₀.get? b = some o → h₀.get? b = some o := fun b o e => hk _ _ (k1 _ _ (kb b o e))
  have k0 : ∀ b o, hp.get? b = some o → h₀.get? b = some o := fun b o e => hk _ _ (k1 _ _ e)
  have hl0 : h₀.IsList l items := by obtain ⟨o, a, b⟩ := hl; exact ⟨o, k0 _ _ a, b⟩
  have X0 : (KK c.w).In h₀ := X.keeps k0
  have hxL : L ≠ x := fun w => by rw [← w, nL] at hxo; cases hxo
  refine wpAny_execs_cons (plainObj_wpAny_Assign_Attribute (attr := "_it") ?_ (by rfl))
  refine wpAny_Call_ofName (nm_builtin G kb0 rfl rfl rfl rfl rfl (v := .builtin "iter") rfl ?_)
  refine callWith_method1 ?_ (by rfl) (by rfl)
  refine wpAny_items_cons (wpAny_Name (wpAny_loadName_local rfl rfl hn (v := .ref l) rfl (wpAny_items_nil ?_)) (by decide)) (by rfl)
  refine call_iter hl0 ?_
  have nI : h₀.get? h₀.objs.size = none := push_new h₀
  have hIo : (h₀.push (itO l 0)).get? h₀.objs.size = some (itO l 0) := Heap.get?_push_size _ rfl
  have k2 : ∀ b o, h₀.get? b = some o → (h₀.push (itO l 0)).get? b = some o := fun b o e => Heap.get?_push_of_some _ e
  have hn2 := ns_keeps hn k2
  generalize hii : h₀.objs.size = i at nI hIo
  generalize hh2 : h₀.push (itO l 0) = h2 at hIo k2 hn2
  have hxi : x ≠ i := fun w => by rw [← w, hk _ _ hxo] at nI; cases nI
  have hdi : dx ≠ i := fun w => by rw [← w, hk _ _ hdo] at nI; cases nI
  have hLi : L ≠ i := fun w => by obtain ⟨o, _, _, a, _⟩ := hn; rw [← w, a] at nI; cases nI
  have hxd : x ≠ dx := fun w => by rw [← hx] at w; exact absurd w (Nat.succ_ne_self _)
  refine wpAny_Name (wpAny_loadName_local rfl rfl hn2 (v := .ref x) rfl ?_) (by decide)
  refine set_it (X0.keeps k2) (k2 _ _ (hk _ _ hxo)) (k2 _ _ (hk _ _ hdo)) ?_
  have hxo3 := Heap.get?_update_self (putSl 1 (.ref i)) (k2 _ _ (hk _ _ hxo)) rfl
  have k3 : ∀ b o, b ≠ x → h2.get? b = some o → (h2.update x (putSl 1 (.ref i))).get? b = some o := fun b o hb e => (Heap.get?_update_other _ _ (Ne.symm hb)).trans e
  have hn3 := ns_other (f := putSl 1 (.ref i)) hn2 hxL
  have X3 : (KK c.w).In (h2.update x (putSl 1 (.ref i))) := fun b o e => k3 b o (fun w => by have := X _ _ e; rw [w, nX] at this; cases this) (k2 _ _ (k0 _ _ (X _ _ e)))
  refine wpAny_execs_cons (plainObj_wpAny_Assign_Attribute (attr := "_func") ?_ (by rfl))
  refine wpAny_Name (wpAny_loadName_local rfl rfl hn3 (v := .ref u) rfl ?_) (by decide)
  refine wpAny_Name (wpAny_loadName_local rfl rfl hn3 (v := .ref x) rfl ?_) (by decide)
  refine set_func (dx := dx) (sl := #[none, some (.ref i)]) X3 hxo3 (k3 _ _ (Ne.symm hxd) (k2 _ _ (hk _ _ hdo))) ?_
  refine wpAny_execs_nil ?_
  have hxo4 := Heap.get?_update_self (putSl 0 (.ref u)) hxo3 rfl
  have k4 : ∀ b o, b ≠ x → h2.get? b = some o → ((h2.update x (putSl 1 (.ref i))).update x (putSl 0 (.ref u))).get? b = some o := fun b o hb e => (Heap.get?_update_other _ _ (Ne.symm hb)).trans (k3 b o hb e)
  exact ⟨rfl, h _ _ x dx i (by show 0 < _ + 1; omega) (fun b o e => k4 b o (fun w => by rw [w, nX] at e; cases e) (k2 _ _ (k0 _ _ e))) nX nD (by
    cases q : hp.get? i with
    | none => rfl
    | some o => have := k0 _ _ q; rw [nI] at this; cases this) hxi hxd hdi hxo4 (k4 _ _ (Ne.symm hxd) (k2 _ _ (hk _ _ hdo))) (k4 _ _ (Ne.symm hxi) hIo)⟩
end
end Mine
end

section
open PySem PySem.W PyProof.Rows PySem.Calls
set_option Elab.async false
set_option maxRecDepth 100000
set_option maxHeartbeats 4000000
set_option linter.unusedVariables false
namespace Mine
section
variable {c : Cx} {φ φ' : PH} {σ σ' : St} {s s' : Shared} {A : Around} {E : Value → Shared → Prop}

noncomputable abbrev bcon (sk : List (List Nat)) : AV := .bm "method-wrapper" "list.__contains__" (.list (vstrs sk))
theorem cl_bcon {sk : List (List Nat)} {x : List Nat} {Q : AV → St → Prop} (G : Gl c) (hs : okS sk) (hx : ∀ ch ∈ x, ch < 0x110000) (h : Q (.bool (decide (x ∈ sk))) σ) : Cl c (bcon sk) [.str x] σ Q := cl1 fun φ s fv v R hf hv => by
  obtain ⟨u, sv, rfl, hu, hsv⟩ := hf.bob
  obtain ⟨as, ra⟩ := reads_of R.keep hv (shp_str hx).1
  obtain ⟨bs, rb⟩ := reads_of R.keep hsv (dats_strs hs : dat (.list (vstrs sk)) = true)
  cases hsv with
  | list ho hcs =>
  rename_i l items n sl
  have hT := R.keep _ _ ho
  have hl : s.heap.IsList l items := ⟨_, hT, rfl, _, rfl⟩
  have rb' : Reads s.heap (.ref l) (.list (pds (vstrs sk))) bs := by simpa only [pd] using rb
  cases rb' with
  | list h1 h2 h3 h4 =>
  rw [hT] at h1; cases h1
  cases h3
  refine wp_bound (R.keep _ _ hu) (.inr rfl) PySem.F.slot_list_contains.plain PySem.F.entry_list_contains (fun A' Q' E' hq => by rw [Bd.chk_con]; exact wpAny_pure hq)
    (SeqAt.list_containsAt l items n none sl v (fun y => PyData.eqv (SeqAt.readOf s.heap y) (pd (.str x)))) ⟨hT, SeqAt.items_eqAt h4 ra (canLays_pds _ (dats_strs hs)) (canLay_pd _ (shp_str hx).1) ?_, ?_⟩
  · rw [depths_pds, deps_strs, Nat.zero_min]; exact units_ok G (k := 1) (by decide)
  · rw [SeqAt.any_by_data h4 (canLays_pds _ (dats_strs hs)), any_strs]
    exact post_here R (.bool _) h
theorem ev_bcon {x : Str} {np pos} {sk : List (List Nat)} {Q : AV → St → Prop} (G : Gl c) (hk : c.env.kindOf x = some .local) (hx : σ.m x = some (.list (vstrs sk))) (h : Q (bcon sk) σ) (hd : (x == ("__debug__" : Str)) = false := by decide) :
    Ev c (.Attribute (.Name x np) "__contains__" pos) σ Q := fun φ s R => by
  obtain ⟨m, hn, hm'⟩ := R.ns
  obtain ⟨v, hv, hc⟩ := hm' x _ hx hk
  cases hc with
  | list ho hs =>
  rename_i a items n sl
  refine lift R.tk (Attribute_name (wpAny_Name (wpAny_loadName_local G.fn hk hn hv (Bd.attr_con (R.keep _ _ ho) ?_)) hd))
  have F := R.fresh_size
  exact post_frozen R.toRel0 (push_k _ _) (push_new _) (Heap.get?_push_size _ rfl) (.bm (PH.add_self ..) (.list (PH.le_add F.φ _ _ _ ho) (hs.mono (PH.le_add F.φ _)))) h
theorem op_isTy {T id : String} {self : AV} {n : String} {Q : AV → St → Prop} (h : Q (.bool false) σ) : Op2 c (compareOp .Is) (.bm T id self) (.ty n) σ Q := fun φ s v u R hv hu => by
  obtain ⟨a, sv, rfl, _⟩ := hv.bob
  cases hu
  exact wpAny_is_other (by rfl) (by intro w; cases w) (post_here R (.bool _) h)

theorem Gl.at (G : Gl c) (hd : A.depth ≤ 600) (hu : A.units ≤ 5000) (hg : A.guards = some []) : Gl (c.at A) := ⟨G.K, G.T, G.lim, G.dig, G.gl, G.bl, G.fn, hd, hu, hg, G.tn⟩

noncomputable def Cx.plus (c : Cx) (i : Addr) : Cx := { c with own := c.own ++ [i] }
theorem Rel.plus (R : Rel c φ σ s) {i : Addr} (o : Off c φ σ s.heap i) : Rel (c.plus i) φ σ s := by
  obtain ⟨ob, hi, hl⟩ := o.dat
  refine ⟨⟨R.base, R.keep, R.ns, R.cells, R.cdist, fun a ha => ?_, fun a ha => ?_, R.mu, R.tab, R.gens, R.os, R.pt⟩, R.tk⟩
  · rcases List.mem_append.mp ha with h | h
    · exact R.own a h
    · rw [List.mem_singleton.mp h]; exact ⟨o.φ, o.mu, isSome_of hi⟩
  · obtain ⟨h1, h2, h3, h4⟩ := R.outs a ha
    refine ⟨h1, h2, h3, fun q => ?_⟩
    rcases List.mem_append.mp q with h | h
    · exact h4 h
    · rw [List.mem_singleton.mp h] at ha; exact o.outs ha
theorem Fro.plus (F : Fro c s) {i : Addr} (h : i ≠ tabC ∧ i ≠ tabP) : Fro (c.plus i) s := by
  refine ⟨F.fr, F.me, List.mem_append.mpr (.inl F.own), F.kind, fun q => ?_, fun q => ?_, F.tabs.2.2.1, F.tabs.2.2.2⟩
  · exact (List.mem_append.mp q).elim F.tabs.1 fun w => h.1 (List.mem_singleton.mp w).symm
  · exact (List.mem_append.mp q).elim F.tabs.2.1 fun w => h.2 (List.mem_singleton.mp w).symm
theorem Ext.plus {i : Addr} (x : Ext c φ σ s φ' σ' s') : Ext (c.plus i) φ σ s φ' σ' s' := ⟨x.le, fun a o h0 h1 h2 h3 e => x.fr a o h0 (fun q => h1 (List.mem_append.mpr (.inl q))) h2 h3 e, x.fo, x.al, x.nφ, x.nm, x.gd⟩
theorem Rel0.ownch (R : Rel0 c φ σ s) {i : Addr} (hi : i ∈ c.own) (hL : i ≠ c.env.locals) (ht : i ≠ tabC ∧ i ≠ tabP) (hd : ∃ o, s.heap.get? i = some o ∧ loose o) {h' : Heap} {tk : Nat} (k : ∀ b o, b ≠ i → s.heap.get? b = some o → h'.get? b = some o) (ha : (h'.get? i).isSome = true) : Rel0 c φ σ { s with heap := h', toks := tk } := by
  obtain ⟨ob, hob, hlo⟩ := hd
  have nφ := (R.own i hi).1
  have nmu := (R.own i hi).2.1
  refine ⟨R.base, fun a o e => k a o (fun w => by rw [w, nφ] at e; cases e) (R.keep _ _ e), ?_, fun p hp => ?_, R.cdist, fun a h => ?_, fun a h => ?_, fun a xs e => ?_, ?_, R.gens, R.os, R.pt⟩
  · obtain ⟨m, ⟨oL, es, ep, e, hd, r⟩, h⟩ := R.ns
    exact ⟨m, ⟨oL, es, ep, k _ _ (Ne.symm hL) e, hd, r⟩, h⟩
  · obtain ⟨o, v, e, hd, r⟩ := R.cells p hp
    exact ⟨o, v, k _ _ (fun w => by rw [w, hob] at e; cases e; unfold loose at hlo; rw [hd] at hlo; exact hlo) e, hd, r⟩
  · obtain ⟨h1, h2, h3⟩ := R.own a h
    obtain ⟨o, e⟩ := Option.isSome_iff_exists.mp h3
    by_cases w : a = i
    · rw [w] at h1 h2 ⊢; exact ⟨h1, h2, ha⟩
    · exact ⟨h1, h2, isSome_of (k a o w e)⟩
  · obtain ⟨h1, h2, h3, h4⟩ := R.outs a h
    obtain ⟨o, e⟩ := Option.isSome_iff_exists.mp h3
    exact ⟨h1, h2, isSome_of (k a o (fun w => h4 (w ▸ hi)) e), h4⟩
  · obtain ⟨h1, o, h2, h3⟩ := R.mu a xs e
    exact ⟨h1, o, k a o (fun w => by rw [w, nmu] at e; cases e) h2, h3⟩
  · obtain ⟨ps, t1, t2⟩ := R.tab
    obtain ⟨o, vs, file, tf, flags, tg, inF, text, tt, op, e1, e2, e3, e4, e5, e6, e7, e8, e9, e10, e11⟩ := t1
    obtain ⟨⟨o', vs', a1, a2, a3, a4⟩, a5⟩ := t2
    exact ⟨ps, ⟨o, vs, file, tf, flags, tg, inF, text, tt, op, k _ _ (Ne.symm ht.1) e1, e2, e3, e4, e5, e6, e7, k _ _ (Ne.symm ht.2) e8, e9, e10, e11⟩, ⟨⟨o', vs', k _ _ (Ne.symm ht.1) a1, a2, a3, a4⟩, k _ _ (Ne.symm ht.2) a5⟩⟩
theorem Ext.ownch (R : Rel0 c φ σ s) {i : Addr} (hi : i ∈ c.own) (ht : i ≠ tabP) {h' : Heap} {tk : Nat} (k : ∀ b o, b ≠ i → s.heap.get? b = some o → h'.get? b = some o) (ha : (h'.get? i).isSome = true) : Ext c φ σ s φ σ { s with heap := h', toks := tk } := by
  refine ⟨PLe.refl _, fun a o _ h1 _ _ e => k a o (fun w => h1 (w ▸ hi)) e, fun a o h e => ⟨o.slots, k a o (fun w => (R.outs a h).2.2.2 (w ▸ hi)) e⟩, fun a e => ?_, fun _ h h' => absurd h h', fun _ h h' => absurd h h', fun _ => ⟨rfl, rfl, fun o e => k _ _ (Ne.symm ht) e⟩⟩
  obtain ⟨o, e⟩ := Option.isSome_iff_exists.mp e
  by_cases w : a = i
  · rw [w]; exact ha
  · exact isSome_of (k a o w e)

theorem Rel.leaveI {fd : FuncData} {f : Addr} {names : List Str} {as : List AV} {i : Addr} (R : Rel c φ σ s) (hL : c.env.locals ∈ c.own) (oi : Off c φ σ s.heap i) {h₀ : Heap} (hk : ∀ b o, s.heap.get? b = some o → h₀.get? b = some o) {tk : Nat} {φ₂ σ₂ s₂}
    (x : Ext ((calleeCx c fd f s.heap.objs.size).plus i) φ (startSt names as) { s with heap := h₀, toks := tk } φ₂ σ₂ s₂) (R₂ : Rel ((calleeCx c fd f s.heap.objs.size).plus i) φ₂ σ₂ s₂) :
    Ext (c.plus i) φ σ s (φ₂.frz σ₂.mu s₂.heap) σ s₂ ∧ Rel c (φ₂.frz σ₂.mu s₂.heap) σ s₂ ∧ (φ₂.frz σ₂.mu s₂.heap) i = none := by
  have nL := push_new s.heap
  obtain ⟨ob, hob, hlo⟩ := oi.dat
  have ne : ∀ {a o}, s.heap.get? a = some o → a ≠ s.heap.objs.size := fun e w => by rw [w, nL] at e; cases e
  have nown : ∀ {a o}, a ≠ i → s.heap.get? a = some o → a ∉ ((calleeCx c fd f s.heap.objs.size).plus i).own := fun hi e q => by
    rcases List.mem_append.mp q with q | q
    · exact ne e (List.mem_singleton.mp q)
    · exact hi (List.mem_singleton.mp q)
  have back : ∀ {a}, h₀.get? a = none → s.heap.get? a = none := fun {a} h => by
    cases q : s.heap.get? a with
    | none => rfl
    | some o => rw [hk _ _ q] at h; cases h
  have noo : ∀ {a}, a ∈ c.own ∨ a ∈ c.outs → a ≠ i := fun h w => by rw [w] at h; exact h.elim oi.own oi.outs
  have stay : ∀ a o, a ≠ i → (a ∈ c.own ++ c.outs ∨ a ≠ tabP) → s.heap.get? a = some o → ∃ sl, s₂.heap.get? a = some { o with slots := sl } := fun a o hi h0 e => by
    by_cases h : a ∈ c.own ++ c.outs
    · exact x.fo a o h (hk _ _ e)
    · exact ⟨o.slots, x.fr a o (h0.resolve_left h) (nown hi e) h rfl (hk _ _ e)⟩
  have same : ∀ a o, a ≠ i → a ≠ tabP → a ∉ c.own → a ∉ c.outs → s.heap.get? a = some o → s₂.heap.get? a = some o := fun a o hi h0 h1 h2 e =>
    x.fr a o h0 (nown hi e) (fun q => (List.mem_append.mp q).elim h1 h2) rfl (hk _ _ e)
  have nfrz : ∀ a, φ a = none → (s.heap.get? a).isSome = true → φ₂.frz σ₂.mu s₂.heap a = none := fun a h1 h2 => by
    obtain ⟨o, e⟩ := Option.isSome_iff_exists.mp h2
    have e1 : φ₂ a = none := by
      cases q : φ₂ a with
      | none => rfl
      | some o => have := back (x.nφ a h1 (by rw [q]; simp)); rw [this] at e; cases e
    have e2 : σ₂.mu a = none := by
      cases q : σ₂.mu a with
      | none => rfl
      | some o => have := back (x.nm a rfl (by rw [q]; simp)); rw [this] at e; cases e
    unfold PH.frz; rw [e1, e2]
  have le : PLe φ (φ₂.frz σ₂.mu s₂.heap) := x.le.trans (PH.le_frz φ₂ σ₂.mu s₂.heap)
  have keep : ∀ a o, φ₂.frz σ₂.mu s₂.heap a = some o → s₂.heap.get? a = some o := fun a o e => by
    unfold PH.frz at e
    split at e
    · rename_i o' h; cases e; exact R₂.keep _ _ h
    · split at e
      · exact e
      · cases e
  have al : ∀ a, (s.heap.get? a).isSome = true → (s₂.heap.get? a).isSome = true := fun a e => by
    obtain ⟨o, q⟩ := Option.isSome_iff_exists.mp e
    exact x.al a (isSome_of (hk _ _ q))
  refine ⟨⟨le, fun a o h0 h1 h2 _ e => same a o (fun w => h1 (List.mem_append.mpr (.inr (by rw [w]; exact .head _)))) h0 (fun q => h1 (List.mem_append.mpr (.inl q))) h2 e, fun a o h e => stay a o (noo (.inr h)) (.inl (List.mem_append.mpr (.inr h))) e, al, fun a h h' => ?_, fun a h h' => absurd h h', fun q => ⟨(x.gd q).1, (x.gd q).2.1, fun o e => (x.gd q).2.2 o (hk _ _ e)⟩⟩, ⟨⟨fun a o e => le _ _ (R.base _ _ e), keep, ?_, fun p hp => ?_, R.cdist, fun a ha => ?_, fun a ha => ?_, fun a xs e => ?_, R₂.tab, R₂.gens, R₂.os, ?_⟩, R₂.tk⟩, nfrz i oi.φ (isSome_of hob)⟩
  · cases q : s.heap.get? a with
    | none => rfl
    | some o => exact absurd (nfrz a h (isSome_of q)) h'
  · obtain ⟨m, ⟨oL, es, ep, hL', hd, r⟩, h⟩ := R.ns
    obtain ⟨sl, q⟩ := stay _ _ (noo (.inl hL)) (.inr (Ne.symm R.tabL.2)) hL'
    exact ⟨m, ⟨{ oL with slots := sl }, es, ep, q, hd, r⟩, fun x a e k => let ⟨v, h1, h2⟩ := h x a e k; ⟨v, h1, h2.mono le⟩⟩
  · obtain ⟨ob', v, e, hd, r⟩ := R.cells p hp
    have hpi : p.2 ≠ i := fun w => by rw [w, hob] at e; cases e; unfold loose at hlo; rw [hd] at hlo; exact hlo
    obtain ⟨sl, q⟩ := stay _ _ hpi (.inr (fun w => by
      obtain ⟨ps, _, h2⟩ := R.tab
      have := h2.2; rw [← w, e] at this; cases this; cases hd)) e
    exact ⟨{ ob' with slots := sl }, v, q, hd, fun a h1 h2 => let ⟨u, q1, q2⟩ := r a h1 h2; ⟨u, q1, q2.mono le⟩⟩
  · obtain ⟨h1, h2, h3⟩ := R.own a ha
    exact ⟨nfrz a h1 h3, h2, al _ h3⟩
  · obtain ⟨h1, h2, h3, h4⟩ := R.outs a ha
    exact ⟨nfrz a h1 h3, h2, al _ h3, h4⟩
  · obtain ⟨h1, o, h2, h3⟩ := R.mu a xs e
    refine ⟨nfrz a h1 (isSome_of h2), o, same a o (fun w => by rw [w, oi.mu] at e; cases e) (Ne.symm (R.tabMu e).2) (fun q => ?_) (fun q => ?_) h2, h3.mono le⟩
    · have := (R.own a q).2.1; rw [e] at this; cases this
    · have := (R.outs a q).2.1; rw [e] at this; cases this
  · unfold PH.frz
    rw [R₂.pt]
    cases q : σ₂.mu tabP with
    | none => rfl
    | some xs => exact absurd rfl (R₂.tabMu q).2
end
end Mine
end

section
open PySem PySem.W PyProof.Rows PySem.Calls
set_option Elab.async false
set_option maxRecDepth 100000
set_option maxHeartbeats 4000000
set_option linter.unusedVariables false
namespace Mine

noncomputable def ps0 : Pos := ⟨0, 0, 0, 0⟩
noncomputable def wT (a : Addr) (n : Nat) : Expr := match (fnB a).drop n with
  | .While t _ _ _ :: _ => t
  | _ => .Constant .none 0 ps0
noncomputable def wB (a : Addr) (n : Nat) : List Stmt := match (fnB a).drop n with
  | .While _ b _ _ :: _ => b
  | _ => []

section
variable {c : Cx} {φ φ' : PH} {σ σ' : St} {s s' : Shared} {A : Around} {E : Value → Shared → Prop}

structure Itn (φ : PH) (fl sk : List (List Nat)) (x dx u i l : Addr) : Prop where
  x : φ x = some (insO dx #[some (.ref u), some (.ref i)])
  dx : φ dx = some emptyDict
  u : Conc φ (bcon sk) (.ref u)
  l : Conc φ (.list (vstrs fl)) (.ref l)
theorem Itn.mono {fl sk x dx u i l} (h : Itn φ fl sk x dx u i l) (k : PLe φ φ') : Itn φ' fl sk x dx u i l := ⟨k _ _ h.x, k _ _ h.dx, h.u.mono k, h.l.mono k⟩
theorem Itn.at {fl sk x dx u i l} (h : Itn φ fl sk x dx u i l) (R : Rel c φ σ s) : ∃ items n sl, s.heap.get? l = some (lob items n sl) ∧ Concs φ (vstrs fl) items.toList ∧ items.size = fl.length := by
  cases h.l with
  | list ho hs =>
    have e := hs.length
    rw [Array.length_toList] at e
    exact ⟨_, _, _, R.keep _ _ ho, hs, by simpa using e⟩
noncomputable def NQ (c : Cx) (i l : Addr) (fl sk : List (List Nat)) (φ : PH) (σ : St) (s : Shared) (k : Nat) (f : Flow) (s' : Shared) : Prop := ∃ j y φ' σ', Ext (c.plus i) φ σ s φ' σ' s' ∧ Rel c φ' σ' s' ∧ Off c φ' σ' s'.heap i ∧ CFl φ' (.ret (.str y)) f ∧ k ≤ j ∧ fl[j]? = some y ∧ y ∉ sk ∧
  (∀ m z, k ≤ m → m < j → fl[m]? = some z → z ∈ sk) ∧ s'.heap.get? i = some (itO l (j + 1))
noncomputable def NP (fl sk : List (List Nat)) (k : Nat) (_ : St) : Prop := ∀ m z, k ≤ m → fl[m]? = some z → z ∈ sk

theorem next_loop {L x dx u i l : Addr} {fl sk : List (List Nat)} (G : Gl (calleeCx c (fnD 98) 98 L)) (hh : c.A.handled = none) (hfl : okS fl) (hsk : okS sk) (hlen : fl.length ≤ 100000) :
    ∀ n k φ σ s, fl.length - k = n → k ≤ fl.length → Rel (calleeCx c (fnD 98) 98 L) φ σ s → Fro (calleeCx c (fnD 98) 98 L) s → Itn φ fl sk x dx u i l → Off (calleeCx c (fnD 98) 98 L) φ σ s.heap i → σ.m "self" = some (.ref x) → σ.m "func" = some (bcon sk) → s.heap.get? i = some (itO l k) →
      WhlRest c.prog c.w (calleeCx c (fnD 98) 98 L).A (PostE ((calleeCx c (fnD 98) 98 L).plus i) φ σ s "StopIteration" true (NP fl sk k)) (calleeCx c (fnD 98) 98 L).env (wT 98 1) (wB 98 1) [] (NQ (calleeCx c (fnD 98) 98 L) i l fl sk φ σ s k) 0 s := by
  intro n
  induction n with
  | zero =>
    intro k φ σ s hk hle R F T O hs hf hi
    have N : Never (calleeCx c (fnD 98) 98 L) := fun _ _ h => h
    have hL : (calleeCx c (fnD 98) 98 L).env.locals ∈ (calleeCx c (fnD 98) 98 L).own := .head _
    have hiL : i ≠ (calleeCx c (fnD 98) 98 L).env.locals := fun w => O.own (w ▸ hL)
    have Rp := R.plus O
    have Fp := F.plus O.tabs
    refine whl_turn (k := 0) (passE (A' := (calleeCx c (fnD 98) 98 L).A) Rp.toRel0 Fp rfl) ?_
    refine Wp.thenN N ((ts_value (ev_bool (tr_bool (Q := fun b σ' => b = true ∧ σ' = σ) ⟨rfl, rfl⟩)) : Ts (calleeCx c (fnD 98) 98 L) (wT 98 1) σ fun b σ' => b = true ∧ σ' = σ) φ s R) fun φ₁ σ₁ s₁ a v x₁ R₁ hc₁ h₁ => ?_
    obtain ⟨rfl, rfl⟩ := h₁
    cases hc₁
    have T₁ := T.mono x₁.le
    have O₁ := O.ext x₁
    have hi₁ : s₁.heap.get? i = some (itO l k) := x₁.fr i _ O.tabs.2 O.own O.outs O.mu hi
    have F₁ := F.ext x₁
    refine WhlIf.yes rfl (wpAny_execs_cons (wpAny_Assign_Name ?_ (by rfl)))
    refine wpAny_Call_ofName (nm_builtin G R₁.gns rfl rfl rfl rfl rfl (v := .builtin "next") rfl ?_)
    refine callWith_method1 ?_ (by rfl) (by rfl)
    obtain ⟨m, hn, hm⟩ := R₁.ns
    obtain ⟨v, hv, hcv⟩ := hm "self" _ hs rfl
    cases hcv
    refine wpAny_items_cons (Attribute_name (wpAny_Name (wpAny_loadName_local rfl rfl hn hv (get_it (R₁.K G) (R₁.keep _ _ T₁.x) (R₁.keep _ _ T₁.dx) (by rfl) (wpAny_items_nil ?_))) (by decide))) (by rfl)
    obtain ⟨items, nn, sl, hl, hcs, hsz⟩ := T₁.at R₁
    have hk' : k = fl.length := by omega
    refine call_next_end hh hi₁ ⟨_, hl, rfl, _, rfl⟩ (Array.getElem?_eq_none (by omega)) fun h' e oe vs a0 k1 k2 k3 k4 k5 k6 k7 k8 k9 => ?_
    obtain ⟨oi, ei, vi, di⟩ := k2
    have Rp₁ := R₁.plus O₁
    have hip : i ∈ ((calleeCx c (fnD 98) 98 L).plus i).own := List.mem_append.mpr (.inr (.head _))
    have tk := R₁.tk
    refine ⟨e, φ₁, σ₁, rfl, x₁.plus.trans (Ext.ownch (tk := s₁.toks + 1) Rp₁.toRel0 hip O.tabs.2 k1 (isSome_of ei)), ⟨Rp₁.toRel0.ownch (tk := s₁.toks + 1) hip hiL O.tabs ⟨_, hi₁, loose_fields rfl⟩ k1 (isSome_of ei), by show 0 < s₁.toks + 1; omega⟩,
      ⟨Rp₁.toRel0.off_new k3 ⟨_, k4, loose_fields k6⟩, none_of x₁.al k3, oe, vs, a0, k4, k5, k6, k7, fun _ => k9, (Array.getElem?_eq_some_iff.mp k9).1, .inl ⟨rfl, k8⟩⟩, fun m z hm hz => ?_⟩
    have := (List.getElem?_eq_some_iff.mp hz).1
    omega
  | succ n ih =>
    intro k φ σ s hk hle R F T O hs hf hi
    have N : Never (calleeCx c (fnD 98) 98 L) := fun _ _ h => h
    have hL : (calleeCx c (fnD 98) 98 L).env.locals ∈ (calleeCx c (fnD 98) 98 L).own := .head _
    have hiL : i ≠ (calleeCx c (fnD 98) 98 L).env.locals := fun w => O.own (w ▸ hL)
    have Rp := R.plus O
    have Fp := F.plus O.tabs
    refine whl_turn (k := 0) (passE (A' := (calleeCx c (fnD 98) 98 L).A) Rp.toRel0 Fp rfl) ?_
    refine Wp.thenN N ((ts_value (ev_bool (tr_bool (Q := fun b σ' => b = true ∧ σ' = σ) ⟨rfl, rfl⟩)) : Ts (calleeCx c (fnD 98) 98 L) (wT 98 1) σ fun b σ' => b = true ∧ σ' = σ) φ s R) fun φ₁ σ₁ s₁ a v x₁ R₁ hc₁ h₁ => ?_
    obtain ⟨rfl, rfl⟩ := h₁
    cases hc₁
    have T₁ := T.mono x₁.le
    have O₁ := O.ext x₁
    have hi₁ : s₁.heap.get? i = some (itO l k) := x₁.fr i _ O.tabs.2 O.own O.outs O.mu hi
    have F₁ := F.ext x₁
    refine WhlIf.yes rfl (wpAny_execs_cons (wpAny_Assign_Name ?_ (by rfl)))
    refine wpAny_Call_ofName (nm_builtin G R₁.gns rfl rfl rfl rfl rfl (v := .builtin "next") rfl ?_)
    refine callWith_method1 ?_ (by rfl) (by rfl)
    obtain ⟨m, hn, hm⟩ := R₁.ns
    obtain ⟨v, hv, hcv⟩ := hm "self" _ hs rfl
    cases hcv
    refine wpAny_items_cons (Attribute_name (wpAny_Name (wpAny_loadName_local rfl rfl hn hv (get_it (R₁.K G) (R₁.keep _ _ T₁.x) (R₁.keep _ _ T₁.dx) (by rfl) (wpAny_items_nil ?_))) (by decide))) (by rfl)
    obtain ⟨items, nn, sl, hl, hcs, hsz⟩ := T₁.at R₁
    have hk' : k < fl.length := by omega
    have hfk : fl[k]? = some fl[k] := List.getElem?_eq_getElem hk'
    have hyok : ∀ ch ∈ fl[k], ch < 0x110000 := hfl _ (List.getElem_mem hk')
    generalize fl[k] = y at hfk hyok
    obtain ⟨yv, hyv, hyc⟩ := hcs.get k (.str y) (by simp [hfk])
    refine call_next hi₁ ⟨_, hl, rfl, _, rfl⟩ (v := yv) (by simpa using hyv) ?_
    have Rp₁ := R₁.plus O₁
    have hip : i ∈ ((calleeCx c (fnD 98) 98 L).plus i).own := List.mem_append.mpr (.inr (.head _))
    have tk := R₁.tk
    have hi₂ := Heap.get?_update_self (Obj.mapFields (·.setIfInBounds 1 (rawInt ((k : Int) + 1)))) hi₁ rfl
    have hi₂' : (s₁.heap.update i (Obj.mapFields (·.setIfInBounds 1 (rawInt ((k : Int) + 1))))).get? i = some (itO l (k + 1)) := hi₂
    have ko : ∀ b o, b ≠ i → s₁.heap.get? b = some o → (s₁.heap.update i (Obj.mapFields (·.setIfInBounds 1 (rawInt ((k : Int) + 1))))).get? b = some o := fun b o hb e => (Heap.get?_update_other _ _ (Ne.symm hb)).trans e
    have x₂ := Ext.ownch (tk := s₁.toks + 1) Rp₁.toRel0 hip O.tabs.2 ko (isSome_of hi₂')
    have R₂ : Rel (calleeCx c (fnD 98) 98 L) φ₁ σ₁ { s₁ with heap := s₁.heap.update i (Obj.mapFields (·.setIfInBounds 1 (rawInt ((k : Int) + 1)))), toks := s₁.toks + 1 } := ⟨R₁.toRel0.still F₁ (hid := [i]) (fun b hb => by rw [List.mem_singleton.mp hb]; exact O₁) ⟨fun b o hb _ _ e => ko b o (by simpa using hb) e, fun b o hb e => ⟨o.slots, ko b o (fun w => by rw [w] at hb; exact hb.elim O₁.own O₁.outs) e⟩, fun b e => by
      obtain ⟨o, q⟩ := Option.isSome_iff_exists.mp e
      by_cases w : b = i
      · rw [w]; exact isSome_of hi₂'
      · exact isSome_of (ko b o w q)⟩, by show 0 < s₁.toks + 1; omega⟩
    have O₂ := O₁.of (h' := s₁.heap.update i (Obj.mapFields (·.setIfInBounds 1 (rawInt ((k : Int) + 1))))) ⟨_, hi₂', loose_fields rfl⟩
    have F₂ : Fro (calleeCx c (fnD 98) 98 L) { s₁ with heap := s₁.heap.update i (Obj.mapFields (·.setIfInBounds 1 (rawInt ((k : Int) + 1)))), toks := s₁.toks + 1 } := by
      obtain ⟨ll, g1, g2⟩ := F₁.fr
      refine ⟨⟨ll, g1, fun env he => ?_⟩, F₁.me, F₁.own, F₁.kind, F₁.tabs⟩
      obtain ⟨a1, L', o, b1, b2, b3, b4⟩ := g2 env he
      exact ⟨a1, L', o, b1, b2, ko _ _ (fun w => O₁.outs (w ▸ b2)) b3, b4⟩
    generalize hs2 : ({ s₁ with heap := s₁.heap.update i (Obj.mapFields (·.setIfInBounds 1 (rawInt ((k : Int) + 1)))), toks := s₁.toks + 1 } : Shared) = s₂ at x₂ R₂ F₂
    have hi₂s : s₂.heap.get? i = some (itO l (k + 1)) := by rw [← hs2]; exact hi₂'
    have O₂s : Off (calleeCx c (fnD 98) 98 L) φ₁ σ₁ s₂.heap i := by rw [← hs2]; exact O₂
    have goal : wpAny (model c.prog c.w) (calleeCx c (fnD 98) 98 L).A (storeName (calleeCx c (fnD 98) 98 L).env "item" yv) (fun _ s₃ => wpAny (model c.prog c.w) (calleeCx c (fnD 98) 98 L).A (execs ((wB 98 1).drop 1) (calleeCx c (fnD 98) 98 L).env) (WhlPost c.prog c.w (calleeCx c (fnD 98) 98 L).A (PostE ((calleeCx c (fnD 98) 98 L).plus i) φ σ₁ s "StopIteration" true (NP fl sk k)) (calleeCx c (fnD 98) 98 L).env (wT 98 1) (wB 98 1) [] (NQ (calleeCx c (fnD 98) 98 L) i l fl sk φ σ₁ s k) 0)
        (PostE ((calleeCx c (fnD 98) 98 L).plus i) φ σ₁ s "StopIteration" true (NP fl sk k)) s₃) (PostE ((calleeCx c (fnD 98) 98 L).plus i) φ σ₁ s "StopIteration" true (NP fl sk k)) s₂ := by
      refine Wp.thenN N (sto R₂ hL rfl rfl hyc (Q := fun σ' => σ' = σ₁.set "item" (.str y)) rfl) fun φ₃ σ₃ s₃ _ _ x₃ R₃ _ h₃ => ?_
      subst h₃
      have hif : Ex (calleeCx c (fnD 98) 98 L) ((wB 98 1).getD 1 (.Pass ps0)) (σ₁.set "item" (.str y)) fun f σ' => σ' = σ₁.set "item" (.str y) ∧ ((f = .next ∧ y ∈ sk) ∨ (f = .ret (.str y) ∧ y ∉ sk)) := by
        refine ex_if (ts_or2 (ts_cmp (ev_local G rfl hf (ev_none (op_isNone (tr_bool ⟨fun _ => ts_cmp (ev_local G rfl hf (ev_builtin G rfl rfl rfl (.ty _) (op_isTy (tr_bool ⟨fun hb => (by cases hb), fun _ => ?_⟩)))), fun hb => (by cases hb)⟩))))))
        refine exs_cons (ex_if (ts_not (ts_value (ev_call G (ev_local G rfl hf ⟨.bm _ _ _ (.inr rfl), evs_cons (ev_local G rfl rfl (evs_nil (cl_bcon G hsk hyok (tr_bool ⟨fun hb => ?_, fun hb => ?_⟩))))⟩)))))
        · refine exs_cons (ex_ret (ev_local G rfl rfl ⟨rfl, .inr ⟨rfl, ?_⟩⟩))
          simpa using hb
        · refine exs_nil (exs_nil ⟨rfl, .inl ⟨rfl, ?_⟩⟩)
          simpa using hb
      refine wpAny_execs_cons (Wp.thenN N (hif φ₃ s₃ R₃) fun φ₄ σ₄ s₄ f fv x₄ R₄ hc₄ h₄ => ?_)
      · obtain ⟨rfl, h₄⟩ := h₄
        have x₁₄ := x₁.plus.trans (x₂.trans (x₃.plus.trans x₄.plus))
        have i₄ : s₄.heap.get? i = some (itO l (k + 1)) := x₄.fr i _ O.tabs.2 O.own O.outs (O₂s.ext x₃).mu (x₃.fr i _ O.tabs.2 O.own O.outs O₂s.mu hi₂s)
        have O₄ := (O₂s.ext x₃).ext x₄
        rcases h₄ with ⟨rfl, hin⟩ | ⟨rfl, hout⟩
        · cases hc₄
          refine wpAny_execs_nil ?_
          refine codeAny_mono (ih (k + 1) φ₄ _ s₄ (by omega) (by omega) R₄ ((F₂.ext x₃).ext x₄) (T₁.mono (x₃.le.trans x₄.le)) O₄ hs hf i₄) fun r s'' z => ?_
          have more : ∀ m z, k ≤ m → ¬ k + 1 ≤ m → fl[m]? = some z → z ∈ sk := fun m z h1 h2 h3 => by
            have : m = k := by omega
            rw [this, hfk] at h3; cases h3; exact hin
          cases r with
          | ok f =>
            obtain ⟨j, y', φ', σ', z1, z2, z3, z4, z5, z6, z7, z8, z9⟩ := z
            exact ⟨j, y', φ', σ', x₁₄.trans z1, z2, z3, z4, by omega, z6, z7, fun m z h1 h2 h3 => by
              by_cases hm : k + 1 ≤ m
              · exact z8 m z hm h2 h3
              · exact more m z h1 hm h3, z9⟩
          | error e =>
            refine cameE_mono (fun v s' q => ?_) z
            obtain ⟨e', φ', σ', rfl, q1, q2, q3, q4⟩ := q
            exact ⟨e', φ', σ', rfl, x₁₄.trans q1, q2, q3.base fun b hb => none_of x₁₄.al hb, fun m z h1 h3 => by
              by_cases hm : k + 1 ≤ m
              · exact q4 m z hm h3
              · exact more m z h1 hm h3⟩
        · cases hc₄ with
          | ret hv => exact ⟨k, y, φ₄, _, x₁₄, R₄, O₄, .ret hv, Nat.le_refl _, hfk, hout, fun m z h1 h2 _ => (by omega), i₄⟩
    subst hs2
    exact goal
end
end Mine
end

section
open PySem PySem.W PyProof.Rows PySem.Calls
set_option Elab.async false
set_option maxRecDepth 100000
set_option maxHeartbeats 4000000
set_option linter.unusedVariables false
namespace Mine
section
variable {c : Cx} {φ φ' : PH} {σ σ' : St} {s s' : Shared} {A : Around} {E : Value → Shared → Prop}

theorem Off.at {h : Heap} {b : Addr} (o : Off c φ σ h b) (A : Around) : Off (c.at A) φ σ h b := ⟨o.φ, o.mu, o.own, o.outs, o.tabs, o.dat⟩
theorem Ext.backp {i : Addr} (x : Ext ((c.at A).plus i) φ σ s φ' σ' s') : Ext (c.plus i) φ σ s φ' σ' s' := ⟨x.le, x.fr, x.fo, x.al, x.nφ, x.nm, x.gd⟩
theorem Fro.at (F : Fro c s) (h : A.frames = c.A.frames) : Fro (c.at A) s := ⟨by obtain ⟨l, h1, h2⟩ := F.fr; exact ⟨l, h.trans h1, h2⟩, F.me, F.own, F.kind, F.tabs⟩

theorem next_call {x dx u i l : Addr} {fl sk : List (List Nat)} {k : Nat} {Q : Value → Shared → Prop} (G : Gl c) (R : Rel c φ σ s) (F : Fro c s) (T : Itn φ fl sk x dx u i l) (O : Off c φ σ s.heap i) (hi : s.heap.get? i = some (itO l k)) (hk : k ≤ fl.length) (hfl : okS fl) (hsk : okS sk) (hlen : fl.length ≤ 100000)
    (hA : A.frames = c.A.frames) (hh : A.handled = none) (hd : A.depth < 595) (hu : A.units < 4985) (hg : A.guards = some [])
    (hQ : ∀ j y v φ' s', Ext (c.plus i) φ σ s φ' σ s' → Rel c φ' σ s' → Off c φ' σ s'.heap i → Conc φ' (.str y) v → k ≤ j → fl[j]? = some y → y ∉ sk → (∀ m z, k ≤ m → m < j → fl[m]? = some z → z ∈ sk) → s'.heap.get? i = some (itO l (j + 1)) → Q v s')
    (hE : ∀ e oe φ' s', Ext (c.plus i) φ σ s φ' σ s' → Rel c φ' σ s' → s'.heap.get? e = some oe → oe.cls = .type "StopIteration" → (∀ m z, k ≤ m → fl[m]? = some z → z ∈ sk) → E (.ref e) s') :
    wpAny (model c.prog c.w) A (call (.ref 98) [.ref x]) Q E s := by
  have GA : Gl (c.at A) := G.at (by omega) (by omega) hg
  have RA := R.at A
  have OA := O.at A
  have FA := F.at hA
  obtain ⟨oc, od, osl, ho⟩ := (ok98 c.w).obj
  have X := R.K G
  refine wpAny_call (codeAny_call_def (fd := fnD 98) (body := fnB 98) (binds := (["self"] : List Str).zip [Value.ref x]) (by unfold recursionLimit; omega) (X _ _ ho) rfl (G.lim.keeps R.gns) (codeRec_of X (ok98 c.w).code) (ok98 c.w).body (.of_eq rfl) (ok98 c.w).cell (fun y hy => (ok98 c.w).loc _ (List.of_mem_zip hy).1) (fun h₀ hn hks => ?_) (ok98 c.w).co (ok98 c.w).gen (ok98 c.w).fn)
  have R₀ : Rel (calleeCx (c.at A) (fnD 98) 98 s.heap.objs.size) φ (startSt ["self"] [.ref x]) { s with heap := h₀, toks := s.toks + ((["self"] : List Str).zip [Value.ref x]).length } := RA.enter (f := 98) (ok98 c.w) (.cons (.ref x) .nil) hn hks (by have := R.tk; omega) rfl
  have F₀ : Fro (calleeCx (c.at A) (fnD 98) 98 s.heap.objs.size) { s with heap := h₀, toks := s.toks + ((["self"] : List Str).zip [Value.ref x]).length } := FA.callee RA (ok98 c.w) hks
  have hLt : s.heap.objs.size ≠ tabP := fun w => by
    obtain ⟨ps, _, h2⟩ := R.tab
    have := h2.2; rw [← w, push_new] at this; cases this
  have G₀ : Gl (calleeCx (c.at A) (fnD 98) 98 s.heap.objs.size) := GA.callee (ok98 c.w) (by show A.depth < 600; omega) (by show A.units < 4990; omega) hLt
  have N : Never (calleeCx (c.at A) (fnD 98) 98 s.heap.objs.size) := fun _ _ h => h
  have hi₀ : h₀.get? i = some (itO l k) := hks _ _ hi
  have O₀ : Off (calleeCx (c.at A) (fnD 98) 98 s.heap.objs.size) φ (startSt ["self"] [.ref x]) h₀ i := ⟨O.φ, rfl, (fun q => by have := List.mem_singleton.mp q; rw [this, push_new] at hi; cases hi), fun q => (List.mem_append.mp q).elim O.own O.outs, O.tabs, _, hi₀, loose_fields (o := itO l k) rfl⟩
  generalize hs₀ : ({ s with heap := h₀, toks := s.toks + ((["self"] : List Str).zip [Value.ref x]).length } : Shared) = s₀ at R₀ F₀
  have hi₀s : s₀.heap.get? i = some (itO l k) := by rw [← hs₀]; exact hi₀
  have O₀s : Off (calleeCx (c.at A) (fnD 98) 98 s.heap.objs.size) φ (startSt ["self"] [.ref x]) s₀.heap i := by rw [← hs₀]; exact O₀
  have leave : ∀ φ₂ σ₂ s₂, Ext ((calleeCx (c.at A) (fnD 98) 98 s.heap.objs.size).plus i) φ (startSt ["self"] [.ref x]) s₀ φ₂ σ₂ s₂ → Rel ((calleeCx (c.at A) (fnD 98) 98 s.heap.objs.size).plus i) φ₂ σ₂ s₂ →
      Ext (c.plus i) φ σ s (φ₂.frz σ₂.mu s₂.heap) σ s₂ ∧ Rel c (φ₂.frz σ₂.mu s₂.heap) σ s₂ ∧ (φ₂.frz σ₂.mu s₂.heap) i = none := fun φ₂ σ₂ s₂ x₂ R₂ => by
    rw [← hs₀] at x₂
    obtain ⟨z1, z2, z3⟩ := RA.leaveI F.own OA hks x₂ R₂
    exact ⟨z1.backp, z2.back, z3⟩
  refine wpAny_execs_cons (wpAny_Assign_Name ?_ (by rfl))
  obtain ⟨m, hn0, hm⟩ := R₀.ns
  obtain ⟨v, hv, hcv⟩ := hm "self" _ rfl rfl
  cases hcv
  refine Attribute_name (wpAny_Name (wpAny_loadName_local rfl rfl hn0 hv (get_func (R₀.K G₀) (R₀.keep _ _ T.x) (R₀.keep _ _ T.dx) (by rfl) ?_)) (by decide))
  have tk := R₀.tk
  have R₁ : Rel (calleeCx (c.at A) (fnD 98) 98 s.heap.objs.size) φ (startSt ["self"] [.ref x]) { s₀ with toks := s₀.toks + 1 } := ⟨R₀.toRel0.toks _, by show 0 < s₀.toks + 1; omega⟩
  refine Wp.thenN N (sto R₁ F₀.own rfl rfl T.u (Q := fun σ' => σ' = (startSt ["self"] [.ref x]).set "func" (bcon sk)) rfl) fun φ₂ σ₂ s₂ _ _ x₂ R₂ _ h₂ => ?_
  subst h₂
  have x₂' : Ext (calleeCx (c.at A) (fnD 98) 98 s.heap.objs.size) φ (startSt ["self"] [.ref x]) s₀ φ₂ ((startSt ["self"] [.ref x]).set "func" (bcon sk)) s₂ := (Ext.toks _ _ _ s₀ (s₀.toks + 1)).trans x₂
  have hi₂ : s₂.heap.get? i = some (itO l k) := x₂'.fr i _ O.tabs.2 O₀s.own O₀s.outs O₀s.mu hi₀s
  have Rp₀ := R₀.plus O₀s
  have Fp₀ := F₀.plus O.tabs
  refine wpAny_execs_cons (whl_start 0 (codeAny_mono (next_loop G₀ hh hfl hsk hlen _ k φ₂ _ s₂ rfl hk R₂ (F₀.ext x₂') (T.mono x₂'.le) (O₀s.ext x₂') rfl rfl hi₂) fun r s' z => ?_))
  cases r with
  | ok f =>
    obtain ⟨j, y, φ₃, σ₃, z1, z2, z3, z4, z5, z6, z7, z8, z9⟩ := z
    cases z4 with
    | ret hv =>
      obtain ⟨l1, l2, l3⟩ := leave φ₃ σ₃ s' (x₂'.plus.trans z1) (z2.plus z3)
      exact hQ j y _ _ s' l1 l2 ⟨l3, O.mu, O.own, O.outs, O.tabs, _, z9, loose_fields (o := itO l (j + 1)) rfl⟩ (hv.mono (PH.le_frz _ _ _)) z5 z6 z7 z8 z9
  | error e =>
    refine cameE_mono (fun v s'' q => ?_) z
    have q' := q.after x₂'.plus
    show wpAny _ _ (leaving (callEnv (fnD 98) s.heap.objs.size 98) v) _ _ s''
    unfold leaving
    refine wpAny_bind (noteE (c := (calleeCx (c.at A) (fnD 98) 98 s.heap.objs.size).plus i) Rp₀.toRel0 Fp₀ rfl q' fun e' s₃ hv hn₃ => ?_)
    subst hv
    refine flightE (c := (calleeCx (c.at A) (fnD 98) 98 s.heap.objs.size).plus i) Rp₀.toRel0 Fp₀ (.inl rfl) hn₃ fun s₄ hn₄ => ?_
    obtain ⟨φ₄, σ₄, y1, y2, y3, y4⟩ := hn₄
    obtain ⟨l1, l2, l3⟩ := leave φ₄ σ₄ s₄ y1 y2
    obtain ⟨_, _, oe, vs, a0, e1, e2, _⟩ := y3
    exact hE e' oe _ s₄ l1 l2 e1 e2 y4

theorem next_py {x dx u i l : Addr} {fl sk : List (List Nat)} {k : Nat} {Q : Option Value → Shared → Prop} (G : Gl c) (R : Rel c φ σ s) (F : Fro c s) (T : Itn φ fl sk x dx u i l) (O : Off c φ σ s.heap i) (hi : s.heap.get? i = some (itO l k)) (hk : k ≤ fl.length) (hfl : okS fl) (hsk : okS sk) (hlen : fl.length ≤ 100000)
    (hA : A.frames = c.A.frames) (hh : A.handled = none) (hd : A.depth < 595) (hu : A.units < 4985) (hg : A.guards = some [])
    (hQ : ∀ j y v φ' s', Ext (c.plus i) φ σ s φ' σ s' → Rel c φ' σ s' → Off c φ' σ s'.heap i → Conc φ' (.str y) v → k ≤ j → fl[j]? = some y → y ∉ sk → (∀ m z, k ≤ m → m < j → fl[m]? = some z → z ∈ sk) → s'.heap.get? i = some (itO l (j + 1)) → Q (some v) s')
    (hE : ∀ φ' s', Ext (c.plus i) φ σ s φ' σ s' → Rel c φ' σ s' → (∀ m z, k ≤ m → fl[m]? = some z → z ∈ sk) → Q none s') :
    wpAny (model c.prog c.w) A (pyNext (.ref x)) Q E s := by
  unfold pyNext
  refine wpAny_bind (wpAny_attempt (special_fn (name := "__next__") (args := []) (R.K G) (inst_at (R.keep _ _ T.x) (R.keep _ _ T.dx)) (show findIn (KK c.w) (.ref 102) "__next__" = some (some (.ref 98)) from rfl) rfl (next_call G R F T O hi hk hfl hsk hlen hA hh hd hu hg (fun j y v φ' s' h1 h2 h3 h4 h5 h6 h7 h8 h9 => ?_) fun e oe φ' s' h1 h2 h3 h4 h5 => ?_)))
  · exact wpAny_pure (hQ j y v φ' s' h1 h2 h3 h4 h5 h6 h7 h8 h9)
  · refine wpAny_bind (wpAny_isInstance (T := "StopIteration") (b := true) ⟨oe, h3, h4⟩ isSubtype_stop ?_)
    exact wpAny_pure (hE φ' s' h1 h2 h5)

theorem iter_py {x dx u i : Addr} {Q : Value → Shared → Prop} (G : Gl c) (R : Rel c φ σ s) (hx : φ x = some (insO dx #[some (.ref u), some (.ref i)])) (hdx : φ dx = some emptyDict) (hd : A.depth < 595)
    (hQ : ∀ h' tk, 0 < tk → (∀ b o, s.heap.get? b = some o → h'.get? b = some o) → Q (.ref x) { s with heap := h', toks := tk }) :
    wpAny (model c.prog c.w) A (pyIter (.ref x)) Q E s := by
  have X := R.K G
  have I := inst_at (R.keep _ _ hx) (R.keep _ _ hdx)
  have tk := R.tk
  have self : wpAny (model c.prog c.w) A (call (.ref 91) [.ref x]) (fun v s' => v = .ref x ∧ ∃ h' tk, 0 < tk ∧ s' = { s with heap := h', toks := tk } ∧ ∀ b o, s.heap.get? b = some o → h'.get? b = some o) E s := by
    obtain ⟨oc, od, osl, ho⟩ := (ok91 c.w).obj
    refine wpAny_call (codeAny_call_def (fd := fnD 91) (body := fnB 91) (binds := (["self"] : List Str).zip [Value.ref x]) (by unfold recursionLimit; omega) (X _ _ ho) rfl (G.lim.keeps R.gns) (codeRec_of X (ok91 c.w).code) (ok91 c.w).body (.of_eq rfl) (ok91 c.w).cell (fun y hy => (ok91 c.w).loc _ (List.of_mem_zip hy).1) (fun h₀ hn hks => ?_) (ok91 c.w).co (ok91 c.w).gen (ok91 c.w).fn)
    refine wpAny_execs_cons (wpAny_Return_some (wpAny_Name (wpAny_loadName_local rfl rfl hn (v := .ref x) rfl ?_) (by decide)))
    exact ⟨rfl, h₀, _, by show 0 < s.toks + _; omega, rfl, hks⟩
  have fin : wpAny (model c.prog c.w) A (call (.ref 91) [.ref x] >>= fun v => pure (some v)) (fun r s' => r = some (.ref x) ∧ ∃ h' tk, 0 < tk ∧ s' = { s with heap := h', toks := tk } ∧ ∀ b o, s.heap.get? b = some o → h'.get? b = some o) E s :=
    wpAny_bind (wpAny_mono self (fun v s' h => wpAny_pure ⟨by rw [h.1], h.2⟩) fun _ _ z => z)
  have one : ∀ refuse : Sem Value, wpAny (model c.prog c.w) A (callSpecialIfBoundUnlessNone? (.ref x) "__iter__" refuse) (fun r s' => r = some (.ref x) ∧ ∃ h' tk, 0 < tk ∧ s' = { s with heap := h', toks := tk } ∧ ∀ b o, s.heap.get? b = some o → h'.get? b = some o) E s := by
    intro refuse
    simp only [callSpecialIfBoundUnlessNone?, bindSpecialIfBound?]
    refine wpAny_holding (wpAny_bind (wpAny_bind (wpAny_bind (I.type.here ((looks_findIn X (show findIn (KK c.w) (.ref 102) "__iter__" = some (some (.ref 91)) from rfl)).here ?_)))))
    refine wpAny_bind (wpAny_askSetting (wpAny_ite ?_))
    have fin2 : wpAny (model c.prog c.w) A (if (Value.ref 91 == Value.none) = true then (refuse >>= fun v => pure (some v)) else (call (.ref 91) [.ref x] >>= fun v => pure (some v))) (fun r s' => r = some (.ref x) ∧ ∃ h' tk, 0 < tk ∧ s' = { s with heap := h', toks := tk } ∧ ∀ b o, s.heap.get? b = some o → h'.get? b = some o) E s := by
      rw [if_neg (show ¬ ((Value.ref 91 == Value.none) = true) from Bool.false_ne_true)]
      exact fin
    split
    · exact wpAny_bind ((bind_fn X _ rfl).here (wpAny_pure (by exact fin2)))
    · exact wpAny_tryCatch (wpAny_bind ((bind_fn X _ rfl).here (wpAny_pure (by exact fin2))))
  unfold pyIter
  refine wpAny_bind (wpAny_bind (I.type.here ((looks_findIn X (show findIn (KK c.w) (.ref 102) "__iter__" = some (some (.ref 91)) from rfl)).here ?_)))
  show wpAny _ A (callSpecialIfBoundUnlessNone? (.ref x) "__iter__" _ >>= _) Q E s
  refine wpAny_bind (wpAny_mono (one _) (fun r s' hr => ?_) fun _ _ z => z)
  obtain ⟨rfl, h', tk', ht, rfl, hk⟩ := hr
  have X' : (KK c.w).In h' := X.keeps hk
  have I' := inst_at (hk _ _ (R.keep _ _ hx)) (hk _ _ (R.keep _ _ hdx))
  have q : ∀ (t' : Tok), wpAny (model c.prog c.w) A (specialOf (.ref x) "__next__") (fun r s₂ => match r with | none => False | some _ => Q (.ref x) s₂) E { s with heap := h', toks := tk' } := fun _ =>
    wpAny_bind (I'.type.here ((looks_findIn X' (show findIn (KK c.w) (.ref 102) "__next__" = some (some (.ref 98)) from rfl)).here (hQ h' tk' ht hk)))
  refine wpAny_bind (wpAny_mono (q 0) (fun r s₂ hr => ?_) fun _ _ z => z)
  cases r with
  | none => exact hr.elim
  | some g => exact wpAny_pure hr
end
end Mine
end

section
open PySem PySem.W PyProof.Rows PySem.Calls
set_option Elab.async false
set_option maxRecDepth 100000
set_option maxHeartbeats 4000000
set_option linter.unusedVariables false
namespace Mine
noncomputable def outOf (sk : List (List Nat)) (y : List Nat) : Bool := !decide (y ∈ sk)
theorem filter_none {fl sk : List (List Nat)} {k : Nat} (h : ∀ m z, k ≤ m → fl[m]? = some z → z ∈ sk) : fl.filter (outOf sk) = (fl.take k).filter (outOf sk) := by
  conv => lhs; rw [← List.take_append_drop k fl]
  rw [List.filter_append]
  have : (fl.drop k).filter (outOf sk) = [] := by
    rw [List.filter_eq_nil_iff]
    intro z hz
    obtain ⟨m, hm⟩ := List.mem_iff_getElem?.mp hz
    rw [List.getElem?_drop] at hm
    have := h (k + m) z (by omega) hm
    simp [outOf, this]
  rw [this, List.append_nil]
theorem filter_next {fl sk : List (List Nat)} {k j : Nat} {y : List Nat} (hkj : k ≤ j) (hy : fl[j]? = some y) (hn : y ∉ sk) (h : ∀ m z, k ≤ m → m < j → fl[m]? = some z → z ∈ sk) :
    (fl.take (j + 1)).filter (outOf sk) = (fl.take k).filter (outOf sk) ++ [y] := by
  rw [List.take_add_one, hy, Option.toList_some, List.filter_append]
  have e1 : (fl.take j).filter (outOf sk) = (fl.take k).filter (outOf sk) := by
    have := filter_none (fl := fl.take j) (sk := sk) (k := k) fun m z hm hz => by
      rw [List.getElem?_take] at hz
      split at hz
      · rename_i hlt; exact h m z hm hlt hz
      · cases hz
    rw [this, List.take_take, Nat.min_eq_left hkj]
  rw [e1]
  simp [outOf, hn]
section
variable {c : Cx} {φ φ' : PH} {σ σ' : St} {s s' : Shared} {A : Around} {E : Value → Shared → Prop}

theorem Off.put {h : Heap} {b S : Addr} {xs : List AV} (o : Off c φ σ h b) (hne : b ≠ S) : Off c φ (σ.put S xs) h b := ⟨o.φ, by rw [St.put_get_ne _ _ hne]; exact o.mu, o.own, o.outs, o.tabs, o.dat⟩
theorem mapS {S : Addr} {xs ys : List AV} {f : Array Value → Array Value} (R : Rel c φ (σ.put S xs) s) (hf : ∀ items : Array Value, Concs φ xs items.toList → Concs φ ys (f items).toList) :
    Rel c φ (σ.put S ys) { s with heap := s.heap.update S (Obj.mapSeq f) } ∧ Ext c φ (σ.put S xs) s φ (σ.put S ys) { s with heap := s.heap.update S (Obj.mapSeq f) } ∧ ∀ b o, b ≠ S → s.heap.get? b = some o → (s.heap.update S (Obj.mapSeq f)).get? b = some o := by
  have hm : (σ.put S xs).mu S = some xs := St.put_get ..
  obtain ⟨items, n, hL, hs, e⟩ := mu_isL R.toRel0 hm
  have k : ∀ b o, b ≠ S → s.heap.get? b = some o → (s.heap.update S (Obj.mapSeq f)).get? b = some o := fun b o hb e => ((Heap.SameBut.update s.heap S (Obj.mapSeq f)).2 b hb).trans e
  have hL' := IsL.update hL f
  have ep : ((σ.put S xs).put S ys) = σ.put S ys := by
    unfold St.put; congr 1; funext b; dsimp only; split <;> rfl
  have R' := R.toRel0.upd (tk := s.toks) hm k hL' (⟨f items, _, rfl, hf items hs⟩ : MC φ ys _)
  have x' := Ext.upd (tk := s.toks) (ys := ys) R.toRel0 hm k hL'
  rw [ep] at R' x'
  exact ⟨⟨R', R.tk⟩, x', k⟩
theorem St.put_put (σ : St) (S : Addr) (xs ys : List AV) : (σ.put S xs).put S ys = σ.put S ys := by
  unfold St.put; congr 1; funext b; dsimp only; split <;> rfl
theorem Fro.upd (F : Fro c s) {S : Addr} {h' : Heap} {tk : Nat} (hS : S ∉ c.outs) (k : ∀ b o, b ≠ S → s.heap.get? b = some o → h'.get? b = some o) : Fro c { s with heap := h', toks := tk } := by
  obtain ⟨l, h1, h2⟩ := F.fr
  refine ⟨⟨l, h1, fun env he => ?_⟩, F.me, F.own, F.kind, F.tabs⟩
  obtain ⟨a, L, o, b1, b2, b3, b4⟩ := h2 env he
  exact ⟨a, L, o, b1, b2, k _ _ (fun w => hS (w ▸ b2)) b3, b4⟩

theorem list_loop {x dx u i l S : Addr} {fl sk : List (List Nat)} {Rs : Result → Shared → Prop} (G : Gl c) (hfl : okS fl) (hsk : okS sk) (hlen : fl.length ≤ 100000) (hA : A.frames = c.A.frames) (hh : A.handled = none) (hd : A.depth < 595) (hu : A.units < 4980) (hg : A.guards = some []) (hSi : i ≠ S) :
    ∀ n k φ s, fl.length - k = n → k ≤ fl.length → Rel c φ (σ.put S (vstrs ((fl.take k).filter (outOf sk)))) s → Fro c s → Itn φ fl sk x dx u i l → Off c φ (σ.put S (vstrs ((fl.take k).filter (outOf sk)))) s.heap i → s.heap.get? i = some (itO l k) →
      (∀ φ' s', Ext (c.plus i) φ (σ.put S (vstrs ((fl.take k).filter (outOf sk)))) s φ' (σ.put S (vstrs (fl.filter (outOf sk)))) s' → Rel c φ' (σ.put S (vstrs (fl.filter (outOf sk)))) s' → Rs (.ok (.ret .none)) s') →
      codeAny (model c.prog c.w) A (.builtin "list.extend.loop" ⟨[.ref S, .ref x, .none], []⟩) Rs s := by
  intro n
  induction n using Nat.strongRecOn with
  | ind n ih =>
    intro k φ s hk hle R F T O hi hR
    refine codeAny_builtin PySem.F.entry_extend_loop ?_
    rw [Around.under_plainId PySem.F.plain_extend_loop _]
    show wpAny _ A.in1 (pyNext (.ref x) >>= _) _ _ s
    refine wpAny_bind (next_py G R F T O hi hle hfl hsk hlen hA hh hd (by show A.units + 1 < 4985; omega) hg (fun j y v φ₁ s₁ x₁ R₁ O₁ hv hkj hyj hyn hbet hi₁ => ?_) fun φ₁ s₁ x₁ R₁ hend => ?_)
    · show wpAny _ A.in1 (updateSeq S (·.push v) >>= _) _ _ _
      have hm : (σ.put S (vstrs ((fl.take k).filter (outOf sk)))).mu S = some (vstrs ((fl.take k).filter (outOf sk))) := St.put_get ..
      obtain ⟨items, nn, hL, hcs, e⟩ := mu_isL R₁.toRel0 hm
      have hsz : items.size ≤ 100000 := by
        rw [e, List.length_map]
        exact Nat.le_trans (List.length_filter_le _ _) (Nat.le_trans (by rw [List.length_take]; omega) hlen)
      obtain ⟨R₂, x₂, k₂⟩ := mapS (ys := vstrs ((fl.take (j + 1)).filter (outOf sk))) (f := fun a => a.push v) R₁ fun it hc => by
        rw [filter_next hkj hyj hyn hbet, show vstrs ((fl.take k).filter (outOf sk) ++ [y]) = vstrs ((fl.take k).filter (outOf sk)) ++ [.str y] from List.map_append ..]
        exact Concs.push hc hv
      have hS' : S ∉ c.outs := fun q => by have := (R₁.outs S q).2.1; rw [hm] at this; cases this
      have x₁₂ := x₁.trans x₂.plus
      have hj := (List.getElem?_eq_some_iff.mp hyj).1
      have O₁' := O₁.put (S := S) (xs := vstrs ((fl.take (j + 1)).filter (outOf sk))) hSi
      rw [St.put_put] at O₁'
      have hi₂ := k₂ i _ hSi hi₁
      refine wpAny_bind (wpAny_updateSeq (f := fun a => a.push v) hL rfl (wpAny_pure ⟨plainId_quiet PySem.F.plain_extend_loop _, ih (fl.length - (j + 1)) (by omega) (j + 1) φ₁ _ rfl (by omega) R₂ ((F.plus O.tabs).ext x₁ |> fun z => Fro.upd (tk := s₁.toks) (c := c) ⟨z.fr, z.me, F.own, z.kind, F.tabs⟩ hS' k₂) (T.mono x₁.le) (O₁'.of ⟨_, hi₂, loose_fields (o := itO l (j + 1)) rfl⟩) hi₂ fun φ₃ s₃ x₃ R₃ => hR φ₃ s₃ (x₁₂.trans x₃) R₃⟩) (by rw [PySem.sizeLine_eq]; omega) (by rw [PySem.sizeLine_eq]; show (items.push v).size ≤ _; rw [Array.size_push]; omega))
    · have he := filter_none hend
      rw [he] at hR
      exact wpAny_pure (hR φ₁ s₁ x₁ R₁)
end
end Mine
end

section
open PySem PySem.W PyProof.Rows PySem.Calls
set_option Elab.async false
set_option maxRecDepth 100000
set_option maxHeartbeats 4000000
set_option linter.unusedVariables false
namespace Mine
section
variable {c : Cx} {φ φ' : PH} {σ σ' : St} {s s' : Shared} {A : Around} {E : Value → Shared → Prop}
theorem new_list (R : Rel c φ σ s) {n : Nat} : Rel c φ (σ.put s.heap.objs.size []) { s with heap := s.heap.push { cls := .type "list", data := .seq #[] n } } ∧ Ext c φ σ s φ (σ.put s.heap.objs.size []) { s with heap := s.heap.push { cls := .type "list", data := .seq #[] n } } := by
  have F := R.fresh_size
  exact ⟨⟨(R.toRel0.grow (tk := s.toks) (push_k s.heap { cls := .type "list", data := .seq #[] n })).putNew (Heap.get?_push_size _ rfl) F.φ F.own F.outs ⟨#[], n, rfl, .nil⟩, R.tk⟩, (Ext.grow (tk := s.toks) (push_k s.heap _)).putNew F.heap⟩

theorem list_call {x dx u i l : Addr} {fl sk : List (List Nat)} {Q : Value → Shared → Prop} (G : Gl c) (R : Rel c φ σ s) (Fr : Fro c s) (hfl : okS fl) (hsk : okS sk) (hlen : fl.length ≤ 100000) (hh : c.A.handled = none) (hd : c.A.depth < 590) (hu : c.A.units < 4970)
    (T : Itn φ fl sk x dx u i l) (O : Off c φ σ s.heap i) (hi : s.heap.get? i = some (itO l 0))
    (hQ : ∀ S φ' s', Ext (c.plus i) φ σ s φ' (σ.put S (vstrs (fl.filter (outOf sk)))) s' → Rel c φ' (σ.put S (vstrs (fl.filter (outOf sk)))) s' → Q (.ref S) s') :
    wpAny (model c.prog c.w) c.A (call (.type "list") [.ref x]) Q E s := by
  refine callType_codes (Q₁ := fun obj s₁ => obj = .ref s.heap.objs.size ∧ s₁ = { s with heap := s.heap.push { cls := .type "list", data := .seq #[] } }) PySem.F.called_list (PySem.F.typeCall_list_1 _) PySem.F.entry_list_init (code_list_new _ ⟨rfl, rfl⟩) fun obj s₁ h₁ => ?_
  obtain ⟨rfl, rfl⟩ := h₁
  have hSn := push_new s.heap
  have hiS : i ≠ s.heap.objs.size := fun w => by rw [← w, hi] at hSn; cases hSn
  obtain ⟨R₁, x₁⟩ := new_list R (n := 0)
  have F₁ := Fr.ext x₁
  have O₁ := O.ext x₁
  have hi₁ : (s.heap.push { cls := .type "list", data := .seq #[] }).get? i = some (itO l 0) := push_k _ _ _ _ hi
  have hS : (s.heap.push { cls := .type "list", data := .seq #[] }).get? s.heap.objs.size = some { cls := .type "list", data := .seq #[] } := Heap.get?_push_size _ rfl
  generalize hSe : s.heap.objs.size = S at *
  generalize hs1 : ({ s with heap := s.heap.push { cls := .type "list", data := .seq #[] } } : Shared) = s₁ at *
  have hS₁ : s₁.heap.get? S = some { cls := .type "list", data := .seq #[] } := by rw [← hs1]; exact hS
  have hi₁' : s₁.heap.get? i = some (itO l 0) := by rw [← hs1]; exact hi₁
  have hi₁ := hi₁'
  refine ⟨⟨_, hS₁, rfl⟩, PySem.F.args_list_init_2 _ _, ?_⟩
  show wpAny _ c.A.in1.in1 (do let old ← Builtin.List.listItems (.ref S); Builtin.List.listUpdate (.ref S) (fun _ => #[]); letGo old.toList.reverse; Builtin.List.listExtendWith (.ref S) (.ref x) .none) _ _ s₁
  refine wpAny_bind ?_
  unfold Builtin.List.listItems
  refine wpAny_bind (wpAny_seqItems hS₁ rfl (wpAny_pure ?_))
  show wpAny _ c.A.in1.in1 (updateSeq S (fun _ => #[]) >>= fun _ => letGo (#[] : Array Value).toList.reverse >>= fun _ => Builtin.List.listExtendWith (.ref S) (.ref x) .none) _ _ s₁
  obtain ⟨R₂, x₂, k₂⟩ := mapS (ys := []) (f := fun _ => #[]) R₁ fun _ _ => .nil
  refine wpAny_bind (wpAny_updateSeq (f := fun _ => #[]) hS₁ rfl ?_)
  refine wpAny_bind (wpAny_letGo ?_)
  have hi₂ := k₂ i _ hiS hi₁
  have hS₂ := Heap.get?_update_self (Obj.mapSeq (fun _ => (#[] : Array Value))) hS₁ rfl
  have F₂ := F₁.ext x₂
  have O₂ := O₁.ext x₂
  have x₁₂ := x₁.trans x₂
  generalize hs2 : ({ s₁ with heap := s₁.heap.update S (Obj.mapSeq (fun _ => (#[] : Array Value))) } : Shared) = s₂ at *
  have hi₂' : s₂.heap.get? i = some (itO l 0) := by rw [← hs2]; exact hi₂
  have T₂ := T
  unfold Builtin.List.listExtendWith
  have I₂ := inst_at (R₂.keep _ _ T.x) (R₂.keep _ _ T.dx)
  refine wpAny_bind (I₂.type.here ?_)
  have hxS : S ≠ x := fun w => by
    have h1 := R₂.keep _ _ T.x
    have h2 : (σ.put S ([] : List AV)).mu S = some [] := St.put_get ..
    have := (R₂.mu _ _ h2).1
    rw [w, T.x] at this; cases this
  have h1 : Builtin.List.listSameRef (.ref S) (.ref x) = false := by simp [Builtin.List.listSameRef, hxS]
  have h2 : (Value.ref 102 == Value.type "list") = false := by decide
  have h3 : (Value.ref 102 == Value.type "tuple") = false := by decide
  simp only [h1, h2, h3, Bool.or_false, Bool.false_eq_true, if_false]
  refine wpAny_bind (iter_py (c := c) G R₂ T.x T.dx (by show c.A.depth < 595; omega) fun h₃ tk₃ ht₃ k₃ => ?_)
  have R₃ : Rel c φ (σ.put S []) { s₂ with heap := h₃, toks := tk₃ } := ⟨R₂.toRel0.grow k₃, ht₃⟩
  have x₃ : Ext c φ (σ.put S []) s₂ φ (σ.put S []) { s₂ with heap := h₃, toks := tk₃ } := Ext.grow k₃
  have hi₃ := k₃ _ _ hi₂'
  have F₃ := F₂.ext x₃
  have O₃ := O₂.ext x₃
  have x₁₃ := x₁₂.trans x₃
  generalize hs3 : ({ s₂ with heap := h₃, toks := tk₃ } : Shared) = s₃ at *
  have hi₃' : s₃.heap.get? i = some (itO l 0) := by rw [← hs3]; exact hi₃
  have I₃ := inst_at (R₃.keep _ _ T.x) (R₃.keep _ _ T.dx)
  have X₃ := R₃.K G
  refine wpAny_bind (wpAny_holding ?_)
  unfold Builtin.List.listLengthHint
  refine wpAny_bind (wpAny_bind (I₃.type.here ((looks_findIn X₃ (show findIn (KK c.w) (.ref 102) "__len__" = some none from rfl)).here ?_)))
  show wpAny _ _ (specialOf (Value.ref x) (Str.ofString "__length_hint__") >>= _) _ _ _
  refine wpAny_bind (wpAny_bind (I₃.type.here ((looks_findIn X₃ (show findIn (KK c.w) (.ref 102) "__length_hint__" = some none from rfl)).here ?_)))
  refine wpAny_pure ?_
  show wpAny _ c.A.in1.in1 (rule "list.extend.makes-room" >>= fun _ => Builtin.List.listTouch (.ref S) >>= fun _ => again (.builtin "list.extend.loop" ⟨[.ref S, .ref x, .none], []⟩)) _ _ _
  refine wpAny_bind (wpAny_rule ?_)
  refine wpAny_bind ?_
  show wpAny _ c.A.in1.in1 (updateSeq S (·.push .none) >>= fun _ => updateSeq S (·.pop)) _ _ _
  have hm₃ : (σ.put S ([] : List AV)).mu S = some [] := St.put_get ..
  obtain ⟨it₃, n₃, hL₃, hc₃, e₃⟩ := mu_isL R₃.toRel0 hm₃
  obtain ⟨R₄, x₄, k₄⟩ := mapS (ys := [.none]) (f := fun a => a.push .none) R₃ fun it hc => Concs.push (xs := []) hc .none
  refine wpAny_bind (wpAny_updateSeq (f := fun a => a.push .none) hL₃ rfl ?_ (by rw [e₃]; exact Nat.zero_le _) (by rw [Array.size_push, e₃, PySem.sizeLine_eq]; decide))
  have hi₄ := k₄ i _ hiS hi₃'
  have F₄ := F₃.ext x₄
  have O₄ := O₃.ext x₄
  have x₁₄ := x₁₃.trans x₄
  generalize hs4 : ({ s₃ with heap := s₃.heap.update S (Obj.mapSeq (fun a => a.push Value.none)) } : Shared) = s₄ at *
  have hi₄' : s₄.heap.get? i = some (itO l 0) := by rw [← hs4]; exact hi₄
  have hm₄ : (σ.put S [AV.none]).mu S = some [.none] := St.put_get ..
  obtain ⟨it₄, n₄, hL₄, hc₄, e₄⟩ := mu_isL R₄.toRel0 hm₄
  obtain ⟨R₅, x₅, k₅⟩ := mapS (ys := []) (f := fun a => a.pop) R₄ fun it hc => by
    have e := hc.length
    rw [Array.length_toList] at e
    have : it.pop.toList = [] := by
      apply List.eq_nil_of_length_eq_zero
      rw [Array.length_toList, Array.size_pop, e]; rfl
    rw [this]; exact .nil
  refine wpAny_updateSeq (f := fun a => a.pop) hL₄ rfl ?_ (by rw [e₄, PySem.sizeLine_eq]; show 1 ≤ _; omega) (by rw [Array.size_pop, e₄, PySem.sizeLine_eq]; show 0 ≤ _; omega)
  have hi₅ := k₅ i _ hiS hi₄'
  refine wpAny_pure ⟨plainId_quiet PySem.F.plain_extend_loop _, list_loop (A := c.A.in1) (σ := σ) (l := l) G hfl hsk hlen rfl hh (by show c.A.depth < 595; omega) (by show c.A.units + 1 < 4980; omega) G.gd hiS _ 0 φ _ rfl (Nat.zero_le _) R₅ (F₄.ext x₅) T (O₄.ext x₅) hi₅ fun φ₆ s₆ x₆ R₆ => ?_⟩
  exact ⟨rfl, hQ S φ₆ s₆ ((x₁₄.trans x₅).plus.trans x₆) R₆⟩
end
end Mine
end

section
open PySem PySem.W PyProof.Rows PySem.Calls
set_option Elab.async false
set_option maxRecDepth 100000
set_option maxHeartbeats 4000000
set_option linter.unusedVariables false
namespace Mine
section
variable {c : Cx} {φ φ' : PH} {σ σ' : St} {s s' : Shared} {A : Around} {E : Value → Shared → Prop}
theorem nm_global {M : Model} {env : Env} {x : Str} {pos} {v : Value} {Q : Value → Shared → Prop} (G : Gl c) (k : ∀ b o, c.h₀.get? b = some o → s.heap.get? b = some o) (hf : env.scope.kind = .function) (hg : env.globals = mainGlobals) (hk : env.kindOf x = some .globalImplicit) (hx : nsIn (KK c.w) mainGlobals x = some (some v)) (h : Q v s)
    (hd : (x == ("__debug__" : Str)) = false := by decide) : wpAny M A (eval (.Name x pos) env) Q E s := by
  obtain ⟨mg, mb, hgn, hbn, hboot, _⟩ := G.T
  exact Name_function_global hf hk (loadGlobal_global (by rw [hg]; exact hgn.keeps k) (mg_of G.K hgn hx) h) hd
theorem Ext.addφ2 {a : Addr} {o : Obj} (x : Ext c φ σ s φ' σ' s') (hn : s.heap.get? a = none) (hφ : φ' a = none) : Ext c φ σ s (φ'.add a o) σ' s' := by
  refine ⟨x.le.trans (PH.le_add hφ o), x.fr, x.fo, x.al, fun b h h' => ?_, x.nm, x.gd⟩
  by_cases q : b = a
  · subst q; exact hn
  · exact x.nφ b h (by simpa [PH.add, q] using h')
theorem Ext.transI {i : Addr} {φ₂ σ₂ s₂} (x : Ext c φ σ s φ' σ' s') (y : Ext (c.plus i) φ' σ' s' φ₂ σ₂ s₂) (hi : s.heap.get? i = none) : Ext c φ σ s φ₂ σ₂ s₂ := by
  have z := x.plus (i := i) |>.trans y
  refine ⟨z.le, fun a o h0 h1 h2 h3 e => z.fr a o h0 (fun q => ?_) h2 h3 e, z.fo, z.al, z.nφ, z.nm, z.gd⟩
  rcases List.mem_append.mp q with q | q
  · exact h1 q
  · rw [List.mem_singleton.mp q, hi] at e; cases e

theorem evX_filter {cl x y np1 np2 apos yp p1 p2} {lp : Pos} {fl sk : List (List Nat)} {cls : String} {kn : Bool} {P : St → Prop} {Q : AV → St → Prop} (G : Gl c) (N : Never c) (hcl : cl = ("list" : Str)) (hh : c.A.handled = none) (hd : c.A.depth < 580) (hu : c.A.units < 4900) (hfl : okS fl) (hsk : okS sk) (hlen : fl.length ≤ 100000)
    (hkl : c.env.kindOf ("list" : Str) = some .globalImplicit) (hkf : c.env.kindOf ("filterfalse" : Str) = some .globalImplicit) (hgl : c.env.globals = mainGlobals) (hbl : c.env.builtins = builtinsNs) (hkx : c.env.kindOf x = some .local) (hky : c.env.kindOf y = some .local)
    (hx : σ.m x = some (.list (vstrs sk))) (hy : σ.m y = some (.list (vstrs fl))) (hdx : (x == ("__debug__" : Str)) = false) (hdy : (y == ("__debug__" : Str)) = false)
    (h : ∀ S, Q (.ref S) (σ.put S (vstrs (fl.filter (outOf sk))))) :
    EvX c (.Call (.Name ("list" : Str) np1) [.Call (.Name ("filterfalse" : Str) np2) [.Attribute (.Name x apos) "__contains__" lp, .Name y yp] [] p1] [] p2) σ Q cls kn P := fun φ s R S => by
  refine wpAny_Call_ofName (nm_builtin G R.gns G.fn hgl hbl hkl rfl (v := .type "list") rfl ?_)
  have he : starEach [.Call (.Name ("filterfalse" : Str) np2) [.Attribute (.Name x apos) "__contains__" lp, .Name y yp] [] p1] c.env = (false, eval (.Call (.Name ("filterfalse" : Str) np2) [.Attribute (.Name x apos) "__contains__" lp, .Name y yp] [] p1) c.env) :: starEach [] c.env := rfl
  refine PySem.callWith_type (by rw [he]; rfl) ?_
  rw [he]
  refine evalArgs_plain (wpAny_items_cons (rest := []) ?_ he)
  refine wpAny_Call_ofName (nm_global (v := .ref 102) G R.gns G.fn hgl hkf rfl ?_)
  refine callWith_K (K := KK c.w) (R.K G) rfl ?_ (by rfl) (by rfl)
  refine wpAny_items_cons (Wp.thenN N (ev_bcon (Q := fun a σ' => a = bcon sk ∧ σ' = σ) G hkx hx ⟨rfl, rfl⟩ hdx φ s R) fun φ₁ σ₁ s₁ a va x₁ R₁ hc₁ h₁ => ?_) (by rfl)
  obtain ⟨rfl, rfl⟩ := h₁
  refine wpAny_items_cons (Wp.thenN N (ev_local (Q := fun a σ' => a = .list (vstrs fl) ∧ σ' = σ₁) G hky hy ⟨rfl, rfl⟩ hdy φ₁ s₁ R₁) fun φ₂ σ₂ s₂ b vb x₂ R₂ hc₂ h₂ => ?_) (by rfl)
  obtain ⟨rfl, rfl⟩ := h₂
  refine wpAny_items_nil ⟨R₂.K G, ?_⟩
  have hc₁' := hc₁.mono x₂.le
  have x₁₂ := x₁.trans x₂
  obtain ⟨u, sv, rfl, hu', hsv⟩ := hc₁'.bob
  have hl : ∃ l items n sl, vb = .ref l ∧ φ₂ l = some (lob items n sl) := by
    cases hc₂ with
    | list ho hs => exact ⟨_, _, _, _, rfl, ho⟩
  obtain ⟨l, items, n, sl, rfl, ho⟩ := hl
  refine mk_call G R₂ (by omega) ⟨_, R₂.keep _ _ ho, rfl, _, rfl⟩ fun h' tk xa dx i ht k nx ndx ni hxi hxd hdi ox odx oi => ?_
  have fx := R₂.toRel0.fresh nx
  have fd := R₂.toRel0.fresh ndx
  have fi := R₂.toRel0.fresh ni
  have Rg : Rel0 c φ₂ σ₂ { s₂ with heap := h', toks := tk } := R₂.grow k
  have Rd := Rg.addφ odx fd.φ fd.mu fd.own fd.outs (R₂.toRel0.tabNew' ndx)
  have hxφ : (φ₂.add dx emptyDict) xa = none := by simp [PH.add, hxd, fx.φ]
  have Rx := Rd.addφ ox hxφ fx.mu fx.own fx.outs (R₂.toRel0.tabNew' nx)
  have xg : Ext c φ₂ σ₂ s₂ φ₂ σ₂ { s₂ with heap := h', toks := tk } := Ext.grow k
  have x₃ := (xg.addφ2 (o := emptyDict) ndx fd.φ).addφ2 (o := insO dx #[some (.ref u), some (.ref i)]) nx hxφ
  have le2 : PLe φ₂ ((φ₂.add dx emptyDict).add xa (insO dx #[some (.ref u), some (.ref i)])) := x₃.le
  have hiφ : ((φ₂.add dx emptyDict).add xa (insO dx #[some (.ref u), some (.ref i)])) i = none := by simp [PH.add, Ne.symm hxi, Ne.symm hdi, fi.φ]
  generalize hφ₃ : (φ₂.add dx emptyDict).add xa (insO dx #[some (.ref u), some (.ref i)]) = φ₃ at Rx x₃ le2 hiφ
  have T : Itn φ₃ fl sk xa dx u i l := by
    refine ⟨?_, ?_, (hc₁'.mono le2), hc₂.mono le2⟩
    · rw [← hφ₃]; exact PH.add_self ..
    · rw [← hφ₃]; simp [PH.add, Ne.symm hxd]
  have R₃ : Rel c φ₃ σ₂ { s₂ with heap := h', toks := tk } := ⟨Rx, ht⟩
  have O : Off c φ₃ σ₂ ({ s₂ with heap := h', toks := tk } : Shared).heap i := ⟨hiφ, fi.mu, fi.own, fi.outs, ⟨(fun w => by have := R₂.toRel0.tabC_alive; rw [← w, ni] at this; cases this), R₂.toRel0.tabNew' ni⟩, _, oi, loose_fields (o := itO l 0) rfl⟩
  have S₃ := (S.ext x₁₂).ext x₃
  refine wpAny_items_nil ?_
  refine list_call G R₃ S₃.fro hfl hsk hlen hh (by omega) (by omega) T O oi fun Sa φ₄ s₄ x₄ R₄ => ?_
  refine ⟨φ₄, _, .ref Sa, ((x₁₂.trans x₃).transI x₄ ?_), R₄, .ref _, h Sa⟩
  cases q : s.heap.get? i with
  | none => rfl
  | some o => have := x₁₂.al i (isSome_of q); rw [ni] at this; cases this

theorem ok113 (w : World) : FnOk (KK w) 113 (fnD 113) (fnB 113) ["flist", "skip"] where
  obj := ⟨_, _, _, rfl⟩
  code := rfl
  body := rfl
  cell := by decide +kernel
  loc := by decide +kernel
  co := rfl
  gen := rfl
  fn := rfl
  gl := rfl
  bl := rfl
theorem body113 (c : Cx) (L : Addr) (fl sk : List (List Nat)) (hfl : okS fl) (hsk : okS sk) (hlen : fl.length ≤ 100000) (Q : AV → Prop) (G : Gl (calleeCx c (fnD 113) 113 L)) (hd : c.A.depth < 570) (hu : c.A.units < 4800) (hh : c.A.handled = none)
    (hq : Q (.list (vstrs (fl.filter (outOf sk))))) :
    ExsX (calleeCx c (fnD 113) 113 L) (fnB 113) (startSt ["flist", "skip"] [.list (vstrs fl), .list (vstrs sk)]) (Gives Q) "StopIteration" false (fun _ => False) := by
  have N : Never (calleeCx c (fnD 113) 113 L) := fun _ _ h => h
  refine exsX_cons (exX_ret (evX_filter (x := "skip") (y := "flist") (cl := "list") G N rfl hh (by show c.A.depth + 1 < 580; omega) (by show c.A.units + 3 < 4900; omega) hfl hsk hlen rfl rfl rfl rfl rfl rfl rfl rfl (by decide) (by decide) fun S => ?_))
  exact ⟨_, .ref (St.put_get ..) (Frzs.same ..), hq⟩
theorem cl113 {fl sk : List (List Nat)} {Q : AV → St → Prop} (G : Gl c) (hFr : ∀ φ σ s, Rel c φ σ s → Fro c s) (hd : c.A.depth < 570) (hu : c.A.units < 4800) (hh : c.A.handled = none) (hfl : okS fl) (hsk : okS sk) (hlen : fl.length ≤ 100000)
    (h : Q (.list (vstrs (fl.filter (outOf sk)))) σ) : Cl c (.ref 113) [.list (vstrs fl), .list (vstrs sk)] σ Q :=
  cl_defX (as' := [.list (vstrs fl), .list (vstrs sk)]) G hFr (ok113 c.w) rfl (by omega) (by omega) hh (fun φ s vs R hc => ⟨vs, by obtain ⟨v, u, rfl, h1, h2⟩ := concs2 hc; exact .of_eq rfl, hc⟩) fun L hLt => body113 c L fl sk hfl hsk hlen _ (G.callee (ok113 c.w) (by omega) (by omega) hLt) hd hu hh h
end
end Mine
end

section
open PySem PySem.W PyProof.Rows PySem.Calls
set_option Elab.async false
set_option maxRecDepth 100000
set_option maxHeartbeats 4000000
set_option linter.unusedVariables false
namespace Mine
section
variable {c : Cx} {φ φ' : PH} {σ σ' : St} {s s' : Shared} {A : Around} {E : Value → Shared → Prop}

theorem mem_of_lookup {x : Str} {a : Addr} : ∀ {l : List (Str × Addr)}, l.lookup x = some a → (x, a) ∈ l
  | [], h => by simp at h
  | (y, b) :: l, h => by
    rw [List.lookup_cons] at h
    split at h
    · rename_i e; cases h; rw [beq_iff_eq] at e; rw [e]; exact .head _
    · exact .tail _ (mem_of_lookup h)
theorem ev_cell {x : Str} {pos} {a : AV} {ad : Addr} {Q : AV → St → Prop} (G : Gl c) (hk : c.env.kindOf x = some .cell) (hc : c.env.cells.lookup x = some ad) (hx : σ.m x = some a) (h : Q a σ) (hd : (x == ("__debug__" : Str)) = false := by decide) : Ev c (.Name x pos) σ Q := fun φ s R => by
  obtain ⟨ob, v, e, hd', r⟩ := R.cells _ (mem_of_lookup hc)
  obtain ⟨u, rfl, hcu⟩ := r a hx hk
  exact wpAny_Name (wpAny_loadName_cell G.fn hk hc ⟨ob, e, hd'⟩ (post_here R hcu h)) hd
theorem Rel0.storeCell (R : Rel0 c φ σ s) {x : Str} {a : AV} {v : Value} {ad : Addr} {h' : Heap} {tk : Nat} (hk : c.env.kindOf x = some .cell) (hc : (x, ad) ∈ c.env.cells) (hu : ∀ p ∈ c.env.cells, p.1 = x → p.2 = ad) (ho : ad ∈ c.own) (hcell : h'.IsCell ad (some v)) (hs : Heap.SameBut ad s.heap h') (hv : Conc φ a v) : Rel0 c φ (σ.set x a) { s with heap := h', toks := tk } := by
  obtain ⟨ob, v0, e0, hd0, _⟩ := R.cells _ hc
  have nφ := (R.own _ ho).1
  have nmu := (R.own _ ho).2.1
  have k : ∀ b, b ≠ ad → h'.get? b = s.heap.get? b := hs.2
  obtain ⟨oc, e1, hd1⟩ := hcell
  refine ⟨R.base, fun b o q => (k b fun w => by rw [w, nφ] at q; cases q).trans (R.keep _ _ q), ?_, fun p hp => ?_, R.cdist, fun b hb => ?_, fun b hb => ?_, fun b ys e => ?_, ?_, R.gens, R.os, R.pt⟩
  · obtain ⟨m, ⟨oL, es, ep, hL, hd, r⟩, h⟩ := R.ns
    refine ⟨m, ⟨oL, es, ep, (k _ fun w => by rw [w, e0] at hL; cases hL; rw [hd0] at hd; cases hd).trans hL, hd, r⟩, fun y b e hy => h y b ?_ hy⟩
    rwa [St.set_get_ne _ _ fun w => by rw [w, hk] at hy; cases hy] at e
  · by_cases w : p.2 = ad
    · have hpx : p.1 = x := R.cdist p hp _ hc w
      rw [w]
      refine ⟨oc, some v, e1, hd1, fun b e hy => ?_⟩
      rw [hpx, St.set_get] at e; cases e; exact ⟨v, rfl, hv⟩
    · obtain ⟨ob', u, e, hd, r⟩ := R.cells p hp
      have hpx : p.1 ≠ x → ∀ b, (σ.set x a).m p.1 = some b → σ.m p.1 = some b := fun hn b e => by rwa [St.set_get_ne _ _ hn] at e
      refine ⟨ob', u, (k _ w).trans e, hd, fun b e hy => ?_⟩
      by_cases q : p.1 = x
      · exfalso
        exact w (hu p hp q)
      · exact r b (hpx q b e) hy
  · obtain ⟨h1, h2, h3⟩ := R.own b hb
    refine ⟨h1, h2, ?_⟩
    by_cases w : b = ad
    · rw [w]; exact isSome_of e1
    · show (h'.get? b).isSome = true; rw [k b w]; exact h3
  · obtain ⟨h1, h2, h3, h4⟩ := R.outs b hb
    exact ⟨h1, h2, by show (h'.get? b).isSome = true; rw [k b fun w => h4 (w ▸ ho)]; exact h3, h4⟩
  · obtain ⟨h1, ob', h2, h3⟩ := R.mu b ys e
    exact ⟨h1, ob', (k b fun w => by rw [w] at e; rw [show (σ.set x a).mu = σ.mu from rfl, nmu] at e; cases e).trans h2, h3⟩
  · obtain ⟨ps, t1, t2⟩ := R.tab
    have nC : tabC ≠ ad := fun q => by
      obtain ⟨o, vs, file, tf, flags, tg, inF, text, tt, op, h1, h2, _⟩ := t1
      rw [q, e0] at h1; cases h1; rw [hd0] at h2; cases h2
    have nP : tabP ≠ ad := fun q => by have := t2.2; rw [q, e0] at this; cases this; cases hd0
    exact ⟨ps, t1.extBut hs.extBut nC nP, t2.extBut hs.extBut nC nP⟩
theorem stoC {x : Str} {a : AV} {v : Value} {ad : Addr} {Q : St → Prop} (R : Rel c φ σ s) (G : Gl c) (hk : c.env.kindOf x = some .cell) (hc : c.env.cells.lookup x = some ad) (hu : ∀ p ∈ c.env.cells, p.1 = x → p.2 = ad) (ho : ad ∈ c.own) (hv : Conc φ a v) (hq : Q (σ.set x a)) :
    Wp c (storeName c.env x v) (Post c φ σ s (CEq (α := Unit)) fun _ => Q) s := by
  obtain ⟨ob, v0, e0, hd0, _⟩ := R.cells _ (mem_of_lookup hc)
  have hp : ad ≠ tabP := fun w => by
    obtain ⟨ps, _, t2⟩ := R.tab
    have := t2.2; rw [← w, e0] at this; cases this; cases hd0
  refine lift R.tk (wpAny_storeName_cell G.fn hk hc ⟨ob, e0, hd0⟩ fun h' hcell hs => ⟨φ, σ.set x a, (), ?_, R.toRel0.storeCell (tk := s.toks) hk (mem_of_lookup hc) hu ho hcell hs hv, rfl, hq⟩)
  obtain ⟨oc, e1, _⟩ := hcell
  exact Ext.own1 (Ne.symm hp) rfl ho R.toRel0 hs.2 (isSome_of e1)
theorem ex_pairC {x y : Str} {k px py tpos pos} {e : Expr} {ax ay : Addr} {Q : AF → St → Prop} (G : Gl c) (hh : c.A.handled = none) (hkx : c.env.kindOf x = some .cell) (hky : c.env.kindOf y = some .cell) (hcx : c.env.cells.lookup x = some ax) (hcy : c.env.cells.lookup y = some ay)
    (hux : ∀ p ∈ c.env.cells, p.1 = x → p.2 = ax) (huy : ∀ p ∈ c.env.cells, p.1 = y → p.2 = ay) (hox : ax ∈ c.own) (hoy : ay ∈ c.own) (h : Ev c e σ fun a σ₁ => ∃ a1 a2, a = .tup [a1, a2] ∧ Q .next ((σ₁.set x a1).set y a2))
    (hs : swapsWithSole [.Tuple [.Name x px, .Name y py] k tpos] e pos.line c.env = pure false := by rfl)
    (hw : swappedStores [.Tuple [.Name x px, .Name y py] k tpos] e c.env = pure none := by rfl) : Ex c (.Assign [.Tuple [.Name x px, .Name y py] k tpos] e pos) σ Q := fun φ s R =>
  Assign_Tuple ((h φ s R).then fun φ₁ σ₁ s₁ a va x₁ R₁ hc₁ h₁ => by
    obtain ⟨a1, a2, rfl, hq⟩ := h₁
    cases hc₁ with
    | tup ho hc =>
    rename_i t items n sl
    obtain ⟨v1, v2, e, h1, h2⟩ := concs2 hc
    have eit : items = #[v1, v2] := by rw [← Array.toArray_toList (xs := items), e]
    subst eit
    refine assign_Tuple_tuple (items := #[v1, v2]) hh ⟨_, R₁.keep _ _ ho, rfl, _, rfl⟩ rfl rfl fun h' hk' => ?_
    have hk : ∀ b o, s₁.heap.get? b = some o → h'.get? b = some o := fun b o e => hk' b o (fun w => by rw [w, push_new] at e; cases e) e
    have x₁' : Ext c φ σ s φ₁ σ₁ { s₁ with heap := h' } := x₁.trans (Ext.grow (tk := s₁.toks) hk)
    have R₁' : Rel c φ₁ σ₁ { s₁ with heap := h' } := ⟨R₁.grow hk, R₁.tk⟩
    clear x₁ R₁
    show wpAny _ _ (assignInOrder [fun v => assign (.Name x px) c.env v, fun v => assign (.Name y py) c.env v] [v1, v2]) _ _ _
    refine wpAny_assignInOrder_more (assign_Name (Wp.then (stoC R₁' G hkx hcx hux hox h1 (Q := fun σ' => Q .next (σ'.set y a2)) hq) fun φ₂ σ₂ s₂ _ _ x₂ R₂ _ h₂ => ?_))
    refine wpAny_assignInOrder_more (assign_Name (Wp.then (stoC R₂ G hky hcy huy hoy (h2.mono x₂.le) (Q := fun σ' => Q .next σ') h₂) fun φ₃ σ₃ s₃ _ _ x₃ R₃ _ h₃ => ?_))
    exact wpAny_assignInOrder_none ((post_here R₃ (C := CFl) .next h₃).after ((x₁'.trans x₂).trans x₃))) hs hw

theorem conc_int_inj {i j : Int} {v : Value} (h : Conc φ (.int i) v) (h' : Conc φ (.int j) v) : i = j := by
  cases h; cases h'; rfl
theorem concs_ints_inj : ∀ {l m : List Int} {vs : List Value}, Concs φ (vints l) vs → Concs φ (vints m) vs → l = m
  | [], [], _, _, _ => rfl
  | [], _ :: _, _, h, h' => by cases h; cases h'
  | _ :: _, [], _, h, h' => by cases h'; cases h
  | i :: l, j :: m, _, h, h' => by
    have h : Concs φ (.int i :: vints l) _ := h
    have h' : Concs φ (.int j :: vints m) _ := h'
    cases h with
    | cons a b => cases h' with
      | cons a' b' => rw [conc_int_inj a a', concs_ints_inj b b']
theorem conc_row_inj {l m : List Int} {v : Value} (h : Conc φ (.list (vints l)) v) (h' : Conc φ (.list (vints m)) v) : l = m := by
  cases h with
  | list ho hs =>
    cases h' with
    | list ho' hs' =>
      rw [ho] at ho'
      cases ho'
      exact concs_ints_inj hs hs'
theorem conc_str_inj {l m : List Nat} {v : Value} (h : Conc φ (.str l) v) (h' : Conc φ (.str m) v) : l = m := by
  generalize hv : v = u at h'
  cases h; cases h'
  injection hv with h1
  injection h1 with h2
  simpa using h2
end
end Mine
end

section
open PySem PySem.W PyProof.Rows PySem.Calls
set_option Elab.async false
set_option maxRecDepth 100000
set_option maxHeartbeats 4000000
set_option linter.unusedVariables false
namespace Mine

noncomputable def lawS : Stmt := match Challenge.pw_kt0020_01.main.body.getLast? with
  | some s => s
  | none => .Pass ps0
noncomputable def lawB : List Stmt := match lawS with
  | .FunctionDef _ _ b _ _ _ _ _ _ _ => b
  | _ => []
noncomputable def lawSc : Scope := match lawS with
  | .FunctionDef _ _ _ _ _ _ sc _ _ _ => sc
  | _ => { kind := .function, names := [], isGenerator := false, isCoroutine := false }
noncomputable def cxLaw (w : World) (h₀ : Heap) (os : OsState) (A : Around) (L fa : Addr) (cd : Value) : Cx :=
  { prog := Challenge.rw_kt0020_01.row.prog, w := w, h₀ := h₀, outs := [], os := os, A := A.deeper (envOfC "law" lawSc L fa cd), env := envOfC "law" lawSc L fa cd, E := fun _ _ => False, own := [L, L + 1, L + 2], q := false }

theorem cl62n {c : Cx} {σ : St} {pcs : List Pc} {Q : AV → St → Prop} (G : Gl c) (hd : c.A.depth < 590) (hu : c.A.units < 4900) (hh : c.A.handled = none) (hq0 : c.q = false) (hp : ∀ p ∈ pcs, OkPc p) (hlen : (flat pcs).length ≤ 5000) (hn : pcs.length ≤ 500) (h : Q (.list (vstrs (pcs.map Pc.out))) σ) : Cl c (.ref 62) [.str (flat pcs), .none, .str [46]] σ Q :=
  cl_def (as' := [.str (flat pcs), .none, .str [46]]) G (ok62 c.w) rfl (by omega) (by omega) (fun φ s vs R hc => ⟨vs, by obtain ⟨v, u, w, rfl, h1, h2, h3⟩ := concs3 hc; exact .of_eq rfl, hc⟩) fun L hLt => body62 c L pcs .none hp hlen hn _ (G.callee (ok62 c.w) (by omega) (by omega) hLt) hd hu hh hq0 h

noncomputable def sgl : List Nat := (List.range 27).map (32 + ·) ++ [91, 92, 93, 94]
theorem sgl_asc : sgl.Pairwise (· < ·) := by decide
theorem sgl_len : sgl.length = 31 := by decide
structure LawOk (rows : List (List Int)) (pcs : List Pc) : Prop where
  eq : flat pcs = showRows rows
  ok : ∀ p ∈ pcs, OkPc p
  len : pcs.length = (itemsOf rows).length
  each : ∀ (k : Nat) (pc : Pc) (it : Item), pcs[k]? = some pc → (itemsOf rows)[k]? = some it → ∃ out, Told pc.out out ∧ (∀ x ∈ out, x ∈ sg sgl) ∧ (∀ x ∈ sg sgl, x ∈ out ↔ x ∈ it.2)
  fine : ∀ it ∈ itemsOf rows, okS it.1 ∧ okS it.2
  size : (flat pcs).length ≤ 3000
  num : pcs.length ≤ 100
  js : jsum [] (pcs.map Pc.out) ≤ 100000

theorem jn_part_le {rows : List (List Int)} {r : List Int} (hr : r ∈ rows) : (showRow r).length ≤ (showRows rows).length := by
  have h1 := mem_len (List.mem_map.mpr ⟨r, hr, rfl⟩ : showRow r ∈ rows.map showRow)
  have h2 := sum_le_jn [44, 32] (rows.map showRow)
  have h3 : (showRows rows).length = (jn [44, 32] (rows.map showRow)).length + 2 := by simp [showRows]
  omega
theorem itx_len {x : Int} (h : x.natAbs < 10 ^ 7) : (itx x).length ≤ 8 := by
  cases x with
  | ofNat n =>
    rw [show Int.ofNat n = (n : Int) from rfl, itx_nat]
    have := dg_len (n := n) (by simpa using h)
    omega
  | negSucc n =>
    rw [itx_neg]
    have := dg_len (n := n + 1) (by simpa using h)
    simp; omega
theorem sum_le_mul {l : List (List Nat)} {k : Nat} (h : ∀ x ∈ l, x.length ≤ k) : (l.map List.length).sum ≤ k * l.length := by
  induction l with
  | nil => simp
  | cons a l ih =>
    have h1 := h a (by simp)
    have h2 := ih fun x hx => h x (by simp [hx])
    rw [List.map_cons, List.sum_cons, List.length_cons, Nat.mul_add]
    omega
theorem jsum_row {r : List Int} (h : okRow r) : jsum [44, 32] (r.map itx) ≤ 1000 := by
  unfold jsum
  have h1 := sum_le_mul (l := r.map itx) (k := 8) fun x hx => by
    obtain ⟨i, hi, rfl⟩ := List.mem_map.mp hx
    exact itx_len (h.2 i hi)
  have h2 := h.1
  rw [List.length_map] at h1 ⊢
  simp only [List.length_cons, List.length_nil]
  omega
theorem showRow_len {r : List Int} (h : okRow r) : (showRow r).length ≤ 102 := by
  unfold showRow
  have h1 := sum_le_mul (l := r.map itx) (k := 8) fun x hx => by
    obtain ⟨i, hi, rfl⟩ := List.mem_map.mp hx
    exact itx_len (h.2 i hi)
  have h2 := jn_len [44, 32] (r.map itx)
  have h3 := h.1
  unfold jsum at h2
  rw [List.length_map] at h1 h2
  simp only [List.length_cons, List.length_append, List.length_nil] at h2 ⊢
  omega
theorem jsum_rows {rows : List (List Int)} (h : ∀ r ∈ rows, okRow r) (hl : rows.length ≤ 11) : jsum [44, 32] (rows.map showRow) ≤ 3000 := by
  unfold jsum
  have h1 := sum_le_mul (l := rows.map showRow) (k := 102) fun x hx => by
    obtain ⟨i, hi, rfl⟩ := List.mem_map.mp hx
    exact showRow_len (h i hi)
  rw [List.length_map] at h1 ⊢
  simp only [List.length_cons, List.length_nil]
  omega

theorem law_head (w : World) (h₀ : Heap) (os : OsState) (A : Around) (L fa : Addr) (cd : Value) (G : Gl (cxLaw w h₀ os A L fa cd)) (hd : A.depth < 400) (hu : A.units < 100) (hh : A.handled = none) (hfr : A.frames = some []) (pcs : List Pc) (rows : List (List Int)) (σ₁ : St) (h0 : σ₁.m "rows" = some (.list (vrows rows)))
    (hok : ∀ r ∈ rows, okRow r) (hne : rows ≠ []) (hrl : rows.length ≤ 11) (LO : LawOk rows pcs) {QQ : AF → St → Prop}
    (hloop : ∀ σ, σ.m "parts" = some (.list (vstrs (pcs.map Pc.out))) → σ.m "items" = some (.list ((itemsOf rows).map vitem)) → σ.m "signs" = some (.list (vcs sgl)) → Exs (cxLaw w h₀ os A L fa cd) (lawB.drop 8) σ QQ) :
    Exs (cxLaw w h₀ os A L fa cd) (lawB.drop 1) σ₁ QQ := by
  have hL : (cxLaw w h₀ os A L fa cd).env.locals ∈ (cxLaw w h₀ os A L fa cd).own := .head _
  have hd' : (cxLaw w h₀ os A L fa cd).A.depth < 402 := by show A.depth + 1 < 402; omega
  have hu' : (cxLaw w h₀ os A L fa cd).A.units < 200 := by show A.units + 3 < 200; omega
  have hh' : (cxLaw w h₀ os A L fa cd).A.handled = none := hh
  have hsl : (showRows rows).length ≤ 3000 := by rw [← LO.eq]; exact LO.size
  refine exs_cons (ex_set G hL rfl (ev_binop (ev_binop (ev_str (l := [91]) rfl (ev_meth (ev_str (l := [44, 32]) rfl ⟨"str.join", mt_join, evs_cons ?_⟩))))))
  refine ev_comp (cl := []) (emb := fun r => AV.list (vints r)) (Cn := fun φ r v => Conc φ (AV.list (vints r)) v) showRow (fun _ => true) G (by exact clOk0 rfl rfl rfl rfl) (by rfl) (fun φ g g' v h h' => conc_row_inj h h') ?_
  refine src_name (items := rows) hh G rfl h0 ⟨by omega, fun _ _ _ _ _ => rfl, fun C os' r hr _ G' => ?_, ?_⟩
  · have hrk := hok r hr
    refine ev_binop (ev_binop (ev_str (l := [91]) rfl (ev_meth (ev_str (l := [44, 32]) rfl ⟨"str.join", mt_join, evs_cons ?_⟩))))
    refine ev_comp (cl := []) (emb := AV.int) (Cn := fun φ i v => Conc φ (AV.int i) v) itx (fun _ => true) G' (by exact clOk0 rfl rfl rfl rfl) (by rfl) (fun φ g g' v h h' => conc_int_inj h h') ?_
    refine src_name (items := r) hh G' rfl rfl ⟨by have := hrk.1; omega, fun _ _ _ _ _ => rfl, fun C2 os2 i hi _ G2 => ?_, ?_⟩
    · exact ev_call G2 (ev_builtin G2 rfl rfl rfl (.ty _) ⟨.ty _, evs_cons (ev_local G2 rfl rfl (evs_nil (cl_str (log_small (hrk.2 i hi)) rfl)))⟩)
    · have hall : (r.filter fun _ => true) = r := List.filter_eq_self.mpr fun _ _ => rfl
      rw [hall]
      have hlen : (showRow r).length ≤ 3000 := Nat.le_trans (jn_part_le hr) hsl
      have hjs : jsum [44, 32] (r.map itx) ≤ 1000 := jsum_row hrk
      have hjl := jn_len [44, 32] (r.map itx)
      refine evs_nil (cl_join (l := r.map itx) (by omega) (op_adds (by rw [PySem.sizeLine_eq]; show 1 + _ ≤ _; omega) (ev_str (l := [93]) rfl (op_adds (by rw [PySem.sizeLine_eq]; simp only [List.length_append, List.length_cons, List.length_nil]; omega) rfl))))
  · have hall : (rows.filter fun _ => true) = rows := List.filter_eq_self.mpr fun _ _ => rfl
    rw [hall]
    have hjs : jsum [44, 32] (rows.map showRow) ≤ 3000 := jsum_rows hok hrl
    have hjl := jn_len [44, 32] (rows.map showRow)
    refine evs_nil (cl_join (l := rows.map showRow) (by omega) (op_adds (by rw [PySem.sizeLine_eq]; show 1 + _ ≤ _; omega) (ev_str (l := [93]) rfl (op_adds (by rw [PySem.sizeLine_eq]; simp only [List.length_append, List.length_cons, List.length_nil]; omega) ?_))))
    rw [show ([91] ++ jn [44, 32] (rows.map showRow) ++ [93] : List Nat) = showRows rows by simp [showRows]]
    refine exs_cons (ex_set G hL rfl (ev_call G (ev_global G rfl rfl ⟨.ref _ rfl, evs_cons (ev_local G rfl h0 (evs_nil (cl121 G (by omega) (by omega) hh hok (by omega) ?_)))⟩)))
    refine exs_cons (ex_if (ts_cmp (ev_local G rfl rfl (ev_local G rfl rfl (op_nes (tr_bool ⟨fun hb => ?_, fun _ => ?_⟩))))))
    · exfalso; simp at hb
    refine exs_nil (exs_cons (ex_set G hL rfl (ev_call G (ev_global G rfl rfl ⟨.ref _ rfl, evs_cons (ev_local G rfl rfl (evs_cons (ev_none (evs_cons (ev_str (l := [46]) rfl (evs_nil ?_))))))⟩))))
    rw [← LO.eq]
    refine cl62n G (by omega) (by omega) hh rfl LO.ok (by have := LO.size; omega) (by have := LO.num; omega) ?_
    refine exs_cons (ex_set G hL rfl (ev_call G (ev_global G rfl rfl ⟨.ref _ rfl, evs_cons (ev_local G rfl h0 (evs_nil (cl147 G (by omega) (by omega) hh (by omega) hne hok ?_)))⟩)))
    have hpl : (vstrs (pcs.map Pc.out)).length = (itemsOf rows).length := by simp [LO.len]
    have hn := LO.num
    have hjo := LO.js
    have hjol := jn_len [] (pcs.map Pc.out)
    refine exs_cons (ex_if (ts_or2 (ts_cmp (ev_call G (ev_builtin G rfl rfl rfl (.bi _) ⟨.bi _, evs_cons (ev_local G rfl rfl (evs_nil (cl_len (by simp; omega) (ev_call G (ev_builtin G rfl rfl rfl (.bi _) ⟨.bi _, evs_cons (ev_local G rfl rfl (evs_nil (cl_len (by rw [List.length_map, ← LO.len]; omega) (op_ne (tr_bool ⟨fun _ => ?_, fun hb => ?_⟩)))))⟩)))))⟩)))))
    · refine ts_cmp (ev_call G (ev_global G rfl rfl ⟨.ref _ rfl, evs_cons (ev_local G rfl rfl (evs_nil (cl43 (pcs := pcs) G (by omega) (by omega) hh rfl LO.ok (by have := LO.size; omega) (by omega) (by omega) ?_)))⟩))
      refine ev_binop (ev_binop (ev_str (l := [40, 63, 115, 58]) rfl (ev_meth (ev_str (l := []) rfl ⟨"str.join", mt_join, evs_cons (ev_local G rfl rfl (evs_nil (cl_join (l := pcs.map Pc.out) (by omega) ?_)))⟩))))
      refine op_adds (by rw [PySem.sizeLine_eq]; show 4 + _ ≤ _; omega) (ev_str (l := [41, 92, 90]) rfl (op_adds (by rw [PySem.sizeLine_eq]; simp only [List.length_append, List.length_cons, List.length_nil]; omega) (op_nes (tr_bool ⟨fun hb => ?_, fun _ => ?_⟩))))
      · exfalso; simp [frame] at hb
      refine exs_nil ?_
      refine exs_cons (ex_set G hL rfl (ev_binop ?_))
      refine ev_comp (cl := []) (emb := AV.int) (Cn := Flt AV.int) (fun i => [i.toNat]) (fun _ => true) G (by exact clOk0 rfl rfl rfl rfl) (by rfl) inj_int
        (src_range hh (ev_callty G (ev_builtin G rfl rfl rfl (.ty _) ⟨_, rfl, evs_cons (ev_int (evs_cons (ev_int (evs_nil (cl_range2 ⟨?_, ?_, ?_, ?_, ?_⟩)))))⟩)))
      · exact small_one (by show (-2 ^ 62 : Int) ≤ 32; decide) (by show (32 : Int) < 2 ^ 62; decide) (by show (-2 ^ 62 : Int) ≤ 59; decide) (by show (59 : Int) < 2 ^ 62; decide)
      · rw [List.length_map, List.length_range]
        show rsz ((32 : Nat) : Int) ((59 : Nat) : Int) 1 ≤ 1000000
        rw [rsz_len]; decide
      · intro C os' g hg G'; exact rfl
      · intro C os' g hg _ G'
        obtain ⟨j, hj, rfl⟩ := List.mem_map.mp hg
        have hj' : j < rsz ((32 : Nat) : Int) ((59 : Nat) : Int) 1 := List.mem_range.mp hj
        rw [rsz_len] at hj'
        refine ev_call G' (ev_builtin G' rfl rfl rfl (.bi _) ⟨.bi _, evs_cons (ev_local G' rfl rfl (evs_nil (cl_chr ?_ ?_ rfl)))⟩)
        · show 0 ≤ (32 : Int) + (j : Int) * 1; omega
        · show (32 : Int) + (j : Int) * 1 ≤ 1114111; omega
      · refine ev_list (evs_cons (ev_str (l := [91]) rfl (evs_cons (ev_str (l := [92]) rfl (evs_cons (ev_str (l := [93]) rfl (evs_cons (ev_str (l := [94]) rfl (evs_nil ⟨by show 4 ≤ sizeLine; decide, ?_⟩)))))))))
        have hsp : (List.map (fun i : Int => [i.toNat]) (List.filter (fun _ => true) (List.map (fun (j : Nat) => ((32 : Int), (59 : Int), (1 : Int)).1 + (j : Int) * ((32 : Int), (59 : Int), (1 : Int)).2.2) (List.range (rsz ((32 : Int), (59 : Int), (1 : Int)).1 ((32 : Int), (59 : Int), (1 : Int)).2.1 ((32 : Int), (59 : Int), (1 : Int)).2.2))))) = span 32 59 := span_eq 32 59
        rw [hsp]
        refine op_addl (by simp [span]) ?_
        exact hloop _ rfl rfl rfl
    · exfalso
      rw [hpl] at hb
      simp at hb
end Mine
end

section
open PySem PySem.W PyProof.Rows PySem.Calls
set_option Elab.async false
set_option maxRecDepth 100000
set_option maxHeartbeats 4000000
set_option linter.unusedVariables false
namespace Mine
theorem sg_filter (l : List Nat) (p : List Nat → Bool) : (sg l).filter p = sg (l.filter fun c => p [c]) := by
  unfold sg; rw [List.filter_map]; rfl
theorem sg_mem {c : Nat} {l : List Nat} : [c] ∈ sg l ↔ c ∈ l := by
  unfold sg
  constructor
  · intro h
    obtain ⟨x, hx, e⟩ := List.mem_map.mp h
    simp at e; subst e; exact hx
  · intro h; exact List.mem_map.mpr ⟨c, h, rfl⟩
noncomputable def inL (T : List (List Nat)) (c : Nat) : Bool := decide ([c] ∈ T)
theorem clOk1 {c : Cx} {scope : Scope} {cl : List (Str × Addr)} (h1 : closureFor scope c.env = pure cl) (h2 : (scope.names.all fun y => y.2 != .cell) = true) (h3 : scope.kind = .function) (h4 : (scope.names.all fun y => y.2 != .local || scope.names.lookup y.1 == some .local) = true) (h5 : ∀ p ∈ cl, p ∈ c.env.cells ∧ c.env.kindOf p.1 = some .cell) : ClOk c scope cl where
  clos := h1
  cell := fun y hy => by have := List.all_eq_true.mp h2 y hy; simpa using this
  kind := h3
  names := fun y hy e => by have := List.all_eq_true.mp h4 y hy; simpa [e] using this
  sub := h5
theorem okS_sg {l : List Nat} (h : ∀ c ∈ l, c < 1000) : okS (sg l) := by
  intro s hs ch hc
  obtain ⟨x, hx, rfl⟩ := List.mem_map.mp hs
  have := h x hx
  simp at hc; omega
theorem sgl_small : ∀ c ∈ sgl, c < 1000 := by decide
theorem filter_small {l : List Nat} {p : Nat → Bool} (h : ∀ c ∈ l, c < 1000) : ∀ c ∈ l.filter p, c < 1000 := fun c hc => h c (List.mem_filter.mp hc).1
theorem eqv_pair (a b a' b' : List (List Nat)) : PyData.eqv (pd (.tup [.list (vstrs a), .list (vstrs b)])) (pd (.tup [.list (vstrs a'), .list (vstrs b')])) = decide (a = a' ∧ b = b') := by
  simp only [pd, pds, PyData.eqv, PyData.eqvAll, eqv_strs, Bool.and_true]
  by_cases h1 : a = a' <;> by_cases h2 : b = b' <;> simp [h1, h2]
theorem shp_pair {a b : List (List Nat)} (ha : okS a) (hb : okS b) : shp (.tup [.list (vstrs a), .list (vstrs b)]) := by
  have h1 := shp_strs ha
  have h2 := shp_strs hb
  refine ⟨?_, ?_⟩
  · show (dat (.list (vstrs a)) && (dat (.list (vstrs b)) && true)) = true
    rw [h1.1, h2.1]; rfl
  · show max (dep (.list (vstrs a))) (max (dep (.list (vstrs b))) 0) + 1 ≤ 60
    simp [dep, deps_strs]
theorem frLaw {w : World} {h₀ : Heap} {os : OsState} {A : Around} {L fa : Addr} {cd : Value} (hfr : A.frames = some []) (hLt : 100 < L) : ∀ φ σ s, Rel (cxLaw w h₀ os A L fa cd) φ σ s → Fro (cxLaw w h₀ os A L fa cd) s := fun φ σ s R => by
  refine ⟨⟨[], Around.frames_deeper hfr, fun env he => (by cases he)⟩, rfl, .head _, ?_, ?_⟩
  · show lawSc.kind ≠ .module
    intro h
    have : lawSc.kind = .function := rfl
    rw [this] at h; cases h
  · have hm : ∀ n, n < 100 → n ∉ [L, L + 1, L + 2] := fun n hn h => by
      simp at h
      have hnL : n < L := Nat.lt_trans hn hLt
      rcases h with h | h | h
      · exact Nat.ne_of_lt hnL h
      · exact Nat.ne_of_lt (Nat.lt_of_lt_of_le hnL (Nat.le_add_right L 1)) h
      · exact Nat.ne_of_lt (Nat.lt_of_lt_of_le hnL (Nat.le_add_right L 2)) h
    exact ⟨hm 61 (by decide), hm 57 (by decide), by simp [cxLaw], by simp [cxLaw]⟩
theorem law_cells (w : World) (h₀ : Heap) (os : OsState) (A : Around) (L fa : Addr) (cd : Value) : (cxLaw w h₀ os A L fa cd).env.cells = [(("taken" : Str), L + 2), (("written" : Str), L + 1)] := rfl
theorem law_loop (w : World) (h₀ : Heap) (os : OsState) (A : Around) (L fa : Addr) (cd : Value) (G : Gl (cxLaw w h₀ os A L fa cd)) (hd : A.depth < 400) (hu : A.units < 100) (hh : A.handled = none) (hfr : A.frames = some []) (hLt : 100 < L) (pcs : List Pc) (rows : List (List Int)) (LO : LawOk rows pcs)
    (σ₀ : St) (h1 : σ₀.m "parts" = some (.list (vstrs (pcs.map Pc.out)))) (h2 : σ₀.m "items" = some (.list ((itemsOf rows).map vitem))) (h3 : σ₀.m "signs" = some (.list (vcs sgl))) :
    Exs (cxLaw w h₀ os A L fa cd) (lawB.drop 8) σ₀ (fun f _ => f = .ret (.bool true)) := by
  have hL : (cxLaw w h₀ os A L fa cd).env.locals ∈ (cxLaw w h₀ os A L fa cd).own := .head _
  have hE : PassesOwn (model (cxLaw w h₀ os A L fa cd).prog (cxLaw w h₀ os A L fa cd).w) (cxLaw w h₀ os A L fa cd).A (cxLaw w h₀ os A L fa cd).env (cxLaw w h₀ os A L fa cd).E := PassesOwn.never
  have hd' : (cxLaw w h₀ os A L fa cd).A.depth < 402 := by show A.depth + 1 < 402; omega
  have hu' : (cxLaw w h₀ os A L fa cd).A.units < 200 := by show A.units + 3 < 200; omega
  have hF := frLaw (w := w) (h₀ := h₀) (os := os) (fa := fa) (cd := cd) hfr hLt
  have hn := LO.num
  have hlen := LO.len
  have hnl : (itemsOf rows).length ≤ 100 := by omega
  refine exs_cons (ex_for_range hh (ev_callty G (ev_builtin G rfl rfl rfl (.ty _) ⟨_, rfl, evs_cons (ev_call G (ev_builtin G rfl rfl rfl (.bi _) ⟨.bi _, evs_cons (ev_local G rfl h2 (evs_nil (cl_len (by simp; omega) ?_)))⟩))⟩)))
  have hml : ((itemsOf rows).map vitem).length = (itemsOf rows).length := List.length_map ..
  rw [hml]
  refine evs_nil (cl_range1 ⟨small_one (by show (-2 ^ 62 : Int) ≤ 0; decide) (by show (0 : Int) < 2 ^ 62; decide) (by show (-2 ^ 62 : Int) ≤ ((itemsOf rows).length : Nat); omega) (by show (((itemsOf rows).length : Nat) : Int) < 2 ^ 62; omega), ?_⟩)
  have en : rsz 0 ((itemsOf rows).length : Int) 1 = (itemsOf rows).length := by
    unfold rsz; rw [rangeSize_one]; simp; split <;> omega
  rw [show rsz (0, ((itemsOf rows).length : Int), (1 : Int)).1 (0, ((itemsOf rows).length : Int), (1 : Int)).2.1 (0, ((itemsOf rows).length : Int), (1 : Int)).2.2 = (itemsOf rows).length from en]
  refine fo_inv (fun i σ => σ.m "parts" = some (.list (vstrs (pcs.map Pc.out))) ∧ σ.m "items" = some (.list ((itemsOf rows).map vitem)) ∧ σ.m "signs" = some (.list (vcs sgl))) G hE hL rfl ⟨h1, h2, h3⟩ (fun i σ hi hI => ?_) (fun σ hI => ?_)
  · obtain ⟨g1, g2, g3⟩ := hI
    rw [show (AV.int ((0 : Int) + (i : Int) * 1)) = .int i by congr 1; omega]
    obtain ⟨it, hit⟩ : ∃ it, (itemsOf rows)[i]? = some it := ⟨_, List.getElem?_eq_getElem hi⟩
    obtain ⟨pc, hpc⟩ : ∃ pc, pcs[i]? = some pc := ⟨_, List.getElem?_eq_getElem (by omega)⟩
    obtain ⟨out, hTold, hsub, hiff⟩ := LO.each i pc it hpc hit
    obtain ⟨okW, okT⟩ := LO.fine it (List.mem_of_getElem? hit)
    obtain ⟨W, T⟩ := it
    dsimp only at okW okT hiff
    have hgi : ((itemsOf rows).map vitem)[i]? = some (vitem (W, T)) := by rw [List.getElem?_map, hit]; rfl
    have hgp : (vstrs (pcs.map Pc.out))[i]? = some (.str pc.out) := by simp [hpc]
    have hi100 : i ≤ 1000000 := by omega
    have okSgl : okS (sg sgl) := okS_sg sgl_small
    have okOut : okS out := fun x hx => okSgl x (hsub x hx)
    have outl : ∀ p, Told p out → out.length ≤ 100000 := fun p hT => by
      cases hT with
      | never => decide
      | one => simp
      | esc => simp
      | many _ _ ho => exact ho
    have outl := outl _ hTold
    refine exs_cons (ex_pairC (ax := L + 1) (ay := L + 2) G hh rfl rfl rfl rfl ?_ ?_ ?_ ?_ (ev_idx (ev_local G rfl g2 (ev_local G rfl rfl (it_listN hi100 hgi ⟨_, _, rfl, ?_⟩)))))
    · intro p hp hx
      rw [law_cells] at hp
      rcases List.mem_cons.mp hp with rfl | hp
      · exact absurd hx (show (("taken" : Str)) ≠ (("written" : Str)) by decide)
      · rw [List.mem_singleton.mp hp]
    · intro p hp hx
      rw [law_cells] at hp
      rcases List.mem_cons.mp hp with rfl | hp
      · rfl
      · rw [List.mem_singleton.mp hp] at hx; exact absurd hx (show (("written" : Str)) ≠ (("taken" : Str)) by decide)
    · exact .tail _ (.head _)
    · exact .tail _ (.tail _ (.head _))
    refine exs_cons (ex_set G hL rfl (ev_call G (ev_global G rfl rfl ⟨.ref _ rfl, evs_cons (ev_idx (ev_local G rfl g1 (ev_local G rfl rfl (it_listN hi100 hgp (evs_nil (cl152 G (by omega) (by omega) hh hTold ?_))))))⟩)))
    have hnone : out.filter (outOf (sg sgl)) = [] := by
      rw [List.filter_eq_nil_iff]; intro x hx; simp [outOf, hsub x hx]
    refine exs_cons (ex_if (ts_or2 (ts_cmp (ev_local G rfl rfl (ev_none (op_isNone (tr_bool ⟨fun _ => ?_, fun hb => (by cases hb)⟩)))))))
    refine ts_cmp (ev_call G (ev_global G rfl rfl ⟨.ref _ rfl, evs_cons (ev_local G rfl rfl (evs_cons (ev_local G rfl g3 (evs_nil (cl113 G hF (by omega) (by omega) hh okOut okSgl outl ?_)))))⟩))
    rw [hnone]
    refine ev_list (evs_nil ⟨by decide, op_ned (b := .list []) G (shp_strs (l := []) (by intro s hs; cases hs)) (shp_strs (l := []) (by intro s hs; cases hs)) (tr_bool ⟨fun hb => (by cases hb), fun _ => ?_⟩)⟩)
    refine exs_nil ?_
    refine exs_cons (ex_set G hL rfl (ev_call G (ev_global G rfl rfl ⟨.ref _ rfl, evs_cons (ev_local G rfl g3 (evs_cons (ev_call G (ev_global G rfl rfl ⟨.ref _ rfl, evs_cons (ev_local G rfl g3 (evs_cons (ev_local G rfl rfl (evs_nil (cl113 G hF (by omega) (by omega) hh okSgl okOut (by simp [sgl_len]) ?_)))))⟩))))⟩)))
    refine evs_nil (cl113 G hF (by omega) (by omega) hh okSgl ?_ (by simp [sgl_len]) ?_)
    · intro x hx; exact okSgl x (List.mem_filter.mp hx).1
    have hfits : (sg sgl).filter (outOf ((sg sgl).filter (outOf out))) = sg (sgl.filter (inL T)) := by
      rw [sg_filter]
      congr 1
      apply List.filter_congr
      intro c hc
      have hcs : [c] ∈ sg sgl := sg_mem.mpr hc
      unfold outOf inL
      have h1 : ([c] ∈ (sg sgl).filter (outOf out)) ↔ [c] ∉ out := by
        rw [List.mem_filter]
        simp [outOf, hcs]
      by_cases h : [c] ∈ out
      · simp [(hiff _ hcs).mp h, h]
      · simp [mt (hiff _ hcs).mpr h, h, hc]
    rw [hfits]
    generalize hxs : sgl.filter (inL T) = xs
    generalize hys : sgl.filter (inL W) = ys
    have xsm : ∀ c ∈ xs, c < 1000 := by rw [← hxs]; exact filter_small sgl_small
    have ysm : ∀ c ∈ ys, c < 1000 := by rw [← hys]; exact filter_small sgl_small
    have okX : okS (sg xs) := okS_sg xsm
    have okY : okS (sg ys) := okS_sg ysm
    have xl : xs.length ≤ 31 := by rw [← hxs]; exact Nat.le_trans (List.length_filter_le _ _) (by decide)
    have yl : ys.length ≤ 31 := by rw [← hys]; exact Nat.le_trans (List.length_filter_le _ _) (by decide)
    have chok : ∀ {l : List Nat}, (∀ c ∈ l, c < 1000) → ∀ g ∈ sg l, ∀ ch ∈ g, ch < 0x110000 := fun hl g hg ch hch => okS_sg hl g hg ch hch
    have hidm : ∀ l : List (List Nat), l.map (fun g => g) = l := fun l => List.map_id' l
    refine exs_cons (ex_if (ts_cmp (ev_local G rfl rfl ?_)))
    refine ev_comp (cl := [(("taken" : Str), L + 2)]) (emb := AV.str) (Cn := fun φ g v => Conc φ (AV.str g) v) (fun g => g) (fun g => decide (g ∈ T)) G (by exact clOk1 rfl rfl rfl rfl (fun p hp => by rw [List.mem_singleton.mp hp]; exact ⟨by rw [law_cells]; exact .head _, rfl⟩)) (by rfl) (fun φ g g' v h h' => conc_str_inj h h') ?_
    refine src_name (items := sg sgl) hh G rfl g3 ⟨by simp [sgl_len], fun C os' g hg G' => ?_, fun C os' g hg _ G' => ev_local G' rfl rfl rfl, ?_⟩
    · exact ts_cmp (ev_local G' rfl rfl (ev_cell G' rfl rfl rfl (op_inl G' okT (chok sgl_small g hg) (tr_bool rfl))))
    have e1 : ((sg sgl).filter fun g => decide (g ∈ T)).map (fun g => g) = sg xs := by rw [hidm, sg_filter, ← hxs]; rfl
    rw [e1]
    refine op_ned G (shp_strs okX) (shp_strs okX) (tr_bool ⟨fun hb => ?_, fun _ => ?_⟩)
    · exfalso
      simp only [pd, PyData.eqv, eqv_strs] at hb
      simp at hb
    refine exs_nil ?_
    refine exs_cons (ex_setcomp (cl := [(("written" : Str), L + 1)]) (emb := AV.str) (Cn := fun φ g v => Conc φ (AV.str g) v) (fun g => g) (fun g => decide (g ∈ W)) G (by exact clOk1 rfl rfl rfl rfl (fun p hp => by rw [List.mem_singleton.mp hp]; exact ⟨by rw [law_cells]; exact .tail _ (.head _), rfl⟩)) (by rfl) hL rfl (by rfl) (fun φ g g' v h h' => conc_str_inj h h') ?_)
    refine src_name (items := sg sgl) hh G rfl g3 ⟨by simp [sgl_len], fun C os' g hg G' => ?_, fun C os' g hg _ G' => ev_local G' rfl rfl rfl, ?_⟩
    · exact ts_cmp (ev_local G' rfl rfl (ev_cell G' rfl rfl rfl (op_inl G' okW (chok sgl_small g hg) (tr_bool rfl))))
    have e2 : ((sg sgl).filter fun g => decide (g ∈ W)).map (fun g => g) = sg ys := by rw [hidm, sg_filter, ← hys]; rfl
    rw [e2]
    refine exs_cons (ex_setcomp (cl := [(("written" : Str), L + 1)]) (emb := AV.str) (Cn := fun φ g v => Conc φ (AV.str g) v) (fun g => g) (fun g => !decide (g ∈ W)) G (by exact clOk1 rfl rfl rfl rfl (fun p hp => by rw [List.mem_singleton.mp hp]; exact ⟨by rw [law_cells]; exact .tail _ (.head _), rfl⟩)) (by rfl) hL rfl (by rfl) (fun φ g g' v h h' => conc_str_inj h h') ?_)
    refine src_name (items := sg xs) hh G rfl rfl ⟨by simp; omega, fun C os' g hg G' => ?_, fun C os' g hg _ G' => ev_local G' rfl rfl rfl, ?_⟩
    · exact ts_cmp (ev_local G' rfl rfl (ev_cell G' rfl rfl rfl (op_nil G' okW (chok xsm g hg) (tr_bool rfl))))
    have e3 : ((sg xs).filter fun g => !decide (g ∈ W)).map (fun g => g) = sg (xs.filter (ne' ys)) := by
      rw [hidm, sg_filter]
      congr 1
      apply List.filter_congr
      intro c hc
      have hcs : c ∈ sgl := by rw [← hxs] at hc; exact (List.mem_filter.mp hc).1
      have : c ∈ ys ↔ [c] ∈ W := by rw [← hys, List.mem_filter]; simp [inL, hcs]
      simp [ne', this]
    rw [e3]
    refine exs_cons (ex_setcomp (cl := [(("taken" : Str), L + 2)]) (emb := AV.str) (Cn := fun φ g v => Conc φ (AV.str g) v) (fun g => g) (fun g => !decide (g ∈ T)) G (by exact clOk1 rfl rfl rfl rfl (fun p hp => by rw [List.mem_singleton.mp hp]; exact ⟨by rw [law_cells]; exact .head _, rfl⟩)) (by rfl) hL rfl (by rfl) (fun φ g g' v h h' => conc_str_inj h h') ?_)
    refine src_name (items := sg ys) hh G rfl rfl ⟨by simp; omega, fun C os' g hg G' => ?_, fun C os' g hg _ G' => ev_local G' rfl rfl rfl, ?_⟩
    · exact ts_cmp (ev_local G' rfl rfl (ev_cell G' rfl rfl rfl (op_nil G' okT (chok ysm g hg) (tr_bool rfl))))
    have e4 : ((sg ys).filter fun g => !decide (g ∈ T)).map (fun g => g) = sg (ys.filter (ne' xs)) := by
      rw [hidm, sg_filter]
      congr 1
      apply List.filter_congr
      intro c hc
      have hcs : c ∈ sgl := by rw [← hys] at hc; exact (List.mem_filter.mp hc).1
      have : c ∈ xs ↔ [c] ∈ T := by rw [← hxs, List.mem_filter]; simp [inL, hcs]
      simp [ne', this]
    rw [e4]
    have ascx : xs.Pairwise (· < ·) := by rw [← hxs]; exact sgl_asc.filter _
    have ascy : ys.Pairwise (· < ·) := by rw [← hys]; exact sgl_asc.filter _
    refine exs_cons (ex_if (ts_cmp (ev_call G (ev_global G rfl rfl ⟨.ref _ rfl, evs_cons (ev_local G rfl rfl (evs_cons (ev_local G rfl rfl (evs_nil (cl128 (xs := xs) (ys := ys) G hF (by omega) (by omega) hh ascx ascy (by omega) (by omega) ?_)))))⟩))))
    have okM : okS (sg (xs.filter (ne' ys))) := okS_sg (filter_small xsm)
    have okN : okS (sg (ys.filter (ne' xs))) := okS_sg (filter_small ysm)
    refine ev_tuple (evs_cons (ev_local G rfl rfl (evs_cons (ev_local G rfl rfl (evs_nil ⟨by show 2 ≤ sizeLine; decide, op_ned G (shp_pair okM okN) (shp_pair okM okN) (tr_bool ⟨fun hb => ?_, fun _ => ?_⟩)⟩)))))
    · exfalso
      rw [eqv_pair] at hb
      simp at hb
    exact exs_nil (exs_nil ⟨g1, g2, g3⟩)
  · exact exs_cons (ex_ret (ev_bool rfl))
end Mine
end

section
open PySem PySem.W PyProof.Rows PySem.Calls
set_option Elab.async false
set_option maxRecDepth 100000
set_option maxHeartbeats 8000000
set_option linter.unusedVariables false
namespace Mine
noncomputable def GoodX (c : ClaimW) (cl : Str → Option Addr) (mean : ExcName → Option Value) (args : List WData) (s₁ : Shared) (res : Result) (s' : Shared) : Prop :=
  ((∃ v d as, res = .ok (.ret v) ∧ (∀ cls, c.raises args cls = false) ∧ ReadsW c.records cl s'.heap v d as ∧ c.post args d args = true ∧ (c.unshared = true → as.Nodup ∧ ∀ a ∈ as, s₁.heap.get? a = none))) ∧
  (∀ b o, s₁.heap.get? b = some o → s'.heap.get? b = some o) ∧ s'.os = s₁.os ∧ AllBare s'.gens
theorem my_post {M : Model} {A : Around} {cd : Code} {s s₁ : Shared} {cw : ClaimW} {cl : Str → Option Addr} {mean : ExcName → Option Value} {args : List WData} {tabs : List (Addr × Addr)} (hT : TabsAt tabs s₁.heap) (hr : ∀ a x, cw.raises a x = false)
    (h : codeAny M A cd (fun r s' => GoodX cw cl mean args { s₁ with heap := ghostOf s₁.heap tabs } r s' ∧ GrownAll tabs s'.heap) s) : codeAny M A cd (GoodWG cw cl mean args s₁) s :=
  codeAny_mono h fun r s' ⟨⟨hc, hk, hos, hg⟩, hgr⟩ => by
    have grown : ∀ b o, b ∈ tabs.map (·.2) → s₁.heap.get? b = some o → isCodeTable s₁.heap b ∧ o = tabObj #[] ∧ ∃ ps, s'.heap.get? b = some (tabObj ps) := fun b o hb e => by
      obtain ⟨q, hq, rfl⟩ := List.mem_map.mp hb
      have e2 := (hT q hq).2
      rw [e] at e2
      exact ⟨((hT q hq).1.tab (hT q hq).2).isCodeTable, Option.some.inj e2, hgr.get q hq⟩
    obtain ⟨v, d, as, r1, r2, r3, r4, r5⟩ := hc
    refine ⟨.inl ⟨v, d, as, r1, r2, r3, r4, fun q => ⟨(r5 q).1, fun a ha => ?_⟩⟩, ?_, hos, hg⟩
    · cases q1 : s₁.heap.get? a with
      | none => rfl
      | some o =>
        by_cases hb : a ∈ tabs.map (·.2)
        · obtain ⟨_, _, ps, hP⟩ := grown a o hb q1
          exact absurd ha (readsW_apart hP rfl r3)
        · have e3 := (r5 q).2 a ha
          rw [show (ghostOf s₁.heap tabs).get? a = some o from ghost_ne q1 hb] at e3
          cases e3
    · refine ⟨fun b o e => ?_, fun b o e => ?_⟩
      · by_cases hb : b ∈ tabs.map (·.2)
        · obtain ⟨ht, rfl, ps, hP⟩ := grown b o hb e
          exact .inr (.inl ⟨ht, rfl, #[], ps, rfl, by rw [Array.empty_append]; exact hP⟩)
        · exact .inl (hk b o (ghost_ne e hb))
      · by_cases hb : b ∈ tabs.map (·.2)
        · obtain ⟨_, _, ps, hP⟩ := grown b o hb e
          exact ⟨_, hP⟩
        · exact ⟨o, hk b o (ghost_ne e hb)⟩
end Mine
end

section
open PySem PySem.W PyProof.Rows PySem.Calls
set_option Elab.async false
set_option maxRecDepth 100000
set_option maxHeartbeats 8000000
set_option linter.unusedVariables false
namespace Mine

noncomputable def lawSt (ns : List Int) : St := startSt ["script"] [.list (vints ns)]
theorem rel_law {w : World} {gh h₁ : Heap} {os : OsState} {gens : Array GenState} {drawn : Drawn} {A : Around} {L fa : Addr} {cd : Value} {ns : List Int} {l : Addr} {items : Array Value} {n : Nat} {sl : Array (Option Value)} {m : Str → Option Value}
    (hle : ∀ a o, gh.get? a = some o → h₁.get? a = some o) (hNs : h₁.Ns L m) (hm : m "script" = some (.ref l)) (hob : gh.get? l = some (lob items n sl)) (hint : Concs (fun a => gh.get? a) (vints ns) items.toList)
    {o1 o2 : Obj} {u1 u2 : Option Value} (c1 : h₁.get? (L + 1) = some o1) (d1 : o1.data = .cell u1) (c2 : h₁.get? (L + 2) = some o2) (d2 : o2.data = .cell u2)
    (n0 : gh.get? L = none) (n1 : gh.get? (L + 1) = none) (n2 : gh.get? (L + 2) = none) (hp : gh.get? tabP = none) (htab : h₁.IsCode tabC tabP #[] ∧ h₁.TableAt tabC tabP #[]) (hgens : AllBare gens) :
    Rel (cxLaw w gh os A L fa cd) (fun a => gh.get? a) (lawSt ns) { heap := h₁, gens := gens, drawn := drawn, toks := 1, os := os } := by
  refine ⟨⟨fun a o e => e, hle, ⟨m, hNs, fun x a e hk => ?_⟩, fun p hpc => ?_, fun p hp q hq e => ?_, fun a ha => ?_, fun a ha => (by cases ha), fun a xs e => (by cases e), ⟨_, htab⟩, fun _ => hgens, rfl, hp⟩, Nat.one_pos⟩
  · have e' : (if x = ("script" : Str) then some (AV.list (vints ns)) else none) = some a := by
      have : (lawSt ns).m x = (if x = ("script" : Str) then some (AV.list (vints ns)) else none) := by
        show (List.lookup x [(("script" : Str), AV.list (vints ns))]) = _
        simp only [List.lookup]
        by_cases h : x = ("script" : Str)
        · simp [h]
        · have : (x == ("script" : Str)) = false := by simpa using h
          simp [this, h]
      rw [← this]; exact e
    split at e'
    · rename_i hx
      cases e'
      rw [hx]
      exact ⟨_, hm, .list hob hint⟩
    · cases e'
  · rw [law_cells] at hpc
    rcases List.mem_cons.mp hpc with rfl | hpc
    · exact ⟨o2, u2, c2, d2, fun a e _ => (by cases e)⟩
    · rw [List.mem_singleton.mp hpc]
      exact ⟨o1, u1, c1, d1, fun a e _ => (by cases e)⟩
  · rw [law_cells] at hp hq
    rcases List.mem_cons.mp hp with rfl | hp <;> rcases List.mem_cons.mp hq with rfl | hq
    · rfl
    · rw [List.mem_singleton.mp hq] at e; exact absurd e (Nat.ne_of_gt (Nat.lt_succ_self _))
    · rw [List.mem_singleton.mp hp] at e; exact absurd e (Nat.ne_of_lt (Nat.lt_succ_self _))
    · rw [List.mem_singleton.mp hp, List.mem_singleton.mp hq]
  · obtain ⟨oL, _, _, hL, _⟩ := hNs
    have : a = L ∨ a = L + 1 ∨ a = L + 2 := by simpa [cxLaw] using ha
    rcases this with rfl | rfl | rfl
    · exact ⟨n0, rfl, isSome_of hL⟩
    · exact ⟨n1, rfl, isSome_of c1⟩
    · exact ⟨n2, rfl, isSome_of c2⟩
end Mine
end

section
open PySem PySem.W PyProof.Rows PySem.Calls
set_option Elab.async false
set_option maxRecDepth 100000
set_option maxHeartbeats 8000000
set_option linter.unusedVariables false
namespace Mine
theorem law_run {w : World} {gh h₁ : Heap} {os : OsState} {gens : Array GenState} {drawn : Drawn} {tk : Nat} {A : Around} {L fa : Addr} {cd : Value} {ns : List Int} {l : Addr} {m : Str → Option Value} {pcs : List Pc}
    (G : Gl (cxLaw w gh os A L fa cd)) (hd : A.depth < 400) (hu : A.units < 100) (hh : A.handled = none) (hfr : A.frames = some []) (hLt : 100 < L)
    (R1 : Rel (cxLaw w gh os A L fa cd) (fun a => gh.get? a) (lawSt ns) { heap := h₁, gens := gens, drawn := drawn, toks := 1, os := os })
    (hNs : h₁.Ns L m) (hm : m "script" = some (.ref l)) (hl : Conc (fun a => gh.get? a) (.list (vints ns)) (.ref l))
    (hns : ns.length ≤ 1000) (LO : LawOk (rowsOf ns) pcs) (hok : ∀ r ∈ rowsOf ns, okRow r) (hne : rowsOf ns ≠ []) (hrl : (rowsOf ns).length ≤ 11) :
    wpAny (model Challenge.rw_kt0020_01.row.prog w) (A.deeper (envOfC "law" lawSc L fa cd)) (execs lawB (envOfC "law" lawSc L fa cd))
      (fun f s' => f = .ret (.bool true) ∧ (∀ b o, gh.get? b = some o → s'.heap.get? b = some o) ∧ s'.os = os ∧ AllBare s'.gens ∧ ∃ ps, s'.heap.TableAt tabC tabP ps) (fun _ _ => False) { heap := h₁, gens := gens, drawn := drawn, toks := tk, os := os } := by
  obtain ⟨mg, mb, hg, hb, hboot, _⟩ := G.T
  have hL : (cxLaw w gh os A L fa cd).env.locals ∈ (cxLaw w gh os A L fa cd).own := .head _
  have rest : Exs (cxLaw w gh os A L fa cd) (lawB.drop 1) ((lawSt ns).set "rows" (.list (vrows (rowsOf ns)))) (fun f _ => f = .ret (.bool true)) :=
    law_head w gh os A L fa cd G hd hu hh hfr pcs (rowsOf ns) _ rfl hok hne hrl LO fun σ a b d => law_loop w gh os A L fa cd G hd hu hh hfr hLt pcs (rowsOf ns) LO σ a b d
  have F := ok135 w
  have X : (KK w).In h₁ := R1.K G
  obtain ⟨oc, od, osl, ho⟩ := F.obj
  refine wpAny_execs_cons (wpAny_Assign_Name (wpAny_Call_ofName (Name_function_global G.fn rfl (loadGlobal_global (show Heap.Ns h₁ (envOfC "law" lawSc L fa cd).globals mg from hg.keeps R1.gns) (mg_of G.K hg (v := .ref 135) rfl) ?_) (by decide))))
  refine callWith_K (K := KK w) X (by rfl) ?_ (by rfl) (by rfl)
  refine wpAny_items_cons (wpAny_Name (wpAny_loadName_local G.fn rfl hNs hm ?_) (by decide)) (by rfl)
  refine wpAny_items_nil ⟨X, ?_⟩
  have hc' : Concs (fun a => gh.get? a) [.list (vints ns)] [.ref l] := .cons hl .nil
  have nL : h₁.get? h₁.objs.size = none := push_new h₁
  have hLt2 : h₁.objs.size ≠ tabP := fun e => by
    obtain ⟨ps, _, h2⟩ := R1.tab
    have h3 : h₁.get? tabP = _ := h2.2
    rw [← e, nL] at h3; cases h3
  refine wpAny_call (codeAny_call_def (fd := fnD 135) (body := fnB 135) (binds := [("script" : Str)].zip [.ref l]) ?_ (X _ _ ho) rfl (G.lim.keeps R1.gns) (codeRec_of X F.code) F.body (.of_eq rfl) F.cell (fun x hx => F.loc _ (List.of_mem_zip hx).1) (fun h₀ hn hk => ?_) F.co F.gen F.fn)
  · show A.depth + 1 < recursionLimit
    unfold recursionLimit; omega
  have R' := R1.enter (f := 135) F hc' hn hk (tk := tk + 1) (Nat.succ_pos _) rfl
  have Gc := G.callee F (f := 135) (L := h₁.objs.size) (by show A.depth + 1 < 600; omega) (by show A.units + 3 < 4990; omega) hLt2
  refine wpAny_mono (body135 (cxLaw w gh os A L fa cd) h₁.objs.size ns hns (fun b => b = .list (vrows (rowsOf ns))) Gc hh rfl _ _ R') (fun fl s₂ hp => ?_) fun e s' hf => hf.elim
  obtain ⟨φ₂, σ₂, a, x, R₂, hcf, hq⟩ := hp
  obtain ⟨x', R3⟩ := R1.leave hk x R₂
  have fin : ∀ v, Conc (φ₂.frz σ₂.mu s₂.heap) (.list (vrows (rowsOf ns))) v → wpAny (model Challenge.rw_kt0020_01.row.prog w) (A.deeper (envOfC "law" lawSc L fa cd)) (storeName (envOfC "law" lawSc L fa cd) "rows" v)
      (fun _ s' => wpAny (model Challenge.rw_kt0020_01.row.prog w) (A.deeper (envOfC "law" lawSc L fa cd)) (execs (lawB.drop 1) (envOfC "law" lawSc L fa cd))
        (fun f s' => f = .ret (.bool true) ∧ (∀ b o, gh.get? b = some o → s'.heap.get? b = some o) ∧ s'.os = os ∧ AllBare s'.gens ∧ ∃ ps, s'.heap.TableAt tabC tabP ps) (fun _ _ => False) s') (fun _ _ => False) s₂ := fun v hv => by
    refine wpAny_mono (sto R3 hL rfl G.fn hv (Q := fun σ' => σ' = (lawSt ns).set "rows" (.list (vrows (rowsOf ns)))) rfl) (fun u s₃ hp => ?_) fun _ _ hf => hf
    obtain ⟨φ₃, σ₃, _, x₃, R₃, _, rfl⟩ := hp
    refine wpAny_mono (rest φ₃ s₃ R₃) (fun f s₄ hp => ?_) fun _ _ hf => hf
    obtain ⟨φ₄, σ₄, a₄, x₄, R₄, hc₄, rfl⟩ := hp
    cases hc₄ with
    | ret hv₄ =>
      cases hv₄
      obtain ⟨ps, h1, h2⟩ := R₄.tab
      exact ⟨rfl, fun b o e => R₄.keep _ _ (R₄.base _ _ e), R₄.os, R₄.gens rfl, ps, h2⟩
  cases hcf with
  | next => cases hq
  | brk => cases hq
  | cont => cases hq
  | ret hv =>
    obtain ⟨b, hz, rfl⟩ := hq
    exact fin _ (hz.conc R₂.toRel0 hv)
end Mine
end

section
open PySem PySem.W PyProof.Rows PySem.Calls
set_option Elab.async false
set_option maxRecDepth 100000
set_option maxHeartbeats 4000000
set_option linter.unusedVariables false
namespace Mine

theorem num_small (x : Int) : (num x).natAbs < 10 ^ 7 := by
  have h1 : 0 ≤ num4 x := Int.fmod_nonneg_of_pos _ (by decide)
  have h2 : num4 x < 2000001 := Int.fmod_lt_of_pos _ (by decide)
  unfold num
  split <;> omega
noncomputable def RowsOk (k : Nat) (rows : List (List Int)) : Prop := ∀ r ∈ rows, r.length ≤ k ∧ ∀ x ∈ r, x.natAbs < 10 ^ 7
theorem rowsOk_step {k : Nat} {rows : List (List Int)} (h : RowsOk k rows) (x : Int) : RowsOk (k + 1) (rowStep rows x) := by
  intro r hr
  unfold rowStep at hr
  split at hr
  · rcases List.mem_append.mp hr with hr | hr
    · exact ⟨Nat.le_succ_of_le (h r hr).1, (h r hr).2⟩
    · rw [List.mem_singleton.mp hr]; exact ⟨Nat.zero_le _, fun _ q => (by cases q)⟩
  · unfold addLast at hr
    rcases List.mem_append.mp hr with hr | hr
    · have := h r (List.dropLast_subset _ hr)
      exact ⟨Nat.le_succ_of_le this.1, this.2⟩
    · rw [List.mem_singleton.mp hr]
      have hl : (rows.getLastD []).length ≤ k ∧ ∀ y ∈ rows.getLastD [], y.natAbs < 10 ^ 7 := by
        cases hrows : rows with
        | nil => exact ⟨Nat.zero_le _, fun _ q => (by cases q)⟩
        | cons a l => rw [← hrows]; exact h _ (by rw [List.getLastD_eq_getLast?, List.getLast?_eq_some_getLast (by rw [hrows]; simp)]; exact List.getLast_mem _)
      refine ⟨by rw [List.length_append]; exact Nat.succ_le_succ hl.1, fun y hy => ?_⟩
      rcases List.mem_append.mp hy with hy | hy
      · exact hl.2 y hy
      · rw [List.mem_singleton.mp hy]; exact num_small x
theorem rowsOk_fold : ∀ (ts : List Int) (k : Nat) (rows : List (List Int)), RowsOk k rows → RowsOk (k + ts.length) (ts.foldl rowStep rows)
  | [], k, rows, h => h
  | t :: ts, k, rows, h => by
    have := rowsOk_fold ts (k + 1) (rowStep rows t) (rowsOk_step h t)
    rw [Nat.add_right_comm] at this; exact this
theorem take10 (ns : List Int) : (ns.take 10).length ≤ 10 := by rw [List.length_take]; exact Nat.min_le_left ..
theorem rowsOf_ok (ns : List Int) : ∀ r ∈ rowsOf ns, okRow r := fun r hr => by
  have h := rowsOk_fold (ns.take 10) 0 [[]] (fun r hr => by rw [List.mem_singleton.mp hr]; exact ⟨Nat.zero_le _, fun _ q => (by cases q)⟩) r hr
  exact ⟨Nat.le_trans h.1 (by rw [Nat.zero_add]; exact take10 ns), h.2⟩
theorem rowsOf_ne (ns : List Int) : rowsOf ns ≠ [] := (foldl_len (ns.take 10) [[]] (by simp)).1
theorem rowsOf_len (ns : List Int) : (rowsOf ns).length ≤ 11 := by
  have h1 := (foldl_len (ns.take 10) [[]] (by simp)).2.1
  have h2 := take10 ns
  exact Nat.le_trans h1 (by simp only [List.length_cons, List.length_nil]; omega)

noncomputable def tl : List Int → List Nat × List (List Nat)
  | [] => ([], [])
  | x :: xs => if x < 0 then ([44, 32], (figs x ++ (tl xs).1) :: (tl xs).2) else ([44, 32] ++ figs x ++ (tl xs).1, (tl xs).2)
noncomputable def chunks (front : List Nat) : List Int → List (List Nat)
  | [] => [front]
  | x :: xs => if x < 0 then (if front = [] then (45 :: (figs x ++ (tl xs).1)) :: (tl xs).2 else front :: (figs x ++ (tl xs).1) :: (tl xs).2) else (front ++ (figs x ++ (tl xs).1)) :: (tl xs).2
noncomputable def txt (row : List Int) : List Nat := jn [44, 32] (row.map itx)
noncomputable def more (xs : List Int) : List Nat := xs.flatMap fun x => [44, 32] ++ itx x

theorem figs_cons (x : Int) : ∃ d q, figs x = d :: q ∧ 48 ≤ d ∧ d ≤ 57 ∧ ∀ c ∈ q, 48 ≤ c ∧ c ≤ 57 := by
  have h1 := dg_ne x.natAbs
  have h2 := dg_digit x.natAbs
  unfold figs
  cases h : dg x.natAbs with
  | nil => exact absurd h h1
  | cons d q => rw [h] at h2; exact ⟨d, q, rfl, (h2 d (by simp)).1, (h2 d (by simp)).2, fun c hc => h2 c (by simp [hc])⟩
theorem itx_figs (x : Int) : itx x = if x < 0 then 45 :: figs x else figs x := by
  cases x with
  | ofNat n => rw [if_neg (by show ¬ (n : Int) < 0; omega)]; exact itx_nat n
  | negSucc n => rw [if_pos (Int.negSucc_lt_zero n)]; exact itx_neg n
theorem jn_pre (sep a b : List Nat) (r : List (List Nat)) : jn sep ((a ++ b) :: r) = a ++ jn sep (b :: r) := by
  cases r with
  | nil => rfl
  | cons c r => show (a ++ b) ++ sep ++ jn sep (c :: r) = a ++ (b ++ sep ++ jn sep (c :: r)); simp
theorem jn_more (a : List Nat) : ∀ l : List (List Nat), jn [44, 32] (a :: l) = a ++ l.flatMap fun t => [44, 32] ++ t
  | [] => by simp [jn]
  | b :: l => by
    show a ++ [44, 32] ++ jn [44, 32] (b :: l) = _
    rw [jn_more b l]; simp
theorem txt_cons (x : Int) (xs : List Int) : txt (x :: xs) = itx x ++ more xs := by
  unfold txt more
  rw [List.map_cons, jn_more, List.flatMap_map]
theorem jn_tl : ∀ xs : List Int, jn [45] ((tl xs).1 :: (tl xs).2) = more xs
  | [] => rfl
  | x :: xs => by
    have ih := jn_tl xs
    unfold tl more
    rw [List.flatMap_cons, itx_figs]
    split
    · show [44, 32] ++ [45] ++ jn [45] ((figs x ++ (tl xs).1) :: (tl xs).2) = _
      rw [jn_pre, ih]; simp [more]
    · show jn [45] (([44, 32] ++ figs x ++ (tl xs).1) :: (tl xs).2) = _
      rw [jn_pre, ih]; simp [more]
theorem jn_chunks (front : List Nat) (row : List Int) : jn [45] (chunks front row) = front ++ txt row := by
  cases row with
  | nil => show front = front ++ []; simp
  | cons x xs =>
    have ih := jn_tl xs
    rw [txt_cons, itx_figs]
    show jn [45] (if x < 0 then (if front = [] then (45 :: (figs x ++ (tl xs).1)) :: (tl xs).2 else front :: (figs x ++ (tl xs).1) :: (tl xs).2) else (front ++ (figs x ++ (tl xs).1)) :: (tl xs).2) = _
    split
    · split
      · rename_i hf; subst hf
        show jn [45] (((45 :: figs x) ++ (tl xs).1) :: (tl xs).2) = _
        rw [jn_pre, ih]; simp
      · show front ++ [45] ++ jn [45] ((figs x ++ (tl xs).1) :: (tl xs).2) = _
        rw [jn_pre, ih]; simp
    · rw [← List.append_assoc, jn_pre, ih]; simp

noncomputable def fig1 (c : Nat) : Prop := c = 44 ∨ c = 32 ∨ (48 ≤ c ∧ c ≤ 57)
theorem fig1_figs {x : Int} {c : Nat} (h : c ∈ figs x) : fig1 c := .inr (.inr (dg_digit _ c h))
structure TlOk (s : List Nat) (r : List (List Nat)) : Prop where
  sg : ∀ c ∈ s, fig1 c
  rs : ∀ q ∈ r, (∀ c ∈ q, fig1 c) ∧ q ≠ [] ∧ 48 ≤ q.headD 0
  mid : ∀ q ∈ r.dropLast, 2 ≤ q.length ∧ q.getLastD 0 = 32
  last : r ≠ [] → 2 ≤ s.length ∧ s.getLastD 0 = 32
theorem last_app {a s : List Nat} (h : 2 ≤ s.length ∧ s.getLastD 0 = 32) : 2 ≤ (a ++ s).length ∧ (a ++ s).getLastD 0 = 32 := by
  have hs : s ≠ [] := fun e => by rw [e] at h; exact absurd h.1 (by decide)
  refine ⟨by rw [List.length_append]; omega, ?_⟩
  rw [List.getLastD_eq_getLast?] at h ⊢
  rw [List.getLast?_append, List.getLast?_eq_some_getLast hs] at *
  exact h.2
theorem tl_ok : ∀ xs : List Int, TlOk (tl xs).1 (tl xs).2 ∧ (tl xs).2.length ≤ xs.length
  | [] => ⟨⟨fun _ h => (by cases h), fun _ h => (by cases h), fun _ h => (by cases h), fun h => absurd rfl h⟩, Nat.le_refl _⟩
  | x :: xs => by
    obtain ⟨ih, hl⟩ := tl_ok xs
    obtain ⟨d, q, hf, h1, h2, h3⟩ := figs_cons x
    have hall : ∀ c ∈ figs x ++ (tl xs).1, fig1 c := fun c hc => (List.mem_append.mp hc).elim fig1_figs (ih.sg c)
    have e44 : ∀ c ∈ ([44, 32] : List Nat), fig1 c := fun c hc => by
      simp at hc; rcases hc with rfl | rfl
      · exact .inl rfl
      · exact .inr (.inl rfl)
    unfold tl
    split
    · refine ⟨⟨e44, fun p hp => ?_, fun p hp => ?_, fun _ => ⟨Nat.le_refl 2, rfl⟩⟩, Nat.succ_le_succ hl⟩
      · rcases List.mem_cons.mp hp with rfl | hp
        · exact ⟨hall, by rw [hf]; simp, by rw [hf]; exact h1⟩
        · exact ih.rs p hp
      · cases hr : (tl xs).2 with
        | nil => rw [hr] at hp; cases hp
        | cons b l =>
          rw [hr] at hp
          rcases List.mem_cons.mp (show p ∈ (figs x ++ (tl xs).1) :: (b :: l).dropLast from hp) with rfl | hp
          · exact last_app (ih.last (by rw [hr]; simp))
          · exact ih.mid p (by rw [hr]; exact hp)
    · refine ⟨⟨fun c hc => ?_, ih.rs, ih.mid, fun h => last_app (ih.last h)⟩, Nat.le_succ_of_le hl⟩
      rw [List.append_assoc] at hc
      exact (List.mem_append.mp hc).elim (e44 c) (hall c)
end Mine
end

section
open PySem PySem.W PyProof.Rows PySem.Calls
set_option Elab.async false
set_option maxRecDepth 100000
set_option maxHeartbeats 4000000
set_option linter.unusedVariables false
namespace Mine

noncomputable def tk0 (front : List Nat) (x : Int) : List (List Nat) :=
  (if x < 0 then (if front = [] then sing front ++ [[45]] else (sing front).dropLast) else sing front) ++ sing (if x < 0 ∧ front ≠ [] then (figs x).drop 1 else figs x)
noncomputable def tkN (x : Int) : List (List Nat) := [[44], [32]] ++ ((if x < 0 then span 32 ((figs x).headD 0) else []) ++ sing (figs x))
theorem step_zero (front : List Nat) (row : List Int) : (toldStep front row (sing front, sing front) 0).2 = tk0 front (row.getD 0 0) := by
  unfold toldStep tk0
  simp
theorem step_succ (front : List Nat) (row : List Int) (acc : List (List Nat) × List (List Nat)) (k : Nat) : (toldStep front row acc (k + 1)).2 = acc.2 ++ tkN (row.getD (k + 1) 0) := by
  unfold toldStep tkN
  simp
  split <;> simp
theorem told_fold (front : List Nat) (row : List Int) : ∀ k, ((List.range (k + 1)).foldl (toldStep front row) (sing front, sing front)).2 = tk0 front (row.getD 0 0) ++ (List.range k).flatMap fun j => tkN (row.getD (j + 1) 0)
  | 0 => by
    show (toldStep front row (sing front, sing front) 0).2 = _
    rw [step_zero]; simp
  | k + 1 => by
    rw [List.range_succ, List.foldl_append]
    show (toldStep front row _ (k + 1)).2 = _
    rw [step_succ, told_fold front row k, List.range_succ, List.flatMap_append]
    simp
theorem range_get {β : Type} (f : Int → List β) : ∀ xs : List Int, ((List.range xs.length).flatMap fun j => f (xs.getD j 0)) = xs.flatMap f
  | [] => rfl
  | x :: xs => by
    rw [List.length_cons, List.range_succ_eq_map, List.flatMap_cons, List.flatMap_cons, List.flatMap_map]
    have := range_get f xs
    rw [← this]; rfl
theorem told_cons (front : List Nat) (x : Int) (xs : List Int) : (told front (x :: xs)).2 = tk0 front x ++ xs.flatMap tkN := by
  show ((List.range (xs.length + 1)).foldl (toldStep front (x :: xs)) (sing front, sing front)).2 = _
  rw [told_fold]
  congr 1
  exact range_get tkN xs
theorem told_nil (front : List Nat) : told front [] = (sing front, sing front) := rfl

noncomputable def Small (l : List (List Nat)) : Prop := ∀ s ∈ l, ∀ ch ∈ s, ch < 1000
theorem Small.app {a b : List (List Nat)} (h : Small a) (h' : Small b) : Small (a ++ b) := fun s hs => (List.mem_append.mp hs).elim (h s) (h' s)
theorem small_sing {l : List Nat} (h : ∀ c ∈ l, c < 1000) : Small (sing l) := fun s hs ch hc => by
  obtain ⟨c, hcl, rfl⟩ := List.mem_map.mp hs
  rw [List.mem_singleton.mp hc]; exact h c hcl
theorem small_figs (x : Int) : Small (sing (figs x)) := small_sing fun c hc => Nat.lt_of_le_of_lt (dg_digit _ c hc).2 (by decide)
theorem figs_hd (x : Int) : 48 ≤ (figs x).headD 0 ∧ (figs x).headD 0 ≤ 57 := by
  obtain ⟨d, q, hf, h1, h2, _⟩ := figs_cons x
  rw [hf]; exact ⟨h1, h2⟩
theorem mem_span {a b : Nat} {y : List Nat} (h : y ∈ span a b) : ∃ c, y = [c] ∧ a ≤ c ∧ c < b := by
  obtain ⟨j, hj, rfl⟩ := List.mem_map.mp h
  have := List.mem_range.mp hj
  exact ⟨a + j, rfl, by omega, by omega⟩
theorem span_mem {a b c : Nat} (h1 : a ≤ c) (h2 : c < b) : [c] ∈ span a b :=
  List.mem_map.mpr ⟨c - a, List.mem_range.mpr (by omega), by congr 1; omega⟩
theorem small_step {front : List Nat} (hf : ∀ c ∈ front, c < 1000) (row : List Int) (acc : List (List Nat) × List (List Nat)) (k : Nat) (h : Small acc.1 ∧ Small acc.2) : Small (toldStep front row acc k).1 ∧ Small (toldStep front row acc k).2 := by
  have e1 : Small [[44], [32]] := by intro s hs; simp at hs; rcases hs with rfl | rfl <;> simp
  have e2 : Small [[45]] := by intro s hs; simp at hs; subst hs; simp
  have e3 : Small (span 32 ((figs (row.getD k 0)).headD 0)) := fun s hs ch hc => by
    obtain ⟨c, rfl, _, h2⟩ := mem_span hs
    have := (figs_hd (row.getD k 0)).2
    rw [List.mem_singleton.mp hc]; omega
  have e4 := small_figs (row.getD k 0)
  have e5 : Small (sing ((figs (row.getD k 0)).drop 1)) := small_sing fun c hc => Nat.lt_of_le_of_lt (dg_digit _ c (List.drop_subset _ _ hc)).2 (by decide)
  have hd : ∀ l, Small l → Small l.dropLast := fun l hl s hs => hl s (List.dropLast_subset _ hs)
  have i1 : Small (if 0 < k then acc.1 ++ [[44], [32]] else acc.1) := by split; exact h.1.app e1; exact h.1
  have i2 : Small (if 0 < k then acc.2 ++ [[44], [32]] else acc.2) := by split; exact h.2.app e1; exact h.2
  unfold toldStep
  dsimp only
  refine ⟨Small.app ?_ e4, Small.app ?_ ?_⟩
  · split
    · exact i1.app e2
    · exact i1
  · by_cases hk : 0 < k
    · rw [if_pos hk] at i2
      simp only [hk, if_true]
      split
      · exact i2.app e3
      · exact i2
    · rw [if_neg hk] at i2
      simp only [hk, if_false]
      split
      · split
        · exact i2.app e2
        · exact hd _ i2
      · exact i2
  · split
    · exact e5
    · exact e4
theorem small_told {front : List Nat} (hf : ∀ c ∈ front, c < 1000) (row : List Int) : Small (told front row).1 ∧ Small (told front row).2 := by
  unfold told
  have : ∀ (l : List Nat) acc, (Small acc.1 ∧ Small acc.2) → Small (l.foldl (toldStep front row) acc).1 ∧ Small (l.foldl (toldStep front row) acc).2 := by
    intro l
    induction l with
    | nil => intro acc h; exact h
    | cons k l ih => intro acc h; exact ih _ (small_step hf row acc k h)
  exact this _ _ ⟨small_sing hf, small_sing hf⟩

noncomputable def free1 (l : List Nat) : Prop := ∀ c ∈ l, c ≠ 45 ∧ c ≠ 92
theorem unesc_id {a : Nat} {l : List Nat} (h : a ≠ 92) : unesc (a :: l) = a :: l := by
  unfold unesc; rw [if_neg]; simpa using h
theorem scan_plain {t : List Nat} {o : List (List Nat)} (hs : Scan t o) (ht : t.head? ≠ some 45) : ∀ l, free1 l → Scan (l ++ t) (sing l ++ o)
  | [], _ => hs
  | a :: l, h => by
    have ih := scan_plain hs ht l fun c hc => h c (by simp [hc])
    refine Scan.one (low := a) (rest := l ++ t) (unesc_id (h a (by simp)).2) (fun q => ?_) ih
    cases l with
    | nil => exact ht q.1
    | cons b l => exact (h b (by simp)).1 (by simpa using q.1)
theorem free_fig {l : List Nat} (h : ∀ c ∈ l, fig1 c) : free1 l := fun c hc => by
  rcases h c hc with h | h | h <;> omega
theorem free_app {a b : List Nat} (h : free1 a) (h' : free1 b) : free1 (a ++ b) := fun s hs => (List.mem_append.mp hs).elim (h s) (h' s)
theorem free_figs (x : Int) : free1 (figs x) := free_fig fun _ => fig1_figs
theorem sing_app (a b : List Nat) : sing (a ++ b) = sing a ++ sing b := by simp [sing]
theorem scan_tl : ∀ (xs : List Int) (q : List Nat), free1 q → ∃ o, Scan (jn [45] ((q ++ (tl xs).1) :: (tl xs).2)) o ∧ ∀ y, y ∈ o ↔ y ∈ sing q ++ xs.flatMap tkN
  | [], q, hq => ⟨sing q, by
      have := scan_plain (t := []) .nil (by simp) q hq
      rw [List.append_nil, List.append_nil] at this
      show Scan (q ++ []) _
      rw [List.append_nil]; exact this, fun y => by simp⟩
  | x :: xs, q, hq => by
    have e44 : free1 [44, 32] := by intro c hc; simp at hc; rcases hc with rfl | rfl <;> decide
    unfold tl
    by_cases hx : x < 0
    · rw [if_pos hx]
      obtain ⟨d, f, hf, h1, h2, h3⟩ := figs_cons x
      obtain ⟨o, hs, ho⟩ := scan_tl xs f fun c hc => by have := h3 c hc; omega
      refine ⟨sing (q ++ [44]) ++ (span 32 (d + 1) ++ o), ?_, fun y => ?_⟩
      · have e : jn [45] ((q ++ [44, 32]) :: (figs x ++ (tl xs).1) :: (tl xs).2) = (q ++ [44]) ++ (32 :: 45 :: d :: jn [45] ((f ++ (tl xs).1) :: (tl xs).2)) := by
          show (q ++ [44, 32]) ++ [45] ++ jn [45] ((figs x ++ (tl xs).1) :: (tl xs).2) = _
          rw [hf]
          show (q ++ [44, 32]) ++ [45] ++ jn [45] (([d] ++ (f ++ (tl xs).1)) :: (tl xs).2) = _
          rw [jn_pre]; simp
        show Scan (jn [45] ((q ++ [44, 32]) :: (figs x ++ (tl xs).1) :: (tl xs).2)) _
        rw [e]
        refine scan_plain (Scan.rng (low := 32) (high := d) (unesc_id (by decide)) (by simp) (unesc_id (by omega)) (by omega) hs) (by simp) _ (free_app hq ?_)
        intro c hc; rw [List.mem_singleton.mp hc]; decide
      · have hsp : y ∈ span 32 (d + 1) ↔ y = [32] ∨ y ∈ span 32 d ∨ y = [d] := by
          constructor
          · intro h
            obtain ⟨c, rfl, c1, c2⟩ := mem_span h
            by_cases hcd : c = d
            · exact .inr (.inr (by rw [hcd]))
            · exact .inr (.inl (span_mem c1 (by omega)))
          · rintro (rfl | h | rfl)
            · exact span_mem (Nat.le_refl _) (by omega)
            · obtain ⟨c, rfl, c1, c2⟩ := mem_span h
              exact span_mem c1 (by omega)
            · exact span_mem (by omega) (by omega)
        rw [List.flatMap_cons, sing_app]
        have : tkN x = [[44], [32]] ++ (span 32 d ++ ([d] :: sing f)) := by unfold tkN; rw [if_pos hx, hf]; rfl
        rw [this]
        simp only [List.mem_append, hsp, ho]
        simp
        grind
    · rw [if_neg hx]
      obtain ⟨o, hs, ho⟩ := scan_tl xs (q ++ ([44, 32] ++ figs x)) (free_app hq (free_app e44 (free_figs x)))
      refine ⟨o, by simpa using hs, fun y => ?_⟩
      rw [ho, List.flatMap_cons]
      have : tkN x = [[44], [32]] ++ sing (figs x) := by unfold tkN; rw [if_neg hx]; rfl
      rw [this]
      simp
end Mine
end

section
open PySem PySem.W PyProof.Rows PySem.Calls
set_option Elab.async false
set_option maxRecDepth 100000
set_option maxHeartbeats 4000000
set_option linter.unusedVariables false
namespace Mine

theorem unesc_len (r : List Nat) : (unesc r).length ≤ r.length := by
  unfold unesc; split
  · rw [List.length_drop]; omega
  · exact Nat.le_refl _
theorem unesc_sub (r : List Nat) : ∀ c ∈ unesc r, c ∈ r := by
  unfold unesc; split
  · exact fun c hc => List.drop_subset _ _ hc
  · exact fun c hc => hc
theorem scan_len {r : List Nat} {o : List (List Nat)} (h : Scan r o) : (∀ ch ∈ r, ch < 94) → o.length ≤ 32 * r.length := by
  induction h with
  | nil => intro _; exact Nat.le_refl _
  | @one r low rest out h hn hs ih =>
    intro hc
    have h1 := unesc_len r
    have h2 := unesc_sub r
    rw [h] at h1 h2
    have := ih fun c q => hc c (h2 c (by simp [q]))
    simp only [List.length_cons] at h1 ⊢
    omega
  | @rng r low high rest rest' out h hr h' hl hs ih =>
    intro hc
    have h1 := unesc_len r
    have h2 := unesc_sub r
    have h3 := unesc_len rest
    have h4 := unesc_sub rest
    rw [h] at h1 h2
    rw [h'] at h3 h4
    have := ih fun c q => hc c (h2 c (by simp [h4 c (by simp [q])]))
    have hh := hc high (h2 high (by simp [h4 high (by simp)]))
    have hs : (span low (high + 1)).length = high + 1 - low := by simp [span]
    simp only [List.length_cons] at h1 h3
    rw [List.length_append, hs]
    omega
theorem scan_nil {r : List Nat} {o : List (List Nat)} (h : Scan r o) : r = [] → o = [] := by
  intro e
  subst e
  cases h with
  | nil => rfl
  | one h _ _ => cases h
  | rng h _ _ _ _ => cases h
theorem told_brk {cs : List (List Nat)} (ok : OkCs cs) {P : List (List Nat) → Prop} {z : List Nat} (hz : stuffOf cs = z)
    (h : (∃ o, Scan z o ∧ z.headD 0 ≠ 91 ∧ P o) ∨ ∃ o, z.headD 0 = 91 ∧ Scan (92 :: z) o ∧ P o) : ∃ o, Told (brk cs) o ∧ P o := by
  have hl := stuff_len ok
  have hm := stuff_mem ok
  rw [hz] at hl hm
  have hc : ∀ ch ∈ z, ch < 94 := fun c hc => (hm c hc).1.1
  unfold brk
  rw [hz]
  rcases h with ⟨o, hs, hh, hp⟩ | ⟨o, hh, hs, hp⟩
  · by_cases hn : z = []
    · have := scan_nil hs hn
      subst this
      rw [if_pos hn]; exact ⟨_, .never, hp⟩
    · rw [if_neg hn, if_neg hh]
      have := scan_len hs hc
      exact ⟨o, .many hs (by omega) (by omega) fun c q => Nat.lt_trans (hc c q) (by decide), hp⟩
  · have hn : z ≠ [] := fun e => by rw [e] at hh; cases hh
    have hc' : ∀ ch ∈ 92 :: z, ch < 94 := fun c q => by
      rcases List.mem_cons.mp q with rfl | q
      · decide
      · exact hc c q
    rw [if_neg hn, if_pos hh]
    have := scan_len hs hc'
    rw [List.length_cons] at this
    exact ⟨o, .many hs (by rw [List.length_cons]; omega) (by omega) fun c q => Nat.lt_trans (hc' c q) (by decide), hp⟩

noncomputable def FrontOk (front : List Nat) : Prop := front = [] ∨ front = [91] ∨ front = [93, 44, 32, 91]
theorem txt_char {row : List Int} : ∀ c ∈ txt row, c = 45 ∨ fig1 c := fun c hc => by
  have hi : ∀ x : Int, ∀ c ∈ itx x, c = 45 ∨ fig1 c := fun x c hc => by
    rw [itx_figs] at hc
    split at hc
    · rcases List.mem_cons.mp hc with rfl | hc
      · exact .inl rfl
      · exact .inr (fig1_figs hc)
    · exact .inr (fig1_figs hc)
  rcases jn_mem hc with hc | ⟨r, hr, hc⟩
  · simp at hc
    rcases hc with rfl | rfl
    · exact .inr (.inl rfl)
    · exact .inr (.inr (.inl rfl))
  · obtain ⟨x, _, rfl⟩ := List.mem_map.mp hr
    exact hi x c hc
theorem txt_len {row : List Int} (h : okRow row) : (txt row).length ≤ 100 := by
  have := showRow_len h
  have e : (showRow row).length = (txt row).length + 2 := by simp [showRow, txt]
  omega
theorem okcs_of {front : List Nat} {row : List Int} {c0 : List Nat} {r : List (List Nat)} (hf : FrontOk front) (hr : okRow row) (e : jn [45] (c0 :: r) = front ++ txt row) (h0 : c0 ≠ []) (h1 : 45 ∉ c0.drop 1)
    (h2 : ∀ c ∈ c0, c = 45 ∨ fig1 c ∨ c ∈ front) (h3 : ∀ q ∈ r, (∀ c ∈ q, fig1 c) ∧ q ≠ [] ∧ 48 ≤ q.headD 0) (h4 : ∀ q ∈ r.dropLast, 2 ≤ q.length ∧ q.getLastD 0 = 32) (h5 : r.length ≤ 10) : OkCs (c0 :: r) where
  c0 := ⟨c0, r, rfl, h0, h1⟩
  rest := fun q hq => ⟨(h3 q hq).2.1, fun w => by rcases (h3 q hq).1 45 w with h | h | h <;> omega, (h3 q hq).2.2⟩
  mid := h4
  chars := fun q hq c hc => by
    have hfig : ∀ c, fig1 c → noTwin c ∧ c ≠ 92 ∧ c ≠ 33 := fun c h => by
      unfold noTwin; rcases h with h | h | h <;> omega
    have hfr : ∀ c ∈ front, noTwin c ∧ c ≠ 92 ∧ c ≠ 33 := fun c h => by
      unfold noTwin
      rcases hf with rfl | rfl | rfl
      · cases h
      · simp at h; omega
      · simp at h; omega
    rcases List.mem_cons.mp hq with rfl | hq
    · rcases h2 c hc with rfl | h | h
      · exact ⟨⟨by decide, by decide⟩, by decide, by decide⟩
      · exact hfig c h
      · exact hfr c h
    · exact hfig c ((h3 q hq).1 c hc)
  close := fun w => by
    rw [e] at w
    have ht : 93 ∉ txt row := fun h => by rcases txt_char 93 h with h | h | h | h <;> omega
    rcases hf with rfl | rfl | rfl
    · exact ht (List.drop_subset _ _ w)
    · exact ht w
    · rcases List.mem_append.mp (show 93 ∈ [44, 32, 91] ++ txt row from w) with h | h
      · simp at h
      · exact ht h
  len := by
    rw [e, List.length_append]
    have := txt_len hr
    rcases hf with rfl | rfl | rfl <;> simp only [List.length_cons, List.length_nil] <;> omega
  num := by rw [List.length_cons]; omega
theorem no45 {l : List Nat} (h : ∀ c ∈ l, fig1 c) : 45 ∉ l := fun w => by rcases h 45 w with h | h | h <;> omega
theorem fig_app {x : Int} {s : List Nat} (h : ∀ c ∈ s, fig1 c) : ∀ c ∈ figs x ++ s, fig1 c := fun c hc => (List.mem_append.mp hc).elim fig1_figs (h c)
theorem tl_neg {x : Int} (hx : x < 0) (xs : List Int) : tl (x :: xs) = ([44, 32], (figs x ++ (tl xs).1) :: (tl xs).2) := if_pos hx
theorem chunks_cons (front : List Nat) (x : Int) (xs : List Int) : chunks front (x :: xs) = if x < 0 then (if front = [] then (45 :: (figs x ++ (tl xs).1)) :: (tl xs).2 else front :: (figs x ++ (tl xs).1) :: (tl xs).2) else (front ++ (figs x ++ (tl xs).1)) :: (tl xs).2 := rfl
theorem front45 {front : List Nat} (hf : FrontOk front) : 45 ∉ front := by
  rcases hf with rfl | rfl | rfl <;> decide
theorem okcs {front : List Nat} (hf : FrontOk front) {row : List Int} (hr : okRow row) (hne : front ≠ [] ∨ row ≠ []) : OkCs (chunks front row) := by
  have e := jn_chunks front row
  cases row with
  | nil =>
    refine okcs_of hf hr e (hne.resolve_right (fun h => h rfl)) (fun w => front45 hf (List.drop_subset _ _ w)) (fun c hc => .inr (.inr hc)) (fun _ h => (by cases h)) (fun _ h => (by cases h)) (Nat.zero_le _)
  | cons x xs =>
    obtain ⟨T, hl⟩ := tl_ok xs
    obtain ⟨d, f, hd, _⟩ := figs_cons x
    have hn : xs.length ≤ 9 := by have := hr.1; rw [List.length_cons] at this; omega
    rw [chunks_cons] at e ⊢
    by_cases hx : x < 0
    · rw [if_pos hx] at e ⊢
      by_cases hfr : front = []
      · rw [if_pos hfr] at e ⊢
        exact okcs_of hf hr e (by simp) (no45 (fig_app T.sg)) (fun c hc => (List.mem_cons.mp hc).elim .inl fun h => .inr (.inl (fig_app T.sg c h))) T.rs T.mid (by omega)
      · rw [if_neg hfr] at e ⊢
        obtain ⟨T', hl'⟩ := tl_ok (x :: xs)
        rw [tl_neg hx] at T' hl'
        exact okcs_of hf hr e hfr (fun w => front45 hf (List.drop_subset _ _ w)) (fun c hc => .inr (.inr hc)) T'.rs T'.mid (by rw [List.length_cons] at hl' ⊢; omega)
    · rw [if_neg hx] at e ⊢
      refine okcs_of hf hr e (by rw [hd]; simp) (fun w => ?_) (fun c hc => ?_) T.rs T.mid (by omega)
      · rcases List.mem_append.mp (List.drop_subset _ _ w) with h | h
        · exact front45 hf h
        · exact no45 (fig_app T.sg) h
      · rcases List.mem_append.mp hc with h | h
        · exact .inr (.inr h)
        · exact .inr (.inl (fig_app T.sg c h))

theorem mgd_keep {c0 : List Nat} {r : List (List Nat)} (h3 : ∀ q ∈ r, 48 ≤ q.headD 0) (h : r ≠ [] → c0.getLastD 0 = 32) : mgd (c0 :: r) = c0 :: r := by
  cases r with
  | nil => rfl
  | cons c1 r =>
    have h1 := h (by simp)
    have h2 := h3 c1 (by simp)
    show (if c1.headD 0 < c0.getLastD 0 then _ else _) = _
    rw [if_neg (by omega)]
theorem map_rep {r : List (List Nat)} (h : ∀ q ∈ r, 45 ∉ q) : r.map (rep 45 [92, 45]) = r := by
  induction r with
  | nil => rfl
  | cons a r ih =>
    rw [List.map_cons, rep_free _ _ _ (h a (by simp)), ih fun q hq => h q (by simp [hq])]
theorem front_free {front : List Nat} (hf : FrontOk front) : free1 front := fun c hc => by
  rcases hf with rfl | rfl | rfl
  · cases hc
  · simp at hc; omega
  · simp at hc; omega
theorem front_small {front : List Nat} (hf : FrontOk front) : ∀ c ∈ front, c < 1000 := fun c hc => by
  rcases hf with rfl | rfl | rfl
  · cases hc
  · simp at hc; omega
  · simp at hc; omega
theorem scan_front {front : List Nat} (hf : FrontOk front) {z : List Nat} {o : List (List Nat)} (hs : Scan z o) (hz : z.head? ≠ some 45) (hf0 : front = [] → z.headD 0 ≠ 91) :
    (∃ o', Scan (front ++ z) o' ∧ (front ++ z).headD 0 ≠ 91 ∧ o' = sing front ++ o) ∨ ∃ o', (front ++ z).headD 0 = 91 ∧ Scan (92 :: (front ++ z)) o' ∧ o' = sing front ++ o := by
  rcases hf with rfl | rfl | rfl
  · exact .inl ⟨o, hs, hf0 rfl, rfl⟩
  · exact .inr ⟨_, rfl, Scan.one (low := 91) (rest := z) rfl (fun q => hz q.1) hs, rfl⟩
  · exact .inl ⟨_, scan_plain hs hz _ (front_free (.inr (.inr rfl))), by show (93 : Nat) ≠ 91; decide, rfl⟩
theorem jn_hd {a : Nat} {l : List Nat} {r : List (List Nat)} : (jn [45] ((a :: l) :: r)).head? = some a := by
  cases r <;> rfl
theorem told_chunks {front : List Nat} (hf : FrontOk front) {row : List Int} (hr : okRow row) (hne : front ≠ [] ∨ row ≠ []) :
    ∃ o, Told (brk (chunks front row)) o ∧ ∀ y, y ∈ o ↔ y ∈ (told front row).2 := by
  have ok := okcs hf hr hne
  cases row with
  | nil =>
    refine told_brk ok (z := front) (show rep 45 [92, 45] front = front from rep_free _ _ _ (front45 hf)) ?_
    have := scan_front hf .nil (by simp) (fun _ => by decide)
    rw [List.append_nil, List.append_nil] at this
    rcases this with ⟨o, h1, h2, rfl⟩ | ⟨o, h1, h2, rfl⟩
    · exact .inl ⟨_, h1, h2, fun y => by rw [told_nil]⟩
    · exact .inr ⟨_, h1, h2, fun y => by rw [told_nil]⟩
  | cons x xs =>
    obtain ⟨T, hl⟩ := tl_ok xs
    obtain ⟨d, f, hd, h48, h57, hff⟩ := figs_cons x
    have hr45 : ∀ q ∈ (tl xs).2, 45 ∉ q := fun q hq => no45 (T.rs q hq).1
    have hfree : free1 f := fun c hc => by have := hff c hc; omega
    rw [told_cons]
    by_cases hx : x < 0
    · by_cases hfr : front = []
      · subst hfr
        have ec : chunks [] (x :: xs) = (45 :: (figs x ++ (tl xs).1)) :: (tl xs).2 := by rw [chunks_cons, if_pos hx, if_pos rfl]
        rw [ec] at ok ⊢
        obtain ⟨o, hs, ho⟩ := scan_tl xs (figs x) (free_figs x)
        have hz : stuffOf ((45 :: (figs x ++ (tl xs).1)) :: (tl xs).2) = 92 :: 45 :: jn [45] ((figs x ++ (tl xs).1) :: (tl xs).2) := by
          unfold stuffOf
          rw [mgd_keep (c0 := 45 :: (figs x ++ (tl xs).1)) (fun q hq => (T.rs q hq).2.2) fun h => (last_app (a := [45]) (last_app (a := figs x) (T.last h))).2]
          rw [List.map_cons, map_rep hr45]
          have : rep 45 [92, 45] (45 :: (figs x ++ (tl xs).1)) = [92, 45] ++ (figs x ++ (tl xs).1) := by
            rw [show (45 :: (figs x ++ (tl xs).1) : List Nat) = [45] ++ (figs x ++ (tl xs).1) from rfl, rep_append, rep_free _ _ _ (no45 (fig_app T.sg))]; rfl
          rw [this, jn_pre]; rfl
        refine told_brk ok hz (.inl ⟨[45] :: o, Scan.one (low := 45) (rest := jn [45] ((figs x ++ (tl xs).1) :: (tl xs).2)) rfl (fun q => ?_) hs, by show (92 : Nat) ≠ 91; decide, fun y => ?_⟩)
        · rw [hd] at q
          have q' := q.1
          rw [List.cons_append, jn_hd] at q'
          have := Option.some.inj q'
          omega
        · have : tk0 [] x = [[45]] ++ sing (figs x) := by unfold tk0; rw [if_pos hx, if_pos rfl, if_neg (fun h => h.2 rfl)]; rfl
          rw [this]; simp [ho]
      · have hlast : front.getLastD 0 = 91 := by
          rcases hf with rfl | rfl | rfl
          · exact absurd rfl hfr
          · rfl
          · rfl
        have ec : chunks front (x :: xs) = front :: (figs x ++ (tl xs).1) :: (tl xs).2 := by rw [chunks_cons, if_pos hx, if_neg hfr]
        rw [ec] at ok ⊢
        have hdl : free1 front.dropLast := fun c hc => front_free hf c (List.dropLast_subset _ hc)
        obtain ⟨o, hs, ho⟩ := scan_tl xs (front.dropLast ++ f) (free_app hdl hfree)
        rw [List.append_assoc] at hs
        have hz : stuffOf (front :: (figs x ++ (tl xs).1) :: (tl xs).2) = jn [45] ((front.dropLast ++ (f ++ (tl xs).1)) :: (tl xs).2) := by
          unfold stuffOf
          have em : mgd (front :: (figs x ++ (tl xs).1) :: (tl xs).2) = (front.dropLast ++ (f ++ (tl xs).1)) :: (tl xs).2 := by
            show (if (figs x ++ (tl xs).1).headD 0 < front.getLastD 0 then (front.dropLast ++ (figs x ++ (tl xs).1).drop 1) :: (tl xs).2 else _) = _
            rw [hlast, hd, if_pos (by show d < 91; omega)]; rfl
          rw [em, List.map_cons, map_rep hr45, rep_free]
          intro w
          rcases List.mem_append.mp w with w | w
          · exact front45 hf (List.dropLast_subset _ w)
          · rcases List.mem_append.mp w with w | w
            · have := hff 45 w; omega
            · exact no45 T.sg w
        have h91 : (jn [45] ((front.dropLast ++ (f ++ (tl xs).1)) :: (tl xs).2)).headD 0 ≠ 91 := by
          rcases hf with rfl | rfl | rfl
          · exact absurd rfl hfr
          · intro w
            have hm : (91 : Nat) ∈ jn [45] ((f ++ (tl xs).1) :: (tl xs).2) := by
              cases hj : jn [45] ((f ++ (tl xs).1) :: (tl xs).2) with
              | nil => have w' : (jn [45] ((f ++ (tl xs).1) :: (tl xs).2)).headD 0 = 91 := w
                       rw [hj] at w'; cases w'
              | cons a l => have w' : (jn [45] ((f ++ (tl xs).1) :: (tl xs).2)).headD 0 = 91 := w
                            rw [hj] at w'
                            have : a = 91 := w'
                            simp [this]
            rcases jn_mem hm with h | ⟨q, hq, h⟩
            · simp at h
            · rcases List.mem_cons.mp hq with rfl | hq
              · rcases List.mem_append.mp h with h | h
                · have := hff 91 h; omega
                · rcases T.sg 91 h with h | h | h <;> omega
              · rcases (T.rs q hq).1 91 h with h | h | h <;> omega
          · show (jn [45] ((93 :: ([44, 32] ++ (f ++ (tl xs).1))) :: (tl xs).2)).headD 0 ≠ 91
            rw [List.headD_eq_head?_getD, jn_hd]; decide
        refine told_brk ok hz (.inl ⟨o, hs, h91, fun y => ?_⟩)
        have : tk0 front x = (sing front).dropLast ++ sing f := by unfold tk0; rw [if_pos hx, if_neg hfr, if_pos ⟨hx, hfr⟩, hd]; rfl
        rw [this, ho, sing_app]
        have e : (sing front).dropLast = sing front.dropLast := by simp [sing]
        rw [e]
    · have ec : chunks front (x :: xs) = (front ++ (figs x ++ (tl xs).1)) :: (tl xs).2 := by rw [chunks_cons, if_neg hx]
      rw [ec] at ok ⊢
      obtain ⟨o, hs, ho⟩ := scan_tl xs (figs x) (free_figs x)
      have hz : stuffOf ((front ++ (figs x ++ (tl xs).1)) :: (tl xs).2) = front ++ jn [45] ((figs x ++ (tl xs).1) :: (tl xs).2) := by
        unfold stuffOf
        rw [mgd_keep (fun q hq => (T.rs q hq).2.2) fun h => (last_app (last_app (a := figs x) (T.last h))).2]
        rw [List.map_cons, map_rep hr45, rep_free, jn_pre]
        intro w
        rcases List.mem_append.mp w with w | w
        · exact front45 hf w
        · exact no45 (fig_app T.sg) w
      have hhd : (jn [45] ((figs x ++ (tl xs).1) :: (tl xs).2)).head? = some d := by rw [hd]; exact jn_hd
      have := scan_front hf hs (by rw [hhd]; intro q; have := Option.some.inj q; omega) (fun _ => by rw [List.headD_eq_head?_getD, hhd]; show d ≠ 91; omega)
      have etk : tk0 front x = sing front ++ sing (figs x) := by unfold tk0; rw [if_neg hx, if_neg (fun h => hx h.1)]
      refine told_brk ok hz ?_
      rw [etk]
      rcases this with ⟨o', h1, h2, rfl⟩ | ⟨o', h1, h2, rfl⟩
      · exact .inl ⟨_, h1, h2, fun y => by simp only [List.mem_append, ho]; grind⟩
      · exact .inr ⟨_, h1, h2, fun y => by simp only [List.mem_append, ho]; grind⟩
end Mine
end

section
open PySem PySem.W PyProof.Rows PySem.Calls
set_option Elab.async false
set_option maxRecDepth 100000
set_option maxHeartbeats 4000000
set_option linter.unusedVariables false
namespace Mine

noncomputable def pcsFrom : List (List Int) → List Pc
  | [] => [.ch 93]
  | [r] => .ch 44 :: .ch 32 :: (if r = [] then [.br [[93]]] else [.br (chunks [] r), .ch 93])
  | r :: r' :: rs => .ch 44 :: .ch 32 :: (if r = [] then .br (chunks [93, 44, 32, 91] r') :: pcsFrom rs else .br (chunks [] r) :: pcsFrom (r' :: rs))
noncomputable def pcsOf (rows : List (List Int)) : List Pc := .br (chunks [91] (rows.headD [])) :: pcsFrom rows.tail
noncomputable def All2 {α β : Type} (R : α → β → Prop) : List α → List β → Prop
  | [], [] => True
  | a :: as, b :: bs => R a b ∧ All2 R as bs
  | _, _ => False
theorem All2.len {α β : Type} {R : α → β → Prop} : ∀ {as : List α} {bs : List β}, All2 R as bs → as.length = bs.length
  | [], [], _ => rfl
  | _ :: _, _ :: _, h => congrArg (· + 1) h.2.len
  | [], _ :: _, h => h.elim
  | _ :: _, [], h => h.elim
theorem All2.at {α β : Type} {R : α → β → Prop} : ∀ {as : List α} {bs : List β}, All2 R as bs → ∀ (k : Nat) (a : α) (b : β), as[k]? = some a → bs[k]? = some b → R a b
  | _ :: _, _ :: _, h, 0, a, b, h1, h2 => by
    simp at h1 h2; subst h1 h2; exact h.1
  | _ :: _, _ :: _, h, k + 1, a, b, h1, h2 => h.2.at k a b (by simpa using h1) (by simpa using h2)
  | [], _, _, k, a, b, h1, _ => by simp at h1
  | _ :: _, [], h, _, _, _, _, _ => h.elim
noncomputable def Fit (pc : Pc) (it : Item) : Prop := OkPc pc ∧ (Small it.1 ∧ Small it.2) ∧ ∃ o, Told pc.out o ∧ ∀ y, y ∈ o ↔ y ∈ it.2
theorem fit_br {front : List Nat} (hf : FrontOk front) {row : List Int} (hr : okRow row) (hne : front ≠ [] ∨ row ≠ []) : Fit (.br (chunks front row)) (told front row) :=
  ⟨okcs hf hr hne, small_told (front_small hf) row, told_chunks hf hr hne⟩
theorem small1 (c : Nat) (h : c < 1000) : Small [[c]] := fun s hs ch hc => by
  rw [List.mem_singleton.mp hs] at hc
  rw [List.mem_singleton.mp hc]; exact h
theorem fit_comma : Fit (.ch 44) comma := ⟨.inl rfl, ⟨small1 44 (by decide), small1 44 (by decide)⟩, _, .one 44 (by decide), fun _ => Iff.rfl⟩
theorem fit_blank : Fit (.ch 32) blank := ⟨.inr (.inl rfl), ⟨small1 32 (by decide), small1 32 (by decide)⟩, _, .esc 32 (by decide), fun _ => Iff.rfl⟩
theorem fit_close : Fit (.ch 93) close := ⟨.inr (.inr rfl), ⟨small1 93 (by decide), small1 93 (by decide)⟩, _, .esc 93 (by decide), fun _ => Iff.rfl⟩
theorem fit_shut : Fit (.br [[93]]) close := by
  refine ⟨⟨⟨[93], [], rfl, by decide, by decide⟩, fun _ h => (by cases h), fun _ h => (by cases h), fun r hr c hc => ?_, by decide, by decide, by decide⟩, ⟨small1 93 (by decide), small1 93 (by decide)⟩, [[93]], ?_, fun _ => Iff.rfl⟩
  · rw [List.mem_singleton.mp hr] at hc
    rw [List.mem_singleton.mp hc]; exact ⟨⟨by decide, by decide⟩, by decide, by decide⟩
  · exact Told.many (body := [93]) (Scan.one (low := 93) (rest := []) rfl (fun q => by cases q.1) .nil) (by decide) (by decide) (by decide)
theorem fit_from : ∀ rows : List (List Int), (∀ r ∈ rows, okRow r) → All2 Fit (pcsFrom rows) (itemsFrom rows)
  | [], _ => ⟨fit_close, trivial⟩
  | [r], h => by
    unfold pcsFrom itemsFrom
    refine ⟨fit_comma, fit_blank, ?_⟩
    by_cases hr : r = []
    · rw [if_pos hr, if_pos hr]; exact ⟨fit_shut, trivial⟩
    · rw [if_neg hr, if_neg hr]; exact ⟨fit_br (.inl rfl) (h r (by simp)) (.inr hr), fit_close, trivial⟩
  | r :: r' :: rs, h => by
    unfold pcsFrom itemsFrom
    refine ⟨fit_comma, fit_blank, ?_⟩
    by_cases hr : r = []
    · rw [if_pos hr, if_pos hr]
      exact ⟨fit_br (.inr (.inr rfl)) (h r' (by simp)) (.inl (by simp)), fit_from rs fun q hq => h q (by simp [hq])⟩
    · rw [if_neg hr, if_neg hr]
      exact ⟨fit_br (.inl rfl) (h r (by simp)) (.inr hr), fit_from (r' :: rs) fun q hq => h q (by simp at hq ⊢; right; exact hq)⟩

noncomputable def after (rows : List (List Int)) : List Nat := rows.flatMap fun r => [44, 32] ++ showRow r
theorem show_txt (r : List Int) : showRow r = 91 :: (txt r ++ [93]) := rfl
theorem flat_cons (p : Pc) (l : List Pc) : flat (p :: l) = p.text ++ flat l := by simp [flat]
theorem flat_br {front : List Nat} {row : List Int} {l : List Pc} : flat (.br (chunks front row) :: l) = 91 :: (front ++ txt row) ++ [93] ++ flat l := by
  rw [flat_cons]
  show (91 :: (jn [45] (chunks front row) ++ [93])) ++ flat l = _
  rw [jn_chunks]; simp
theorem flat_ch {c : Nat} {l : List Pc} : flat (.ch c :: l) = c :: flat l := by rw [flat_cons]; rfl
theorem flat_from : ∀ rows : List (List Int), flat (pcsFrom rows) = after rows ++ [93]
  | [] => rfl
  | [r] => by
    unfold pcsFrom
    rw [flat_ch, flat_ch]
    by_cases hr : r = []
    · rw [if_pos hr, hr]; rfl
    · rw [if_neg hr, flat_br, flat_ch]
      simp [after, show_txt, flat]
  | r :: r' :: rs => by
    unfold pcsFrom
    rw [flat_ch, flat_ch]
    by_cases hr : r = []
    · rw [if_pos hr, flat_br, flat_from rs, hr]
      simp [after, show_txt, txt, jn]
    · rw [if_neg hr, flat_br, flat_from (r' :: rs)]
      simp [after, show_txt]
theorem flat_of {rows : List (List Int)} (h : rows ≠ []) : flat (pcsOf rows) = showRows rows := by
  cases rows with
  | nil => exact absurd rfl h
  | cons r rs =>
    unfold pcsOf showRows
    rw [flat_br, flat_from, List.map_cons, jn_more, List.flatMap_map]
    simp [after, show_txt]
theorem pcs_len : ∀ rows : List (List Int), (pcsFrom rows).length ≤ 3 * rows.length + 1
  | [] => Nat.le_refl _
  | [r] => by
    unfold pcsFrom
    split <;> simp
  | r :: r' :: rs => by
    unfold pcsFrom
    have h1 := pcs_len rs
    have h2 := pcs_len (r' :: rs)
    split <;> simp only [List.length_cons] at * <;> omega
theorem out_len {p : Pc} (h : OkPc p) : p.out.length ≤ 2010 := by
  cases p with
  | ch c =>
    show (esc1 c).length ≤ _
    unfold esc1; split <;> simp
  | br cs =>
    have := stuff_len (show OkCs cs from h)
    show (brk cs).length ≤ _
    unfold brk
    split
    · simp
    · split <;> simp <;> omega
theorem sgl_mem {c : Nat} (h : (32 ≤ c ∧ c < 59) ∨ (91 ≤ c ∧ c < 95)) : [c] ∈ sg sgl := by
  refine List.mem_map.mpr ⟨c, ?_, rfl⟩
  unfold sgl
  rw [List.mem_append]
  rcases h with h | h
  · exact .inl (List.mem_map.mpr ⟨c - 32, List.mem_range.mpr (by omega), by omega⟩)
  · right; simp; omega
noncomputable def InSgl (l : List (List Nat)) : Prop := ∀ y ∈ l, y ∈ sg sgl
theorem InSgl.app {a b : List (List Nat)} (h : InSgl a) (h' : InSgl b) : InSgl (a ++ b) := fun s hs => (List.mem_append.mp hs).elim (h s) (h' s)
theorem insgl_sing {l : List Nat} (h : ∀ c ∈ l, (32 ≤ c ∧ c < 59) ∨ (91 ≤ c ∧ c < 95)) : InSgl (sing l) := fun s hs => by
  obtain ⟨c, hc, rfl⟩ := List.mem_map.mp hs
  exact sgl_mem (h c hc)
theorem insgl_figs {l : List Nat} {x : Int} (h : ∀ c ∈ l, c ∈ figs x) : InSgl (sing l) := insgl_sing fun c hc => by
  have := dg_digit _ c (h c hc); omega
theorem insgl_front {front : List Nat} (hf : FrontOk front) : InSgl (sing front) := insgl_sing fun c hc => by
  rcases hf with rfl | rfl | rfl
  · cases hc
  · simp at hc; omega
  · simp at hc; omega
theorem insgl_tkN (x : Int) : InSgl (tkN x) := by
  unfold tkN
  refine .app (insgl_sing (l := [44, 32]) (by decide)) (.app ?_ (insgl_figs fun _ h => h))
  split
  · intro y hy
    obtain ⟨c, rfl, h1, h2⟩ := mem_span hy
    have := (figs_hd x).2
    exact sgl_mem (by omega)
  · intro y hy; cases hy
theorem insgl_told {front : List Nat} (hf : FrontOk front) (row : List Int) : InSgl (told front row).2 := by
  cases row with
  | nil => rw [told_nil]; exact insgl_front hf
  | cons x xs =>
    rw [told_cons]
    refine .app ?_ fun y hy => ?_
    · unfold tk0
      refine .app ?_ ?_
      · split
        · split
          · exact (insgl_front hf).app (insgl_sing (l := [45]) (by decide))
          · exact fun y hy => insgl_front hf y (List.dropLast_subset _ hy)
        · exact insgl_front hf
      · split
        · exact insgl_figs fun c h => List.drop_subset _ _ h
        · exact insgl_figs fun _ h => h
    · obtain ⟨z, _, hy⟩ := List.mem_flatMap.mp hy
      exact insgl_tkN z y hy
theorem insgl_close : InSgl close.2 := insgl_sing (l := [93]) (by decide)
theorem insgl_comma : InSgl comma.2 := insgl_sing (l := [44]) (by decide)
theorem insgl_blank : InSgl blank.2 := insgl_sing (l := [32]) (by decide)
theorem insgl_from : ∀ rows : List (List Int), ∀ it ∈ itemsFrom rows, InSgl it.2
  | [], it, h => by rw [List.mem_singleton.mp h]; exact insgl_close
  | [r], it, h => by
    unfold itemsFrom at h
    rcases List.mem_cons.mp h with rfl | h
    · exact insgl_comma
    · rcases List.mem_cons.mp h with rfl | h
      · exact insgl_blank
      · split at h
        · rw [List.mem_singleton.mp h]; exact insgl_close
        · rcases List.mem_cons.mp h with rfl | h
          · exact insgl_told (.inl rfl) r
          · rw [List.mem_singleton.mp h]; exact insgl_close
  | r :: r' :: rs, it, h => by
    unfold itemsFrom at h
    rcases List.mem_cons.mp h with rfl | h
    · exact insgl_comma
    · rcases List.mem_cons.mp h with rfl | h
      · exact insgl_blank
      · split at h
        · rcases List.mem_cons.mp h with rfl | h
          · exact insgl_told (.inr (.inr rfl)) r'
          · exact insgl_from rs it h
        · rcases List.mem_cons.mp h with rfl | h
          · exact insgl_told (.inl rfl) r
          · exact insgl_from (r' :: rs) it h
theorem All2.left {α β : Type} {R : α → β → Prop} {P : α → Prop} (k : ∀ a b, R a b → P a) : ∀ {as : List α} {bs : List β}, All2 R as bs → ∀ a ∈ as, P a
  | _ :: _, _ :: _, h, a, ha => by
    rcases List.mem_cons.mp ha with rfl | ha
    · exact k _ _ h.1
    · exact h.2.left k a ha
  | [], _, _, a, ha => by cases ha
  | _ :: _, [], h, _, _ => h.elim
theorem All2.right {α β : Type} {R : α → β → Prop} {P : β → Prop} (k : ∀ a b, R a b → P b) : ∀ {as : List α} {bs : List β}, All2 R as bs → ∀ b ∈ bs, P b
  | _ :: _, _ :: _, h, a, ha => by
    rcases List.mem_cons.mp ha with rfl | ha
    · exact k _ _ h.1
    · exact h.2.right k a ha
  | _, [], _, a, ha => by cases ha
  | [], _ :: _, h, _, _ => h.elim
theorem okS_small {l : List (List Nat)} (h : Small l) : okS l := fun s hs ch hc => Nat.lt_trans (h s hs ch hc) (by decide)
theorem law_ok {rows : List (List Int)} (hok : ∀ r ∈ rows, okRow r) (hne : rows ≠ []) (hl : rows.length ≤ 11) : LawOk rows (pcsOf rows) := by
  have hd0 : okRow (rows.headD []) := by
    cases rows with
    | nil => exact absurd rfl hne
    | cons r rs => exact hok r (by simp)
  have A : All2 Fit (pcsOf rows) (itemsOf rows) := ⟨fit_br (.inr (.inl rfl)) hd0 (.inl (by simp)), fit_from rows.tail fun r hr => hok r (List.mem_of_mem_tail hr)⟩
  have hn : (pcsOf rows).length ≤ 35 := by
    have h1 := pcs_len rows.tail
    have h2 : rows.tail.length ≤ 10 := by rw [List.length_tail]; omega
    show (pcsFrom rows.tail).length + 1 ≤ 35
    omega
  have hin : ∀ it ∈ itemsOf rows, InSgl it.2 := fun it h => by
    rcases List.mem_cons.mp h with rfl | h
    · exact insgl_told (.inr (.inl rfl)) _
    · exact insgl_from _ it h
  have hokp : ∀ p ∈ pcsOf rows, OkPc p := A.left fun _ _ h => h.1
  refine ⟨flat_of hne, hokp, A.len, fun k pc it h1 h2 => ?_, A.right fun _ _ h => ⟨okS_small h.2.1.1, okS_small h.2.1.2⟩, ?_, by omega, ?_⟩
  · obtain ⟨_, _, o, ht, ho⟩ := A.at k pc it h1 h2
    exact ⟨o, ht, fun x hx => hin it (List.mem_of_getElem? h2) x ((ho x).mp hx), fun x _ => ho x⟩
  · rw [flat_of hne]
    have h1 := jsum_rows hok hl
    have h2 := jn_len [44, 32] (rows.map showRow)
    have h3 : (showRows rows).length = (jn [44, 32] (rows.map showRow)).length + 2 := by simp [showRows]
    have h4 : jsum [44, 32] (rows.map showRow) ≤ 2000 := by
      unfold jsum
      have := sum_le_mul (l := rows.map showRow) (k := 102) fun x hx => by
        obtain ⟨r, hr, rfl⟩ := List.mem_map.mp hx
        exact showRow_len (hok r hr)
      rw [List.length_map] at this ⊢
      simp only [List.length_cons, List.length_nil]
      omega
    omega
  · unfold jsum
    have := sum_le_mul (l := (pcsOf rows).map Pc.out) (k := 2010) fun x hx => by
      obtain ⟨p, hp, rfl⟩ := List.mem_map.mp hx
      exact out_len (hokp p hp)
    rw [List.length_map] at this ⊢
    simp only [List.length_nil]
    omega
end Mine
end

section
open PySem PySem.W PyProof.Rows PySem.Calls
set_option Elab.async false
set_option maxRecDepth 100000
set_option maxHeartbeats 8000000
set_option linter.unusedVariables false
namespace Mine
theorem concs_are {φ : PH} : ∀ {vs : List Value} {ns : List Int}, IntsAre vs ns → Concs φ (vints ns) vs
  | _, _, .nil => .nil
  | _, _, .cons n t h => .cons (.int n t) (concs_are h)
theorem law_end {w : World} {s₀ s₁ : Shared} {mg mb : Str → Option Value} {mean : ExcName → Option Value} {loose : List Str} {ns : List Int} {l fa : Addr} {items : List Value} {h₁ : Heap} {tk : Nat} {o1 o2 : Obj} {u1 u2 : Option Value} {cd : Value} {m : Str → Option Value} {E : Value → Shared → Prop}
    (hW : Well w.params s₁.heap (.ref l) (ofPy (PyData.list (ns.map PyData.int)))) (hL : (ghostOf s₁.heap [(61, 57)]).IsList l items.toArray) (hI : IntsAre items ns) (hns : ¬ ((63 : Nat) : Int) < (ns.length : Int)) (hg : s₁.gens = #[])
    (X' : (KF w.params).In (ghostOf s₁.heap [(61, 57)])) (T' : Top topProg loose mean mg mb (ghostOf s₁.heap [(61, 57)])) (F' : Fr (ghostOf s₁.heap [(61, 57)]) s₁.heap.objs.size h₁ m) (hm : m "script" = some (.ref l))
    (N' : News (ghostOf s₁.heap [(61, 57)]) s₁.heap.objs.size h₁ [(s₁.heap.objs.size + 1 + 1, o2), (s₁.heap.objs.size + 1, o1), (57, tabObj #[])]) (d2 : o2.data = .cell u2) (d1 : o1.data = .cell u1)
    (C : CodeHd (ghostOf s₁.heap [(61, 57)]) 61 57) (l0 : 57 < s₁.heap.objs.size) :
    wpAny (model Challenge.rw_kt0020_01.row.prog w) (callerA.deeper (envOfC "law" lawSc s₁.heap.objs.size fa cd)) (execs lawB (envOfC "law" lawSc s₁.heap.objs.size fa cd))
      (fun f s' => GoodX Challenge.rw_kt0020_01.row.claim (classAt s₀.heap) (ExcName.means s₀.heap) [ofPy (PyData.list (ns.map PyData.int))] { s₁ with heap := ghostOf s₁.heap [(61, 57)] } (.ok (.ret (match f with | .ret v => v | _ => .none))) s' ∧ GrownAll [(61, 57)] s'.heap)
      E { heap := h₁, gens := s₁.gens, drawn := s₁.drawn, toks := tk, os := s₁.os } := by
  have hbig : 157 < s₁.heap.objs.size := by
    have h := Heap.lt_size (X' 157 _ rfl)
    rwa [show (ghostOf s₁.heap [(61, 57)]).objs.size = s₁.heap.objs.size from hideAll_size _ _] at h
  have hgb : AllBare s₁.gens := AllBare.of_eq hg
  have N2 := N' (s₁.heap.objs.size + 1 + 1, o2) (.head _)
  have N1 := N' (s₁.heap.objs.size + 1, o1) (.tail _ (.head _))
  have N0 := N' (57, tabObj #[]) (.tail _ (.tail _ (.head _)))
  have hob : (ghostOf s₁.heap [(61, 57)]).get? l = some (lob items.toArray 0 #[]) := by
    obtain ⟨o, e1, e2, n, e3⟩ := hL
    have e4 : s₁.heap.get? l = some o := of_hideAll _ e1
    simp only [ofPy] at hW
    cases hW with
    | list e _ =>
      rw [e4] at e
      have e5 := Option.some.inj e
      rw [e1, e5]
      rw [e5] at e3
      have e6 : _ = Data.seq items.toArray n := e3
      injection e6 with e7 e8
      rw [e7]; rfl
  have hcc : Concs (fun a => (ghostOf s₁.heap [(61, 57)]).get? a) (vints ns) items.toArray.toList := concs_are hI
  have G : Gl (cxLaw w (ghostOf s₁.heap [(61, 57)]) s₁.os callerA s₁.heap.objs.size fa cd) :=
    { K := X', T := ⟨mg, mb, T'.g, T'.b, T'.builtins, T'.bmain⟩, lim := T'.nolimit, dig := T'.nodigits, gl := rfl, bl := rfl, fn := rfl
      dep := by show callerA.depth + 1 ≤ 600; decide +kernel
      un := by show callerA.units + 3 ≤ 5000; decide +kernel
      gd := rfl
      tn := ⟨fun q => by
        have : (57 : Nat) = s₁.heap.objs.size ∨ 57 = s₁.heap.objs.size + 1 ∨ 57 = s₁.heap.objs.size + 2 := by simpa [cxLaw, tabP] using q
        omega, fun q => (by cases q)⟩ }
  have R := rel_law (w := w) (os := s₁.os) (drawn := s₁.drawn) (A := callerA) (fa := fa) (cd := cd) F'.keep F'.ns hm hob hcc N1.1 d1 N2.1 d2 (ghost_fresh (push_new s₁.heap)) N1.2.2 N2.2.2 N0.2.2 ⟨(C.keeps F'.keep).code N0.1 (show TriplesOk #[].toList from trivial), (C.keeps F'.keep).tab N0.1⟩ hgb
  refine wpAny_mono (law_run (L := s₁.heap.objs.size) (ns := ns) (tk := tk) (pcs := pcsOf (rowsOf ns)) G (by decide +kernel) (by decide +kernel) rfl rfl (Nat.lt_trans (show 100 < 157 by decide) hbig) R F'.ns hm (.list hob hcc) (by omega) (law_ok (rowsOf_ok ns) (rowsOf_ne ns) (rowsOf_len ns)) (rowsOf_ok ns) (rowsOf_ne ns) (rowsOf_len ns)) (fun f s' hp => ?_) fun _ _ hf => hf.elim
  obtain ⟨rfl, hk, hos, hgn, ps, ht⟩ := hp
  exact ⟨⟨⟨.bool true, .bool true, [], rfl, fun _ => rfl, .bool true, by kernel_rfl, fun _ => ⟨List.nodup_nil, fun a ha => (by cases ha)⟩⟩, hk, hos, hgn⟩, ⟨ps, ht.2⟩, trivial⟩
end Mine
end

section
open PySem PySem.W PyProof.Rows Mine
set_option Elab.async false
set_option maxRecDepth 100000
set_option maxHeartbeats 8000000
theorem PySem.Challenge.cw_kt0020_01_holds : PySem.Challenge.rw_kt0020_01.Holds := by
  refine holds_law (by kernel_rfl) fun said => ?_
  refine holds_open (q := vw) (loose := loose0) (Xt := fun s => xlAt vw [] s && recOk (RowW.records (Challenge.rw_kt0020_01.row.toRowW)) s) (XP := XL vw [])
    (Yf := Hook.obs (kmHook KF as0 (fun _ => by kernel_rfl) [57])) (Ya := Hook.val (kmHook KF as0 (fun _ => by kernel_rfl) [57])) (YP := Hook.says (kmHook KF as0 (fun _ => by kernel_rfl) [57]))
    (N := 4322) left0 (Hook.of hook0) (Hook.keeps hook0) (fun s e => xl_of s (Bool.and_eq_true_iff.mp e).1) XL.keeps (by rfl) (by rfl) (by rfl) (fun s e => recFacts_of (Bool.and_eq_true_iff.mp e).2) (by rfl) said (by decide +kernel) ⟨rfl, rfl, rfl, rfl, rfl, by decide +kernel⟩ ?hw ?hc
  case hw => w_witness2
  case hc =>
    clear said
    w_strict (
      k_fill
      intro w s₀ s₁ mg mb G Y fa o pm cd doc dV kV ho hd' hcd hD hmg hg args vals as hpre hlay hrd hwl hlo
      have KX := km_in_of Y
      km_tabs Y
      have X := (Ground.X G).1
      have V := (Ground.X G).2
      refine Ground.open G ?_
      intro T B D TE TW
      try (refine guard_noD D (by decide +kernel) ?_; clear D)
      km_lay T hmg ho hd' cd
      clear hmg
      wrow_args hpre hlay hrd hwl hlo
      all_goals (
        first | refine callC_kw (enter_call ?_) | refine enter_call ?_
        w_top on
        refine my_post hT9 (fun _ _ => rfl) ?_
        w_call any ho hd' hcd hD T F
        clear hd'
        kn_ghosts F T
        k_drop
        skip)
      (all_goals try k_fold)
      rename Well _ _ _ _ => hW
      rename IntsAre _ _ => hI
      rename ¬ _ < _ => hns
      rename Frag.In _ _ => hX
      rename Top _ _ _ _ _ (ghostOf _ _) => hT
      rename Fr _ _ _ _ => hF
      rename News _ _ _ _ => hN
      rename 57 < _ => h57
      rename_i d2 d1 _ _
      exact law_end hW lifted hI hns hg hX hT hF (by rfl) hN d2 d1 codeHd h57)
end

