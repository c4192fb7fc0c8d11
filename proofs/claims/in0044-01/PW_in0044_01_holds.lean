import PyProof.Rows.All
import PyProof.ToksMono
import PyProof.ExcStrAll.TypeError
import PyProof.ListIndexNeg
import PyProof.ListRange
import PyProof.StrBlockH
import KE.KUnpack
import KE.KSortKey
import Wide.FinOn
import OpenK.AllK
import Wide.All
import PySem.Challenge.RW_in0044_01
section
open PySem PySem.W PyProof.Rows
set_option Elab.async false
namespace Mine
/-- what the text's defs hold -/
noncomputable def hd.fnAt (i : Nat) : Option (Arguments × List Stmt × Scope) := match PySem.Challenge.pw_in0044_01.main.body[i]? with
  | some (.FunctionDef _ a b _ _ _ sc _ _ _) => some (a, b, sc)
  | _ => none
set_option maxRecDepth 100000 in
set_option maxHeartbeats 4000000 in
@[reducible] noncomputable def hd.f38 : {x : Arguments × List Stmt × Scope // hd.fnAt 2 = some x} := by
  refine ⟨?x, ?h⟩
  case h =>
    dsimp only [hd.fnAt, PySem.Challenge.pw_in0044_01, List.getElem?_cons_zero, List.getElem?_cons_succ]
    rfl
set_option maxRecDepth 100000 in
set_option maxHeartbeats 4000000 in
@[reducible] noncomputable def hd.f45 : {x : Arguments × List Stmt × Scope // hd.fnAt 3 = some x} := by
  refine ⟨?x, ?h⟩
  case h =>
    dsimp only [hd.fnAt, PySem.Challenge.pw_in0044_01, List.getElem?_cons_zero, List.getElem?_cons_succ]
    rfl
set_option maxRecDepth 100000 in
set_option maxHeartbeats 4000000 in
@[reducible] noncomputable def hd.f52 : {x : Arguments × List Stmt × Scope // hd.fnAt 4 = some x} := by
  refine ⟨?x, ?h⟩
  case h =>
    dsimp only [hd.fnAt, PySem.Challenge.pw_in0044_01, List.getElem?_cons_zero, List.getElem?_cons_succ]
    rfl
set_option maxRecDepth 100000 in
set_option maxHeartbeats 4000000 in
@[reducible] noncomputable def hd.f69 : {x : Arguments × List Stmt × Scope // hd.fnAt 8 = some x} := by
  refine ⟨?x, ?h⟩
  case h =>
    dsimp only [hd.fnAt, PySem.Challenge.pw_in0044_01, List.getElem?_cons_zero, List.getElem?_cons_succ]
    rfl
set_option maxRecDepth 100000 in
set_option maxHeartbeats 4000000 in
@[reducible] noncomputable def hd.f76 : {x : Arguments × List Stmt × Scope // hd.fnAt 10 = some x} := by
  refine ⟨?x, ?h⟩
  case h =>
    dsimp only [hd.fnAt, PySem.Challenge.pw_in0044_01, List.getElem?_cons_zero, List.getElem?_cons_succ]
    rfl
set_option maxRecDepth 100000 in
set_option maxHeartbeats 4000000 in
@[reducible] noncomputable def hd.f83 : {x : Arguments × List Stmt × Scope // hd.fnAt 12 = some x} := by
  refine ⟨?x, ?h⟩
  case h =>
    dsimp only [hd.fnAt, PySem.Challenge.pw_in0044_01, List.getElem?_cons_zero, List.getElem?_cons_succ]
    rfl
set_option maxRecDepth 100000 in
set_option maxHeartbeats 4000000 in
@[reducible] noncomputable def hd.f90 : {x : Arguments × List Stmt × Scope // hd.fnAt 13 = some x} := by
  refine ⟨?x, ?h⟩
  case h =>
    dsimp only [hd.fnAt, PySem.Challenge.pw_in0044_01, List.getElem?_cons_zero, List.getElem?_cons_succ]
    rfl
set_option maxRecDepth 100000 in
set_option maxHeartbeats 4000000 in
@[reducible] noncomputable def hd.f97 : {x : Arguments × List Stmt × Scope // hd.fnAt 15 = some x} := by
  refine ⟨?x, ?h⟩
  case h =>
    dsimp only [hd.fnAt, PySem.Challenge.pw_in0044_01, List.getElem?_cons_zero, List.getElem?_cons_succ]
    rfl
set_option maxRecDepth 100000 in
set_option maxHeartbeats 4000000 in
@[reducible] noncomputable def hd.f104 : {x : Arguments × List Stmt × Scope // hd.fnAt 16 = some x} := by
  refine ⟨?x, ?h⟩
  case h =>
    dsimp only [hd.fnAt, PySem.Challenge.pw_in0044_01, List.getElem?_cons_zero, List.getElem?_cons_succ]
    rfl
set_option maxRecDepth 100000 in
set_option maxHeartbeats 4000000 in
@[reducible] noncomputable def hd.f111 : {x : Arguments × List Stmt × Scope // hd.fnAt 17 = some x} := by
  refine ⟨?x, ?h⟩
  case h =>
    dsimp only [hd.fnAt, PySem.Challenge.pw_in0044_01, List.getElem?_cons_zero, List.getElem?_cons_succ]
    rfl
set_option maxRecDepth 100000 in
set_option maxHeartbeats 4000000 in
@[reducible] noncomputable def hd.f118 : {x : Arguments × List Stmt × Scope // hd.fnAt 18 = some x} := by
  refine ⟨?x, ?h⟩
  case h =>
    dsimp only [hd.fnAt, PySem.Challenge.pw_in0044_01, List.getElem?_cons_zero, List.getElem?_cons_succ]
    rfl
set_option maxRecDepth 100000 in
set_option maxHeartbeats 4000000 in
@[reducible] noncomputable def hd.f123 : {x : Arguments × List Stmt × Scope // hd.fnAt 19 = some x} := by
  refine ⟨?x, ?h⟩
  case h =>
    dsimp only [hd.fnAt, PySem.Challenge.pw_in0044_01, List.getElem?_cons_zero, List.getElem?_cons_succ]
    rfl
set_option maxRecDepth 100000 in
set_option maxHeartbeats 4000000 in
@[reducible] noncomputable def hd.f130 : {x : Arguments × List Stmt × Scope // hd.fnAt 20 = some x} := by
  refine ⟨?x, ?h⟩
  case h =>
    dsimp only [hd.fnAt, PySem.Challenge.pw_in0044_01, List.getElem?_cons_zero, List.getElem?_cons_succ]
    rfl
set_option maxRecDepth 100000 in
set_option maxHeartbeats 4000000 in
@[reducible] noncomputable def hd.f135 : {x : Arguments × List Stmt × Scope // hd.fnAt 21 = some x} := by
  refine ⟨?x, ?h⟩
  case h =>
    dsimp only [hd.fnAt, PySem.Challenge.pw_in0044_01, List.getElem?_cons_zero, List.getElem?_cons_succ]
    rfl
set_option maxRecDepth 100000 in
set_option maxHeartbeats 4000000 in
@[reducible] noncomputable def hd.f142 : {x : Arguments × List Stmt × Scope // hd.fnAt 22 = some x} := by
  refine ⟨?x, ?h⟩
  case h =>
    dsimp only [hd.fnAt, PySem.Challenge.pw_in0044_01, List.getElem?_cons_zero, List.getElem?_cons_succ]
    rfl
set_option maxRecDepth 100000 in
set_option maxHeartbeats 4000000 in
@[reducible] noncomputable def hd.f147 : {x : Arguments × List Stmt × Scope // hd.fnAt 23 = some x} := by
  refine ⟨?x, ?h⟩
  case h =>
    dsimp only [hd.fnAt, PySem.Challenge.pw_in0044_01, List.getElem?_cons_zero, List.getElem?_cons_succ]
    rfl
set_option maxRecDepth 100000 in
set_option maxHeartbeats 4000000 in
@[reducible] noncomputable def hd.f152 : {x : Arguments × List Stmt × Scope // hd.fnAt 24 = some x} := by
  refine ⟨?x, ?h⟩
  case h =>
    dsimp only [hd.fnAt, PySem.Challenge.pw_in0044_01, List.getElem?_cons_zero, List.getElem?_cons_succ]
    rfl
set_option maxRecDepth 100000 in
set_option maxHeartbeats 4000000 in
noncomputable def hd.heap_39 : Params → Frag := fun P =>
  (nat_lit 2, { cls := .none, data := .dict #[{ hash := PyData.keyHash P (Str.ofString "\x69mport.loaded._sre"), key := .str (Str.ofString "\x69mport.loaded._sre") 183, val := .bool true }, { hash := PyData.keyHash P (Str.ofString "class._frozen_importlib.BuiltinImporter"), key := .str (Str.ofString "class._frozen_importlib.BuiltinImporter") 185, val := .ref 14 }, { hash := PyData.keyHash P (Str.ofString "watched.\x69mport"), key := .str (Str.ofString "watched.\x69mport") 206, val := .ref 18 }, { hash := PyData.keyHash P (Str.ofString "class._frozen_importlib.ModuleSpec"), key := .str (Str.ofString "class._frozen_importlib.ModuleSpec") 216, val := .ref 22 }, { hash := PyData.keyHash P (Str.ofString "sys.modules.booked-epoch"), key := .str (Str.ofString "sys.modules.booked-epoch") 245, val := .int 3 0 }, { hash := PyData.keyHash P (Str.ofString "\x69mport.later-laid._sre"), key := .str (Str.ofString "\x69mport.later-laid._sre") 270, val := .bool true }, { hash := PyData.keyHash P (Str.ofString "watched.library"), key := .str (Str.ofString "watched.library") 272, val := .ref 27 }, { hash := PyData.keyHash P (Str.ofString "watched.library-objects"), key := .str (Str.ofString "watched.library-objects") 0, val := .str (Str.ofString "\x0c") 0 }, { hash := PyData.keyHash P (Str.ofString "watched.library-deep._sre"), key := .str (Str.ofString "watched.library-deep._sre") 273, val := .str (Str.ofString "\x04\x00\x00\x0b\x04\x00\x00\x0b\x04\x00\x00\x03\x04\x00\x00\x0b\x08\x04dict\x02") 0 }] 9 }) ::
  (nat_lit 3, { cls := .type "dict", data := .dict #[{ hash := PyData.keyHash P (Str.ofString "__name__"), key := .str (Str.ofString "__name__") 165, val := .str (Str.ofString "law_in0044_01") 548 }, { hash := PyData.keyHash P (Str.ofString "__doc__"), key := .str (Str.ofString "__doc__") 166, val := .none }, { hash := PyData.keyHash P (Str.ofString "__package__"), key := .str (Str.ofString "__package__") 167, val := .none }, { hash := PyData.keyHash P (Str.ofString "__loader__"), key := .str (Str.ofString "__loader__") 168, val := .builtin "__main__.__loader__#opaque" }, { hash := PyData.keyHash P (Str.ofString "__spec__"), key := .str (Str.ofString "__spec__") 169, val := .none }, { hash := PyData.keyHash P (Str.ofString "__annotations__"), key := .str (Str.ofString "__annotations__") 170, val := .ref 6 }, { hash := PyData.keyHash P (Str.ofString "__builtins__"), key := .str (Str.ofString "__builtins__") 171, val := .ref 4 }, { hash := PyData.keyHash P (Str.ofString "__file__"), key := .str (Str.ofString "__file__") 173, val := .str (Str.ofString "/claim/cut.py") 172 }, { hash := PyData.keyHash P (Str.ofString "__cached__"), key := .str (Str.ofString "__cached__") 174, val := .none }, { hash := PyData.keyHash P (Str.ofString "_sre"), key := .str (Str.ofString "_sre") 275, val := .ref 12 }, { hash := PyData.keyHash P (Str.ofString "_strcoll"), key := .str (Str.ofString "_strcoll") 291, val := .ref 38 }, { hash := PyData.keyHash P (Str.ofString "_strxfrm"), key := .str (Str.ofString "_strxfrm") 298, val := .ref 45 }, { hash := PyData.keyHash P (Str.ofString "_build_localename"), key := .str (Str.ofString "_build_localename") 307, val := .ref 52 }, { hash := PyData.keyHash P (Str.ofString "_twin_re_1"), key := .str (Str.ofString "_twin_re_1") 345, val := .ref 57 }, { hash := PyData.keyHash P (Str.ofString "_special_chars_map"), key := .str (Str.ofString "_special_chars_map") 493, val := .ref 59 }, { hash := PyData.keyHash P (Str.ofString "escape"), key := .str (Str.ofString "escape") 500, val := .ref 69 }, { hash := PyData.keyHash P (Str.ofString "_translate"), key := .str (Str.ofString "_translate") 521, val := .ref 76 }, { hash := PyData.keyHash P (Str.ofString "sorted_list_difference"), key := .str (Str.ofString "sorted_list_difference") 537, val := .ref 83 }, { hash := PyData.keyHash P (Str.ofString "unorderable_list_difference"), key := .str (Str.ofString "unorderable_list_difference") 547, val := .ref 90 }, { hash := PyData.keyHash P (Str.ofString "_law_pairs"), key := .str (Str.ofString "_law_pairs") 559, val := .ref 97 }, { hash := PyData.keyHash P (Str.ofString "_law_patterns"), key := .str (Str.ofString "_law_patterns") 565, val := .ref 104 }, { hash := PyData.keyHash P (Str.ofString "_law_means"), key := .str (Str.ofString "_law_means") 574, val := .ref 111 }, { hash := PyData.keyHash P (Str.ofString "_law_sign"), key := .str (Str.ofString "_law_sign") 584, val := .ref 118 }, { hash := PyData.keyHash P (Str.ofString "_law_taken"), key := .str (Str.ofString "_law_taken") 590, val := .ref 123 }, { hash := PyData.keyHash P (Str.ofString "_law_lacking"), key := .str (Str.ofString "_law_lacking") 600, val := .ref 130 }, { hash := PyData.keyHash P (Str.ofString "_law_told"), key := .str (Str.ofString "_law_told") 606, val := .ref 135 }, { hash := PyData.keyHash P (Str.ofString "_law_refused"), key := .str (Str.ofString "_law_refused") 614, val := .ref 142 }, { hash := PyData.keyHash P (Str.ofString "_law_steps"), key := .str (Str.ofString "_law_steps") 620, val := .ref 147 }, { hash := PyData.keyHash P (Str.ofString "law"), key := .str (Str.ofString "law") 626, val := .ref 152 }] 29 }) ::
  (nat_lit 6, { cls := .type "dict", data := .dict #[] }) ::
  (nat_lit 11, { cls := .type "dict", data := .dict #[{ hash := PyData.keyHash P (Str.ofString "__name__"), key := .str (Str.ofString "__name__") 247, val := .str (Str.ofString "_sre") 246 }, { hash := PyData.keyHash P (Str.ofString "__doc__"), key := .str (Str.ofString "__doc__") 248, val := .none }, { hash := PyData.keyHash P (Str.ofString "__package__"), key := .str (Str.ofString "__package__") 250, val := .str (Str.ofString "") 249 }, { hash := PyData.keyHash P (Str.ofString "__loader__"), key := .str (Str.ofString "__loader__") 251, val := .builtin "off-the-table:_sre.__loader__:shared#opaque" }, { hash := PyData.keyHash P (Str.ofString "__spec__"), key := .str (Str.ofString "__spec__") 252, val := .builtin "off-the-table:_sre.__spec__:shared#opaque" }, { hash := PyData.keyHash P (Str.ofString "compile"), key := .str (Str.ofString "compile") 253, val := .builtin "_sre.compile" }, { hash := PyData.keyHash P (Str.ofString "template"), key := .str (Str.ofString "template") 254, val := .builtin "off-the-table:_sre.template:shared#opaque" }, { hash := PyData.keyHash P (Str.ofString "getcodesize"), key := .str (Str.ofString "getcodesize") 255, val := .builtin "off-the-table:_sre.getcodesize:shared#opaque" }, { hash := PyData.keyHash P (Str.ofString "ascii_iscased"), key := .str (Str.ofString "ascii_iscased") 256, val := .builtin "off-the-table:_sre.ascii_iscased:shared#opaque" }, { hash := PyData.keyHash P (Str.ofString "unicode_iscased"), key := .str (Str.ofString "unicode_iscased") 257, val := .builtin "off-the-table:_sre.unicode_iscased:shared#opaque" }, { hash := PyData.keyHash P (Str.ofString "ascii_tolower"), key := .str (Str.ofString "ascii_tolower") 258, val := .builtin "off-the-table:_sre.ascii_tolower:shared#opaque" }, { hash := PyData.keyHash P (Str.ofString "unicode_tolower"), key := .str (Str.ofString "unicode_tolower") 259, val := .builtin "off-the-table:_sre.unicode_tolower:shared#opaque" }, { hash := PyData.keyHash P (Str.ofString "MAGIC"), key := .str (Str.ofString "MAGIC") 261, val := .int 20230612 260 }, { hash := PyData.keyHash P (Str.ofString "CODESIZE"), key := .str (Str.ofString "CODESIZE") 263, val := .int 4 262 }, { hash := PyData.keyHash P (Str.ofString "MAXREPEAT"), key := .str (Str.ofString "MAXREPEAT") 265, val := .int 4294967295 264 }, { hash := PyData.keyHash P (Str.ofString "MAXGROUPS"), key := .str (Str.ofString "MAXGROUPS") 267, val := .int 1073741823 266 }, { hash := PyData.keyHash P (Str.ofString "copyright"), key := .str (Str.ofString "copyright") 269, val := .str (Str.ofString " SRE 2.2.2 Copyright (c) 1997-2002 by Secret Labs AB ") 268 }] 17 }) ::
  (nat_lit 12, { cls := .type "module", dict := some 11 }) ::
  (nat_lit 32, { cls := .type "tuple", data := .seq #[] }) ::
  (nat_lit 34, { cls := .type "tuple", data := .seq #[.str (Str.ofString "a") 287, .str (Str.ofString "b") 288] }) ::
  (nat_lit 35, { cls := .type "tuple", data := .seq #[] }) ::
  (nat_lit 37, { cls := .type "code", data := .fields #[.str (Str.ofString "_strcoll") 284, .str (Str.ofString "_strcoll") 285, .str (Str.ofString "/claim/cut.py") 286, .int 3 0, .int 2 0, .int 0 0, .int 0 0, .int 3 0, .ref 32, .bool true, .int 276 0, .ref 33, .none, .ref 34, .ref 35, .ref 36, .int 289 0, .int 3 0, .str (Str.ofString "/claim/cut.py") 290] }) ::
  (nat_lit 38, { cls := .type "function", data := .func { name := Str.ofString "_strcoll", qualname := Str.ofString "_strcoll", params := hd.f38.val.1, body := .stmts hd.f38.val.2.1, scope := hd.f38.val.2.2, globals := 3, closure := [], defaults := .none, kwdefaults := .none, pyModule := .str (Str.ofString "cpy313.locale") 282, code := .ref 37 } }) ::
  (nat_lit 39, { cls := .type "tuple", data := .seq #[] }) ::
  (nat_lit 41, { cls := .type "tuple", data := .seq #[.str (Str.ofString "s") 295] }) ::
  (nat_lit 42, { cls := .type "tuple", data := .seq #[] }) ::
  (nat_lit 44, { cls := .type "code", data := .fields #[.str (Str.ofString "_strxfrm") 292, .str (Str.ofString "_strxfrm") 293, .str (Str.ofString "/claim/cut.py") 294, .int 5 0, .int 1 0, .int 0 0, .int 0 0, .int 3 0, .ref 39, .bool true, .int 276 0, .ref 40, .none, .ref 41, .ref 42, .ref 43, .int 296 0, .int 5 0, .str (Str.ofString "/claim/cut.py") 297] }) ::
  (nat_lit 45, { cls := .type "function", data := .func { name := Str.ofString "_strxfrm", qualname := Str.ofString "_strxfrm", params := hd.f45.val.1, body := .stmts hd.f45.val.2.1, scope := hd.f45.val.2.2, globals := 3, closure := [], defaults := .none, kwdefaults := .none, pyModule := .str (Str.ofString "cpy313.locale") 282, code := .ref 44 } }) ::
  (nat_lit 46, { cls := .type "tuple", data := .seq #[] }) ::
  (nat_lit 48, { cls := .type "tuple", data := .seq #[.str (Str.ofString "localetuple") 302, .str (Str.ofString "language") 303, .str (Str.ofString "encoding") 304] }) ::
  (nat_lit 49, { cls := .type "tuple", data := .seq #[] }) ::
  (nat_lit 51, { cls := .type "code", data := .fields #[.str (Str.ofString "_build_localename") 299, .str (Str.ofString "_build_localename") 300, .str (Str.ofString "/claim/cut.py") 301, .int 7 0, .int 1 0, .int 0 0, .int 0 0, .int 3 0, .ref 46, .bool true, .int 276 0, .ref 47, .none, .ref 48, .ref 49, .ref 50, .int 305 0, .int 7 0, .str (Str.ofString "/claim/cut.py") 306] }) ::
  (nat_lit 52, { cls := .type "function", data := .func { name := Str.ofString "_build_localename", qualname := Str.ofString "_build_localename", params := hd.f52.val.1, body := .stmts hd.f52.val.2.1, scope := hd.f52.val.2.2, globals := 3, closure := [], defaults := .none, kwdefaults := .none, pyModule := .str (Str.ofString "cpy313.locale") 282, code := .ref 51 } }) ::
  (nat_lit 56, { cls := .type "tuple", data := .seq #[.int 14 0, .int 14 0, .int 4 0, .int 1 0, .int 1 0, .int 9 0, .int 0 0, .int 64 0, .int 0 0, .int 1342177280 0, .int 0 0, .int 0 0, .int 0 0, .int 0 0, .int 0 0, .int 17 0, .int 0 0, .int 13 0, .int 11 0, .int 9 0, .int 0 0, .int 64 0, .int 0 0, .int 1342177280 0, .int 0 0, .int 0 0, .int 0 0, .int 0 0, .int 0 0, .int 17 0, .int 1 0, .int 1 0] }) ::
  (nat_lit 57, { cls := .type "re.Pattern", data := .fields #[.str (Str.ofString "([&~|])") 309, .int 32 344, .int 1 0, .none, .none, .ref 56, .int 0 0] }) ::
  (nat_lit 59, { cls := .type "dict", data := .dict #[{ hash := 40, key := .int 40 349, val := .str (Str.ofString "\\(") 353 }, { hash := 41, key := .int 41 355, val := .str (Str.ofString "\\)") 359 }, { hash := 91, key := .int 91 361, val := .str (Str.ofString "\\[") 365 }, { hash := 93, key := .int 93 367, val := .str (Str.ofString "\\]") 371 }, { hash := 123, key := .int 123 373, val := .str (Str.ofString "\\{") 377 }, { hash := 125, key := .int 125 379, val := .str (Str.ofString "\\}") 383 }, { hash := 63, key := .int 63 385, val := .str (Str.ofString "\\?") 389 }, { hash := 42, key := .int 42 391, val := .str (Str.ofString "\\*") 395 }, { hash := 43, key := .int 43 397, val := .str (Str.ofString "\\+") 401 }, { hash := 45, key := .int 45 403, val := .str (Str.ofString "\\-") 407 }, { hash := 124, key := .int 124 409, val := .str (Str.ofString "\\|") 413 }, { hash := 94, key := .int 94 415, val := .str (Str.ofString "\\^") 419 }, { hash := 36, key := .int 36 421, val := .str (Str.ofString "\\$") 425 }, { hash := 92, key := .int 92 427, val := .str (Str.ofString "\\\\") 431 }, { hash := 46, key := .int 46 433, val := .str (Str.ofString "\\.") 437 }, { hash := 38, key := .int 38 439, val := .str (Str.ofString "\\&") 443 }, { hash := 126, key := .int 126 445, val := .str (Str.ofString "\\~") 449 }, { hash := 35, key := .int 35 451, val := .str (Str.ofString "\\#") 455 }, { hash := 32, key := .int 32 457, val := .str (Str.ofString "\\ ") 461 }, { hash := 9, key := .int 9 463, val := .str (Str.ofString "\\\t") 467 }, { hash := 10, key := .int 10 469, val := .str (Str.ofString "\\\n") 473 }, { hash := 13, key := .int 13 475, val := .str (Str.ofString "\\\x0d") 479 }, { hash := 11, key := .int 11 481, val := .str (Str.ofString "\\\x0b") 485 }, { hash := 12, key := .int 12 487, val := .str (Str.ofString "\\\x0c") 491 }] 24 }) ::
  (nat_lit 63, { cls := .type "tuple", data := .seq #[] }) ::
  (nat_lit 65, { cls := .type "tuple", data := .seq #[.str (Str.ofString "pattern") 497] }) ::
  (nat_lit 66, { cls := .type "tuple", data := .seq #[] }) ::
  (nat_lit 68, { cls := .type "code", data := .fields #[.str (Str.ofString "escape") 494, .str (Str.ofString "escape") 495, .str (Str.ofString "/claim/cut.py") 496, .int 21 0, .int 1 0, .int 0 0, .int 0 0, .int 3 0, .ref 63, .bool true, .int 276 0, .ref 64, .none, .ref 65, .ref 66, .ref 67, .int 498 0, .int 21 0, .str (Str.ofString "/claim/cut.py") 499] }) ::
  (nat_lit 69, { cls := .type "function", data := .func { name := Str.ofString "escape", qualname := Str.ofString "escape", params := hd.f69.val.1, body := .stmts hd.f69.val.2.1, scope := hd.f69.val.2.2, globals := 3, closure := [], defaults := .none, kwdefaults := .none, pyModule := .str (Str.ofString "re") 346, code := .ref 68 } }) ::
  (nat_lit 70, { cls := .type "tuple", data := .seq #[] }) ::
  (nat_lit 72, { cls := .type "tuple", data := .seq #[.str (Str.ofString "pat") 506, .str (Str.ofString "STAR") 507, .str (Str.ofString "QUESTION_MARK") 508, .str (Str.ofString "res") 509, .str (Str.ofString "add") 510, .str (Str.ofString "i") 511, .str (Str.ofString "n") 512, .str (Str.ofString "c") 513, .str (Str.ofString "j") 514, .str (Str.ofString "stuff") 515, .str (Str.ofString "chunks") 516, .str (Str.ofString "k") 517, .str (Str.ofString "chunk") 518] }) ::
  (nat_lit 73, { cls := .type "tuple", data := .seq #[] }) ::
  (nat_lit 75, { cls := .type "code", data := .fields #[.str (Str.ofString "_translate") 503, .str (Str.ofString "_translate") 504, .str (Str.ofString "/claim/cut.py") 505, .int 28 0, .int 3 0, .int 0 0, .int 0 0, .int 3 0, .ref 70, .bool true, .int 276 0, .ref 71, .none, .ref 72, .ref 73, .ref 74, .int 519 0, .int 28 0, .str (Str.ofString "/claim/cut.py") 520] }) ::
  (nat_lit 76, { cls := .type "function", data := .func { name := Str.ofString "_translate", qualname := Str.ofString "_translate", params := hd.f76.val.1, body := .stmts hd.f76.val.2.1, scope := hd.f76.val.2.2, globals := 3, closure := [], defaults := .none, kwdefaults := .none, pyModule := .str (Str.ofString "cpy313.fnmatch") 501, code := .ref 75 } }) ::
  (nat_lit 77, { cls := .type "tuple", data := .seq #[] }) ::
  (nat_lit 79, { cls := .type "tuple", data := .seq #[.str (Str.ofString "expected") 527, .str (Str.ofString "actual") 528, .str (Str.ofString "i") 529, .str (Str.ofString "j") 530, .str (Str.ofString "missing") 531, .str (Str.ofString "unexpected") 532, .str (Str.ofString "e") 533, .str (Str.ofString "a") 534] }) ::
  (nat_lit 80, { cls := .type "tuple", data := .seq #[] }) ::
  (nat_lit 82, { cls := .type "code", data := .fields #[.str (Str.ofString "sorted_list_difference") 524, .str (Str.ofString "sorted_list_difference") 525, .str (Str.ofString "/claim/cut.py") 526, .int 91 0, .int 2 0, .int 0 0, .int 0 0, .int 3 0, .ref 77, .bool true, .int 276 0, .ref 78, .none, .ref 79, .ref 80, .ref 81, .int 535 0, .int 91 0, .str (Str.ofString "/claim/cut.py") 536] }) ::
  (nat_lit 83, { cls := .type "function", data := .func { name := Str.ofString "sorted_list_difference", qualname := Str.ofString "sorted_list_difference", params := hd.f83.val.1, body := .stmts hd.f83.val.2.1, scope := hd.f83.val.2.2, globals := 3, closure := [], defaults := .none, kwdefaults := .none, pyModule := .str (Str.ofString "cpy313.unittest.util") 522, code := .ref 82 } }) ::
  (nat_lit 84, { cls := .type "tuple", data := .seq #[] }) ::
  (nat_lit 86, { cls := .type "tuple", data := .seq #[.str (Str.ofString "expected") 541, .str (Str.ofString "actual") 542, .str (Str.ofString "missing") 543, .str (Str.ofString "item") 544] }) ::
  (nat_lit 87, { cls := .type "tuple", data := .seq #[] }) ::
  (nat_lit 89, { cls := .type "code", data := .fields #[.str (Str.ofString "unorderable_list_difference") 538, .str (Str.ofString "unorderable_list_difference") 539, .str (Str.ofString "/claim/cut.py") 540, .int 123 0, .int 2 0, .int 0 0, .int 0 0, .int 3 0, .ref 84, .bool true, .int 276 0, .ref 85, .none, .ref 86, .ref 87, .ref 88, .int 545 0, .int 123 0, .str (Str.ofString "/claim/cut.py") 546] }) ::
  (nat_lit 90, { cls := .type "function", data := .func { name := Str.ofString "unorderable_list_difference", qualname := Str.ofString "unorderable_list_difference", params := hd.f90.val.1, body := .stmts hd.f90.val.2.1, scope := hd.f90.val.2.2, globals := 3, closure := [], defaults := .none, kwdefaults := .none, pyModule := .str (Str.ofString "cpy313.unittest.util") 522, code := .ref 89 } }) ::
  (nat_lit 91, { cls := .type "tuple", data := .seq #[] }) ::
  (nat_lit 93, { cls := .type "tuple", data := .seq #[.str (Str.ofString "script") 553, .str (Str.ofString "pairs") 554, .str (Str.ofString "x") 555, .str (Str.ofString "pair") 556] }) ::
  (nat_lit 94, { cls := .type "tuple", data := .seq #[] }) ::
  (nat_lit 96, { cls := .type "code", data := .fields #[.str (Str.ofString "_law_pairs") 550, .str (Str.ofString "_law_pairs") 551, .str (Str.ofString "/claim/cut.py") 552, .int 133 0, .int 1 0, .int 0 0, .int 0 0, .int 3 0, .ref 91, .bool true, .int 276 0, .ref 92, .none, .ref 93, .ref 94, .ref 95, .int 557 0, .int 133 0, .str (Str.ofString "/claim/cut.py") 558] }) ::
  (nat_lit 97, { cls := .type "function", data := .func { name := Str.ofString "_law_pairs", qualname := Str.ofString "_law_pairs", params := hd.f97.val.1, body := .stmts hd.f97.val.2.1, scope := hd.f97.val.2.2, globals := 3, closure := [], defaults := .none, kwdefaults := .none, pyModule := .str (Str.ofString "law_in0044_01") 548, code := .ref 96 } }) ::
  (nat_lit 98, { cls := .type "tuple", data := .seq #[] }) ::
  (nat_lit 100, { cls := .type "tuple", data := .seq #[] }) ::
  (nat_lit 101, { cls := .type "tuple", data := .seq #[] }) ::
  (nat_lit 103, { cls := .type "code", data := .fields #[.str (Str.ofString "_law_patterns") 560, .str (Str.ofString "_law_patterns") 561, .str (Str.ofString "/claim/cut.py") 562, .int 139 0, .int 0 0, .int 0 0, .int 0 0, .int 3 0, .ref 98, .bool true, .int 276 0, .ref 99, .none, .ref 100, .ref 101, .ref 102, .int 563 0, .int 139 0, .str (Str.ofString "/claim/cut.py") 564] }) ::
  (nat_lit 104, { cls := .type "function", data := .func { name := Str.ofString "_law_patterns", qualname := Str.ofString "_law_patterns", params := hd.f104.val.1, body := .stmts hd.f104.val.2.1, scope := hd.f104.val.2.2, globals := 3, closure := [], defaults := .none, kwdefaults := .none, pyModule := .str (Str.ofString "law_in0044_01") 548, code := .ref 103 } }) ::
  (nat_lit 105, { cls := .type "tuple", data := .seq #[] }) ::
  (nat_lit 107, { cls := .type "tuple", data := .seq #[.str (Str.ofString "k") 569, .str (Str.ofString "language") 570, .str (Str.ofString "encoding") 571] }) ::
  (nat_lit 108, { cls := .type "tuple", data := .seq #[] }) ::
  (nat_lit 110, { cls := .type "code", data := .fields #[.str (Str.ofString "_law_means") 566, .str (Str.ofString "_law_means") 567, .str (Str.ofString "/claim/cut.py") 568, .int 141 0, .int 3 0, .int 0 0, .int 0 0, .int 3 0, .ref 105, .bool true, .int 276 0, .ref 106, .none, .ref 107, .ref 108, .ref 109, .int 572 0, .int 141 0, .str (Str.ofString "/claim/cut.py") 573] }) ::
  (nat_lit 111, { cls := .type "function", data := .func { name := Str.ofString "_law_means", qualname := Str.ofString "_law_means", params := hd.f111.val.1, body := .stmts hd.f111.val.2.1, scope := hd.f111.val.2.2, globals := 3, closure := [], defaults := .none, kwdefaults := .none, pyModule := .str (Str.ofString "law_in0044_01") 548, code := .ref 110 } }) ::
  (nat_lit 112, { cls := .type "tuple", data := .seq #[] }) ::
  (nat_lit 114, { cls := .type "tuple", data := .seq #[.str (Str.ofString "part") 578, .str (Str.ofString "sign") 579, .str (Str.ofString "rest") 580, .str (Str.ofString "within") 581] }) ::
  (nat_lit 115, { cls := .type "tuple", data := .seq #[] }) ::
  (nat_lit 117, { cls := .type "code", data := .fields #[.str (Str.ofString "_law_sign") 575, .str (Str.ofString "_law_sign") 576, .str (Str.ofString "/claim/cut.py") 577, .int 153 0, .int 2 0, .int 0 0, .int 0 0, .int 3 0, .ref 112, .bool true, .int 276 0, .ref 113, .none, .ref 114, .ref 115, .ref 116, .int 582 0, .int 153 0, .str (Str.ofString "/claim/cut.py") 583] }) ::
  (nat_lit 118, { cls := .type "function", data := .func { name := Str.ofString "_law_sign", qualname := Str.ofString "_law_sign", params := hd.f118.val.1, body := .stmts hd.f118.val.2.1, scope := hd.f118.val.2.2, globals := 3, closure := [], defaults := .none, kwdefaults := .none, pyModule := .str (Str.ofString "law_in0044_01") 548, code := .ref 117 } }) ::
  (nat_lit 119, { cls := .type "tuple", data := .seq #[] }) ::
  (nat_lit 122, { cls := .type "code", data := .fields #[.str (Str.ofString "_law_taken") 585, .str (Str.ofString "_law_taken") 586, .str (Str.ofString "/claim/cut.py") 587, .int 159 0, .int 2 0, .int 0 0, .int 0 0, .int 3 0, .ref 119, .bool true, .int 276 0, .ref 120, .none, .none, .none, .ref 121, .int 588 0, .int 159 0, .str (Str.ofString "/claim/cut.py") 589] }) ::
  (nat_lit 123, { cls := .type "function", data := .func { name := Str.ofString "_law_taken", qualname := Str.ofString "_law_taken", params := hd.f123.val.1, body := .stmts hd.f123.val.2.1, scope := hd.f123.val.2.2, globals := 3, closure := [], defaults := .none, kwdefaults := .none, pyModule := .str (Str.ofString "law_in0044_01") 548, code := .ref 122 } }) ::
  (nat_lit 124, { cls := .type "tuple", data := .seq #[] }) ::
  (nat_lit 126, { cls := .type "tuple", data := .seq #[.str (Str.ofString "one") 594, .str (Str.ofString "other") 595, .str (Str.ofString "row") 596, .str (Str.ofString "k") 597] }) ::
  (nat_lit 127, { cls := .type "tuple", data := .seq #[] }) ::
  (nat_lit 129, { cls := .type "code", data := .fields #[.str (Str.ofString "_law_lacking") 591, .str (Str.ofString "_law_lacking") 592, .str (Str.ofString "/claim/cut.py") 593, .int 173 0, .int 2 0, .int 0 0, .int 0 0, .int 3 0, .ref 124, .bool true, .int 276 0, .ref 125, .none, .ref 126, .ref 127, .ref 128, .int 598 0, .int 173 0, .str (Str.ofString "/claim/cut.py") 599] }) ::
  (nat_lit 130, { cls := .type "function", data := .func { name := Str.ofString "_law_lacking", qualname := Str.ofString "_law_lacking", params := hd.f130.val.1, body := .stmts hd.f130.val.2.1, scope := hd.f130.val.2.2, globals := 3, closure := [], defaults := .none, kwdefaults := .none, pyModule := .str (Str.ofString "law_in0044_01") 548, code := .ref 129 } }) ::
  (nat_lit 131, { cls := .type "tuple", data := .seq #[] }) ::
  (nat_lit 134, { cls := .type "code", data := .fields #[.str (Str.ofString "_law_told") 601, .str (Str.ofString "_law_told") 602, .str (Str.ofString "/claim/cut.py") 603, .int 179 0, .int 2 0, .int 0 0, .int 0 0, .int 3 0, .ref 131, .bool true, .int 276 0, .ref 132, .none, .none, .none, .ref 133, .int 604 0, .int 179 0, .str (Str.ofString "/claim/cut.py") 605] }) ::
  (nat_lit 135, { cls := .type "function", data := .func { name := Str.ofString "_law_told", qualname := Str.ofString "_law_told", params := hd.f135.val.1, body := .stmts hd.f135.val.2.1, scope := hd.f135.val.2.2, globals := 3, closure := [], defaults := .none, kwdefaults := .none, pyModule := .str (Str.ofString "law_in0044_01") 548, code := .ref 134 } }) ::
  (nat_lit 136, { cls := .type "tuple", data := .seq #[] }) ::
  (nat_lit 138, { cls := .type "tuple", data := .seq #[.str (Str.ofString "pair") 610, .str (Str.ofString "error") 611] }) ::
  (nat_lit 139, { cls := .type "tuple", data := .seq #[] }) ::
  (nat_lit 141, { cls := .type "code", data := .fields #[.str (Str.ofString "_law_refused") 607, .str (Str.ofString "_law_refused") 608, .str (Str.ofString "/claim/cut.py") 609, .int 183 0, .int 1 0, .int 0 0, .int 0 0, .int 3 0, .ref 136, .bool true, .int 276 0, .ref 137, .none, .ref 138, .ref 139, .ref 140, .int 612 0, .int 183 0, .str (Str.ofString "/claim/cut.py") 613] }) ::
  (nat_lit 142, { cls := .type "function", data := .func { name := Str.ofString "_law_refused", qualname := Str.ofString "_law_refused", params := hd.f142.val.1, body := .stmts hd.f142.val.2.1, scope := hd.f142.val.2.2, globals := 3, closure := [], defaults := .none, kwdefaults := .none, pyModule := .str (Str.ofString "law_in0044_01") 548, code := .ref 141 } }) ::
  (nat_lit 143, { cls := .type "tuple", data := .seq #[] }) ::
  (nat_lit 146, { cls := .type "code", data := .fields #[.str (Str.ofString "_law_steps") 615, .str (Str.ofString "_law_steps") 616, .str (Str.ofString "/claim/cut.py") 617, .int 188 0, .int 1 0, .int 0 0, .int 0 0, .int 3 0, .ref 143, .bool true, .int 276 0, .ref 144, .none, .none, .none, .ref 145, .int 618 0, .int 188 0, .str (Str.ofString "/claim/cut.py") 619] }) ::
  (nat_lit 147, { cls := .type "function", data := .func { name := Str.ofString "_law_steps", qualname := Str.ofString "_law_steps", params := hd.f147.val.1, body := .stmts hd.f147.val.2.1, scope := hd.f147.val.2.2, globals := 3, closure := [], defaults := .none, kwdefaults := .none, pyModule := .str (Str.ofString "law_in0044_01") 548, code := .ref 146 } }) ::
  (nat_lit 148, { cls := .type "tuple", data := .seq #[] }) ::
  (nat_lit 151, { cls := .type "code", data := .fields #[.str (Str.ofString "law") 621, .str (Str.ofString "law") 622, .str (Str.ofString "/claim/cut.py") 623, .int 192 0, .int 1 0, .int 0 0, .int 0 0, .int 3 0, .ref 148, .bool true, .int 276 0, .ref 149, .none, .none, .none, .ref 150, .int 624 0, .int 192 0, .str (Str.ofString "/claim/cut.py") 625] }) ::
  (nat_lit 152, { cls := .type "function", data := .func { name := Str.ofString "law", qualname := Str.ofString "law", params := hd.f152.val.1, body := .stmts hd.f152.val.2.1, scope := hd.f152.val.2.2, globals := 3, closure := [], defaults := .none, kwdefaults := .none, pyModule := .str (Str.ofString "law_in0044_01") 548, code := .ref 151 } }) :: []
noncomputable def hd.view_39 : Program := PySem.W.view PySem.Challenge.rw_in0044_01.row.toRowW.1 [0, 2, 3, 4, 5, 7, 8, 10, 12, 13, 15, 16, 17, 18, 19, 20, 21, 22, 23, 24]
noncomputable def hd.as : List Addr := [2, 3, 6, 11, 12, 32, 34, 35, 37, 38, 39, 41, 42, 44, 45, 46, 48, 49, 51, 52, 56, 57, 59, 63, 65, 66, 68, 69, 70, 72, 73, 75, 76, 77, 79, 80, 82, 83, 84, 86, 87, 89, 90, 91, 93, 94, 96, 97, 98, 100, 101, 103, 104, 105, 107, 108, 110, 111, 112, 114, 115, 117, 118, 119, 122, 123, 124, 126, 127, 129, 130, 131, 134, 135, 136, 138, 139, 141, 142, 143, 146, 147, 148, 151, 152]
noncomputable def hd.hook : Hook := kmHook hd.heap_39 hd.as (fun _ => by kernel_rfl) [71]
noncomputable abbrev hd.Ok (w : World) : Prop := Option.map (fun s => (openSeen hd.view_39 [Str.ofString "_twin_re_1", Str.ofString "_special_chars_map"] (importedModules PySem.Challenge.rw_in0044_01.row.toRowW.1.main.body) (fun s => xlAt hd.view_39 [] s && recOk PySem.Challenge.rw_in0044_01.row.records s) true s, hd.hook.obs s)) (openEnds treeTable PySem.Challenge.rw_in0044_01.row.toRowW.1 w 3916) = some (openGood hd.view_39 [Str.ofString "_twin_re_1", Str.ofString "_special_chars_map"], hd.hook.val w)
theorem hd.left_ff (w : World) : hd.Ok ((w.withFollow "special-get-raises" false).withFollow "comprehension-iter-twice" false) := by kernel_rfl
theorem hd.left_ft (w : World) : hd.Ok ((w.withFollow "special-get-raises" true).withFollow "comprehension-iter-twice" false) := by kernel_rfl
theorem hd.left_tf (w : World) : hd.Ok ((w.withFollow "special-get-raises" false).withFollow "comprehension-iter-twice" true) := by kernel_rfl
theorem hd.left_tt (w : World) : hd.Ok ((w.withFollow "special-get-raises" true).withFollow "comprehension-iter-twice" true) := by kernel_rfl
theorem hd.left : LeftO PySem.Challenge.rw_in0044_01.row.toRowW.1 hd.view_39 [Str.ofString "_twin_re_1", Str.ofString "_special_chars_map"] (fun s => xlAt hd.view_39 [] s && recOk PySem.Challenge.rw_in0044_01.row.records s) hd.hook.obs hd.hook.val 3916 :=
  fun w => byRow2 (P := hd.Ok) "comprehension-iter-twice" (fun w => byRow2 (P := fun w => hd.Ok (w.withFollow "comprehension-iter-twice" false)) "special-get-raises" (fun w => hd.left_ff w) (fun w => hd.left_ft w) w) (fun w => byRow2 (P := fun w => hd.Ok (w.withFollow "comprehension-iter-twice" true)) "special-get-raises" (fun w => hd.left_tf w) (fun w => hd.left_tt w) w) w
theorem hd.well : PySem.Challenge.rw_in0044_01.wellSaid = true := by decide +kernel
theorem hd (walk : WalkO hd.view_39 [Str.ofString "_twin_re_1", Str.ofString "_special_chars_map"] (XL hd.view_39 []) (kmHook hd.heap_39 hd.as (fun _ => by kernel_rfl) [71]).says PySem.Challenge.rw_in0044_01.row.toRowW
    { name := Str.ofString "law", params := hd.f152.val.1, body := hd.f152.val.2.1, scope := hd.f152.val.2.2, pos := { line := 192, col := 0, endLine := 213, endCol := 117 } } [] fun f vs => PySem.call f vs) : PySem.Challenge.rw_in0044_01.Holds :=
  holds_law Mine.hd.well fun said => holds_open (q := Mine.hd.view_39) (loose := [Str.ofString "_twin_re_1", Str.ofString "_special_chars_map"]) Mine.hd.left (Hook.of Mine.hd.hook) (Hook.keeps Mine.hd.hook) (fun s e => xl_of s (Bool.and_eq_true_iff.mp e).1) XL.keeps (by kernel_rfl) (by kernel_rfl) (by kernel_rfl) (fun s e => recFacts_of (Bool.and_eq_true_iff.mp e).2) (by kernel_rfl) said (by decide +kernel) ⟨rfl, rfl, rfl, rfl, rfl, by decide +kernel⟩ ⟨[.list []], by decide +kernel, by decide +kernel⟩ walk

end Mine
end
section
open PySem PySem.W PyProof.Rows
set_option Elab.async false
namespace Mine
noncomputable abbrev KeepsH (h h' : Heap) : Prop := ∀ b o, h.get? b = some o → h'.get? b = some o
/-- the heap grows, but for what `mt` names -/
noncomputable abbrev KeepBut (mt : List Addr) (h h' : Heap) : Prop := ∀ b o, b ∉ mt → h.get? b = some o → h'.get? b = some o

section
variable {prog : Program} {w : World} {A : Around} {R : Result → Shared → Prop}

end

section
variable {prog : Program} {w : World} {A : Around} {E : Value → Shared → Prop} {env : Env}
end

end Mine
end
section
open PySem PySem.W PyProof.Rows
set_option Elab.async false
namespace Mine
noncomputable abbrev S (x : String) : Str := Str.ofString x
noncomputable def nameF (l e : Option Str) : Str := match e with
  | none => l.getD (S "C")
  | some e => (l.getD (S "C") ++ S ".") ++ e
noncomputable def meansF (k : Nat) (x : Str) (e : Option Str) : Bool := match k with
  | 0 => x == S "C"
  | 1 => [S "de", S "de_AT"].any (· == x)
  | 2 => x == S "de" && e.isSome
  | 3 => e == some (S "UTF-8")
  | 4 => x == S "de_AT"
  | 5 => !(e == some (S "UTF-8"))
  | 6 => ([S "de", S "fr", S "DE"].any (· == x) && e.isNone) || (x == S "C" && e == some (S ""))
  | 7 => match e with
    | none => false
    | some y => [S "UTF-8", S "ISO8859-1"].any (· == y)
  | _ => x == S "fr"
/-- a value that holds None or a text -/
noncomputable def OptIs : Option Str → Value → Prop
  | none, v => v = .none
  | some x, v => ∃ t, v = .str x t
end Mine
namespace Mine
theorem dot_len : (Str.ofString ".").length = 1 := by decide +kernel
/-- a pair of the law's: a tuple or a list of a language and an encoding -/
noncomputable def PairAt (h : Heap) (a : Addr) (l e : Option Str) : Prop := ∃ v1 v2, OptIs l v1 ∧ OptIs e v2 ∧ (IsTup h a #[v1, v2] ∨ h.IsList a #[v1, v2])

end Mine
end
section
open PySem PySem.W PyProof.Rows
set_option Elab.async false
namespace Mine
section
variable {prog : Program} {w : World} {A : Around} {E : Value → Shared → Prop} {s : Shared}
theorem eqBool_str_none {x : Str} {t : Tok} {Q : Bool → Shared → Prop} (h : Q false s) : wpAny (model prog w) A (eqBool (.str x t) .none) Q E s := by
  unfold eqBool
  refine wpAny_holding ?_
  rw [if_neg (by simp)]
  exact wpAny_bind (PySem.EqNone.eq_str_none (wpAny_truthy_bool h))
theorem none_in_tuple {t : Addr} {items : Array Value} {ys : List Str} {Q : Value → Shared → Prop} (ht : IsTup s.heap t items) (hi : StrsAre items.toList ys)
    (h : Q (.bool false) s) : wpAny (model prog w) A (compareOp .In .none (.ref t)) Q E s := by
  have tree : ∀ {A' : Around} {P : Fin → Shared → Prop}, P (.done (.ret (.bool false))) s → wpAny (model prog w) A' (Builtin.«tuple.__contains__» ⟨[.ref t, .none], []⟩) P E s := by
    intro A' P hP
    show wpAny _ _ (Builtin.Tuple.tupleItemsOf (.ref t) >>= _) _ _ s
    refine wpAny_bind (tupleItemsOf_ ht ?_)
    refine wpAny_bind (forIn_array_ _ (fun rest b s' => b.1 = none ∧ s' = s ∧ ∃ ms, StrsAre rest ms) _ ?_ ?_ items _ ⟨rfl, rfl, ys, hi⟩)
    · rintro y rest b s' ⟨hb, rfl, ms, hm⟩
      cases hm with
      | cons n tk hm' => exact wpAny_bind (eqBool_str_none (wpAny_pure ⟨rfl, rfl, _, hm'⟩))
    · rintro ⟨b1, b2⟩ s' ⟨hb, rfl, ms, hm⟩
      cases hm
      simp only at hb
      subst hb
      exact wpAny_pure hP
  show wpAny _ _ (do return .bool (← contains (.ref t) .none)) Q E s
  refine wpAny_bind ?_
  unfold contains
  refine wpAny_holding ?_
  refine wpAny_bind (wpAny_specialOf ht.typeIs slot_tuple_contains.lookup ?_)
  rw [if_neg (by decide)]
  exact wpAny_bind (wpAny_callSpecialUnlessNone?_slot (name := Str.ofString "__contains__") ht.typeIs slot_tuple_contains
    (wpAny_call_entry slot_tuple_contains ht.typeIs entry_tuple_contains (tree ⟨_, rfl, wpAny_truthy_bool (wpAny_pure h)⟩) (args_tuple_contains _ _)))
end

end Mine
end
section
open PySem PySem.W PyProof.Rows
set_option Elab.async false
namespace Mine
set_option maxRecDepth 100000
set_option maxHeartbeats 4000000
theorem filler (w : World) : (PySem.Challenge.rw_in0044_01 = PySem.Challenge.rw_in0044_01 ∧ hd.heap_39 w.params = hd.heap_39 w.params) := by k_fill; exact ⟨rfl, rfl⟩
open PySem.Calls
/-- the machine's surroundings at a call -/
noncomputable abbrev AA (dp un : Nat) (gd : Option (List Code)) (fr : Option (List Env)) : Around := { handled := none, depth := dp, frames := fr, guards := gd, units := un }

theorem enter_pure {prog : Program} {w : World} {A : Around} {s : Shared} {K : Frag} {p : Program} {loose : List Str} {mean : ExcName → Option Value} {mg mb : Str → Option Value} {Q E : Value → Shared → Prop}
    {name qual : Str} {params : Arguments} {body : List Stmt} {scope : Scope} {dV kV doc pm cdv ct oc : Value} {an od : Option Addr} {osl : Array (Option Value)} {f : Addr} {args : List Value} {binds : List (Str × Value)}
    (X : K.In s.heap) (T : Top p loose mean mg mb s.heap)
    (ho : K.lookup f = some ⟨oc, od, .func (fnOf name qual params body scope dV kV doc pm an cdv ct), osl⟩) (hcd : codeIn K cdv qual = true) (hroom : A.depth < recursionLimit)
    (hbind : BindsTo s (fnOf name qual params body scope dV kV doc pm an cdv ct) ⟨args, []⟩ binds) (hloc : ∀ y ∈ binds, scope.names.lookup y.1 = some .local)
    (h : ∀ L' h₁, Fr s.heap L' h₁ (fun y => binds.reverse.lookup y) → News s.heap L' h₁ [] → L' = s.heap.objs.size →
      wpAny (model prog w) (A.deeper (envOf qual scope L' f cdv)) (execs body (envOf qual scope L' f cdv))
        (fun fl s' => Q (match fl with | .ret v => v | _ => .none) s')
        (fun e s' => wpAny (model prog w) (A.deeper (envOf qual scope L' f cdv)) (leaving (envOf qual scope L' f cdv) e) (fun _ s'' => E e s'') (fun e' s'' => E e' s'') s')
        { s with heap := h₁, toks := s.toks + binds.length })
    (hco : scope.isCoroutine = false) (hgen : scope.isGenerator = false) (hk : scope.kind = .function)
    (hcell : ∀ x ∈ scope.names, x.2 ≠ .cell) : wpAny (model prog w) A (call (.ref f) args) Q E s := by
  refine wpAny_call (codeAny_call_def (fd := fnOf name qual params body scope dV kV doc pm an cdv ct) (body := body) hroom (X _ _ ho) rfl T.nolimit (codeRec_of X hcd) rfl hbind hcell hloc (fun h₁ hns hk₁ => ?_) hco hgen hk)
  exact h s.heap.objs.size h₁ ⟨hns, hk₁, Nat.le_refl _⟩ News.nil rfl

end Mine
end
section
open PySem PySem.W PyProof.Rows PySem.Calls
set_option Elab.async false
set_option maxRecDepth 100000
namespace Mine
noncomputable def BObj (l : Addr) : Obj := ⟨.type "builtin_function_or_method", none, .fields #[.builtin "list.append", .ref l], #[]⟩
section
variable {prog : Program} {w : World} {A : Around} {E : Value → Shared → Prop} {s : Shared}
theorem if_yes {α : Type} {M : Model} {A : Around} {E : Value → Shared → Prop} {s : Shared} {c : Bool} {a b : Sem α} {Q : α → Shared → Prop} (hc : c = true) (h : wpAny M A a Q E s) : wpAny M A (if c = true then a else b) Q E s := by rw [if_pos hc]; exact h
theorem is_type_no {l : Addr} {items : Array Value} {Q : Bool → Shared → Prop} (hl : s.heap.IsList l items) (h : Q false s) : wpAny (model prog w) A (isType (.ref l)) Q E s := by
  obtain ⟨o, ho, hc, n, hd⟩ := hl
  unfold isType loadHead
  refine wpAny_bind (wpAny_loadPart ho ?_)
  rw [hd]
  exact wpAny_pure h
theorem check_bound_append {l : Addr} {x : Value} {items : Array Value} {Q : Unit → Shared → Prop} (hl : s.heap.IsList l items) (h : Q () s) : wpAny (model prog w) A (checkBoundCall "list.append" ⟨[.ref l, x], []⟩) Q E s := by
  unfold checkBoundCall
  have e : ∃ sig, Manifest.signature? "list.append" = some sig ∧ ∀ l x, Bind.checkArgs "list.append" { sig with full := s!"{Bind.lastOf "list"}.{Bind.lastOf "list.append"}" } ⟨[.ref l, x], []⟩ = pure () := ⟨_, rfl, fun l x => by kernel_rfl⟩
  obtain ⟨sig, e1, e2⟩ := e
  rw [e1]
  dsimp only
  rw [show builtinKind "list.append" = some .method from by kernel_rfl]
  dsimp only
  rw [if_neg (by decide)]
  refine wpAny_bind (wpAny_isInstance (T := "list") (b := false) hl.typeIs (isSubtype_of_subB (by decide +kernel)) ?_)
  rw [if_neg (by decide +kernel)]
  refine wpAny_bind ?_
  refine is_type_no hl ?_
  rw [if_neg (by decide)]
  refine wpAny_bind (wpAny_typeOf hl.typeIs ?_)
  dsimp only
  exact wpAny_of_eq (e2 l x) h
/-- a call of a list's append that was taken as a value -/
theorem call_bound {q l : Addr} {items : Array Value} {x : Value} {Q : Value → Shared → Prop} (hq : s.heap.get? q = some (BObj l)) (hl : s.heap.IsList l items)
    (h : wpAny (model prog w) A.in1 (Builtin.«list.append» ⟨[.ref l, x], []⟩) (fun fin s' => ∃ v, fin = .done (.ret v) ∧ Q v s') E s) :
    wpAny (model prog w) A (call (.ref q) [x]) Q E s := by
  refine wpAny_call (codeAny_of_tree ?_)
  show wpAny _ A.in1 (callAny (.ref q) ⟨[x], []⟩) _ _ s
  simp only [callAny]
  refine wpAny_bind (wpAny_load hq ?_)
  simp only [BObj]
  refine if_yes (by decide) ?_
  refine if_yes (by decide) ?_
  refine wpAny_bind (check_bound_append hl ?_)
  refine wpAny_bind (wpAny_pure (wpAny_pure ?_))
  refine ⟨Code.quiet_builtin _ (by decide +kernel), codeAny_builtin PySem.entry_list_append ?_⟩
  rw [Around.under_plainId (by decide +kernel)]
  refine wpAny_mono h (fun fin s' h' => ?_) fun _ _ e => e
  obtain ⟨v, rfl, hv⟩ := h'
  exact hv
theorem call_bound_append {q l : Addr} {items : Array Value} {x : Value} {n : Nat} {Q : Value → Shared → Prop} (hq : s.heap.get? q = some (BObj l)) (hl : s.heap.get? l = some (listOf items n))
    (hQ : ∀ h', h'.get? l = some (listOf (items.push x) (n + 1)) → Heap.SameBut l s.heap h' → Q .none { s with heap := h' }) (hsz : items.size ≤ sizeLine) :
    wpAny (model prog w) A (call (.ref q) [x]) Q E s := by
  refine call_bound hq ⟨_, hl, rfl, n, rfl⟩ ?_
  show wpAny _ _ (updateSeq l (·.push x) >>= fun _ => ret .none) _ _ s
  refine wpAny_bind (wpAny_updateSeq hl rfl (wpAny_pure ⟨.none, rfl, hQ _ ?_ (Heap.SameBut.update ..)⟩))
  have e : (listOf items n).mapSeq (fun a => a.push x) = listOf (items.push x) (n + 1) := by
    simp [W.listOf, Obj.mapSeq]
  rw [← e]
  exact Heap.get?_update_self _ hl (by rw [e]; rfl)
end

end Mine
end
section
open PySem PySem.W PyProof.Rows
set_option Elab.async false
set_option maxRecDepth 100000
namespace Mine
section
variable {prog : Program} {w : World} {A : Around} {E : Value → Shared → Prop} {s : Shared}
open PySem.Builtin.Str in
theorem tl_found {d : Addr} {f : Int → Option Value} {c : Nat} {x : Str} {t : Tok} {Q : Mapped → Shared → Prop} (hm : s.heap.MapOf (intKind prog w) d f) (hv : f (c : Int) = some (.str x t))
    (h : Q (.text x) { s with toks := s.toks + 2 }) : wpAny (model prog w) A (tableLookup (.ref d) c) Q E s := by
  unfold tableLookup
  refine wpAny_bind (wpAny_attempt (wpAny_bind (wpAny_mkInt ?_)))
  refine wpAny_getItem_of (key := .int (c : Int) s.toks) (k := (c : Int)) (intKind_is prog w _ _) (s := { s with toks := s.toks + 1 }) hm hv ?_
  simp only [asInt?, asStr?]
  exact wpAny_pure h
open PySem.Builtin.Str in
theorem tl_missing {d : Addr} {f : Int → Option Value} {c : Nat} {Q : Mapped → Shared → Prop} (hdd : (d == sysModules) = false) (hh : A.handled = none) (hm : s.heap.MapOf (intKind prog w) d f) (hv : f (c : Int) = none)
    (h : ∀ h', (∀ b o, s.heap.get? b = some o → h'.get? b = some o) → Q .keep { s with heap := h', toks := s.toks + 2 }) : wpAny (model prog w) A (tableLookup (.ref d) c) Q E s := by
  unfold tableLookup
  refine wpAny_bind (wpAny_attempt (wpAny_bind (wpAny_mkInt ?_)))
  refine wpAny_getItem_missing_of (key := .int (c : Int) s.toks) (k := (c : Int)) (intKind_is prog w _ _) hdd hh (s := { s with toks := s.toks + 1 }) hm hv fun h' e hx => ?_
  simp only
  obtain ⟨k1, k2, ob, vs, ho, hc, hd9⟩ := hx
  exact wpAny_bind (wpAny_isInstance (T := "KeyError") (b := true) ⟨ob, ho, hc⟩ (isSubtype_of_subB (by decide +kernel)) (by simp only [if_true]; exact wpAny_bind (wpAny_rule (wpAny_pure (h h' k1)))))

open PySem.Builtin.Str in
/-- one sign through a table that has a text for it, or nothing -/
theorem translate_one {d : Addr} {f : Int → Option Value} {c : Nat} {t : Tok} {r : Str} {Q : Value → Shared → Prop} (hc : c < 128) (hh : A.handled = none) (hdd : (d == sysModules) = false) (hm : s.heap.MapOf (intKind prog w) d f)
    (hv : (∃ u, f (c : Int) = some (.str r u) ∧ r.length = 2) ∨ (f (c : Int) = none ∧ r = ⟨#[c]⟩))
    (h : ∀ (t' : Tok) (h' : Heap) (tk' : Nat), @LE.le Nat _ s.toks t' → @LT.lt Nat _ t' tk' → (∀ b o, s.heap.get? b = some o → h'.get? b = some o) → Q (.str r t') { s with heap := h', toks := tk' }) :
    wpAny (model prog w) A (call (.builtin "str.translate") [.str ⟨#[c]⟩ t, .ref d]) Q E s := by
  refine wpAny_call_entry PySem.F.slot_str_translate (typeIs_str s _ t) PySem.F.entry_str_translate ?_ (PySem.F.args_str_translate_2 _ _)
  unfold Builtin.«str.translate»
  refine wpAny_bind (wpAny_of_eq (a := (Value.str ⟨#[c]⟩ t, (⟨#[c]⟩ : Str), Value.ref d)) rfl ?_)
  dsimp only
  rw [if_neg (by show ¬ ((1 == 0) = true); decide)]
  have hall : (#[c].all fun x => decide (x < 128)) = true := by simp [hc]
  rw [hall]
  refine wpAny_bind ?_
  rw [← Array.forIn_toList]
  simp only [List.forIn_cons, List.forIn_nil]
  rw [if_neg (by decide), if_pos trivial]
  simp only [List.lookup_nil]
  refine wpAny_bind (wpAny_bind ?_)
  rcases hv with ⟨u, hv, hr⟩ | ⟨hv, rfl⟩
  · refine tl_found hm hv ?_
    simp only [hr]
    rw [if_neg (by simp)]
    refine wpAny_bind (wpAny_pure ?_)
    simp only
    refine wpAny_bind (wpAny_rule ?_)
    rw [if_neg (by decide)]
    refine wpAny_bind (tl_found (s := { s with toks := s.toks + 2 }) hm hv ?_)
    simp only
    refine wpAny_pure ?_
    simp only
    refine wpAny_pure ?_
    simp only [hr]
    rw [if_neg (by decide)]
    refine wpAny_bind (wpAny_mkStr ?_ ?_)
    · refine wpAny_pure ⟨_, rfl, ?_⟩
      have e : (⟨List.foldl (fun acc p => acc ++ p.cps) #[] [r].reverse⟩ : Str) = r := by simp
      rw [e]
      exact h _ _ _ (by show s.toks ≤ s.toks + 2 + 2; omega) (Nat.lt_succ_self _) fun _ _ q => q
    · show (List.foldl (fun acc p => acc ++ p.cps) #[] [r].reverse).size ≤ sizeLine
      have : r.cps.size = 2 := hr
      simp [this, sizeLine_eq]
  · refine tl_missing hdd hh hm hv fun h' k => ?_
    simp only
    refine wpAny_bind (wpAny_pure ?_)
    simp only
    refine wpAny_pure ?_
    simp only
    refine wpAny_pure ?_
    simp only
    rw [if_neg (by decide)]
    refine wpAny_bind (wpAny_mkStr ?_ ?_)
    · refine wpAny_pure ⟨_, rfl, ?_⟩
      have e : (⟨List.foldl (fun acc p => acc ++ p.cps) #[] [(⟨#[c]⟩ : Str)].reverse⟩ : Str) = ⟨#[c]⟩ := by simp
      rw [e]
      exact h _ _ _ (by show s.toks ≤ s.toks + 2; omega) (Nat.lt_succ_self _) k
    · show (List.foldl (fun acc p => acc ++ p.cps) #[] [(⟨#[c]⟩ : Str)].reverse).size ≤ sizeLine
      simp [sizeLine_eq]
end

end Mine
end
section
open PySem PySem.W PyProof.Rows
set_option Elab.async false
namespace Mine
set_option maxRecDepth 100000
set_option maxHeartbeats 4000000
noncomputable def charKvs : List (Int × Value) := [(40, .str (Str.ofString "\\(") 353), (41, .str (Str.ofString "\\)") 359), (91, .str (Str.ofString "\\[") 365), (93, .str (Str.ofString "\\]") 371), (123, .str (Str.ofString "\\{") 377), (125, .str (Str.ofString "\\}") 383), (63, .str (Str.ofString "\\?") 389), (42, .str (Str.ofString "\\*") 395), (43, .str (Str.ofString "\\+") 401), (45, .str (Str.ofString "\\-") 407), (124, .str (Str.ofString "\\|") 413), (94, .str (Str.ofString "\\^") 419), (36, .str (Str.ofString "\\$") 425), (92, .str (Str.ofString "\\\\") 431), (46, .str (Str.ofString "\\.") 437), (38, .str (Str.ofString "\\&") 443), (126, .str (Str.ofString "\\~") 449), (35, .str (Str.ofString "\\#") 455), (32, .str (Str.ofString "\\ ") 461), (9, .str (Str.ofString "\\\t") 467), (10, .str (Str.ofString "\\\n") 473), (13, .str (Str.ofString "\\\x0d") 479), (11, .str (Str.ofString "\\\x0b") 485), (12, .str (Str.ofString "\\\x0c") 491)]
theorem chars_map {prog : Program} {w : World} {h : Heap} (X : (hd.heap_39 w.params).In h) : h.MapOf (intKind prog w) 59 (valueAt charKvs) := by
  have e : (hd.heap_39 w.params).lookup 59 = some ⟨.type "dict", none, .dict (List.toArray (charKvs.map fun kv => ⟨kv.1, .int kv.1 (match kv.2 with | .str _ t => t - 4 | _ => 0), kv.2⟩)) 24, #[]⟩ := by rfl
  have hd := X _ _ e
  refine Heap.DictOf.mapOf ⟨_, _, _, hd, ⟨rfl, rfl, rfl⟩, rfl, ?_, ?_, by decide⟩
  · intro e he
    have he' : e ∈ charKvs.map fun kv => (⟨kv.1, .int kv.1 (match kv.2 with | .str _ t => t - 4 | _ => 0), kv.2⟩ : DictEntry) := by simpa using he
    obtain ⟨kv, hm, rfl⟩ := List.mem_map.mp he'
    refine ⟨kv.1, intKind_is prog w _ _, ?_⟩
    have all : (charKvs.all fun kv => hashInt kv.1 == kv.1) = true := by decide +kernel
    exact (beq_iff_eq.mp (List.all_eq_true.mp all kv hm)).symm
  · have g : ∀ l : List (Int × Value), Pairs (intKind prog w) (l.map fun kv => (⟨kv.1, .int kv.1 (match kv.2 with | .str _ t => t - 4 | _ => 0), kv.2⟩ : DictEntry)) l := by
      intro l
      induction l with
      | nil => exact .nil
      | cons a r ih => exact .cons (intKind_is prog w _ _) rfl ih
    simpa using g charKvs
/-- what escape makes of one sign -/
noncomputable def escF (c : Nat) : Str := match valueAt charKvs (c : Int) with
  | some (.str r _) => r
  | _ => ⟨#[c]⟩
noncomputable def escOk (c : Nat) : Bool := c < 128 && match valueAt charKvs (c : Int) with
  | some (.str r _) => r.length == 2
  | none => true
  | _ => false
theorem translate_K {prog : Program} {w : World} {A : Around} {E : Value → Shared → Prop} {s : Shared} {c : Nat} {t : Tok} {Q : Value → Shared → Prop} (X : (hd.heap_39 w.params).In s.heap) (hh : A.handled = none) (hc : escOk c = true)
    (h : ∀ (t' : Tok) (h' : Heap) (tk' : Nat), @LE.le Nat _ s.toks t' → @LT.lt Nat _ t' tk' → KeepsH s.heap h' → Q (.str (escF c) t') { s with heap := h', toks := tk' }) :
    wpAny (model prog w) A (call (.builtin "str.translate") [.str ⟨#[c]⟩ t, .ref 59]) Q E s := by
  simp only [escOk, Bool.and_eq_true, decide_eq_true_eq] at hc
  refine translate_one (r := escF c) hc.1 hh (by decide) (chars_map X) ?_ h
  have h2 := hc.2
  unfold escF
  split at h2
  · rename_i r t hv
    exact .inl ⟨t, by rw [hv], by simpa [hv] using h2⟩
  · rename_i hv
    exact .inr ⟨hv, by rw [hv]⟩
  · cases h2

end Mine
end
section
open PySem PySem.W PyProof.Rows
namespace Mine
local macro_rules | `(tactic| k_enter) => `(tactic| (refine' enter_pure ?k3 ?k5 ?k6 ?k7 ?k8 ?k9 ?kB ?_ ?c2 ?c3 ?c4 ?c5; (case k3 => assumption); (case k5 => assumption); (case k6 => k_is); (case k7 => k_is); (case k8 => ktr_room); (case k9 => exact BindsTo.of_eq rfl); (case c5 => decide); (case kB => exact locs rfl); (case c2 => exact rfl); (case c3 => exact rfl); (case c4 => exact rfl); k_whole; intro L' h' F' N' eL'; (try dsimp only)))
local macro_rules | `(tactic| kun_tup) => `(tactic| exact Fr.tup (by assumption) (by assumption))
local macro_rules | `(tactic| kun_lst) => `(tactic| is_list)
local macro_rules | `(tactic| walk_at "compareOp In none ref") => `(tactic| (k_here; (with_reducible show wpAny _ _ (compareOp CmpOp.In Value.none (Value.ref _)) _ _ _); (with_unfolding_all refine' none_in_tuple ?k1 ?k2 ?_; (case k1 => exact News.isTup (by k_asm) (by news_mem)); (case k2 => repeat' constructor); k_whole)))
local macro_rules | `(tactic| walk_at "binaryOp Add str str") => `(tactic| (k_here; (with_reducible show wpAny _ _ (binaryOp Operator.Add (Value.str _ _) (Value.str _ _)) _ _ _); refine' PyProof.Rows.add_str ?h ?z; (case z => (simp only [PySem.Str.length_append, dot_len, PySem.sizeLine_eq]; omega)); intro t' tk; (try dsimp only)))
section
open PySem PySem.W PyProof.Rows
set_option Elab.async false
set_option maxRecDepth 100000
set_option maxHeartbeats 4000000
noncomputable def XB (s : Shared) (Q : Value → Shared → Prop) (l : Addr) : Prop := ∀ (q : Addr) (h' : Heap), X.Mem s.heap h' [] [(q, BObj l)] → Q (.ref q) { s with heap := h' }
theorem XB.use {s : Shared} {Q : Value → Shared → Prop} {l : Addr} (R : XB s Q l) {q : Addr} {h' : Heap} (D : X.Mem s.heap h' [] [(q, BObj l)]) : Q (.ref q) { s with heap := h' } := R _ _ D
local macro_rules | `(tactic| x_close) => `(tactic| exact XB.use (by assumption) (by assumption))
theorem get_append_own (prog : Program) (w : World) (dp un : Nat) (gd : Option (List Code)) (fr : Option (List Env)) (s : Shared) (Q E : Value → Shared → Prop) (l : Addr) (items : Array Value) (n : Nat) (t : Tok)
   (hl : s.heap.get? l = some ⟨.type "list", none, .seq items n, #[]⟩) (R : XB s Q l) :
   wpAny (model prog w) (AA dp un gd fr) (callGetattribute (.ref l) (.str (Str.ofString "append") t) (.builtin "list.__getattribute__") true) Q E s := by
  unfold callGetattribute
  x_run
theorem keeps_B {M : Model} {q l : Addr} (h : Heap) (X : h.get? q = some (BObj l)) : ∃ k, (k = Keeper.frame ∨ k = Keeper.machine ∨ k = Keeper.boundFrame) ∧ Looks M h (keeperOf (.ref q)) k := by
  refine ⟨.machine, .inr (.inl rfl), (Looks.ld (part := none) X).andThen ?_⟩
  exact .now
/-- the tokens made so far lie at or above n -/
inductive TokLow (n : Nat) : Prop
  | mk
theorem gen_toks {M : Model} {A : Around} {α : Type} {t : Sem α} {Q : α → Shared → Prop} {E : Value → Shared → Prop} {n : Nat} {h : Heap} {g : Array GenState} {d : Drawn} {tk₀ : Nat} {os : OsState} (_m : TokLow n) (hn : n ≤ tk₀)
    (k : ∀ tk, n ≤ tk → wpAny M A t Q E ⟨h, g, d, tk, os⟩) : wpAny M A t Q E ⟨h, g, d, tk₀, os⟩ := k _ hn

end
section
open PySem PySem.W PyProof.Rows
set_option Elab.async false
set_option maxRecDepth 100000
set_option maxHeartbeats 4000000
theorem gm_translate {prog : Program} {w : World} {A : Around} {E : Value → Shared → Prop} {s : Shared} {x : Str} {t : Tok} {pl : Sem Bool} {Q : Value × List Value → Shared → Prop} (h : Q (.builtin "str.translate", [.str x t]) s) :
    wpAny (model prog w) A (getMethod (.str x t) (Str.ofString "translate") pl) Q E s := by
  have nr : ∀ a, Value.str x t = .ref a → ∃ o, s.heap.get? a = some o ∧ o.dict = none := fun b e => by cases e
  with_reducible exact getMethod_builtin (typeIs_str _ _ _) PySem.F.plainAttrs_str PySem.F.slot_str_translate PySem.F.type_str_translate nr h
local macro_rules | `(tactic| walk_at "getMethod str") => `(tactic| (k_here; refine gm_translate ?_; (try dsimp only)))
theorem news_kept {h₀ h h' : Heap} {L : Addr} {news : List (Addr × Obj)} (N : News h₀ L h news) (k : KeepsH h h') : News h₀ L h' news := fun p hp => ⟨k _ _ (N p hp).1, (N p hp).2⟩
theorem translate_N {prog : Program} {w : World} {A : Around} {E : Value → Shared → Prop} {s : Shared} {c : Nat} {t : Tok} {Q : Value → Shared → Prop} {h₀ : Heap} {L : Addr} {m : Str → Option Value} {news : List (Addr × Obj)}
    (F : Fr h₀ L s.heap m) (N : News h₀ L s.heap news) (X : (hd.heap_39 w.params).In h₀) (hh : A.handled = none) (hc : escOk c = true)
    (h : ∀ (t' : Tok) (h' : Heap) (tk' : Nat), @LE.le Nat _ s.toks t' → @LT.lt Nat _ t' tk' → Fr h₀ L h' m → News h₀ L h' news → Q (.str (escF c) t') { s with heap := h', toks := tk' }) :
    wpAny (model prog w) A (call (.builtin "str.translate") [.str ⟨#[c]⟩ t, .ref 59]) Q E s :=
  translate_K (X.keeps F.keep) hh hc fun t' h' tk' a b k => h t' h' tk' a b (F.kept k) (news_kept N k)
local macro_rules | `(tactic| walk_at "call builtin:str.translate") => `(tactic| (k_here; k_dflt (refine' translate_N ?k1 ?k2 ?k3 ?k4 ?k5 ?_; (case k1 => k_asm); (case k2 => k_asm); (case k3 => k_asm); (case k4 => rfl); (case k5 => assumption)); intro t' h' tk' b1' b2' F' N'; (try dsimp only at b1' b2'); (try k_sweep)))
local macro_rules | `(tactic| walk_at "execs cons") => `(tactic| (k_here; (with_reducible show wpAny _ _ _ _ _ (Shared.mk _ _ _ ((_ : Nat) + (_ : Nat)) _)); refine gen_toks (by assumption) ?hn ?_; (case hn => ((try dsimp only); omega)); intro tk htk))
local macro_rules | `(tactic| walk_at "execs nil") => `(tactic| (k_here; (with_reducible show wpAny _ _ _ _ _ (Shared.mk _ _ _ ((_ : Nat) + (_ : Nat)) _)); refine gen_toks (by assumption) ?hn ?_; (case hn => ((try dsimp only); omega)); intro tk htk))
theorem esc_spec (w : World) (dp un : Nat) (gd : Option (List Code)) (fr : Option (List Env)) (s : Shared) (Q E : Value → Shared → Prop)
   (loose : List Str) (mean : ExcName → Option Value) (mg mb : Str → Option Value) (c : Nat) (hc : escOk c = true) (t : Tok)
   (X : (hd.heap_39 w.params).In s.heap) (T : Top topProg loose mean mg mb s.heap) 
   (hdp : dp + 1 < recursionLimit) (hun : un + 8 < cLine) (M : TokLow s.toks)
   (hret : ∀ t' h' tk', @LE.le Nat _ s.toks t' → @LT.lt Nat _ t' tk' → KeepsH s.heap h' → Q (.str (escF c) t') { s with heap := h', toks := tk' }) :
   wpAny (model PySem.Challenge.rw_in0044_01.row.prog w) (AA dp un gd fr) (call (.ref 69) [.str ⟨#[c]⟩ t]) Q E s := by
  k_dflt k_enter; k_steps
  all_goals (try dsimp only)
  all_goals exact hret _ _ _ (by omega) (by assumption) (Fr.keep (by assumption))
theorem isnot_str_ne {M : Model} {A : Around} {E : Value → Shared → Prop} {s : Shared} {x y : Str} {t u : Tok} {Q : Value → Shared → Prop} (hxy : (x == y) = false) (h1 : t ≠ 0) (h2 : u ≠ 0) (h3 : t ≠ u) (h : Q (.bool true) s) : wpAny M A (compareOp .IsNot (.str x t) (.str y u)) Q E s := by
  show wpAny M A (do return .bool (!(← isSame (.str x t) (.str y u)))) Q E s
  have e : isSame (.str x t) (.str y u) = pure false := by
    unfold isSame isSame.created
    simp [hxy, h1, h2, h3]
  rw [e]
  exact wpAny_bind (wpAny_pure (wpAny_pure h))


end
section
open PySem PySem.W PyProof.Rows
set_option Elab.async false
set_option maxRecDepth 100000
set_option maxHeartbeats 4000000
noncomputable def XS (s : Shared) (Q : Value → Shared → Prop) (x : Str) : Prop := ∀ (t : Tok) (h' : Heap) (tk' : Nat), KeepsH s.heap h' → Q (.str x t) { s with heap := h', toks := tk' }
theorem XS.use {s : Shared} {Q : Value → Shared → Prop} {x : Str} (R : XS s Q x) {t : Tok} {h' : Heap} {tk' : Nat} {news : List (Addr × Obj)} (D : X.Mem s.heap h' [] news) : Q (.str x t) { s with heap := h', toks := tk' } := R _ _ _ fun b o e => D.keep b o e (by simp [X.away])
theorem XS.use0 {s : Shared} {Q : Value → Shared → Prop} {x : Str} (R : XS s Q x) {t : Tok} {tk' : Nat} : Q (.str x t) { s with toks := tk' } := R t s.heap tk' fun _ _ e => e
local macro_rules | `(tactic| x_close) => `(tactic| first | exact XS.use (by assumption) (by assumption) | exact XS.use0 (by assumption) | (trace_state; fail "x_close"))
section
variable {prog : Program} {w : World} {dp un : Nat} {gd : Option (List Code)} {fr : Option (List Env)} {s : Shared} {Q E : Value → Shared → Prop} {t1 t2 t3 t4 : Tok}
theorem x_rep1 (R : XS s Q (Str.ofString "!8")) : wpAny (model prog w) (AA dp un gd fr) (call (.builtin "str.replace") [.str (Str.ofString "!8") t1, .str (Str.ofString "\\") t2, .str (Str.ofString "\\\\") t3]) Q E s := by x_run
theorem x_rep2 (R : XS s Q (Str.ofString "0")) : wpAny (model prog w) (AA dp un gd fr) (call (.builtin "str.replace") [.str (Str.ofString "0") t1, .str (Str.ofString "\\") t2, .str (Str.ofString "\\\\") t3]) Q E s := by x_run
theorem x_rep3 (R : XS s Q (Str.ofString "9")) : wpAny (model prog w) (AA dp un gd fr) (call (.builtin "str.replace") [.str (Str.ofString "9") t1, .str (Str.ofString "\\") t2, .str (Str.ofString "\\\\") t3]) Q E s := by x_run
theorem x_rep4 (R : XS s Q (Str.ofString "0")) : wpAny (model prog w) (AA dp un gd fr) (call (.builtin "str.replace") [.str (Str.ofString "0") t1, .str (Str.ofString "-") t2, .str (Str.ofString "\\-") t3]) Q E s := by x_run
theorem x_rep5 (R : XS s Q (Str.ofString "9")) : wpAny (model prog w) (AA dp un gd fr) (call (.builtin "str.replace") [.str (Str.ofString "9") t1, .str (Str.ofString "-") t2, .str (Str.ofString "\\-") t3]) Q E s := by x_run
theorem x_sub1 (X : (hd.heap_39 w.params).In s.heap) (a : Addr) (d : Option Addr) (fd : FuncData) (sl : Array (Option Value)) (hf : s.heap.get? a = some ⟨.type "function", d, .func fd, sl⟩) (hun : un + 10 < cLine) (R : XS s Q (Str.ofString "!8")) : wpAny (model prog w) (AA dp un gd fr) (call (.builtin "re.Pattern.sub") [.ref 57, .ref a, .str (Str.ofString "!8") t1]) Q E s := by x_run
theorem x_sub2 (X : (hd.heap_39 w.params).In s.heap) (a : Addr) (d : Option Addr) (fd : FuncData) (sl : Array (Option Value)) (hf : s.heap.get? a = some ⟨.type "function", d, .func fd, sl⟩) (hun : un + 10 < cLine) (R : XS s Q (Str.ofString "0-9")) : wpAny (model prog w) (AA dp un gd fr) (call (.builtin "re.Pattern.sub") [.ref 57, .ref a, .str (Str.ofString "0-9") t1]) Q E s := by x_run
theorem find_lit {A : Around} {x y : Str} {i j : Int} {lo hi : Nat} {r : Int} (e : Builtin.Str.searchArgs "find" ⟨[.str x t1, .str y t2, .int i t3, .int j t4], []⟩ = pure (x, y, lo, hi))
   (hr : (match Builtin.Str.occurrences x y lo hi 1 with | k :: _ => (k : Int) | [] => -1) = r) (ha : argsOk "str.find" ⟨[.str x t1, .str y t2, .int i t3, .int j t4], []⟩) (h : Q (.int r s.toks) { s with toks := s.toks + 1 }) :
   wpAny (model prog w) A (call (.builtin "str.find") [.str x t1, .str y t2, .int i t3, .int j t4]) Q E s := by
  refine wpAny_call_entry PySem.F.slot_str_find (typeIs_str s _ _) PySem.F.entry_str_find ?_ ha
  unfold Builtin.«str.find»
  refine wpAny_bind (wpAny_of_eq e ?_)
  dsimp only
  generalize Builtin.Str.occurrences x y lo hi 1 = oc at hr ⊢
  cases oc with
  | nil => subst hr; (try dsimp only); refine wpAny_bind (wpAny_rule ?_); unfold retInt; exact wpAny_bind (wpAny_mkInt (wpAny_pure ⟨_, rfl, h⟩))
  | cons k ks => subst hr; unfold retInt; exact wpAny_bind (wpAny_mkInt (wpAny_pure ⟨_, rfl, h⟩))
theorem find_1 {A : Around} (h : Q (.int 4 s.toks) { s with toks := s.toks + 1 }) : wpAny (model prog w) A (call (.builtin "str.find") [.str (Str.ofString "*-[0-9]") t1, .str (Str.ofString "-") t2, .int 4 t3, .int 6 t4]) Q E s :=
  find_lit (lo := 4) (hi := 6) (by kernel_rfl) (by decide +kernel) (by unfold argsOk; kernel_rfl) h
theorem find_2 {A : Around} (h : Q (.int (-1) s.toks) { s with toks := s.toks + 1 }) : wpAny (model prog w) A (call (.builtin "str.find") [.str (Str.ofString "*-[0-9]") t1, .str (Str.ofString "-") t2, .int 7 t3, .int 6 t4]) Q E s :=
  find_lit (lo := 7) (hi := 6) (by kernel_rfl) (by decide +kernel) (by unfold argsOk; kernel_rfl) h
end
theorem pa_pattern : PlainAttrs "re.Pattern" := ⟨⟨"object.__getattribute__", by rw [typeLookup_type, builtinLookup_eq_fast]; kernel_rfl, by decide +kernel⟩, by rw [typeLookup_type, builtinLookup_eq_fast]; kernel_rfl⟩
theorem slot_sub : Slot "re.Pattern" "sub" "re.Pattern.sub" := .of (owner := "re.Pattern") (n := "sub") (by rw [typeLookup_type, builtinLookup_eq_fast]; kernel_rfl) (by decide +kernel) (by decide +kernel) (by decide +kernel)
    (by first | exact .inl (by decide +kernel) | exact .inr (by decide +kernel)) (by rw [isSubtype_type]; kernel_rfl)
theorem get_sub {prog : Program} {w : World} {A : Around} {s : Shared} {pl : Sem Bool} {Q : Value × List Value → Shared → Prop} {E : Value → Shared → Prop}
   (X : (hd.heap_39 w.params).In s.heap) (h : Q (.builtin "re.Pattern.sub", [.ref 57]) s) : wpAny (model prog w) A (getMethod (.ref 57) "sub" pl) Q E s := by
  obtain ⟨o, ho, h1, h2⟩ : ∃ o, s.heap.get? 57 = some o ∧ o.cls = .type "re.Pattern" ∧ o.dict = none := by
    refine ⟨_, X _ _ (by k_is), by kernel_rfl, by kernel_rfl⟩
  exact getMethod_builtin (T := "re.Pattern") ⟨o, ho, h1⟩ pa_pattern slot_sub (by show builtinType _ = _; rw [builtinType_eq_fast]; kernel_rfl) (fun a e => ⟨o, by cases e; exact ho, h2⟩) h
end
section
open PySem PySem.W PyProof.Rows
set_option Elab.async false
set_option maxRecDepth 100000
set_option maxHeartbeats 4000000
theorem ret_str {s : Shared} {Q : Value → Shared → Prop} {b b' : Str} {h : Heap} {t : Tok} {L : Addr} {m : Str → Option Value} {tk : Nat} (hret : ∀ t' h' tk', KeepsH s.heap h' → Q (.str b t') { s with heap := h', toks := tk' })
  (F : Fr s.heap L h m) (e : b' = b) : Q (.str b' t) { s with heap := h, toks := tk } := by subst e; exact hret _ _ _ F.keep
theorem bl_spec (w : World) (dp un : Nat) (gd : Option (List Code)) (fr : Option (List Env)) (s : Shared) (Q E : Value → Shared → Prop)
   (loose : List Str) (mean : ExcName → Option Value) (mg mb : Str → Option Value) (l e : Option Str) (D : Addr) (hp : PairAt s.heap D l e) (hl : (l.getD (S "C")).length ≤ 20) (hle : (e.getD (S "C")).length ≤ 20)
   (X : (hd.heap_39 w.params).In s.heap) (T : Top topProg loose mean mg mb s.heap) 
   (hdp : dp + 1 < recursionLimit) (hun : un + 8 < cLine)
   (hret : ∀ t' h' tk', KeepsH s.heap h' → Q (.str (nameF l e) t') { s with heap := h', toks := tk' }) :
   wpAny (model PySem.Challenge.rw_in0044_01.row.prog w) (AA dp un gd fr) (call (.ref 52) [.ref D]) Q E s := by
  obtain ⟨v1, v2, h1, h2, h3⟩ := hp
  rcases l with _ | x <;> rcases e with _ | y
  all_goals (first | (obtain rfl : v1 = .none := h1) | (obtain ⟨u, rfl⟩ : ∃ u, v1 = .str x u := h1))
  all_goals (first | (obtain rfl : v2 = .none := h2) | (obtain ⟨u2, rfl⟩ : ∃ u, v2 = .str y u := h2))
  all_goals (simp only [Option.getD_some, Option.getD_none] at hl hle)
  all_goals (rcases h3 with h3 | h3)
  all_goals (k_dflt k_enter; k_steps)
  all_goals (try dsimp only)
  all_goals (refine ret_str hret (by assumption) ?_)
  all_goals rfl

theorem strcoll_spec (w : World) (dp un : Nat) (gd : Option (List Code)) (fr : Option (List Env)) (s : Shared) (Q E : Value → Shared → Prop)
   (loose : List Str) (mean : ExcName → Option Value) (mg mb : Str → Option Value) (x y : Str) (t u : Tok)
   (X : (hd.heap_39 w.params).In s.heap) (T : Top topProg loose mean mg mb s.heap) 
   (hdp : dp + 1 < recursionLimit) (hun : un + 8 < cLine)
   (hret : ∀ t' h' tk', KeepsH s.heap h' → Q (.int (PyProof.Rows.b2i (decide (y.cps.toList < x.cps.toList)) - PyProof.Rows.b2i (decide (x.cps.toList < y.cps.toList))) t') { s with heap := h', toks := tk' }) :
   wpAny (model PySem.Challenge.rw_in0044_01.row.prog w) (AA dp un gd fr) (call (.ref 38) [.str x t, .str y u]) Q E s := by
  k_dflt k_enter; k_steps
  all_goals (try dsimp only)
  all_goals exact hret _ _ _ (Fr.keep (by assumption))
theorem strxfrm_spec (w : World) (dp un : Nat) (gd : Option (List Code)) (fr : Option (List Env)) (s : Shared) (Q E : Value → Shared → Prop)
   (loose : List Str) (mean : ExcName → Option Value) (mg mb : Str → Option Value) (x : Str) (t : Tok)
   (X : (hd.heap_39 w.params).In s.heap) (T : Top topProg loose mean mg mb s.heap) 
   (hdp : dp + 1 < recursionLimit) (hun : un + 8 < cLine)
   (hret : ∀ h' tk', KeepsH s.heap h' → Q (.str x t) { s with heap := h', toks := tk' }) :
   wpAny (model PySem.Challenge.rw_in0044_01.row.prog w) (AA dp un gd fr) (call (.ref 45) [.str x t]) Q E s := by
  k_dflt k_enter; k_steps
  all_goals (try dsimp only)
  all_goals exact hret _ _ (Fr.keep (by assumption))

end
end Mine
end
section
open PySem PySem.W PySem.Spec PyProof.Rows
namespace Mine
section
variable {prog : Program} {w : World} {A : Around} {s : Shared} {env : Env} {h₀ : Heap}
end

end Mine
end
section
open PySem PySem.W PySem.Spec PyProof.Rows PySem.Calls
namespace Mine
section
variable {prog : Program} {w : World} {A : Around} {s : Shared} {env : Env} {h₀ : Heap}
end
section
variable {M : Model} {A : Around} {E : Value → Shared → Prop} {s₀ s : Shared} {m cm : Str → Option Value} {env : Env}
theorem stLT {n : Str} {v : Value} {k : Nat} {Q : Unit → Shared → Prop} (x : InCallC s₀ env.locals m env.cells cm s) (ht : k ≤ s.toks) (hk : env.scope.kind = .function) (hl : env.kindOf n = some .local)
    (h : ∀ s', InCallC s₀ env.locals (fun y => if y = n then some v else m y) env.cells cm s' → k + 1 ≤ s'.toks → Q () s') : wpAny M A (storeName env n v) Q E s := by
  refine wpAny_storeName_local hl x.toInCall.ns (fun h' hn hs => h _ ⟨⟨?_, hn, fun b o e => ?_, x.toInCall.fresh⟩, fun k' c' hk' => ?_, x.apart, x.above⟩ (Nat.succ_le_succ ht)) (by rw [hk]; rfl)
  · obtain ⟨h₁, tk, rfl⟩ := x.toInCall.same
    exact ⟨h', _, rfl⟩
  · exact hs.extBut b o (Nat.ne_of_lt (Nat.lt_of_lt_of_le (Heap.lt_size e) x.toInCall.fresh)) (x.toInCall.keep b o e)
  · exact (x.cell k' c' hk').sameBut hs (Nat.ne_of_gt (x.above k' c' (mem_of_lookup hk')))
theorem bindParamsT {k : Nat} (f : Str × Value → PUnit → Sem (ForInStep PUnit)) (hf : ∀ n v u, f (n, v) u = (do storeName env n v; pure (.yield ⟨⟩))) (hk : env.scope.kind = .function) :
    ∀ (binds : List (Str × Value)) (m cm : Str → Option Value) (s : Shared) (Q : PUnit → Shared → Prop), InCallC s₀ env.locals m env.cells cm s → k ≤ s.toks →
      (∀ x ∈ binds, env.kindOf x.1 = some .local ∨ (env.kindOf x.1 = some .cell ∧ (env.cells.lookup x.1).isSome = true)) →
      (∀ s', InCallC s₀ env.locals (bindL env.kindOf binds m) env.cells (bindC env.kindOf binds cm) s' → (k ≤ s'.toks ∧ ((∃ x ∈ binds, env.kindOf x.1 = some .local) → k + 1 ≤ s'.toks)) → Q ⟨⟩ s') → wpAny M A (forIn binds ⟨⟩ f) Q E s
  | [], m, cm, s, Q, x, ht, _, h => by rw [List.forIn_nil]; exact wpAny_pure (h s x ⟨ht, fun ⟨_, q, _⟩ => nomatch q⟩)
  | (n, v) :: r, m, cm, s, Q, x, ht, hkind, h => by
    rw [List.forIn_cons, hf]
    have hr : ∀ y ∈ r, env.kindOf y.1 = some .local ∨ (env.kindOf y.1 = some .cell ∧ (env.cells.lookup y.1).isSome = true) := fun y hy => hkind y (List.mem_cons_of_mem _ hy)
    rcases hkind (n, v) List.mem_cons_self with hl | ⟨hl, hc⟩
    · refine wpAny_bind (wpAny_bind (stLT x ht hk hl fun s' x' ht' => wpAny_pure (bindParamsT (k := k + 1) f hf hk r _ _ s' Q x' ht' hr fun s'' x'' t'' => h s'' ?_ ⟨Nat.le_of_succ_le t''.1, fun _ => t''.1⟩)))
      unfold bindL bindC; rw [if_pos hl, if_pos hl]; exact x''
    · obtain ⟨c, hc⟩ := Option.isSome_iff_exists.mp hc
      have hnl : ¬ env.kindOf n = some .local := by rw [hl]; decide
      have hLc := x.above n c (mem_of_lookup hc)
      refine wpAny_bind (wpAny_bind (wpAny_storeName_cell hk hl hc (x.cell n c hc) fun h' hc' hs' => wpAny_pure (bindParamsT f hf hk r m (fun y => if y = n then some v else cm y) _ Q ⟨⟨?_, x.toInCall.ns.sameBut hs' (Nat.ne_of_lt hLc), fun b o e => ?_, x.toInCall.fresh⟩, fun k' c' hk' => ?_, x.apart, x.above⟩ ht hr fun s'' x'' t'' => h s'' ?_ ⟨t''.1, fun ⟨y, hy, hyl⟩ => t''.2 (by
        rcases List.mem_cons.mp hy with q | q
        · rw [q] at hyl; exact absurd hyl hnl
        · exact ⟨y, q, hyl⟩)⟩)))
      · obtain ⟨h₁, tk, rfl⟩ := x.toInCall.same
        exact ⟨h', _, rfl⟩
      · exact hs'.extBut b o (Nat.ne_of_lt (Nat.lt_trans (Nat.lt_of_lt_of_le (Heap.lt_size e) x.toInCall.fresh) hLc)) (x.toInCall.keep b o e)
      · by_cases hkn : k' = n
        · subst hkn
          rw [hc] at hk'; cases hk'
          simpa using hc'
        · rw [if_neg hkn]
          exact (x.cell k' c' hk').sameBut hs' fun e => hkn (name_of_addr x.apart (mem_of_lookup hk') (e ▸ mem_of_lookup hc))
      · unfold bindL bindC; rw [if_neg hnl, if_neg hnl]; exact x''
end
section
variable {M : Model} {A : Around} {E : Value → Shared → Prop} {s : Shared}
theorem newEnvT {scope : Scope} {globals : Addr} {binds : List (Str × Value)} {qual : Str} {func : Option Addr} {code : Value} {builtins : Addr} {Q : Env → Shared → Prop}
    (hk : scope.kind = .function)
    (hkind : ∀ x ∈ binds, scope.names.lookup x.1 = some .local ∨ (scope.names.lookup x.1 = some .cell ∧ ((cellsFrom (s.heap.objs.size + 1) scope.names []).lookup x.1).isSome = true))
    (hQ : ∀ env, env = newEnv scope s.heap.objs.size globals (cellsFrom (s.heap.objs.size + 1) scope.names []) qual func code none builtins →
      ∀ s', InCallC s env.locals (bindL env.kindOf binds fun _ => none) env.cells (bindC env.kindOf binds fun _ => none) s' → (s.toks ≤ s'.toks ∧ ((∃ x ∈ binds, env.kindOf x.1 = some .local) → s.toks + 1 ≤ s'.toks)) → Q env s') :
    wpAny M A (newFunctionEnv scope globals [] binds qual func code none builtins) Q E s := by
  simp only [newFunctionEnv, Option.isSome_none, Bool.false_eq_true, if_false]
  refine wpAny_bind (wpAny_alloc ?_)
  refine wpAny_bind (wpAny_layCells _ (fun name kind cells => by cases hkc : kind == NameKind.cell <;> simp [hkc]) _ _ _ _ ?_)
  have ok := cellsFrom_ok scope.names (s.heap.push { cls := .type "frame", data := .dict #[] }) (s.heap.objs.size + 1) [] ⟨fun _ _ hm => (nomatch hm), List.Pairwise.nil⟩ (by rw [Heap.size_push]; exact Nat.le_refl _)
  rw [Heap.size_push] at ok
  rw [show ({ s with heap := s.heap.push { cls := .type "frame", data := .dict #[] } } : Shared).heap.objs.size = s.heap.objs.size + 1 from Heap.size_push ..]
  refine wpAny_bind (bindParamsT (k := s.toks) (s₀ := s) (env := newEnv scope s.heap.objs.size globals (cellsFrom (s.heap.objs.size + 1) scope.names []) qual func code none builtins)
    _ (fun _ _ _ => rfl) hk binds (fun _ => none) (fun _ => none) _ _
    ⟨⟨⟨_, _, rfl⟩, (Heap.Ns.new s.heap (.type "frame")).keeps (pushCells_keeps _ _), fun b o e => pushCells_keeps _ _ b o (Heap.get?_push_of_some _ e), Nat.le_refl _⟩,
      fun n c hc => (ok.empty n c (mem_of_lookup hc)).1, ok.apart, fun n c hm => (ok.empty n c hm).2⟩ (Nat.le_refl _)
    hkind fun s' x ht => wpAny_pure (hQ _ rfl s' x ht))
end
section
variable {prog : Program} {w : World} {A : Around} {s : Shared}
theorem enter_cells2 {K : Frag} {p : Program} {loose : List Str} {mean : ExcName → Option Value} {mg mb : Str → Option Value} {Q E : Value → Shared → Prop} {h₀ : Heap} {led : List (Addr × Obj)}
    {name qual : Str} {params : Arguments} {body : List Stmt} {scope : Scope} {dV kV doc pm cdv ct oc : Value} {an od : Option Addr} {osl : Array (Option Value)} {f : Addr} {args : List Value} {binds : List (Str × Value)}
    (X : K.In h₀) (T : Top p loose mean mg mb h₀) (k0 : KeepsH h₀ s.heap) (hsz : h₀.objs.size ≤ s.heap.objs.size) (hled : ∀ q ∈ led, s.heap.get? q.1 = some q.2 ∧ h₀.get? q.1 = none)
    (ho : K.lookup f = some ⟨oc, od, .func (fnOf name qual params body scope dV kV doc pm an cdv ct), osl⟩) (hcd : codeIn K cdv qual = true) (hroom : A.depth < recursionLimit)
    (hbind : BindsTo s (fnOf name qual params body scope dV kV doc pm an cdv ct) ⟨args, []⟩ binds) (hkind : (binds.all fun y => scope.names.lookup y.1 == some .local || scope.names.lookup y.1 == some .cell) = true)
    (hnd : ((cellsFrom 0 scope.names []).map (·.1)).Nodup)
    (h : ∀ L' h₁ tk cells, Fr h₀ L' h₁ (bindL (envOfC qual scope L' f cdv).kindOf binds fun _ => none) → News h₀ L' h₁ (cells ++ led) →
      CellsAre (bindC (envOfC qual scope L' f cdv).kindOf binds fun _ => none) (cellsFrom (L' + 1) scope.names []) cells → L' = s.heap.objs.size → KeepsH s.heap h₁ → (s.toks ≤ tk ∧ ((∃ x ∈ binds, scope.names.lookup x.1 = some .local) → s.toks + 1 ≤ tk)) →
      wpAny (model prog w) (A.deeper (envOfC qual scope L' f cdv)) (execs body (envOfC qual scope L' f cdv))
        (fun fl s' => Q (match fl with | .ret v => v | _ => .none) s')
        (fun e s' => wpAny (model prog w) (A.deeper (envOfC qual scope L' f cdv)) (leaving (envOfC qual scope L' f cdv) e) (fun _ s'' => E e s'') (fun e' s'' => E e' s'') s')
        { s with heap := h₁, toks := tk })
    (hco : scope.isCoroutine = false) (hgen : scope.isGenerator = false) (hk : scope.kind = .function) : wpAny (model prog w) A (call (.ref f) args) Q E s := by
  refine wpAny_call (codeAny_call_function (fd := fnOf name qual params body scope dV kV doc pm an cdv ct) (body := body) hroom (k0 _ _ (X _ _ ho)) rfl hco hgen rfl (codeRec_of (X.keeps k0) hcd) (hbind _ _ _ _ ?_))
  refine newEnvT hk (kindsX hkind _) fun env' he s' x htk => ?_
  subst he
  refine ⟨((T.nolimit).keeps k0).keeps x.toInCall.keep, codeAny_func ?_⟩
  obtain ⟨h₁, tk, rfl, _⟩ := x.done
  have hk₁ := x.toInCall.keep
  obtain ⟨cells, NC, Y⟩ := Cl.news (h₀ := s.heap) (Nat.le_refl _) fun n c hm => ⟨x.cell n c (lookup_of_mem_nodup (cellsFrom_names scope.names 0 (s.heap.objs.size + 1) [] [] rfl ▸ hnd) hm), x.above n c hm⟩
  refine h s.heap.objs.size h₁ tk cells ⟨x.toInCall.ns, fun b o e => hk₁ b o (k0 b o e), hsz⟩ (fun p hp => ?_) Y rfl hk₁ htk
  rcases List.mem_append.mp hp with hp | hp
  · refine ⟨(NC p hp).1, (NC p hp).2.1, ?_⟩
    cases q : h₀.get? p.1 with
    | none => rfl
    | some o => have := k0 _ _ q; rw [(NC p hp).2.2] at this; cases this
  · exact ⟨hk₁ _ _ (hled p hp).1, Nat.ne_of_lt (Heap.lt_size (hled p hp).1), (hled p hp).2⟩
theorem enter_cells {K : Frag} {p : Program} {loose : List Str} {mean : ExcName → Option Value} {mg mb : Str → Option Value} {Q E : Value → Shared → Prop} {h₀ : Heap} {led : List (Addr × Obj)}
    {name qual : Str} {params : Arguments} {body : List Stmt} {scope : Scope} {dV kV doc pm cdv ct oc : Value} {an od : Option Addr} {osl : Array (Option Value)} {f : Addr} {args : List Value} {binds : List (Str × Value)}
    (X : K.In h₀) (T : Top p loose mean mg mb h₀) (k0 : KeepsH h₀ s.heap) (hsz : h₀.objs.size ≤ s.heap.objs.size) (hled : ∀ q ∈ led, s.heap.get? q.1 = some q.2 ∧ h₀.get? q.1 = none)
    (ho : K.lookup f = some ⟨oc, od, .func (fnOf name qual params body scope dV kV doc pm an cdv ct), osl⟩) (hcd : codeIn K cdv qual = true) (hroom : A.depth < recursionLimit)
    (hbind : BindsTo s (fnOf name qual params body scope dV kV doc pm an cdv ct) ⟨args, []⟩ binds) (hkind : (binds.all fun y => scope.names.lookup y.1 == some .local || scope.names.lookup y.1 == some .cell) = true)
    (hnd : ((cellsFrom 0 scope.names []).map (·.1)).Nodup)
    (h : ∀ L' h₁ tk cells, Fr h₀ L' h₁ (bindL (envOfC qual scope L' f cdv).kindOf binds fun _ => none) → News h₀ L' h₁ (cells ++ led) →
      CellsAre (bindC (envOfC qual scope L' f cdv).kindOf binds fun _ => none) (cellsFrom (L' + 1) scope.names []) cells → L' = s.heap.objs.size → KeepsH s.heap h₁ → s.toks ≤ tk →
      wpAny (model prog w) (A.deeper (envOfC qual scope L' f cdv)) (execs body (envOfC qual scope L' f cdv))
        (fun fl s' => Q (match fl with | .ret v => v | _ => .none) s')
        (fun e s' => wpAny (model prog w) (A.deeper (envOfC qual scope L' f cdv)) (leaving (envOfC qual scope L' f cdv) e) (fun _ s'' => E e s'') (fun e' s'' => E e' s'') s')
        { s with heap := h₁, toks := tk })
    (hco : scope.isCoroutine = false) (hgen : scope.isGenerator = false) (hk : scope.kind = .function) : wpAny (model prog w) A (call (.ref f) args) Q E s :=
  enter_cells2 X T k0 hsz hled ho hcd hroom hbind hkind hnd (fun L' h₁ tk cells F N Y eL kk htk => h L' h₁ tk cells F N Y eL kk htk.1) hco hgen hk
end

end Mine
end
section
open PySem PySem.W PyProof.Rows
set_option Elab.async false
namespace Mine
theorem kh_rfl {h : Heap} : KeepsH h h := fun _ _ e => e
theorem kh_tr {a b c : Heap} (x : KeepsH a b) (y : KeepsH b c) : KeepsH a c := fun p o e => y p o (x p o e)
/-- the ghost grows by fresh objects alone -/
structure Ext (g h g' h' : Heap) : Prop where
  gg : KeepsH g g'
  gh : KeepsH g' h'
  hh : KeepsH h h'
  new : ∀ a, g.get? a = none → (∃ o, h.get? a = some o) → g'.get? a = none
theorem Ext.refl {g h : Heap} (k : KeepsH g h) : Ext g h g h := ⟨kh_rfl, k, kh_rfl, fun _ e _ => e⟩
theorem Ext.trans {g h g₁ h₁ g₂ h₂ : Heap} (x : Ext g h g₁ h₁) (y : Ext g₁ h₁ g₂ h₂) : Ext g h g₂ h₂ :=
  ⟨kh_tr x.gg y.gg, y.gh, kh_tr x.hh y.hh, fun a e ⟨o, ho⟩ => y.new a (x.new a e ⟨o, ho⟩) ⟨o, x.hh _ _ ho⟩⟩
noncomputable def ghost (g h h' : Heap) : Heap := hideAll h' ((List.range h.objs.size).filter fun a => (g.get? a).isNone && (h.get? a).isSome)
theorem ghost_ext {g h h' : Heap} (kg : KeepsH g h) (kh : KeepsH h h') : Ext g h (ghost g h h') h' := by
  refine ⟨fun b o e => hideAll_get _ (kh _ _ (kg _ _ e)) fun m => ?_, fun b o e => of_hideAll _ e, kh, fun a e ⟨o, ho⟩ => hideAll_none _ ?_⟩
  · have := (List.mem_filter.mp m).2
    rw [e] at this; simp at this
  · refine List.mem_filter.mpr ⟨List.mem_range.mpr (Heap.lt_size ho), ?_⟩
    rw [e, ho]; rfl
theorem ghost_new {g h h' : Heap} {a : Addr} {o : Obj} (hn : h.get? a = none) (e : h'.get? a = some o) : (ghost g h h').get? a = some o :=
  hideAll_get _ e fun m => by
    have := (List.mem_filter.mp m).2
    rw [hn] at this; simp at this
/-- what changes outside of the ghost leaves the ghost -/
theorem Ext.but {g h g' h' h'' : Heap} {mt : List Addr} (x : Ext g h g' h') (k : KeepBut mt h' h'') (hm : ∀ a ∈ mt, g'.get? a = none) : KeepsH g' h'' :=
  fun b o e => k b o (fun q => by rw [hm b q] at e; cases e) (x.gh b o e)

/-- one more object for the ghost -/
noncomputable def addG (g h : Heap) (D : Addr) : Heap := hideAll h ((List.range h.objs.size).filter fun a => (g.get? a).isNone && !(a == D))
theorem addG_gg {g h : Heap} {D : Addr} (k : KeepsH g h) : KeepsH g (addG g h D) := fun b o e => hideAll_get _ (k _ _ e) fun m => by
  have := (List.mem_filter.mp m).2
  rw [e] at this; simp at this
theorem addG_gh {g h : Heap} {D : Addr} : KeepsH (addG g h D) h := fun _ _ e => of_hideAll _ e
theorem addG_at {g h : Heap} {D : Addr} {o : Obj} (e : h.get? D = some o) : (addG g h D).get? D = some o := hideAll_get _ e fun m => by
  have := (List.mem_filter.mp m).2
  simp at this
theorem addG_no {g h : Heap} {D b : Addr} (hb : b ≠ D) (e : g.get? b = none) : (addG g h D).get? b = none := by
  by_cases hlt : b < h.objs.size
  · refine hideAll_none _ (List.mem_filter.mpr ⟨List.mem_range.mpr hlt, ?_⟩)
    rw [e]; simp [hb]
  · exact Heap.get?_none_of_le (by rw [addG, hideAll_size]; exact Nat.not_lt.mp hlt)
theorem Ext.add {g h g' h' : Heap} {D : Addr} (x : Ext g h g' h') (hD : h.get? D = none) : Ext g h (addG g' h' D) h' :=
  ⟨kh_tr x.gg (addG_gg x.gh), addG_gh, x.hh, fun a e ⟨o, ho⟩ => addG_no (fun q => by rw [q, hD] at ho; cases ho) (x.new a e ⟨o, ho⟩)⟩

section
variable {prog : Program} {w : World} {A : Around} {R : Result → Shared → Prop}
theorem gc_loop {s : Shared} {elt iter : Expr} {x : Str} {px : Pos} {ifs : List Expr} {scope : Scope} {pos : Pos} {I D : Addr} {fp wr mt bs : List Addr} {n : Nat} {P : Nat → Value → Prop} {St : Nat → Heap → Prop}
    {cenv : Env} (W : Walks prog w A I fp wr n P St) (p : Nat → Bool) (J : List Value → List Value → Shared → Prop) (EO : Heap → Prop) (Bd : Heap → Value → Prop)
    (hEO : ∀ h h', EO h → (∀ b ∈ bs, ∀ o, h.get? b = some o → h'.get? b = some o) → EO h')
    (hBd : ∀ h h' v, Bd h v → (∀ b ∈ bs, ∀ o, h.get? b = some o → h'.get? b = some o) → Bd h' v)
    (hBE : ∀ h v, Bd h v → EO h)
    (hasg : ∀ (s' : Shared) v (Q : Unit → Shared → Prop) (E : Value → Shared → Prop), EO s'.heap → (∀ h₂ tk, Bd h₂ v → KeepBut bs s'.heap h₂ → Q () { s' with heap := h₂, toks := tk }) → wpAny (model prog w) A (assign (.Name x px) cenv v) Q E s')
    (hDb : D ∉ bs) (hDf : D ∉ fp) (hbf : ∀ b ∈ bs, b ∉ fp) (hmut : ∀ b ∈ mt, b ≠ D ∧ b ∉ bs ∧ b ∉ fp)
    (hJ : ∀ vs ys (s' : Shared) h tk, J vs ys s' → KeepBut (D :: (bs ++ wr)) s'.heap h → J vs ys { s' with heap := h, toks := tk })
    (hst : St 0 s.heap) (hacc : s.heap.PlainList D #[]) (heo : EO s.heap) (hJ0 : J [] [] s)
    (htests : ∀ vs ys v (s' : Shared) E', vs.length < n → P vs.length v → J vs ys s' → Bd s'.heap v →
      wpAny (model prog w) A (forIn ifs true fun c r => if r = true then do let ok ← isTrue c cenv (eval c cenv); pure (ForInStep.yield ok) else pure (ForInStep.yield r))
        (fun ok s₃ => ok = p vs.length ∧ Keeps s' s₃) E' s')
    (helt : ∀ vs ys v (s' : Shared) E', vs.length < n → P vs.length v → p vs.length = true → J vs ys s' → Bd s'.heap v → St (vs.length + 1) s'.heap → s'.heap.PlainList D (List.toArray ys) →
      wpAny (model prog w) A (eval elt cenv) (fun y s₃ => KeepBut mt s'.heap s₃.heap ∧ J (vs ++ [v]) (ys ++ [y]) s₃) E' s')
    (hskip : ∀ vs ys v s', p vs.length = false → J vs ys s' → J (vs ++ [v]) ys s')
    (hR : ∀ (s' : Shared) (ys vs : List Value), EO s'.heap → s'.heap.PlainList D (List.toArray ys) → vs.length = n → (∀ j v, vs[j]? = some v → P j v) → J vs ys s' → R (.ok .next) s')
    (hsz : n ≤ sizeLine) :
    codeAny (model prog w) A (.compLoop (.ListComp elt [⟨.Name x px, iter, ifs, 0⟩] scope pos) 0 (.ref I) (.ref D) cenv) R s := by
  have hbw : ∀ b ∈ bs, b ∉ wr := fun b hb h => hbf b hb (W.sub _ h)
  have hDw : D ∉ wr := fun h => hDf (W.sub _ h)
  have hmD : D ∉ mt := fun h => (hmut _ h).1 rfl
  refine codeAny_compLoop_tests
    (fun k s' => ∃ ys vs : List Value, St vs.length s'.heap ∧ s'.heap.PlainList D (List.toArray ys) ∧ EO s'.heap ∧ (∀ j v, vs[j]? = some v → P j v) ∧
      J vs ys s' ∧ ys.length ≤ vs.length ∧ vs.length ≤ n ∧ k = n + 1 - vs.length) ?_ (n + 1)
    ⟨[], [], hst, hacc, heo, by simp, hJ0, Nat.le_refl _, Nat.zero_le _, rfl⟩
  rintro k s' ⟨ys, vs, hst', hacc', heo', hP, hJ', hyl, hi, rfl⟩
  by_cases hlt : vs.length < n
  · refine W.item vs.length _ _ _ hlt hst' fun v h₁ tk₁ hPv hst₁ hk₁ => ?_
    refine hasg _ _ _ _ (hEO _ _ heo' fun b hb o e => hk₁ b o (hbw b hb) e) fun h₂ tk₂ hb₂ kb₂ => ?_
    dsimp only at kb₂ ⊢
    have up₂ : KeepBut (D :: (bs ++ wr)) s'.heap h₂ := fun b o hb e => by
      simp only [List.mem_cons, List.mem_append, not_or] at hb
      exact kb₂ b o hb.2.1 (hk₁ b o hb.2.2 e)
    have hst₂ : St (vs.length + 1) h₂ := W.frame _ _ _ hst₁ fun b hb o e => kb₂ b o (fun h => hbf b h hb) e
    have hacc₂ : h₂.PlainList D (List.toArray ys) := hacc'.at fun o e => kb₂ D o hDb (hk₁ D o hDw e)
    have hP' : ∀ j u, (vs ++ [v])[j]? = some u → P j u := fun j u hj => by
      rcases Nat.lt_trichotomy j vs.length with h | h | h
      · exact hP j u (by rwa [List.getElem?_append_left h] at hj)
      · subst h; simp at hj; subst hj; exact hPv
      · have hnone : (vs ++ [v])[j]? = none := List.getElem?_eq_none (by rw [List.length_append, List.length_singleton]; omega)
        rw [hnone] at hj; cases hj
    have hlen' : (vs ++ [v]).length = vs.length + 1 := by simp
    have hJ₂ := hJ vs ys s' h₂ tk₂ hJ' up₂
    refine wpAny_mono (htests vs ys v _ _ hlt hPv hJ₂ hb₂) (fun ok s₃ h₃ => ?_) fun _ _ e => e
    obtain ⟨rfl, h₃, tk₃, rfl, hk₃⟩ := h₃
    dsimp only at hk₃ ⊢
    have hst₃ : St (vs.length + 1) h₃ := W.frame _ _ _ hst₂ fun b _ o e => hk₃ b o e
    have hacc₃ : h₃.PlainList D (List.toArray ys) := hacc₂.at fun o e => hk₃ _ o e
    have hb₃ := hBd _ h₃ _ hb₂ fun b _ o e => hk₃ b o e
    have hJ₃ := hJ vs ys _ h₃ tk₃ hJ₂ fun b o _ e => hk₃ b o e
    cases hpv : p vs.length with
    | false =>
      simp only [Bool.false_eq_true, if_false]
      exact ⟨n + 1 - (vs.length + 1), by omega, ys, vs ++ [v], by rw [hlen']; exact hst₃, hacc₃, hBE _ _ hb₃, hP', hskip _ _ _ _ hpv hJ₃, by rw [hlen']; omega, by rw [hlen']; exact hlt, by rw [hlen']⟩
    | true =>
      simp only [if_true]
      refine wpAny_mono (helt vs ys v _ _ hlt hPv hpv hJ₃ hb₃ hst₃ hacc₃) (fun y s₄ h₄ => ?_) fun _ _ e => e
      obtain ⟨hk₄, hJ₄⟩ := h₄
      dsimp only at hk₄
      have hys : (List.toArray ys).size ≤ sizeLine := by rw [List.size_toArray]; omega
      refine wpAny_list_append_plain (hsz := hys) (hacc₃.at fun o e => hk₄ _ o hmD e) fun h₅ hl₅ hs₅ => ?_
      refine ⟨n + 1 - (vs.length + 1), by omega, ys ++ [y], vs ++ [v], ?_, ?_, ?_, hP', ?_, by simp; omega, by rw [hlen']; exact hlt, by rw [hlen']⟩
      · rw [hlen']
        exact W.frame _ _ h₅ hst₃ fun b hb o e => hs₅.extBut b o (fun h => hDf (h ▸ hb)) (hk₄ b o (fun h => (hmut b h).2.2 hb) e)
      · simpa using hl₅
      · exact hEO _ h₅ (hBE _ _ hb₃) fun b hb o e => hs₅.extBut b o (fun h => hDb (h ▸ hb)) (hk₄ b o (fun h => (hmut b h).2.1 hb) e)
      · exact hJ _ _ _ h₅ s₄.toks hJ₄ fun b o hb e => hs₅.extBut b o (fun h => hb (by simp [h])) e
  · have hin : vs.length = n := by omega
    refine W.done _ _ _ (hin ▸ hst') fun h₁ tk₁ hk₁ => ?_
    exact hR _ ys vs (hEO _ _ heo' fun b hb o e => hk₁ b o (hbw b hb) e) (hacc'.at fun o e => hk₁ _ o hDw e) hin hP (hJ _ _ _ _ _ hJ' fun b o hb e => hk₁ b o (fun h => hb (by simp [h])) e)
end

end Mine
end
section
open PySem PySem.W PyProof.Rows
set_option Elab.async false
namespace Mine
theorem paired_mono {α β : Type} {F G : α → β → Prop} (h : ∀ a b, F a b → G a b) : ∀ {l : List α} {r : List β}, Paired F l r → Paired G l r
  | _, _, .nil => .nil
  | _, _, .cons x r => .cons (h _ _ x) (paired_mono h r)
theorem paired_snoc {α β : Type} {F : α → β → Prop} {a : α} {b : β} : ∀ {l : List α} {r : List β}, Paired F l r → F a b → Paired F (l ++ [a]) (r ++ [b])
  | _, _, .nil, h => .cons h .nil
  | _, _, .cons x r, h => .cons x (paired_snoc r h)
theorem take_snoc_filter {α β : Type} {xs : List α} {k : Nat} {a : α} (q : α → Bool) (f : α → β) (e : xs[k]? = some a) :
    ((xs.take (k + 1)).filter q).map f = ((xs.take k).filter q).map f ++ (if q a then [f a] else []) := by
  rw [List.take_add_one, e, List.filter_append, List.map_append]
  cases h : q a <;> simp [h]
theorem paired_at {α β : Type} {F : α → β → Prop} {l : List α} {r : List β} (h : Paired F l r) {j : Nat} {v : α} (e : l[j]? = some v) : ∃ a, r[j]? = some a ∧ F v a := by
  induction h generalizing j with
  | nil => simp at e
  | cons h _ ih =>
    cases j with
    | zero => simp at e; subst e; exact ⟨_, rfl, h⟩
    | succ j => simp at e; obtain ⟨a, e, ha⟩ := ih e; exact ⟨a, by simpa using e, ha⟩
section
variable {prog : Program} {w : World} {A : Around} {E : Value → Shared → Prop} {env : Env}
/-- what a comprehension's test must do at an item -/
noncomputable def TestOk (prog : Program) (w : World) (A : Around) (env : Env) (scope : Scope) (cl : List (Str × Addr)) (x : Str) (ifs : List Expr) (s : Shared) (g : Heap) {α : Type} (xs : List α) (R : Heap → Value → α → Prop) (q : α → Bool) : Prop :=
  ∀ (a : α) (v : Value) (h : Heap) (tk : Nat) (g' : Heap) (C : Addr) (m : Str → Option Value) (E' : Value → Shared → Prop), a ∈ xs → R g' v a → Ext g s.heap g' h → g'.get? C = none → h.Ns C m → m x = some v →
    wpAny (model prog w) A (forIn ifs true fun c r => if r = true then do let ok ← isTrue c (compEnvC scope cl C env) (eval c (compEnvC scope cl C env)); pure (ForInStep.yield ok) else pure (ForInStep.yield r))
      (fun ok s₃ => ok = q a ∧ Keeps { s with heap := h, toks := tk } s₃) E' { s with heap := h, toks := tk }
noncomputable def EltOk (prog : Program) (w : World) (A : Around) (env : Env) (scope : Scope) (cl : List (Str × Addr)) (x : Str) (elt : Expr) (s : Shared) (g : Heap) {α β : Type} (xs : List α) (R : Heap → Value → α → Prop) (S : Heap → Value → β → Prop) (q : α → Bool) (f : α → β) : Prop :=
  ∀ (a : α) (v : Value) (h : Heap) (tk : Nat) (g' : Heap) (C : Addr) (m : Str → Option Value) (E' : Value → Shared → Prop), a ∈ xs → q a = true → R g' v a → Ext g s.heap g' h → g'.get? C = none → h.Ns C m → m x = some v →
    wpAny (model prog w) A (eval elt (compEnvC scope cl C env)) (fun y s₃ => ∃ h' tk' g'', s₃ = { s with heap := h', toks := tk' } ∧ Ext g' h g'' h' ∧ S g'' y (f a)) E' { s with heap := h, toks := tk }
noncomputable abbrev Up (R : Heap → Value → α → Prop) : Prop := ∀ h h' v a, KeepsH h h' → R h v a → R h' v a

theorem gcomp_block {α β : Type} {elt iter : Expr} {x : Str} {px : Pos} {ifs : List Expr} {scope : Scope} {cl : List (Str × Addr)} {pos : Pos} {s s₂ : Shared} {I : Addr} {fp wr : List Addr} {n : Nat} {P : Nat → Value → Prop}
    {St : Nat → Heap → Prop} (W : Walks prog w A I fp wr n P St) (hsz : n ≤ sizeLine) (xs : List α) (R : Heap → Value → α → Prop) (S : Heap → Value → β → Prop) (q : α → Bool) (f : α → β) (g : Heap)
    (hRm : Up R) (hSm : Up S) (hn : n = xs.length) (hP : ∀ j v, j < n → P j v → ∃ a, xs[j]? = some a ∧ R g v a) (kg : KeepsH g s.heap) (ks : ∃ h tk, s₂ = { s with heap := h, toks := tk } ∧ KeepsH s.heap h) (hwr : ∀ b ∈ wr, s.heap.get? b = none ∧ b < s₂.heap.objs.size)
    {RR : Value → Addr → Result → Shared → Prop}
    (hcell : ∀ y ∈ scope.names, y.2 ≠ .cell) (hkind : scope.kind = .function) (hx : scope.names.lookup x = some .local) (hst : St 0 s₂.heap) (hfp : ∀ b ∈ fp, b < s₂.heap.objs.size) (hwe : ∀ i h, St i h → ∀ b ∈ wr, ∃ o, h.get? b = some o)
    (ht : TestOk prog w A env scope cl x ifs s g xs R q) (he : EltOk prog w A env scope cl x elt s g xs R S q f)
    (hRR : ∀ h' tk C D m g' (ys : List Value) c, Ext g s.heap g' h' → h'.Ns C m → g'.get? C = none → s.heap.get? C = none → C ≠ D → g'.get? D = some (listOf ys.toArray c) → s.heap.get? D = none → Paired (S g') ys ((xs.filter q).map f) →
      RR (.ref D) C (.ok .next) { s with heap := h', toks := tk }) :
    wpAny (model prog w) A (newList []) (fun acc s₃ => wpAny (model prog w) A (newFunctionEnv scope env.globals cl [] env.qual none .none (some env)) (fun cenv s₄ =>
      codeAny (model prog w) A (.compStart (.ListComp elt [⟨.Name x px, iter, ifs, 0⟩] scope pos) 0 (.ref I) acc { cenv with scope := relabel scope env }) (RR acc cenv.locals) s₄) E s₃) E s₂ := by
  obtain ⟨hb, tkb, rfl, khb⟩ := ks
  refine wpAny_newObj_type (wpAny_newFunctionEnv hcell (by intro y hy; simp at hy) (fun h₁ hns₁ hsb₁ => ?_) hkind)
  dsimp only at hst hfp hwr hns₁ hsb₁ ⊢
  generalize hH2 : hb.push { cls := .type "list", dict := none, data := .seq ([] : List Value).toArray } = H2 at hns₁ hsb₁ ⊢
  have hC : H2.objs.size = hb.objs.size + 1 := by rw [← hH2, Heap.size_push]
  rw [hC] at hns₁ hsb₁ ⊢
  have hDf : hb.objs.size ∉ fp := fun hm => Nat.lt_irrefl _ (hfp _ hm)
  have hCf : hb.objs.size + 1 ∉ fp := fun hm => absurd (hfp _ hm) (Nat.not_lt.mpr (Nat.le_succ _))
  have old : KeepsH hb h₁ := fun b o e => hsb₁.extBut b o (Nat.ne_of_lt (Nat.lt_succ_of_lt (Heap.lt_size e))) (Heap.get?_push_of_some _ (hH2 ▸ Heap.get?_push_of_some _ e))
  have hacc : h₁.PlainList hb.objs.size #[] := ⟨_, hsb₁.extBut _ _ (neN (by omega)) (Heap.get?_push_of_some _ (hH2 ▸ Heap.get?_push_size _ rfl))⟩
  have hst₁ : St 0 h₁ := W.frame _ _ _ hst fun b _ o e => old b o e
  have sN : ∀ {b : Addr}, hb.objs.size ≤ b → s.heap.get? b = none := fun {b} hb' => by
    cases e : s.heap.get? b with
    | none => rfl
    | some o => exact absurd (Heap.lt_size (khb _ _ e)) (Nat.not_lt.mpr hb')
  have gOf : ∀ {b : Addr}, s.heap.get? b = none → g.get? b = none := fun {b} hb' => by
    cases e : g.get? b with
    | none => rfl
    | some o => rw [kg _ _ e] at hb'; cases hb'
  have hCD : hb.objs.size ≠ hb.objs.size + 1 := Nat.ne_of_lt (Nat.lt_succ_self _)
  have priv : ∀ b ∈ hb.objs.size :: ([hb.objs.size + 1] ++ wr), s.heap.get? b = none := fun b hm => by
    rcases List.mem_cons.mp hm with rfl | hm
    · exact sN (Nat.le_refl _)
    · rcases List.mem_append.mp hm with hm | hm
      · rw [List.mem_singleton.mp hm]; exact sN (Nat.le_succ _)
      · exact (hwr b hm).1
  have loop : ∀ s₃ : Shared, s₃ = { s with heap := h₁, toks := tkb + ([] : List (Str × Value)).length } →
      codeAny (model prog w) A (.compLoop (.ListComp elt [⟨.Name x px, iter, ifs, 0⟩] scope pos) 0 (.ref I) (.ref hb.objs.size) (compEnvC scope cl (hb.objs.size + 1) env))
        (RR (.ref hb.objs.size) (hb.objs.size + 1)) s₃ := by
    rintro s₃ rfl
    refine gc_loop (hsz := hsz) (mt := []) (bs := [hb.objs.size + 1]) (cenv := compEnvC scope cl (hb.objs.size + 1) env) W (fun j => (xs[j]?).any q)
      (fun vs ys s' => ∃ h tk g', s' = { s with heap := h, toks := tk } ∧ Ext g s.heap g' h ∧ (∀ b ∈ hb.objs.size :: ([hb.objs.size + 1] ++ wr), g'.get? b = none) ∧ Paired (S g') ys (((xs.take vs.length).filter q).map f))
      (fun h => ∃ m, h.Ns (hb.objs.size + 1) m) (fun h v => ∃ m, h.Ns (hb.objs.size + 1) m ∧ m x = some v)
      ?e1 ?e2 ?e3 ?e4 ?d1 hDf ?d2 (fun b hb => nomatch hb) ?jj hst₁ hacc ⟨_, hns₁⟩ ?j0 ?tt ?el ?sk ?rr
    case e1 => exact fun h h' ⟨m, hm⟩ k => ⟨m, hm.at' fun o e => k _ (.head _) o e⟩
    case e2 => exact fun h h' v ⟨m, hm, hv⟩ k => ⟨m, hm.at' fun o e => k _ (.head _) o e, hv⟩
    case e3 => exact fun h v ⟨m, hm, _⟩ => ⟨m, hm⟩
    case e4 =>
      rintro s' v Q E ⟨m, hm⟩ hQ
      refine wpAny_assign_Name (wpAny_storeName_local (lookup_relabel_local hx) hm (fun h₂ hn₂ hs₂ => ?_) (by simp [compEnvC, relabel, hkind]))
      exact hQ h₂ _ ⟨_, hn₂, by simp⟩ fun b o hb e => hs₂.extBut b o (fun q => hb (by simp [q, compEnvC])) e
    case d1 => exact fun h => hCD (List.mem_singleton.mp h)
    case d2 => exact fun b hb => by rw [List.mem_singleton.mp hb]; exact hCf
    case jj =>
      rintro vs ys s' h tk ⟨h0, tk0, g', rfl, x1, x2, x5⟩ kb
      dsimp only at kb
      exact ⟨h, tk, g', rfl, ⟨x1.gg, x1.but kb x2, fun b o e => kb b o (fun hm => by rw [priv b hm] at e; cases e) (x1.hh b o e), x1.new⟩, x2, x5⟩
    case j0 => exact ⟨h₁, _, g, rfl, ⟨kh_rfl, fun b o e => old b o (khb b o (kg b o e)), fun b o e => old b o (khb b o e), fun _ e _ => e⟩, fun b hm => gOf (priv b hm), by simpa using Paired.nil⟩
    case tt =>
      rintro vs ys v s' E' hlt hPv ⟨h, tk, g', rfl, x1, x2, x5⟩ ⟨m, hm, hv⟩
      obtain ⟨a, ha, hRa⟩ := hP _ _ hlt hPv
      refine wpAny_mono (ht a v h tk g' _ m E' (List.mem_of_getElem? ha) (hRm _ _ _ _ x1.gg hRa) x1 (x2 _ (by simp)) hm hv) (fun ok s₃ r => ⟨?_, r.2⟩) fun _ _ e => e
      rw [r.1, ha]; rfl
    case el =>
      rintro vs ys v s' E' hlt hPv hp ⟨h, tk, g', rfl, x1, x2, x5⟩ ⟨m, hm, hv⟩ hst' hpl
      obtain ⟨a, ha, hRa⟩ := hP _ _ hlt hPv
      have hq : q a = true := by simpa [ha] using hp
      refine wpAny_mono (he a v h tk g' _ m E' (List.mem_of_getElem? ha) hq (hRm _ _ _ _ x1.gg hRa) x1 (x2 _ (by simp)) hm hv) (fun y s₃ r => ?_) fun _ _ e => e
      obtain ⟨h', tk', g'', rfl, y1, y2⟩ := r
      refine ⟨fun b o _ e => y1.hh b o e, h', tk', g'', rfl, x1.trans y1, fun b hm' => y1.new b (x2 b hm') ?_, ?_⟩
      · rcases List.mem_cons.mp hm' with rfl | hm'
        · obtain ⟨c, hc⟩ := hpl; exact ⟨_, hc⟩
        · rcases List.mem_append.mp hm' with hm' | hm'
          · rw [List.mem_singleton.mp hm']; obtain ⟨o, _, _, e, _⟩ := hm; exact ⟨o, e⟩
          · exact hwe _ _ hst' b hm'
      · rw [List.length_append, List.length_singleton, take_snoc_filter q f ha, if_pos hq]
        exact paired_snoc (paired_mono (fun y b hy => hSm _ _ _ _ y1.gg hy) x5) y2
    case sk =>
      rintro vs ys v s' hp ⟨h, tk, g', rfl, x1, x2, x5⟩
      refine ⟨h, tk, g', rfl, x1, x2, ?_⟩
      rw [List.length_append, List.length_singleton]
      cases ha : xs[vs.length]? with
      | none => rw [List.take_of_length_le (by have := List.getElem?_eq_none_iff.mp ha; omega)]; rwa [List.take_of_length_le (by have := List.getElem?_eq_none_iff.mp ha; omega)] at x5
      | some a =>
        have hq : q a = false := by simpa [ha] using hp
        rw [take_snoc_filter q f ha, hq]; simpa using x5
    case rr =>
      rintro s' ys vs ⟨m, hm⟩ ⟨c, hc⟩ hlen hPs ⟨h, tk, g', rfl, x1, x2, x5⟩
      dsimp only at hc hm
      have hx5 : Paired (S g') ys ((xs.filter q).map f) := by rwa [hlen, hn, List.take_length] at x5
      refine hRR h tk _ _ m (addG g' h hb.objs.size) ys c (x1.add (sN (Nat.le_refl _))) hm (addG_no (Ne.symm hCD) (x2 _ (by simp))) (sN (Nat.le_succ _)) (Ne.symm hCD) (addG_at hc) (sN (Nat.le_refl _)) (paired_mono (fun y b hy => hSm _ _ _ _ (addG_gg x1.gh) hy) hx5)
  exact codeAny_compStart_list (loop _ rfl) (W.self 0 _ _ _ hst₁ (loop _ rfl))
/-- the source of a comprehension -/
noncomputable def Src (prog : Program) (w : World) (A : Around) (xv : Value) (s : Shared) (g : Heap) {α : Type} (xs : List α) (R : Heap → Value → α → Prop) : Prop :=
  wpAny (model prog w) A (pyIter xv) (fun it s₂ => ∃ I fp wr n P St, it = .ref I ∧ Walks prog w A I fp wr n P St ∧ n ≤ sizeLine ∧ St 0 s₂.heap ∧ (∀ b ∈ fp, b < s₂.heap.objs.size) ∧ n = xs.length ∧ (∀ j v, j < n → P j v → ∃ a, xs[j]? = some a ∧ R g v a) ∧
      (∃ h tk, s₂ = { s with heap := h, toks := tk } ∧ KeepsH s.heap h) ∧ (∀ b ∈ wr, s.heap.get? b = none ∧ b < s₂.heap.objs.size) ∧ (∀ i h, St i h → ∀ b ∈ wr, ∃ o, h.get? b = some o) ∧ (∀ b ∈ fp, b ∈ wr ∨ ∃ o, g.get? b = some o)) (fun _ _ => False) s
theorem Src.list {s : Shared} {g : Heap} {α : Type} {xs : List α} {R : Heap → Value → α → Prop} {l : Addr} {vs : Array Value} (hh : A.handled = none) (hlg : g.IsList l vs) (kg : KeepsH g s.heap) (hR : Paired (R g) vs.toList xs) (hsz : xs.length ≤ 1000) : Src prog w A (.ref l) s g xs R := by
  have hl : s.heap.IsList l vs := by obtain ⟨o, e, r⟩ := hlg; exact ⟨o, kg _ _ e, r⟩
  have hlen : vs.size = xs.length := by simpa using hR.length
  have hlt : l < s.heap.objs.size := by obtain ⟨_, e, _⟩ := hl; exact Heap.lt_size e
  refine wpAny_pyIter_list hl ?_
  refine ⟨_, _, _, _, _, _, rfl, Walks.list hh _ _ (Nat.ne_of_lt hlt) vs, by rw [hlen, PySem.sizeLine_eq]; omega, ⟨⟨_, Heap.get?_push_size _ rfl, rfl, rfl⟩, hl.push _⟩, ?_, hlen, ?_, ⟨_, _, rfl, fun b o e => Heap.get?_push_of_some _ e⟩, ?_, ?_, ?_⟩
  · intro b hb
    show b < (s.heap.push _).objs.size
    rw [Heap.size_push]
    rcases List.mem_cons.mp hb with rfl | hb
    · exact Nat.lt_succ_self _
    · rw [List.mem_singleton.mp hb]; exact Nat.lt_succ_of_lt hlt
  · intro j v _ hv
    exact paired_at hR (by simpa using hv)
  · intro b hb
    rw [List.mem_singleton.mp hb]
    exact ⟨Heap.get?_none_of_le (Nat.le_refl _), by show _ < (s.heap.push _).objs.size; rw [Heap.size_push]; exact Nat.lt_succ_self _⟩
  · rintro i h ⟨⟨o, e, _⟩, _⟩ b hb
    rw [List.mem_singleton.mp hb]; exact ⟨o, e⟩
  · intro b hb
    rcases List.mem_cons.mp hb with rfl | hb
    · exact .inl (.head _)
    · rw [List.mem_singleton.mp hb]; obtain ⟨o, e, _⟩ := hlg; exact .inr ⟨o, e⟩
theorem Src.range {s : Shared} {g : Heap} {r : Addr} {n : Nat} {t u v0 : Tok} (hh : A.handled = none) (hr : IsRange s.heap r 0 (n : Int) 1 t u v0) (hn : n ≤ 1000) : Src prog w A (.ref r) s g (List.range n) (fun _ v (k : Nat) => ∃ t, v = .int (k : Int) t) := by
  have hsz : Builtin.Range.rangeSize 0 (n : Int) 1 = (n : Int) := by rw [rangeSize_one]; split <;> omega
  refine wpAny_pyIter_range hr (small_one (by omega) (by omega) (by omega) (by omega)) ?_
  rw [hsz]
  refine ⟨_, _, _, _, _, _, rfl, Walks.range hh _ 0 1 n, by rw [PySem.sizeLine_eq]; omega, ?_, ?_, by simp, ?_, ⟨_, _, rfl, fun b o e => Heap.get?_push_of_some _ e⟩, ?_, ?_, ?_⟩
  · show (s.heap.push _).get? _ = _
    rw [Heap.get?_push_size _ rfl]; simp
  · intro b hb
    show b < (s.heap.push _).objs.size
    rw [Heap.size_push, List.mem_singleton.mp hb]; exact Nat.lt_succ_self _
  · rintro j v hj ⟨t', rfl⟩
    exact ⟨j, by simp [hj], t', by simp⟩
  · intro b hb
    rw [List.mem_singleton.mp hb]
    exact ⟨Heap.get?_none_of_le (Nat.le_refl _), by show _ < (s.heap.push _).objs.size; rw [Heap.size_push]; exact Nat.lt_succ_self _⟩
  · intro i h e b hb
    rw [List.mem_singleton.mp hb]; exact ⟨_, e⟩
  · exact fun b hb => .inl hb
/-- all that a comprehension asks, at its source's value -/
noncomputable def CompAt (prog : Program) (w : World) (A : Around) (env : Env) (scope : Scope) (cl : List (Str × Addr)) (x : Str) (ifs : List Expr) (elt : Expr) (K : Addr → Heap → Nat → Heap → Shared → Prop) (xv : Value) (s : Shared) : Prop :=
  ∃ (α β : Type) (xs : List α) (R : Heap → Value → α → Prop) (S : Heap → Value → β → Prop) (q : α → Bool) (f : α → β) (g : Heap), Up R ∧ Up S ∧ KeepsH g s.heap ∧ TestOk prog w A env scope cl x ifs s g xs R q ∧ EltOk prog w A env scope cl x elt s g xs R S q f ∧ Src prog w A xv s g xs R ∧
    ∀ h' tk D g' (ys : List Value) c, Ext g s.heap g' h' → g'.get? D = some (listOf ys.toArray c) → s.heap.get? D = none → Paired (S g') ys ((xs.filter q).map f) → K D h' tk g' s
/-- a comprehension as an expression -/
theorem gcomp_eval {elt iter : Expr} {x : Str} {px : Pos} {ifs : List Expr} {scope : Scope} {cl : List (Str × Addr)} {pos : Pos} {s : Shared} {Q : Value → Shared → Prop}
    (hclos : closureFor scope env = pure cl) (hcell : ∀ y ∈ scope.names, y.2 ≠ .cell) (hkind : scope.kind = .function) (hnames : ∀ z ∈ scope.names, z.2 = .local → scope.names.lookup z.1 = some .local) (hx : scope.names.lookup x = some .local)
    (h : wpAny (model prog w) A (eval iter env) (CompAt prog w A env scope cl x ifs elt (fun D h' tk _ s₁ => Q (.ref D) { s₁ with heap := h', toks := tk })) E s)
    (hs : ∀ x, foldedSetIterable iter env x = pure x := by intro _; rfl) :
    wpAny (model prog w) A (eval (.ListComp elt [⟨.Name x px, iter, ifs, 0⟩] scope pos) env) Q E s := by
  rw [eval_ListComp]
  refine wpAny_comprehension_free (use := none) rfl hs hclos hkind hnames (wpAny_mono h (fun xv s₁ h₁ => ?_) fun _ _ e => e)
  obtain ⟨α, β, xs, R, S, q, f, g, hRm, hSm, kg, ht, he, hsrc, hQ⟩ := h₁
  refine wpAny_mono hsrc (fun it s₂ h₂ => ?_) fun _ _ e => e.elim
  obtain ⟨I, fp, wr, n, P, St, rfl, W, hsz, hst, hfp, hn, hP, ks, hwr, hwe, _⟩ := h₂
  refine gcomp_block (RR := fun acc C => compPost (model prog w) A E none Q acc C) W hsz xs R S q f g hRm hSm hn hP kg ks hwr hcell hkind hx hst hfp hwe ht he ?_
  intro h' tk C D m g' ys c x1 hm hC hCs hCD hD hDs hy
  exact ⟨m, hm, fun h'' hs'' => hQ h'' tk D g' ys c ⟨x1.gg, fun b o e => hs''.extBut b o (fun q => by rw [q, hC] at e; cases e) (x1.gh b o e), fun b o e => hs''.extBut b o (fun q => by rw [q, hCs] at e; cases e) (x1.hh b o e), x1.new⟩ hD hDs hy⟩
/-- the end of a comprehension that is bound to a name -/
noncomputable def AsgEnd (prog : Program) (w : World) (A : Around) (env : Env) (y : Str) (py : Pos) (Q : Flow → Shared → Prop) (E : Value → Shared → Prop) (D : Addr) (h' : Heap) (tk : Nat) (g' : Heap) (s : Shared) : Prop :=
  wpAny (model prog w) A (assign (.Name y py) env (.ref D)) (fun _ s'' => ∃ mt, KeepBut mt h' s''.heap ∧ (∀ a ∈ mt, g'.get? a = none ∧ ∃ o, s.heap.get? a = some o) ∧
    ∀ h'', KeepsH g' h'' → (∀ a o, (∃ o, s.heap.get? a = some o) → s''.heap.get? a = some o → h''.get? a = some o) → Q .next { s'' with heap := h'' }) E { s with heap := h', toks := tk }
theorem gcomp_assign {elt iter : Expr} {x y : Str} {px py : Pos} {ifs : List Expr} {scope : Scope} {cl : List (Str × Addr)} {pos spos : Pos} {s : Shared} {Q : Flow → Shared → Prop}
    (hsw : swapsWith (.ListComp elt [⟨.Name x px, iter, ifs, 0⟩] scope pos) (some (.Name y py)) spos.line env = pure true)
    (hclos : closureFor scope env = pure cl) (hcell : ∀ y ∈ scope.names, y.2 ≠ .cell) (hkind : scope.kind = .function) (hnames : ∀ z ∈ scope.names, z.2 = .local → scope.names.lookup z.1 = some .local) (hx : scope.names.lookup x = some .local)
    (h : wpAny (model prog w) A (eval iter env) (CompAt prog w A env scope cl x ifs elt (AsgEnd prog w A env y py Q E)) E s)
    (hs : ∀ x, foldedSetIterable iter env x = pure x := by intro _; rfl) :
    wpAny (model prog w) A (exec (.Assign [.Name y py] (.ListComp elt [⟨.Name x px, iter, ifs, 0⟩] scope pos) spos) env) Q E s := by
  rw [exec_Assign_Name_used _ _ _ _ hsw]
  refine wpAny_bind (wpAny_standAt (wpAny_bind ?_))
  show wpAny _ A (do let _ ← comprehension (.ListComp elt [⟨.Name x px, iter, ifs, 0⟩] scope pos) scope env _ (newList []) false (eval iter env) (some (assign (.Name y py) env))) _ _ s
  refine wpAny_bind (wpAny_mono (wpAny_comprehension_free (use := some (assign (.Name y py) env)) (Q := fun _ s' => Q .next s') rfl hs hclos hkind hnames
    (wpAny_mono h (fun xv s₁ h₁ => ?_) fun _ _ e => e)) (fun _ s' hq => wpAny_pure (wpAny_pure hq)) fun _ _ e => e)
  obtain ⟨α, β, xs, R, S, q, f, g, hRm, hSm, kg, ht, he, hsrc, hasg⟩ := h₁
  refine wpAny_mono hsrc (fun it s₂ h₂ => ?_) fun _ _ e => e.elim
  obtain ⟨I, fp, wr, n, P, St, rfl, W, hsz, hst, hfp, hn, hP, ks, hwr, hwe, _⟩ := h₂
  refine gcomp_block (RR := fun acc C => compPost (model prog w) A E (some (assign (.Name y py) env)) (fun _ s' => Q .next s') acc C) W hsz xs R S q f g hRm hSm hn hP kg ks hwr hcell hkind hx hst hfp hwe ht he ?_
  intro h' tk C D m g' ys c x1 hm hC hCs hCD hD hDs hy
  show wpAny _ A (assign (.Name y py) env (.ref D)) _ _ _
  refine wpAny_mono (hasg h' tk D g' ys c x1 hD hDs hy) (fun _ s'' r => ?_) fun _ _ e => e
  obtain ⟨mt, kb, hmt, hq⟩ := r
  refine ⟨m, hm.at' fun o e => kb C o (fun h => by obtain ⟨_, o, ho⟩ := hmt C h; rw [hCs] at ho; cases ho) e, fun h'' hs'' => hq h'' (fun b o e => hs''.extBut b o (fun q => by rw [q, hC] at e; cases e) (kb b o (fun h => by rw [(hmt b h).1] at e; cases e) (x1.gh b o e))) fun a o ⟨o', ho'⟩ e => hs''.extBut a o (fun q => by rw [q, hCs] at ho'; cases ho') e⟩
end

end Mine
end
section
open PySem PySem.W PyProof.Rows PySem.Spec
set_option Elab.async false
namespace Mine
noncomputable def slt (x y : Str) : Bool := decide (x.cps.toList < y.cps.toList)
theorem slt_irrefl (x : Str) : slt x x = false := by
  unfold slt
  exact decide_eq_false (List.lt_irrefl _)
theorem slt_trans {x y z : Str} (h : slt x y = true) (k : slt y z = true) : slt x z = true := by
  unfold slt at *
  exact decide_eq_true (List.lt_trans (of_decide_eq_true h) (of_decide_eq_true k))
theorem slt_tri {x y : Str} (h : slt x y = false) (k : slt y x = false) : x = y := by
  unfold slt at *
  have h1 := of_decide_eq_false h
  have h2 := of_decide_eq_false k
  have := List.le_antisymm (List.not_lt.mp h1) (List.not_lt.mp h2)
  cases x; cases y
  simp only [Str.mk.injEq]
  exact Array.toList_inj.mp this.symm
theorem slt_asymm {x y : Str} (h : slt x y = true) : slt y x = false := by
  cases e : slt y x with
  | false => rfl
  | true => have := slt_trans h e; rw [slt_irrefl] at this; cases this
theorem slt_of_nlt {x y z : Str} (h : slt y x = false) (k : slt y z = true) : slt x z = true := by
  cases e : slt x y with
  | true => exact slt_trans e k
  | false => rw [slt_tri e h]; exact k
theorem slt_of_lt_n {x y z : Str} (h : slt x y = true) (k : slt z y = false) : slt x z = true := by
  cases e : slt y z with
  | true => exact slt_trans h e
  | false => rw [← slt_tri e k]; exact h
theorem ltCps_slt (x y : Str) : ltCps x.cps.toList y.cps.toList = slt x y := by rw [ltCps_eq]; rfl
theorem nlt_trans {x y z : Str} (h : slt y x = false) (k : slt z y = false) : slt z x = false := by
  cases e : slt z x with
  | false => rfl
  | true => have := slt_of_lt_n e h; rw [k] at this; cases this
/-- in order by the signs -/
noncomputable def ins (x : Str) : List Str → List Str
  | [] => [x]
  | y :: r => if slt y x then y :: ins x r else x :: y :: r
noncomputable def srt : List Str → List Str
  | [] => []
  | x :: r => ins x (srt r)
theorem ins_perm (x : Str) : ∀ l, (ins x l).Perm (x :: l)
  | [] => .refl _
  | y :: r => by
    unfold ins; split
    · exact (List.Perm.cons _ (ins_perm x r)).trans (.swap _ _ _)
    · exact .refl _
theorem srt_perm : ∀ l, (srt l).Perm l
  | [] => .refl _
  | x :: r => (ins_perm x (srt r)).trans (.cons _ (srt_perm r))
noncomputable def Asc (l : List Str) : Prop := l.Pairwise fun a b => slt b a = false
theorem ins_asc (x : Str) : ∀ l, Asc l → Asc (ins x l)
  | [], _ => by unfold ins Asc; exact .cons (by simp) .nil
  | y :: r, h => by
    unfold ins; split
    · rename_i hy
      refine List.pairwise_cons.mpr ⟨fun z hz => ?_, ins_asc x r (List.pairwise_cons.mp h).2⟩
      rcases List.mem_cons.mp ((ins_perm x r).mem_iff.mp hz) with rfl | hz
      · exact slt_asymm hy
      · exact (List.pairwise_cons.mp h).1 z hz
    · rename_i hy
      have hy' : slt y x = false := by simpa using hy
      refine List.pairwise_cons.mpr ⟨fun z hz => ?_, h⟩
      rcases List.mem_cons.mp hz with rfl | hz
      · exact hy'
      · exact nlt_trans hy' ((List.pairwise_cons.mp h).1 z hz)
theorem srt_asc : ∀ l, Asc (srt l)
  | [] => .nil
  | x :: r => ins_asc x _ (srt_asc r)
theorem asc_unique : ∀ (l r : List Str), Asc l → Asc r → l.Perm r → l = r
  | [], r, _, _, p => by rw [List.Perm.nil_eq p]
  | x :: l, [], _, _, p => by have := p.length_eq; simp at this
  | x :: l, y :: r, hl, hr, p => by
    have hx : x = y := by
      have h1 : x ∈ y :: r := p.mem_iff.mp (.head _)
      have h2 : y ∈ x :: l := p.mem_iff.mpr (.head _)
      rcases List.mem_cons.mp h1 with e | h1
      · exact e
      · rcases List.mem_cons.mp h2 with e | h2
        · exact e.symm
        · exact slt_tri ((List.pairwise_cons.mp hr).1 x h1 |> fun h => by
            exact (List.pairwise_cons.mp hl).1 y h2 |> fun _ => by
              cases e : slt x y with
              | false => rfl
              | true => rw [h] at e; cases e) ((List.pairwise_cons.mp hl).1 y h2)
    subst hx
    rw [asc_unique l r (List.pairwise_cons.mp hl).2 (List.pairwise_cons.mp hr).2 (List.Perm.cons_inv p)]
theorem asc_of_rising : ∀ (l : List Str) (p : Str), risingS p l = true → Asc (p :: l)
  | [], p, _ => .cons (by simp) .nil
  | x :: r, p, h => by
    unfold risingS at h
    rw [Bool.and_eq_true, Bool.not_eq_true', ltCps_slt] at h
    have ih := asc_of_rising r x h.2
    refine List.pairwise_cons.mpr ⟨fun z hz => ?_, ih⟩
    rcases List.mem_cons.mp hz with rfl | hz
    · exact h.1
    · exact nlt_trans h.1 ((List.pairwise_cons.mp ih).1 z hz)
theorem asc_of_sortedS : ∀ (l : List Str), sortedS l = true → Asc l
  | [], _ => .nil
  | x :: r, h => asc_of_rising r x h
theorem srt_unique {l r : List Str} (h : r.Perm l) (k : sortedS r = true) : r = srt l := asc_unique _ _ (asc_of_sortedS _ k) (srt_asc _) (h.trans (srt_perm l).symm)

end Mine
end
section
open PySem PySem.W PyProof.Rows
set_option Elab.async false
set_option maxRecDepth 100000
set_option linter.unusedVariables false
namespace Mine
section
variable {prog : Program} {w : World} {A : Around} {env : Env} {h₀ : Heap} {s : Shared}
/-- an expression that is evaluated on any heap that keeps h₀, keeps it, and gives K -/
structure PG (prog : Program) (w : World) (A : Around) (env : Env) (e : Expr) (h₀ : Heap) (s : Shared) (K : Value → Heap → Prop) : Prop where
  run : ∀ (h : Heap) (tk : Nat) (Q E : Value → Shared → Prop), KeepsH h₀ h → (∀ v h' tk', KeepsH h h' → K v h' → Q v { s with heap := h', toks := tk' }) → wpAny (model prog w) A (eval e env) Q E { s with heap := h, toks := tk }
/-- a test -/
structure PT (prog : Program) (w : World) (A : Around) (env : Env) (e : Expr) (h₀ : Heap) (s : Shared) (b : Bool) : Prop where
  run : ∀ (h : Heap) (tk : Nat) (Q : Bool → Shared → Prop) (E : Value → Shared → Prop), KeepsH h₀ h → (∀ h' tk', KeepsH h h' → Q b { s with heap := h', toks := tk' }) → wpAny (model prog w) A (isTrue e env (eval e env)) Q E { s with heap := h, toks := tk }
/-- a call -/
structure PC (prog : Program) (w : World) (A : Around) (f : Value) (args : List Value) (h₀ : Heap) (s : Shared) (K : Value → Heap → Prop) : Prop where
  run : ∀ (h : Heap) (tk : Nat) (Q E : Value → Shared → Prop), KeepsH h₀ h → (∀ v h' tk', KeepsH h h' → K v h' → Q v { s with heap := h', toks := tk' }) → wpAny (model prog w) A (call f args) Q E { s with heap := h, toks := tk }
/-- a tree -/
structure PS (prog : Program) (w : World) (A : Around) (t : Sem Value) (h₀ : Heap) (s : Shared) (K : Value → Heap → Prop) : Prop where
  run : ∀ (h : Heap) (tk : Nat) (Q E : Value → Shared → Prop), KeepsH h₀ h → (∀ v h' tk', KeepsH h h' → K v h' → Q v { s with heap := h', toks := tk' }) → wpAny (model prog w) A t Q E { s with heap := h, toks := tk }
theorem PG.imp {e : Expr} {K K' : Value → Heap → Prop} (x : PG prog w A env e h₀ s K) (h : ∀ v h', KeepsH h₀ h' → K v h' → K' v h') : PG prog w A env e h₀ s K' :=
  .mk fun h₁ tk Q E k hQ => x.run h₁ tk Q E k fun v h' tk' k' kv => hQ v h' tk' k' (h v h' (kh_tr k k') kv)
theorem PS.imp {t : Sem Value} {K K' : Value → Heap → Prop} (x : PS prog w A t h₀ s K) (h : ∀ v h', KeepsH h₀ h' → K v h' → K' v h') : PS prog w A t h₀ s K' :=
  .mk fun h₁ tk Q E k hQ => x.run h₁ tk Q E k fun v h' tk' k' kv => hQ v h' tk' k' (h v h' (kh_tr k k') kv)
theorem PG.shift {e : Expr} {K : Value → Heap → Prop} {h₁ : Heap} {t₁ : Nat} (x : PG prog w A env e h₀ s K) : PG prog w A env e h₀ { s with heap := h₁, toks := t₁ } K := .mk fun h tk Q E k hQ => x.run h tk Q E k hQ
theorem PC.imp {f : Value} {args : List Value} {K K' : Value → Heap → Prop} (x : PC prog w A f args h₀ s K) (h : ∀ v h', KeepsH h₀ h' → K v h' → K' v h') : PC prog w A f args h₀ s K' :=
  .mk fun h₁ tk Q E k hQ => x.run h₁ tk Q E k fun v h' tk' k' kv => hQ v h' tk' k' (h v h' (kh_tr k k') kv)
theorem PG.up {e : Expr} {K : Value → Heap → Prop} {h₁ : Heap} (x : PG prog w A env e h₀ s K) (k : KeepsH h₀ h₁) : PG prog w A env e h₁ s K :=
  .mk fun h tk Q E k' hQ => x.run h tk Q E (kh_tr k k') hQ
theorem PG.name {x : Str} {p : Pos} {m : Str → Option Value} {v : Value} (hn : h₀.Ns env.locals m) (hv : m x = some v) (hk : env.scope.kind = .function := by rfl) (hl : env.scope.names.lookup x = some .local := by rfl) (hd : (x == ("__debug__" : Str)) = false := by decide) :
    PG prog w A env (.Name x p) h₀ s (fun u _ => u = v) :=
  .mk fun h tk Q E k hQ => ldG (hn.keeps k) hv (hQ _ _ _ kh_rfl rfl) hk hl hd
theorem PG.cell {x : Str} {p : Pos} {c : Addr} {v : Value} (hc : env.cells.lookup x = some c) (hv : h₀.IsCell c (some v)) (hk : env.scope.kind = .function := by rfl) (hl : env.kindOf x = some .cell := by rfl) (hd : (x == ("__debug__" : Str)) = false := by decide) :
    PG prog w A env (.Name x p) h₀ s (fun u _ => u = v) :=
  .mk fun h tk Q E k hQ => wpAny_Name (wpAny_loadName_cell hk hl hc (by obtain ⟨o, e, d⟩ := hv; exact ⟨o, k _ _ e, d⟩) (hQ _ _ _ kh_rfl rfl)) hd
theorem PG.glob {x : Str} {p : Pos} {mg : Str → Option Value} {v : Value} (hg : h₀.Ns env.globals mg) (hv : mg x = some v) (hk : env.scope.kind = .function := by rfl) (hx : env.kindOf x = some .globalImplicit := by rfl) (hd : (x == ("__debug__" : Str)) = false := by decide) :
    PG prog w A env (.Name x p) h₀ s (fun u _ => u = v) :=
  .mk fun h tk Q E k hQ => Calls.Name_function_global hk hx (Calls.loadGlobal_global (hg.keeps k) hv (hQ _ _ _ kh_rfl rfl)) hd
theorem PG.built {x : Str} {p : Pos} {mg mb : Str → Option Value} {v : Value} (hg : h₀.Ns env.globals mg) (hm : mg x = none) (hb : h₀.Ns env.builtins mb) (hv : mb x = some v) (hk : env.scope.kind = .function := by rfl) (hx : env.kindOf x = some .globalImplicit := by rfl) (hd : (x == ("__debug__" : Str)) = false := by decide) :
    PG prog w A env (.Name x p) h₀ s (fun u _ => u = v) :=
  .mk fun h tk Q E k hQ => Calls.Name_function_global hk hx (Calls.loadGlobal_builtin (hg.keeps k) hm (hb.keeps k) hv (hQ _ _ _ kh_rfl rfl)) hd
noncomputable def KInt (i : Int) (v : Value) (_ : Heap) : Prop := ∃ t, v = .int i t
noncomputable def KStr (x : Str) (v : Value) (_ : Heap) : Prop := ∃ t, v = .str x t
noncomputable def KBool (b : Bool) (v : Value) (_ : Heap) : Prop := v = .bool b
noncomputable def KVal (u : Value) (v : Value) (_ : Heap) : Prop := v = u
/-- a list whose items are so -/
noncomputable def KSeq (P : List Value → Prop) (v : Value) (h : Heap) : Prop := ∃ l vs n, v = .ref l ∧ h.get? l = some (listOf vs n) ∧ P vs.toList
noncomputable abbrev KStrs (xs : List Str) : Value → Heap → Prop := KSeq (fun vs => StrsAre vs xs)
noncomputable abbrev KInts (xs : List Int) : Value → Heap → Prop := KSeq (fun vs => IntsAre vs xs)
/-- a range from 0 -/
noncomputable def KRange (c : Nat) (v : Value) (h : Heap) : Prop := ∃ r t u x, v = .ref r ∧ IsRange h r 0 (c : Int) 1 t u x
/-- … and the object is a new one -/
noncomputable def KNew (h₀ : Heap) (K : Value → Heap → Prop) (v : Value) (h : Heap) : Prop := K v h ∧ ∃ l, v = .ref l ∧ h₀.get? l = none
noncomputable def UpK (K : Value → Heap → Prop) : Prop := ∀ v h h', KeepsH h h' → K v h → K v h'
theorem upI {i : Int} : UpK (KInt i) := fun _ _ _ _ e => e
theorem upS {x : Str} : UpK (KStr x) := fun _ _ _ _ e => e
theorem upV {u : Value} : UpK (fun v _ => v = u) := fun _ _ _ _ e => e
theorem upQ {P : List Value → Prop} : UpK (KSeq P) := fun _ _ _ k ⟨l, vs, n, e, x, y⟩ => ⟨l, vs, n, e, k _ _ x, y⟩
theorem upSs {xs : List Str} : UpK (KStrs xs) := upQ
theorem upIs {xs : List Int} : UpK (KInts xs) := upQ
theorem upNew {K : Value → Heap → Prop} (x : UpK K) : UpK (KNew h₀ K) := fun _ _ _ k h => ⟨x _ _ _ k h.1, h.2⟩
theorem PG.int {i : Int} {c : Nat} {p : Pos} : PG prog w A env (.Constant (.int i) c p) h₀ s (KInt i) := .mk fun h tk Q E k hQ => wpAny_Constant_int (hQ _ _ _ kh_rfl ⟨_, rfl⟩)
theorem PG.str {x : Str} {c : Nat} {p : Pos} : PG prog w A env (.Constant (.str x) c p) h₀ s (KStr x) := .mk fun h tk Q E k hQ => wpAny_Constant_str (hQ _ _ _ kh_rfl ⟨_, rfl⟩)
theorem PG.none {c : Nat} {p : Pos} : PG prog w A env (.Constant .none c p) h₀ s (KVal .none) := .mk fun h tk Q E k hQ => wpAny_Constant_none (hQ _ _ _ kh_rfl rfl)
theorem PG.bool {b : Bool} {c : Nat} {p : Pos} : PG prog w A env (.Constant (.bool b) c p) h₀ s (KBool b) := .mk fun h tk Q E k hQ => wpAny_Constant_bool (hQ _ _ _ kh_rfl rfl)
theorem PG.use {e : Expr} {g h : Heap} {tk : Nat} {K : Value → Heap → Prop} {Q E : Value → Shared → Prop} (x : PG prog w A env e g s K) (k : KeepsH g h) (hQ : ∀ v h' tk', KeepsH h h' → K v h' → Q v { s with heap := h', toks := tk' }) :
    wpAny (model prog w) A (eval e env) Q E { s with heap := h, toks := tk } := x.run h tk Q E k hQ
theorem PT.use {e : Expr} {g h : Heap} {tk : Nat} {b : Bool} {Q : Bool → Shared → Prop} {E : Value → Shared → Prop} (x : PT prog w A env e g s b) (k : KeepsH g h) (hQ : ∀ h' tk', KeepsH h h' → Q b { s with heap := h', toks := tk' }) :
    wpAny (model prog w) A (isTrue e env (eval e env)) Q E { s with heap := h, toks := tk } := x.run h tk Q E k hQ
/-- two in a row -/
theorem PG.bin {l r : Expr} {op : Operator} {p : Pos} {K₁ K₂ K : Value → Heap → Prop} (x : PG prog w A env l h₀ s K₁) (y : PG prog w A env r h₀ s K₂) (u : UpK K₁)
    (h : ∀ a b h', KeepsH h₀ h' → K₁ a h' → K₂ b h' → PS prog w A (binaryOp op a b) h' s K) : PG prog w A env (.BinOp l op r p) h₀ s K :=
  .mk fun h₁ tk Q E k hQ => wpAny_BinOp (x.run h₁ tk _ E k fun a h₂ tk₂ k₂ ka => y.run h₂ tk₂ _ E (kh_tr k k₂) fun b h₃ tk₃ k₃ kb =>
    (h a b h₃ (kh_tr k (kh_tr k₂ k₃)) (u _ _ _ k₃ ka) kb).run h₃ tk₃ Q E kh_rfl fun v h' tk' k' kv => hQ v h' tk' (kh_tr k₂ (kh_tr k₃ k')) kv)
theorem PG.cmp {l r : Expr} {op : CmpOp} {p : Pos} {K₁ K₂ K : Value → Heap → Prop} (x : PG prog w A env l h₀ s K₁) (y : PG prog w A env r h₀ s K₂) (u : UpK K₁)
    (h : ∀ a b h', KeepsH h₀ h' → K₁ a h' → K₂ b h' → PS prog w A (compareOp op a b) h' s K) (hm : behindInMarks op r = false := by with_unfolding_all rfl) : PG prog w A env (.Compare l [op] [r] p) h₀ s K :=
  .mk fun h₁ tk Q E k hQ => wpAny_Compare1 (x.run h₁ tk _ E k fun a h₂ tk₂ k₂ ka => y.run h₂ tk₂ _ E (kh_tr k k₂) fun b h₃ tk₃ k₃ kb =>
    (h a b h₃ (kh_tr k (kh_tr k₂ k₃)) (u _ _ _ k₃ ka) kb).run h₃ tk₃ Q E kh_rfl fun v h' tk' k' kv => hQ v h' tk' (kh_tr k₂ (kh_tr k₃ k')) kv) hm
theorem PT.cmp {l r : Expr} {op : CmpOp} {p : Pos} {K₁ K₂ : Value → Heap → Prop} {c : Bool} (x : PG prog w A env l h₀ s K₁) (y : PG prog w A env r h₀ s K₂) (u : UpK K₁)
    (h : ∀ a b h', KeepsH h₀ h' → K₁ a h' → K₂ b h' → PS prog w A (compareOp op a b) h' s (KBool c)) (hm : behindInMarks op r = false := by with_unfolding_all rfl) : PT prog w A env (.Compare l [op] [r] p) h₀ s c :=
  .mk fun h₁ tk Q E k hQ => wpAny_isTrue_Compare1 (x.run h₁ tk _ E k fun a h₂ tk₂ k₂ ka => y.run h₂ tk₂ _ E (kh_tr k k₂) fun b h₃ tk₃ k₃ kb =>
    (h a b h₃ (kh_tr k (kh_tr k₂ k₃)) (u _ _ _ k₃ ka) kb).run h₃ tk₃ _ E kh_rfl fun v h' tk' k' kv => by
      obtain rfl : v = .bool c := kv
      exact wpAny_truthy_bool (hQ h' tk' (kh_tr k₂ (kh_tr k₃ k')))) hm
theorem PT.and {e : Expr} {es : List Expr} {p : Pos} {a b : Bool} (x : PT prog w A env e h₀ s a) (y : a = true → PT prog w A env (.BoolOp .And es p) h₀ s b) : PT prog w A env (.BoolOp .And (e :: es) p) h₀ s (a && b) :=
  .mk fun h₁ tk Q E k hQ => isTrue_and (x.run h₁ tk _ E k fun h₂ tk₂ k₂ => by
    cases a with
    | false => exact hQ h₂ tk₂ k₂
    | true => exact (y rfl).run h₂ tk₂ _ E (kh_tr k k₂) fun h' tk' k' => hQ h' tk' (kh_tr k₂ k'))
theorem PT.andN {p : Pos} : PT prog w A env (.BoolOp .And [] p) h₀ s true := .mk fun h₁ tk Q E k hQ => isTrue_and_nil (hQ _ _ kh_rfl)
theorem PT.or {e : Expr} {es : List Expr} {p : Pos} {a b : Bool} (x : PT prog w A env e h₀ s a) (y : a = false → PT prog w A env (.BoolOp .Or es p) h₀ s b) : PT prog w A env (.BoolOp .Or (e :: es) p) h₀ s (a || b) :=
  .mk fun h₁ tk Q E k hQ => isTrue_or (x.run h₁ tk _ E k fun h₂ tk₂ k₂ => by
    cases a with
    | true => exact hQ h₂ tk₂ k₂
    | false => exact (y rfl).run h₂ tk₂ _ E (kh_tr k k₂) fun h' tk' k' => hQ h' tk' (kh_tr k₂ k'))
theorem PT.orN {p : Pos} : PT prog w A env (.BoolOp .Or [] p) h₀ s false := .mk fun h₁ tk Q E k hQ => isTrue_or_nil (hQ _ _ kh_rfl)
theorem PT.plain {e : Expr} {c : Bool} (x : PG prog w A env e h₀ s (KBool c)) (he : ∀ whole : Sem Value, isTrue e env whole = (do let v ← whole; standAt e.pos; holding [v] (truthy v)) := by intro _; rfl) : PT prog w A env e h₀ s c :=
  .mk fun h₁ tk Q E k hQ => isTrue_plain (x.run h₁ tk _ E k fun v h' tk' k' kv => by
    obtain rfl : v = .bool c := kv
    exact wpAny_truthy_bool (hQ h' tk' k')) (he _)
theorem PG.ifexp {t a b : Expr} {p : Pos} {c : Bool} {K : Value → Heap → Prop} (x : PT prog w A env t h₀ s c) (y : c = true → PG prog w A env a h₀ s K) (z : c = false → PG prog w A env b h₀ s K) : PG prog w A env (.IfExp t a b p) h₀ s K :=
  .mk fun h₁ tk Q E k hQ => IfExp_ (x.run h₁ tk _ E k fun h₂ tk₂ k₂ => by
    cases c with
    | true => exact (y rfl).run h₂ tk₂ Q E (kh_tr k k₂) fun v h' tk' k' kv => hQ v h' tk' (kh_tr k₂ k') kv
    | false => exact (z rfl).run h₂ tk₂ Q E (kh_tr k k₂) fun v h' tk' k' kv => hQ v h' tk' (kh_tr k₂ k') kv)
theorem PG.sub {a i : Expr} {p : Pos} {K₁ K₂ K : Value → Heap → Prop} (x : PG prog w A env a h₀ s K₁) (y : PG prog w A env i h₀ s K₂) (u : UpK K₁)
    (h : ∀ o j h', KeepsH h₀ h' → K₁ o h' → K₂ j h' → PS prog w A (subscriptTail a i o j) h' s K) : PG prog w A env (.Subscript a i p) h₀ s K :=
  .mk fun h₁ tk Q E k hQ => Subscript_ (x.run h₁ tk _ E k fun a h₂ tk₂ k₂ ka => y.run h₂ tk₂ _ E (kh_tr k k₂) fun b h₃ tk₃ k₃ kb =>
    (h a b h₃ (kh_tr k (kh_tr k₂ k₃)) (u _ _ _ k₃ ka) kb).run h₃ tk₃ Q E kh_rfl fun v h' tk' k' kv => hQ v h' tk' (kh_tr k₂ (kh_tr k₃ k')) kv)
/-- the arguments of a call -/
structure PA (prog : Program) (w : World) (A : Around) (env : Env) (pos : Pos) (es : List Expr) (h₀ : Heap) (s : Shared) (K : List Value → Heap → Prop) : Prop where
  run : ∀ (h : Heap) (tk : Nat) (Q : List Value → Shared → Prop) (E : Value → Shared → Prop), KeepsH h₀ h → (∀ v h' tk', KeepsH h h' → K v h' → Q v { s with heap := h', toks := tk' }) → wpAny (model prog w) A (spliced (backTo pos (starEach es env))) Q E { s with heap := h, toks := tk }
theorem PA.nil {pos : Pos} : PA prog w A env pos [] h₀ s (fun vs _ => vs = []) := .mk fun h tk Q E k hQ => spliced_none (hQ _ _ _ kh_rfl rfl)
theorem PA.cons {pos : Pos} {e : Expr} {es : List Expr} {K : Value → Heap → Prop} {K' : List Value → Heap → Prop} (x : PG prog w A env e h₀ s K) (u : UpK K) (y : PA prog w A env pos es h₀ s K') (he : starEach (e :: es) env = (false, eval e env) :: starEach es env := by rfl) :
    PA prog w A env pos (e :: es) h₀ s (fun vs h => ∃ v vs', vs = v :: vs' ∧ K v h ∧ K' vs' h) :=
  .mk fun h tk Q E k hQ => spliced_more (x.run h tk _ E k fun v h₂ tk₂ k₂ kv => y.run h₂ tk₂ _ E (kh_tr k k₂) fun vs h₃ tk₃ k₃ kvs => hQ _ _ _ (kh_tr k₂ k₃) ⟨v, vs, rfl, u _ _ _ k₃ kv, kvs⟩) he
theorem PA.one {pos : Pos} {e : Expr} {K : Value → Heap → Prop} (x : PG prog w A env e h₀ s K) (u : UpK K) (he : starEach [e] env = (false, eval e env) :: starEach [] env := by rfl) :
    PA prog w A env pos [e] h₀ s (fun vs h => ∃ v, vs = [v] ∧ K v h) :=
  .mk fun h tk Q E k hQ => (PA.cons x u PA.nil he).run h tk Q E k fun v h' tk' k' ⟨a, b, e1, e2, e3⟩ => hQ _ _ _ k' ⟨a, by rw [e1, e3], e2⟩
theorem PA.two {pos : Pos} {e e' : Expr} {K K' : Value → Heap → Prop} (x : PG prog w A env e h₀ s K) (u : UpK K) (y : PG prog w A env e' h₀ s K') (u' : UpK K') (he : starEach [e, e'] env = (false, eval e env) :: starEach [e'] env := by rfl) (he' : starEach [e'] env = (false, eval e' env) :: starEach [] env := by rfl) :
    PA prog w A env pos [e, e'] h₀ s (fun vs h => ∃ v v', vs = [v, v'] ∧ K v h ∧ K' v' h) :=
  .mk fun h tk Q E k hQ => (PA.cons x u (PA.one y u' he') he).run h tk Q E k fun v h' tk' k' ⟨a, b, e1, e2, c, e3, e4⟩ => hQ _ _ _ k' ⟨a, c, by rw [e1, e3], e2, e4⟩
theorem PG.callB {func : Expr} {id : String} {e : Expr} {es : List Expr} {p : Pos} {Ka : List Value → Heap → Prop} {K : Value → Heap → Prop} (f : PG prog w A env func h₀ s (fun u _ => u = .builtin id)) (x : PA prog w A env p (e :: es) h₀ s Ka)
    (h : ∀ vs h', KeepsH h₀ h' → Ka vs h' → PC prog w A (.builtin id) vs h' s K)
    (he : eval (.Call func (e :: es) [] p) env = (do callWith p (← eval func env) [] (backTo p (starEach (e :: es) env)) (backToKw p (keywordEach [] env))) := by rfl)
    (h1 : starEach (e :: es) env = (false, eval e env) :: starEach es env := by rfl) (h2 : (backTo p (starEach es env)).any (·.1) = false := by rfl) : PG prog w A env (.Call func (e :: es) [] p) h₀ s K :=
  .mk fun h₁ tk Q E k hQ => Call_ (f.run h₁ tk _ E k fun v h₂ tk₂ k₂ kv => by
    subst kv
    exact callWith_builtin1 (x.run h₂ tk₂ _ E (kh_tr k k₂) fun vs h₃ tk₃ k₃ kvs => (h vs h₃ (kh_tr k (kh_tr k₂ k₃)) kvs).run h₃ tk₃ Q E kh_rfl fun v h' tk' k' kv => hQ v h' tk' (kh_tr k₂ (kh_tr k₃ k')) kv) h1 h2) he
theorem PG.callT {func : Expr} {id : String} {e : Expr} {es : List Expr} {p : Pos} {Ka : List Value → Heap → Prop} {K : Value → Heap → Prop} (f : PG prog w A env func h₀ s (fun u _ => u = .type id)) (x : PA prog w A env p (e :: es) h₀ s Ka)
    (h : ∀ vs h', KeepsH h₀ h' → Ka vs h' → PC prog w A (.type id) vs h' s K)
    (he : eval (.Call func (e :: es) [] p) env = (do callWith p (← eval func env) [] (backTo p (starEach (e :: es) env)) (backToKw p (keywordEach [] env))) := by rfl)
    (h1 : starEach (e :: es) env = (false, eval e env) :: starEach es env := by rfl) (h2 : (backTo p (starEach es env)).any (·.1) = false := by rfl) : PG prog w A env (.Call func (e :: es) [] p) h₀ s K :=
  .mk fun h₁ tk Q E k hQ => Call_ (f.run h₁ tk _ E k fun v h₂ tk₂ k₂ kv => by
    subst kv
    exact callWith_type1 (x.run h₂ tk₂ _ E (kh_tr k k₂) fun vs h₃ tk₃ k₃ kvs => (h vs h₃ (kh_tr k (kh_tr k₂ k₃)) kvs).run h₃ tk₃ Q E kh_rfl fun v h' tk' k' kv => hQ v h' tk' (kh_tr k₂ (kh_tr k₃ k')) kv) h1 h2) he
theorem PG.callD {func : Expr} {a : Addr} {o : Obj} {fd : FuncData} {e : Expr} {es : List Expr} {p : Pos} {Ka : List Value → Heap → Prop} {K : Value → Heap → Prop} (f : PG prog w A env func h₀ s (fun u _ => u = .ref a)) (ho : h₀.get? a = some o) (hd : o.data = .func fd) (x : PA prog w A env p (e :: es) h₀ s Ka)
    (h : ∀ vs h', KeepsH h₀ h' → Ka vs h' → PC prog w A (.ref a) vs h' s K)
    (he : eval (.Call func (e :: es) [] p) env = (do callWith p (← eval func env) [] (backTo p (starEach (e :: es) env)) (backToKw p (keywordEach [] env))) := by rfl)
    (h1 : starEach (e :: es) env = (false, eval e env) :: starEach es env := by rfl) : PG prog w A env (.Call func (e :: es) [] p) h₀ s K :=
  .mk fun h₁ tk Q E k hQ => Call_ (f.run h₁ tk _ E k fun v h₂ tk₂ k₂ kv => by
    subst kv
    exact callWith_def_at ho hd (x.run h₂ tk₂ _ E (kh_tr k k₂) fun vs h₃ tk₃ k₃ kvs => ⟨k₃ _ _ (k₂ _ _ (k _ _ ho)), (h vs h₃ (kh_tr k (kh_tr k₂ k₃)) kvs).run h₃ tk₃ Q E kh_rfl fun v h' tk' k' kv => hQ v h' tk' (kh_tr k₂ (kh_tr k₃ k')) kv⟩) h1) he
/-- a call of a built-in's method upon a value -/
theorem PG.meth {o : Expr} {T : String} {name : Str} {id : String} {e : Expr} {es : List Expr} {ap p : Pos} {pl : Sem Bool} {Ko K : Value → Heap → Prop} {Ka : List Value → Heap → Prop} (f : PG prog w A env o h₀ s Ko) (u : UpK Ko) (x : PA prog w A env p (e :: es) h₀ s Ka)
    (ht : ∀ v h' tk', Ko v h' → ({ s with heap := h', toks := tk' } : Shared).TypeIs v T) (hd : ∀ v h' a, Ko v h' → v = .ref a → ∃ o, h'.get? a = some o ∧ o.dict = Option.none) (pa : PlainAttrs T) (slot : Slot T name id) (hty : typeOf (.builtin id) = pure (.type "method_descriptor"))
    (h : ∀ v vs h', KeepsH h₀ h' → Ko v h' → Ka vs h' → PC prog w A (.builtin id) (v :: vs) h' s K)
    (he : eval (.Call (.Attribute o name ap) (e :: es) [] p) env = (do
      let ov ← eval o env
      standAt ap.atName
      let (f, first) ← holding [ov] (getMethod ov name pl)
      callWith p f first (backTo p (starEach (e :: es) env)) []) := by rfl)
    (h1 : starEach (e :: es) env = (false, eval e env) :: starEach es env := by rfl) (h2 : (backTo p (starEach es env)).any (·.1) = false := by rfl) : PG prog w A env (.Call (.Attribute o name ap) (e :: es) [] p) h₀ s K :=
  .mk fun h₁ tk Q E k hQ => MethodCall_ (pl := pl) (f.run h₁ tk _ E k fun v h₂ tk₂ k₂ kv => getMethod_builtin (ht v _ _ kv) pa slot hty (fun a e => hd v _ a kv e)
    (callWith_method1 (x.run h₂ tk₂ _ E (kh_tr k k₂) fun vs h₃ tk₃ k₃ kvs => (h v vs h₃ (kh_tr k (kh_tr k₂ k₃)) (u _ _ _ k₃ kv) kvs).run h₃ tk₃ Q E kh_rfl fun v h' tk' k' kv => hQ v h' tk' (kh_tr k₂ (kh_tr k₃ k')) kv) h1 h2)) he
theorem PG.callB1 {func : Expr} {id : String} {e : Expr} {p : Pos} {K₁ K : Value → Heap → Prop} (f : PG prog w A env func h₀ s (fun u _ => u = .builtin id)) (x : PG prog w A env e h₀ s K₁) (u : UpK K₁)
    (h : ∀ v h', KeepsH h₀ h' → K₁ v h' → PC prog w A (.builtin id) [v] h' s K)
    (he : eval (.Call func [e] [] p) env = (do callWith p (← eval func env) [] (backTo p (starEach [e] env)) (backToKw p (keywordEach [] env))) := by rfl)
    (h1 : starEach [e] env = (false, eval e env) :: starEach [] env := by rfl) : PG prog w A env (.Call func [e] [] p) h₀ s K :=
  PG.callB f (PA.one x u h1) (fun vs h' k ⟨v, e, hv⟩ => by subst e; exact h v h' k hv) he h1 rfl
theorem PG.callB2 {func : Expr} {id : String} {e e' : Expr} {p : Pos} {K₁ K₂ K : Value → Heap → Prop} (f : PG prog w A env func h₀ s (fun u _ => u = .builtin id)) (x : PG prog w A env e h₀ s K₁) (u : UpK K₁) (y : PG prog w A env e' h₀ s K₂) (u' : UpK K₂)
    (h : ∀ v v' h', KeepsH h₀ h' → K₁ v h' → K₂ v' h' → PC prog w A (.builtin id) [v, v'] h' s K)
    (he : eval (.Call func [e, e'] [] p) env = (do callWith p (← eval func env) [] (backTo p (starEach [e, e'] env)) (backToKw p (keywordEach [] env))) := by rfl)
    (h1 : starEach [e, e'] env = (false, eval e env) :: starEach [e'] env := by rfl) (h2 : starEach [e'] env = (false, eval e' env) :: starEach [] env := by rfl) (h3 : (backTo p (starEach [e'] env)).any (·.1) = false := by rfl) : PG prog w A env (.Call func [e, e'] [] p) h₀ s K :=
  PG.callB f (PA.two x u y u' h1 h2) (fun vs h' k ⟨v, v', e, hv, hv'⟩ => by subst e; exact h v v' h' k hv hv') he h1 h3
theorem PG.callT1 {func : Expr} {id : String} {e : Expr} {p : Pos} {K₁ K : Value → Heap → Prop} (f : PG prog w A env func h₀ s (fun u _ => u = .type id)) (x : PG prog w A env e h₀ s K₁) (u : UpK K₁)
    (h : ∀ v h', KeepsH h₀ h' → K₁ v h' → PC prog w A (.type id) [v] h' s K)
    (he : eval (.Call func [e] [] p) env = (do callWith p (← eval func env) [] (backTo p (starEach [e] env)) (backToKw p (keywordEach [] env))) := by rfl)
    (h1 : starEach [e] env = (false, eval e env) :: starEach [] env := by rfl) : PG prog w A env (.Call func [e] [] p) h₀ s K :=
  PG.callT f (PA.one x u h1) (fun vs h' k ⟨v, e, hv⟩ => by subst e; exact h v h' k hv) he h1 rfl
theorem PG.meth1 {o : Expr} {T : String} {name : Str} {id : String} {e : Expr} {ap p : Pos} (pl : Sem Bool) {Ko K₁ K : Value → Heap → Prop} (f : PG prog w A env o h₀ s Ko) (u : UpK Ko) (x : PG prog w A env e h₀ s K₁) (u₁ : UpK K₁)
    (ht : ∀ v h' tk', Ko v h' → ({ s with heap := h', toks := tk' } : Shared).TypeIs v T) (hd : ∀ v h' a, Ko v h' → v = .ref a → ∃ o, h'.get? a = some o ∧ o.dict = Option.none) (pa : PlainAttrs T) (slot : Slot T name id) (hty : typeOf (.builtin id) = pure (.type "method_descriptor"))
    (h : ∀ v v₁ h', KeepsH h₀ h' → Ko v h' → K₁ v₁ h' → PC prog w A (.builtin id) [v, v₁] h' s K)
    (he : eval (.Call (.Attribute o name ap) [e] [] p) env = (do
      let ov ← eval o env
      standAt ap.atName
      let (f, first) ← holding [ov] (getMethod ov name pl)
      callWith p f first (backTo p (starEach [e] env)) []) := by rfl)
    (h1 : starEach [e] env = (false, eval e env) :: starEach [] env := by rfl) : PG prog w A env (.Call (.Attribute o name ap) [e] [] p) h₀ s K :=
  PG.meth (pl := pl) f u (PA.one x u₁ h1) ht hd pa slot hty (fun v vs h' k kv ⟨v₁, e, hv⟩ => by subst e; exact h v v₁ h' k kv hv) he h1 rfl
/-- tests and elements of a comprehension by pure expressions -/
theorem testOk_nil {scope : Scope} {cl : List (Str × Addr)} {x : Str} {g : Heap} {α : Type} {xs : List α} {R : Heap → Value → α → Prop} : TestOk prog w A env scope cl x [] s g xs R (fun _ => true) := by
  intro a v h tk g' C m E' ha hR X hC hm hv
  rw [List.forIn_nil]
  exact wpAny_pure ⟨rfl, _, _, rfl, kh_rfl⟩
theorem testOk_one {scope : Scope} {cl : List (Str × Addr)} {x : Str} {g : Heap} {α : Type} {xs : List α} {R : Heap → Value → α → Prop} {q : α → Bool} {c : Expr}
    (h : ∀ a v h g' C m, a ∈ xs → R g' v a → KeepsH g g' → KeepsH g' h → h.Ns C m → m x = some v → PT prog w A (compEnvC scope cl C env) c h s (q a)) : TestOk prog w A env scope cl x [c] s g xs R q := by
  intro a v h' tk g' C m E' ha hR X hC hm hv
  simp only [List.forIn_cons, List.forIn_nil, if_true]
  refine wpAny_bind (wpAny_bind ((h a v h' g' C m ha hR X.gg X.gh hm hv).run h' tk _ _ kh_rfl fun h₂ tk₂ k₂ => wpAny_pure (wpAny_pure ⟨rfl, h₂, tk₂, rfl, k₂⟩)))
theorem eltOk {scope : Scope} {cl : List (Str × Addr)} {x : Str} {g : Heap} {α β : Type} {xs : List α} {R : Heap → Value → α → Prop} {S : Heap → Value → β → Prop} {q : α → Bool} {f : α → β} {elt : Expr} (K : Heap → α → Value → Heap → Prop)
    (h : ∀ a v h g' C m, a ∈ xs → q a = true → R g' v a → KeepsH g g' → KeepsH g' h → h.Ns C m → m x = some v → PG prog w A (compEnvC scope cl C env) elt h s (K h a))
    (hS : ∀ h a y h' g'', K h a y h' → (∀ b o, h.get? b = none → h'.get? b = some o → g''.get? b = some o) → S g'' y (f a)) : EltOk prog w A env scope cl x elt s g xs R S q f := by
  intro a v h' tk g' C m E' ha hq hR X hC hm hv
  refine (h a v h' g' C m ha hq hR X.gg X.gh hm hv).run h' tk _ _ kh_rfl fun y h₂ tk₂ k₂ ky => ⟨h₂, tk₂, ghost g' h' h₂, rfl, ghost_ext X.gh k₂, hS _ _ _ _ _ ky fun b o e1 e2 => ghost_new e1 e2⟩
end

end Mine
end
section
open PySem PySem.W PyProof.Rows
set_option Elab.async false
set_option maxRecDepth 100000
set_option linter.unusedVariables false
namespace Mine
theorem isLA {h : Heap} {l : Addr} {vs : Array Value} {n : Nat} (e : h.get? l = some (listOf vs n)) : h.IsList l vs := ⟨_, e, rfl, _, rfl⟩
theorem noneOf {h h' : Heap} {b : Addr} (k : KeepsH h h') (hn : h'.get? b = none) : h.get? b = none := by
  cases hq : h.get? b with
  | none => rfl
  | some o => have := k b o hq; rw [hn] at this; cases this
theorem strs_at {vs : List Value} {ns : List Str} (h : StrsAre vs ns) {i : Nat} {x : Str} (e : ns[i]? = some x) : ∃ t, vs[i]? = some (.str x t) := h.at e
theorem KSeq.typeIs {P : List Value → Prop} {v : Value} {h : Heap} {s : Shared} {tk : Nat} (k : KSeq P v h) : ({ s with heap := h, toks := tk } : Shared).TypeIs v "list" := by
  obtain ⟨l, vs, n, rfl, e, _⟩ := k
  exact ⟨_, e, rfl⟩
theorem KSeq.noDict {P : List Value → Prop} {v : Value} {h : Heap} {a : Addr} (k : KSeq P v h) (e : v = .ref a) : ∃ o, h.get? a = some o ∧ o.dict = none := by
  obtain ⟨l, vs, n, rfl, e', _⟩ := k
  cases e
  exact ⟨_, e', rfl⟩
section
variable {prog : Program} {w : World} {A : Around} {env : Env} {h₀ : Heap} {s : Shared}
/-- a part of a slice -/
structure PP (prog : Program) (w : World) (A : Around) (env : Env) (e : Option Expr) (h₀ : Heap) (s : Shared) (k : Option Int) : Prop where
  run : ∀ (h : Heap) (tk : Nat) (Q E : Value → Shared → Prop), KeepsH h₀ h → (∀ v h' tk', KeepsH h h' → IsPart v k → Q v { s with heap := h', toks := tk' }) → wpAny (model prog w) A (evalPart e env) Q E { s with heap := h, toks := tk }
theorem PP.none : PP prog w A env Option.none h₀ s Option.none := .mk fun h tk Q E k hQ => wpAny_evalPart_none (hQ _ _ _ kh_rfl .none)
theorem PP.some {e : Expr} {i : Int} (x : PG prog w A env e h₀ s (KInt i)) : PP prog w A env (Option.some e) h₀ s (Option.some i) :=
  .mk fun h tk Q E k hQ => wpAny_evalPart_some (x.run h tk Q E k fun v h' tk' k' ⟨t, e⟩ => hQ v h' tk' k' (by subst e; exact .int _ _))
theorem PG.slice {e : Expr} {lo up st : Option Expr} {p q : Pos} {a b c : Option Int} {P P' : List Value → Prop} {ops : Value → Value → List Value} (x : PG prog w A env e h₀ s (KSeq P)) (pl : PP prog w A env lo h₀ s a) (pu : PP prog w A env up h₀ s b) (ps : PP prog w A env st h₀ s c)
    (hc : c ≠ Option.some 0) (hsz : ∀ vs, P vs → vs.length ≤ sizeLine) (hP : ∀ vs : Array Value, P vs.toList → P' (slicePick vs a b c).toList)
    (hs : ∀ o i, subscripted (.Slice lo up st q) false o i = operate (ops o i) (getItem o i) := by intro _ _; with_unfolding_all rfl) :
    PG prog w A env (.Subscript e (.Slice lo up st q) p) h₀ s (KNew h₀ (KSeq P')) :=
  .mk fun h₁ tk Q E k hQ => Subscript_ (x.run h₁ tk _ E k fun o h₂ tk₂ k₂ ko => wpAny_Slice (pl.run h₂ tk₂ _ E (kh_tr k k₂) fun v1 h₃ tk₃ k₃ p1 => pu.run h₃ tk₃ _ E (kh_tr k (kh_tr k₂ k₃)) fun v2 h₄ tk₄ k₄ p2 => ps.run h₄ tk₄ _ E (kh_tr k (kh_tr k₂ (kh_tr k₃ k₄))) fun v3 h₅ tk₅ k₅ p3 => by
    obtain ⟨l, vs, n, rfl, e1, e2⟩ := upQ _ _ _ (kh_tr k₃ (kh_tr k₄ k₅)) ko
    have hl := (isLA e1).push { cls := .type "slice", data := .fields #[v1, v2, v3] }
    refine tail_any (s := { s with heap := h₅.push { cls := .type "slice", data := .fields #[v1, v2, v3] }, toks := tk₅ }) (Heap.IsList.typeIs (s := { s with heap := h₅.push { cls := .type "slice", data := .fields #[v1, v2, v3] }, toks := tk₅ }) hl) list_getitem_lookup
      (wpAny_getItem_list_slice hl (Heap.IsSliceOf.new ..) p1 p2 p3 hc ?_ (by have := hsz _ e2; simpa using this)) (hs _ _)
    refine hQ _ _ _ (fun b o e => Heap.get?_push_of_some _ (Heap.get?_push_of_some _ (k₅ _ _ (k₄ _ _ (k₃ _ _ (k₂ _ _ e)))))) ⟨⟨_, _, _, rfl, Heap.get?_push_size _ rfl, hP _ e2⟩, _, rfl, ?_⟩
    exact noneOf (fun b o e => Heap.get?_push_of_some _ (k₅ _ _ (k₄ _ _ (k₃ _ _ (k₂ _ _ (k _ _ e)))))) (Heap.get?_none_of_le (Nat.le_refl _))))
theorem ps_item {a i : Expr} {l : Addr} {vs : Array Value} {n : Nat} {k : Nat} {t : Tok} {v : Value} (e : h₀.get? l = some (listOf vs n)) (hk : vs.toList[k]? = some v) (hk64 : k < 1000000)
    (hs : subscripted i false (.ref l) (.int (k : Int) t) = operate [.ref l, .int (k : Int) t] (getItem (.ref l) (.int (k : Int) t)) := by with_unfolding_all rfl) : PS prog w A (subscriptTail a i (.ref l) (.int (k : Int) t)) h₀ s (fun u _ => u = v) :=
  .mk fun h tk Q E kk hQ => tail_any (isLA (kk _ _ e)).typeIs slot_list_getitem.lookup (wpAny_getItem_list (isLA (kk _ _ e)) (by omega) (by omega) (by simpa using hk) (hQ _ _ _ kh_rfl rfl)) hs
theorem ps_item_strs {a i : Expr} {xs : List Str} {k : Nat} {o j : Value} {x : Str} (ho : KStrs xs o h₀) (hj : KInt (k : Int) j h₀) (hk : xs[k]? = some x) (hk64 : k < 1000000)
    (hs : ∀ l t, subscripted i false (.ref l) (.int (k : Int) t) = operate [.ref l, .int (k : Int) t] (getItem (.ref l) (.int (k : Int) t)) := by intro _ _; with_unfolding_all rfl) : PS prog w A (subscriptTail a i o j) h₀ s (KStr x) := by
  obtain ⟨l, vs, n, rfl, e, hx⟩ := ho
  obtain ⟨t, rfl⟩ := hj
  obtain ⟨u, hu⟩ := strs_at hx hk
  exact (ps_item e hu hk64 (hs _ _)).imp fun v h' _ hv => ⟨u, hv⟩
theorem pc_len {P : List Value → Prop} {o : Value} {c : Nat} (ho : KSeq P o h₀) (hc : ∀ vs, P vs → vs.length = c) (hc64 : c < 1000000) : PC prog w A (.builtin "len") [o] h₀ s (KInt (c : Int)) := by
  obtain ⟨l, vs, n, rfl, e, hx⟩ := ho
  have : vs.size = c := by simpa using hc _ hx
  exact .mk fun h tk Q E k hQ => len_list (isLA (k _ _ e)) (by omega) (hQ _ _ _ kh_rfl ⟨_, by rw [this]⟩)
theorem pc_range {c : Nat} {o : Value} (ho : KInt (c : Int) o h₀) : PC prog w A (.type "range") [o] h₀ s (KRange c) := by
  obtain ⟨t, rfl⟩ := ho
  exact .mk fun h tk Q E k hQ => call_range_1 (hQ _ _ _ (fun b o e => Heap.get?_push_of_some _ e) ⟨_, _, _, _, rfl, IsRange.new ..⟩)
theorem pc_count {xs : List Str} {o v : Value} {x : Str} (ho : KStrs xs o h₀) (hv : KStr x v h₀) : PC prog w A (.builtin "list.count") [o, v] h₀ s (KInt (xs.count x : Nat)) := by
  obtain ⟨l, vs, n, rfl, e, hx⟩ := ho
  obtain ⟨t, rfl⟩ := hv
  exact .mk fun h tk Q E k hQ => count_list_strs (vs := vs.toList) (isLA (k _ _ e)) hx (by rw [cnt_strs]; exact hQ _ _ _ kh_rfl ⟨_, rfl⟩)
theorem ps_gt {a b : Value} {i j : Int} (x : KInt i a h₀) (y : KInt j b h₀) : PS prog w A (compareOp .Gt a b) h₀ s (KBool (decide (j < i))) := by
  obtain ⟨t, rfl⟩ := x
  obtain ⟨u, rfl⟩ := y
  exact .mk fun h tk Q E k hQ => gt_int (hQ _ _ _ kh_rfl rfl)
theorem ps_add {a b : Value} {i j : Int} (x : KInt i a h₀) (y : KInt j b h₀) : PS prog w A (binaryOp .Add a b) h₀ s (KInt (i + j)) := by
  obtain ⟨t, rfl⟩ := x
  obtain ⟨u, rfl⟩ := y
  exact .mk fun h tk Q E k hQ => add_int (hQ _ _ _ kh_rfl ⟨_, rfl⟩)
theorem ps_sub {a b : Value} {i j : Int} (x : KInt i a h₀) (y : KInt j b h₀) : PS prog w A (binaryOp .Sub a b) h₀ s (KInt (i - j)) := by
  obtain ⟨t, rfl⟩ := x
  obtain ⟨u, rfl⟩ := y
  exact .mk fun h tk Q E k hQ => sub_int (hQ _ _ _ kh_rfl ⟨_, rfl⟩)
/-- e[i] of a list of texts -/
theorem PG.item {a i : Expr} {p : Pos} {xs : List Str} {k : Nat} {x : Str} (y : PG prog w A env a h₀ s (KStrs xs)) (z : PG prog w A env i h₀ s (KInt (k : Int))) (hk : xs[k]? = some x) (hk64 : k < 1000000)
    (hs : ∀ l t, subscripted i false (.ref l) (.int (k : Int) t) = operate [.ref l, .int (k : Int) t] (getItem (.ref l) (.int (k : Int) t)) := by intro _ _; with_unfolding_all rfl) : PG prog w A env (.Subscript a i p) h₀ s (KStr x) :=
  PG.sub y z upSs fun o j h' k ho hj => ps_item_strs ho hj hk hk64 hs
theorem PG.gt {a b : Expr} {p : Pos} {i j : Int} (y : PG prog w A env a h₀ s (KInt i)) (z : PG prog w A env b h₀ s (KInt j)) (hm : behindInMarks .Gt b = false := by with_unfolding_all rfl) : PT prog w A env (.Compare a [.Gt] [b] p) h₀ s (decide (j < i)) :=
  PT.cmp y z upI (fun o j h' k ho hj => ps_gt ho hj) hm
theorem PG.add {a b : Expr} {p : Pos} {i j : Int} (y : PG prog w A env a h₀ s (KInt i)) (z : PG prog w A env b h₀ s (KInt j)) : PG prog w A env (.BinOp a .Add b p) h₀ s (KInt (i + j)) :=
  PG.bin y z upI (fun o j h' k ho hj => ps_add ho hj)
theorem PG.subI {a b : Expr} {p : Pos} {i j : Int} (y : PG prog w A env a h₀ s (KInt i)) (z : PG prog w A env b h₀ s (KInt j)) : PG prog w A env (.BinOp a .Sub b p) h₀ s (KInt (i - j)) :=
  PG.bin y z upI (fun o j h' k ho hj => ps_sub ho hj)
theorem PG.val {e : Expr} {v : Value} {K : Value → Heap → Prop} (x : PG prog w A env e h₀ s (fun u _ => u = v)) (k : K v h₀) (u : UpK K) : PG prog w A env e h₀ s K := x.imp fun v h' kk e => by subst e; exact u _ _ _ kk k
/-- e.count(x) of a list of texts -/
theorem PG.count {o e : Expr} {ap p : Pos} {xs : List Str} {x : Str} (pl : Sem Bool) (y : PG prog w A env o h₀ s (KStrs xs)) (z : PG prog w A env e h₀ s (KStr x))
    (he : eval (.Call (.Attribute o (Str.ofString "count") ap) [e] [] p) env = (do
      let ov ← eval o env
      standAt ap.atName
      let (f, first) ← holding [ov] (getMethod ov (Str.ofString "count") pl)
      callWith p f first (backTo p (starEach [e] env)) []) := by rfl)
    (h1 : starEach [e] env = (false, eval e env) :: starEach [] env := by rfl) : PG prog w A env (.Call (.Attribute o (Str.ofString "count") ap) [e] [] p) h₀ s (KInt (xs.count x : Nat)) :=
  PG.meth1 pl y upSs z upS (fun v h' tk' k => k.typeIs) (fun v h' a k e => k.noDict e) PySem.F.plainAttrs_list PySem.F.slot_list_count PySem.F.type_list_count (fun v v₁ h' k kv kv₁ => pc_count kv kv₁) he h1
theorem PG.dropS {e i : Expr} {p q : Pos} {xs : List Str} {k : Nat} {ops : Value → Value → List Value} (x : PG prog w A env e h₀ s (KStrs xs)) (y : PG prog w A env i h₀ s (KInt (k : Int))) (hl : xs.length ≤ 1000)
    (hs : ∀ o v, subscripted (.Slice (Option.some i) Option.none Option.none q) false o v = operate (ops o v) (getItem o v) := by intro _ _; with_unfolding_all rfl) :
    PG prog w A env (.Subscript e (.Slice (Option.some i) Option.none Option.none q) p) h₀ s (KStrs (xs.drop k)) :=
  (PG.slice (P' := fun vs => StrsAre vs (xs.drop k)) x (PP.some y) PP.none PP.none (by simp) (fun vs h => by rw [h.length, PySem.sizeLine_eq]; omega) (fun vs h => by rw [slicePick_from']; exact h.drop' k) hs).imp fun _ _ _ k => k.1
theorem PG.takeS {e i : Expr} {p q : Pos} {xs : List Str} {k : Nat} {ops : Value → Value → List Value} (x : PG prog w A env e h₀ s (KStrs xs)) (y : PG prog w A env i h₀ s (KInt (k : Int))) (hl : xs.length ≤ 1000)
    (hs : ∀ o v, subscripted (.Slice Option.none (Option.some i) Option.none q) false o v = operate (ops o v) (getItem o v) := by intro _ _; with_unfolding_all rfl) :
    PG prog w A env (.Subscript e (.Slice Option.none (Option.some i) Option.none q) p) h₀ s (KStrs (xs.take k)) :=
  (PG.slice (P' := fun vs => StrsAre vs (xs.take k)) x PP.none (PP.some y) PP.none (by simp) (fun vs h => by rw [h.length, PySem.sizeLine_eq]; omega) (fun vs h => by rw [slicePick_upto']; exact h.take' k) hs).imp fun _ _ _ k => k.1
theorem strsAre_reverse {vs : List Value} {xs : List Str} (h : StrsAre vs xs) : StrsAre vs.reverse xs.reverse := by
  induction h with
  | nil => exact .nil
  | cons x t h ih => rw [List.reverse_cons, List.reverse_cons]; exact ih.append' (.cons _ _ .nil)
theorem PG.revS {e i : Expr} {p q : Pos} {xs : List Str} {ops : Value → Value → List Value} (x : PG prog w A env e h₀ s (KStrs xs)) (y : PG prog w A env i h₀ s (KInt (-1))) (hl : xs.length ≤ 1000)
    (hs : ∀ o v, subscripted (.Slice Option.none Option.none (Option.some i) q) false o v = operate (ops o v) (getItem o v) := by intro _ _; with_unfolding_all rfl) :
    PG prog w A env (.Subscript e (.Slice Option.none Option.none (Option.some i) q) p) h₀ s (KStrs xs.reverse) :=
  (PG.slice (P' := fun vs => StrsAre vs xs.reverse) x PP.none PP.none (PP.some y) (by decide) (fun vs h => by rw [h.length, PySem.sizeLine_eq]; omega) (fun vs h => by rw [krv_pick]; exact strsAre_reverse h) hs).imp fun _ _ _ k => k.1
theorem PG.neg {e : Expr} {p : Pos} {i : Int} (x : PG prog w A env e h₀ s (KInt i)) : PG prog w A env (.UnaryOp .USub e p) h₀ s (KInt (-i)) :=
  .mk fun h tk Q E k hQ => UnaryOp_ (x.run h tk _ E k fun v h' tk' k' ⟨t, e⟩ => by subst e; exact neg_int (hQ _ _ _ k' ⟨_, rfl⟩))
theorem PG.nameK {x : Str} {p : Pos} {m : Str → Option Value} {v : Value} {K : Value → Heap → Prop} (hn : h₀.Ns env.locals m) (hv : m x = some v) (kv : K v h₀) (u : UpK K) (hk : env.scope.kind = .function := by rfl) (hl : env.scope.names.lookup x = some .local := by rfl) (hd : (x == ("__debug__" : Str)) = false := by decide) :
    PG prog w A env (.Name x p) h₀ s K := PG.val (PG.name hn hv hk hl hd) kv u
theorem PG.cellK {x : Str} {p : Pos} {c : Addr} {v : Value} {K : Value → Heap → Prop} (hv : h₀.IsCell c (some v)) (kv : K v h₀) (u : UpK K) (hc : env.cells.lookup x = some c := by rfl) (hk : env.scope.kind = .function := by rfl) (hl : env.kindOf x = some .cell := by rfl) (hd : (x == ("__debug__" : Str)) = false := by decide) :
    PG prog w A env (.Name x p) h₀ s K := PG.val (PG.cell hc hv hk hl hd) kv u
theorem isCell_up {h h' : Heap} {c : Addr} {v : Option Value} (x : h.IsCell c v) (k : KeepsH h h') : h'.IsCell c v := by obtain ⟨o, e, d⟩ := x; exact ⟨o, k _ _ e, d⟩
theorem ps_notin {xs : List Str} {x : Str} {a b : Value} (ha : KStr x a h₀) (hb : KStrs xs b h₀) : PS prog w A (compareOp .NotIn a b) h₀ s (KBool (!(xs.any (· == x)))) := by
  obtain ⟨t, rfl⟩ := ha
  obtain ⟨l, vs, n, rfl, e, hx⟩ := hb
  exact .mk fun h tk Q E k hQ => notin_list_strs (vs := vs.toList) (isLA (k _ _ e)) hx (hQ _ _ _ kh_rfl rfl)
theorem PG.notin {a b : Expr} {p : Pos} {xs : List Str} {x : Str} (y : PG prog w A env a h₀ s (KStr x)) (z : PG prog w A env b h₀ s (KStrs xs)) (hm : behindInMarks .NotIn b = false := by with_unfolding_all rfl) : PT prog w A env (.Compare a [.NotIn] [b] p) h₀ s (!(xs.any (· == x))) :=
  PT.cmp y z upS (fun o j h' k ho hj => ps_notin ho hj) hm
noncomputable def SOk (xs : List Str) : Prop := ∀ x ∈ xs, PyData.strOk x = true
theorem canLay_strs : ∀ {xs : List Str}, SOk xs → PyData.canLayAll0 (xs.map PyData.str) = true
  | [], _ => rfl
  | x :: r, h => by simp only [List.map_cons, PyData.canLayAll0, PyData.canLay0, h x (.head _), canLay_strs (fun y hy => h y (.tail _ hy)), Bool.and_self]
theorem depth_strs : ∀ xs : List Str, PyData.depthAll (xs.map PyData.str) = 0
  | [] => rfl
  | x :: r => by simp [PyData.depthAll, PyData.depth, depth_strs r]
theorem shaped_strs {xs : List Str} (h : SOk xs) : SeqAt.shaped (.list (xs.map PyData.str)) = true := by
  unfold SeqAt.shaped
  simp only [PyData.canLay0, PyData.depth, canLay_strs h, depth_strs]; decide
theorem eqv_strs : ∀ xs ys : List Str, PyData.eqvAll (xs.map PyData.str) (ys.map PyData.str) = decide (xs = ys)
  | [], [] => by simp [PyData.eqvAll]
  | [], _ :: _ => by simp [PyData.eqvAll]
  | _ :: _, [] => by simp [PyData.eqvAll]
  | a :: r, b :: t => by
    simp only [List.map_cons, PyData.eqvAll, eqv_strs r t, PyData.eqv]
    by_cases h : a = b <;> by_cases h' : r = t <;> simp [h, h']
theorem ps_eqS {xs ys : List Str} {a b : Value} (ha : KStrs xs a h₀) (hb : KStrs ys b h₀) (ok : SOk xs) (ok' : SOk ys) (hu : A.units + 64 < cLine) : PS prog w A (compareOp .Eq a b) h₀ s (KBool (decide (xs = ys))) := by
  obtain ⟨l, vs, n, rfl, e, hx⟩ := ha
  obtain ⟨l', vs', n', rfl, e', hy⟩ := hb
  refine .mk fun h tk Q E k hQ => eq_dataH (reads_list_at (k _ _ e) rfl rfl (hx.reads h)) (reads_list_at (k _ _ e') rfl rfl (hy.reads h)) (shaped_strs ok) (shaped_strs ok') hu ?_
  simp only [PyData.eqv, eqv_strs]
  exact hQ _ _ _ kh_rfl rfl
theorem ps_neS {xs ys : List Str} {a b : Value} (ha : KStrs xs a h₀) (hb : KStrs ys b h₀) (ok : SOk xs) (ok' : SOk ys) (hu : A.units + 64 < cLine) : PS prog w A (compareOp .NotEq a b) h₀ s (KBool (!decide (xs = ys))) := by
  obtain ⟨l, vs, n, rfl, e, hx⟩ := ha
  obtain ⟨l', vs', n', rfl, e', hy⟩ := hb
  refine .mk fun h tk Q E k hQ => ne_dataH (reads_list_at (k _ _ e) rfl rfl (hx.reads h)) (reads_list_at (k _ _ e') rfl rfl (hy.reads h)) (shaped_strs ok) (shaped_strs ok') hu ?_
  simp only [PyData.eqv, eqv_strs]
  exact hQ _ _ _ kh_rfl rfl
theorem ps_gtS {x y : Str} {a b : Value} (ha : KStr x a h₀) (hb : KStr y b h₀) : PS prog w A (compareOp .Gt a b) h₀ s (KBool (slt y x)) := by
  obtain ⟨t, rfl⟩ := ha
  obtain ⟨u, rfl⟩ := hb
  exact .mk fun h tk Q E k hQ => PySem.P.gt_str (hQ _ _ _ kh_rfl rfl)
theorem pc_sorted {xs : List Str} {o : Value} (ho : KStrs xs o h₀) (h64 : xs.length < 64) : PC prog w A (.builtin "sorted") [o] h₀ s (KNew h₀ (KStrs (srt xs))) := by
  obtain ⟨l, vs, n, rfl, e, hx⟩ := ho
  refine .mk fun h tk Q E k hQ => sorted_strs (vs := vs.toList) (isLA (k _ _ e)) hx (by rw [hx.length]; exact h64) fun out ss' h1 h2 h3 => ?_
  obtain ⟨c, hc⟩ := sortedAll_at h vs.toList out
  rw [srt_unique h2 h3] at h1
  exact hQ _ _ _ (fun b o e => sortedAll_old e) ⟨⟨_, out, c, rfl, hc, h1⟩, _, rfl, noneOf k (Heap.get?_none_of_le (Nat.le_succ _))⟩
/-- the greatest of some texts -/
noncomputable def KMax (ys : List Str) (v : Value) (_ : Heap) : Prop := ∃ M t, v = .str M t ∧ M ∈ ys ∧ ∀ y ∈ ys, slt M y = false
theorem argBest_strs (f : Nat → Str) : ∀ k, argBest (fun i j => slt (f j) (f i)) k ≤ k ∧ ∀ j, j ≤ k → slt (f (argBest (fun i j => slt (f j) (f i)) k)) (f j) = false
  | 0 => ⟨Nat.le_refl _, fun j hj => by obtain rfl : j = 0 := by omega
                                        exact slt_irrefl _⟩
  | k + 1 => by
    obtain ⟨h1, h2⟩ := argBest_strs f k
    simp only [argBest]
    by_cases hc : slt (f (argBest (fun i j => slt (f j) (f i)) k)) (f (k + 1)) = true
    · rw [if_pos hc]
      refine ⟨Nat.le_refl _, fun j hj => ?_⟩
      rcases Nat.lt_or_ge j (k + 1) with h | h
      · exact nlt_trans (h2 j (by omega)) (slt_asymm hc)
      · obtain rfl : j = k + 1 := by omega
        exact slt_irrefl _
    · rw [if_neg hc]
      refine ⟨by omega, fun j hj => ?_⟩
      rcases Nat.lt_or_ge j (k + 1) with h | h
      · exact h2 j (by omega)
      · obtain rfl : j = k + 1 := by omega
        simpa using hc
theorem pc_max {ys : List Str} {o : Value} (hh : A.handled = none) (ho : KStrs ys o h₀) (hne : 0 < ys.length) : PC prog w A (.builtin "max") [o] h₀ s (KMax ys) := by
  obtain ⟨l, vs, n, rfl, e, hx⟩ := ho
  refine .mk fun h tk Q E k hQ => ?_
  have hl := isLA (k _ _ e)
  have hlen : vs.size = ys.length := by simpa using hx.length
  have hlt : l < h.objs.size := Heap.lt_size (k _ _ e)
  refine call_max_walk (wpAny_pyIter_list hl ⟨_, _, _, _, _, _, fun i j => slt (ys.getD j Str.empty) (ys.getD i Str.empty), rfl, Walks.list (A := A.in1) hh _ l (Nat.ne_of_lt hlt) vs, ⟨⟨_, Heap.get?_push_size _ rfl, rfl, rfl⟩, hl.push _⟩, ?_, by omega, ?_, ?_⟩)
  · intro b hb
    show b < (h.push _).objs.size
    rw [Heap.size_push]
    rcases List.mem_cons.mp hb with rfl | hb
    · exact Nat.lt_succ_self _
    · rw [List.mem_singleton.mp hb]; exact Nat.lt_succ_of_lt hlt
  · intro i j vi vj s' Q' E' hi hj hq
    obtain ⟨x, t, rfl, hx1⟩ := hx.item i vi (by simpa using hi)
    obtain ⟨y, u, rfl, hy1⟩ := hx.item j vj (by simpa using hj)
    simp only [List.getD_eq_getElem?_getD, hx1, hy1, Option.getD_some] at hq
    exact PySem.P.gt_str hq
  · intro v h' tk' hP hk
    obtain ⟨b1, b2⟩ := argBest_strs (fun i => ys.getD i Str.empty) (vs.size - 1)
    obtain ⟨M, t, rfl, hM⟩ := hx.item _ v (by simpa using hP)
    refine hQ _ _ _ (fun b o e => hk b o (fun hm => by rw [List.mem_singleton.mp hm] at e; exact absurd (Heap.lt_size e) (Nat.lt_irrefl _)) (Heap.get?_push_of_some _ e)) ⟨M, t, rfl, List.mem_of_getElem? hM, fun y hy => ?_⟩
    obtain ⟨j, hj, rfl⟩ := List.getElem_of_mem hy
    have := b2 j (by omega)
    simp only [List.getD_eq_getElem?_getD, hM, Option.getD_some, List.getElem?_eq_getElem hj] at this
    exact this
theorem isStrOf_at {k : Str} {vs : List Value} {ys : List Str} (h : StrsAre vs ys) {j : Nat} (h1 : j < vs.length) (h2 : j < ys.length) : isStrOf k vs[j] = (ys[j] == k) := by
  obtain ⟨t, ht⟩ := h.at (List.getElem?_eq_getElem h2)
  rw [List.getElem?_eq_getElem h1] at ht
  rw [Option.some.inj ht]; rfl
theorem pc_index {xs : List Str} {o v : Value} {x : Str} (ho : KStrs xs o h₀) (hv : KStr x v h₀) (hx : x ∈ xs) (hl : xs.length < 1000) : PC prog w A (.builtin "list.index") [o, v] h₀ s (KInt (xs.idxOf x : Nat)) := by
  obtain ⟨l, vs, n, rfl, e, hs⟩ := ho
  obtain ⟨t, rfl⟩ := hv
  refine .mk fun h tk Q E k hQ => ?_
  have hj : xs.idxOf x < xs.length := List.idxOf_lt_length_iff.mpr hx
  have hlen := hs.length
  refine call_meets PySem.F.slot_list_index ⟨_, k _ _ e, rfl⟩ PySem.F.entry_list_index (PySem.F.args_list_index_2 _ _)
    (SeqAt.list_indexAt l vs n none #[] (.str x t) (isStrOf x) (xs.idxOf x) (by simp at hlen; omega) (by omega) ?_ ?_) ⟨k _ _ e, fun y hy => (eq_isStrOf x t hs y (by simpa using hy)).at _ _, hQ _ _ _ kh_rfl ⟨_, rfl⟩⟩
  · have := isStrOf_at (k := x) hs (j := xs.idxOf x) (by omega) hj
    simp only [Array.getElem_toList] at this
    rw [this]
    simpa using List.getElem_idxOf hj
  · intro j hjs hlt
    have := isStrOf_at (k := x) hs (j := j) (by simpa using hjs) (by omega)
    simp only [Array.getElem_toList] at this
    rw [this]
    have := List.not_of_lt_findIdx (p := (· == x)) hlt
    simpa using this
theorem pc_max2 {a b : Value} {i j : Int} (hh : A.handled = none) (ha : KInt i a h₀) (hb : KInt j b h₀) : PC prog w A (.builtin "max") [a, b] h₀ s (KInt (if j > i then j else i)) := by
  obtain ⟨t, rfl⟩ := ha
  obtain ⟨u, rfl⟩ := hb
  exact .mk fun h tk Q E k hQ => max_two_ints hh fun h' tk' k' => hQ _ _ _ k' (by split <;> exact ⟨_, rfl⟩)
theorem pc_min2 {a b : Value} {i j : Int} (hh : A.handled = none) (ha : KInt i a h₀) (hb : KInt j b h₀) : PC prog w A (.builtin "min") [a, b] h₀ s (KInt (if j < i then j else i)) := by
  obtain ⟨t, rfl⟩ := ha
  obtain ⟨u, rfl⟩ := hb
  exact .mk fun h tk Q E k hQ => min_two_ints hh fun h' tk' k' => hQ _ _ _ k' (by split <;> exact ⟨_, rfl⟩)
theorem ps_item_ints {a i : Expr} {xs : List Int} {k : Nat} {o j : Value} {x : Int} (ho : KInts xs o h₀) (hj : KInt (k : Int) j h₀) (hk : xs[k]? = some x) (hk64 : k < 1000000)
    (hs : ∀ l t, subscripted i false (.ref l) (.int (k : Int) t) = operate [.ref l, .int (k : Int) t] (getItem (.ref l) (.int (k : Int) t)) := by intro _ _; with_unfolding_all rfl) : PS prog w A (subscriptTail a i o j) h₀ s (KInt x) := by
  obtain ⟨l, vs, n, rfl, e, hx⟩ := ho
  obtain ⟨t, rfl⟩ := hj
  obtain ⟨u, hu⟩ := hx.get k x hk
  exact (ps_item e hu hk64 (hs _ _)).imp fun v h' _ hv => ⟨u, hv⟩
theorem PG.itemI {a i : Expr} {p : Pos} {xs : List Int} {k : Nat} {x : Int} (y : PG prog w A env a h₀ s (KInts xs)) (z : PG prog w A env i h₀ s (KInt (k : Int))) (hk : xs[k]? = some x) (hk64 : k < 1000000)
    (hs : ∀ l t, subscripted i false (.ref l) (.int (k : Int) t) = operate [.ref l, .int (k : Int) t] (getItem (.ref l) (.int (k : Int) t)) := by intro _ _; with_unfolding_all rfl) : PG prog w A env (.Subscript a i p) h₀ s (KInt x) :=
  PG.sub y z upIs fun o j h' k ho hj => ps_item_ints ho hj hk hk64 hs
theorem PG.index {o e : Expr} {ap p : Pos} {xs : List Str} {x : Str} (pl : Sem Bool) (y : PG prog w A env o h₀ s (KStrs xs)) (z : PG prog w A env e h₀ s (KStr x)) (hx : x ∈ xs) (hl : xs.length < 1000)
    (he : eval (.Call (.Attribute o (Str.ofString "index") ap) [e] [] p) env = (do
      let ov ← eval o env
      standAt ap.atName
      let (f, first) ← holding [ov] (getMethod ov (Str.ofString "index") pl)
      callWith p f first (backTo p (starEach [e] env)) []) := by rfl)
    (h1 : starEach [e] env = (false, eval e env) :: starEach [] env := by rfl) : PG prog w A env (.Call (.Attribute o (Str.ofString "index") ap) [e] [] p) h₀ s (KInt (xs.idxOf x : Nat)) :=
  PG.meth1 pl y upSs z upS (fun v h' tk' k => k.typeIs) (fun v h' a k e => k.noDict e) PySem.F.plainAttrs_list PySem.F.slot_list_index PySem.F.type_list_index (fun v v₁ h' k kv kv₁ => pc_index kv kv₁ hx hl) he h1
/-- a list whose items are so on the heap -/
noncomputable def KList {α : Type} (R : Heap → Value → α → Prop) (as : List α) (v : Value) (h : Heap) : Prop := ∃ l vs n, v = .ref l ∧ h.get? l = some (listOf vs n) ∧ Paired (R h) vs.toList as
theorem pairedM {α β : Type} {F G : α → β → Prop} (h : ∀ a b, F a b → G a b) {l : List α} {r : List β} (p : Paired F l r) : Paired G l r := paired_mono h p
theorem upL {α : Type} {R : Heap → Value → α → Prop} {as : List α} (u : Up R) : UpK (KList R as) := fun _ _ _ k ⟨l, vs, n, e, x, y⟩ => ⟨l, vs, n, e, k _ _ x, pairedM (fun _ _ r => u _ _ _ _ k r) y⟩
theorem PA.pnil {α : Type} {pos : Pos} {R : Heap → Value → α → Prop} : PA prog w A env pos [] h₀ s (fun vs h => Paired (R h) vs []) := .mk fun h tk Q E k hQ => PA.nil.run h tk Q E k fun v h' tk' k' e => hQ v h' tk' k' (by subst e; exact .nil)
theorem PA.pcons {α : Type} {pos : Pos} {R : Heap → Value → α → Prop} {e : Expr} {es : List Expr} {a : α} {as : List α} (u : Up R) (x : PG prog w A env e h₀ s (fun v h => R h v a)) (y : PA prog w A env pos es h₀ s (fun vs h => Paired (R h) vs as)) (he : starEach (e :: es) env = (false, eval e env) :: starEach es env := by rfl) :
    PA prog w A env pos (e :: es) h₀ s (fun vs h => Paired (R h) vs (a :: as)) :=
  .mk fun h tk Q E k hQ => (PA.cons x (fun v h h' k r => u _ _ _ _ k r) y he).run h tk Q E k fun v h' tk' k' ⟨v1, vs', e1, r1, r2⟩ => hQ v h' tk' k' (by subst e1; exact .cons r1 r2)
theorem PG.listP {α : Type} {p : Pos} {R : Heap → Value → α → Prop} {es : List Expr} {as : List α} (u : Up R) (x : PA prog w A env p es h₀ s (fun vs h => Paired (R h) vs as)) (hl : as.length ≤ sizeLine := by (simp only [List.length_cons, List.length_nil]; decide)) : PG prog w A env (.List es p) h₀ s (KNew h₀ (KList R as)) :=
  .mk fun h tk Q E k hQ => wpAny_List (x.run h tk _ E k fun vs h' tk' k' r => ⟨by rw [r.length]; exact hl, hQ _ _ _ (fun b o e => Heap.get?_push_of_some _ (k' _ _ e)) ⟨⟨_, _, _, rfl, Heap.get?_push_size _ rfl, by simpa using pairedM (fun _ _ q => u _ _ _ _ (fun b o e => Heap.get?_push_of_some _ e) q) r⟩, _, rfl, noneOf (kh_tr k k') (Heap.get?_none_of_le (Nat.le_refl _))⟩⟩)
theorem PG.itemP {α : Type} {a i : Expr} {p : Pos} {R : Heap → Value → α → Prop} {as : List α} {k : Nat} {x : α} (u : Up R) (y : PG prog w A env a h₀ s (KList R as)) (z : PG prog w A env i h₀ s (KInt (k : Int))) (hk : as[k]? = some x) (hk64 : k < 1000000)
    (hs : ∀ l t, subscripted i false (.ref l) (.int (k : Int) t) = operate [.ref l, .int (k : Int) t] (getItem (.ref l) (.int (k : Int) t)) := by intro _ _; with_unfolding_all rfl) : PG prog w A env (.Subscript a i p) h₀ s (fun v h => R h v x) :=
  PG.sub y z (upL u) fun o j h' kk ho hj => by
    obtain ⟨l, vs, n, rfl, e, hx⟩ := ho
    obtain ⟨t, rfl⟩ := hj
    have hlen := hx.length
    have hkl : k < as.length := (List.getElem?_eq_some_iff.mp hk).1
    obtain ⟨b, hb, hR⟩ := paired_at hx (List.getElem?_eq_getElem (l := vs.toList) (i := k) (by omega))
    rw [hk] at hb
    cases hb
    exact (ps_item e (List.getElem?_eq_getElem (l := vs.toList) (i := k) (by omega)) hk64 (hs _ _)).imp fun v h' k' hv => by subst hv; exact u _ _ _ _ k' hR
theorem noPyl6 (a : Int) : Builtin.divisionGoesByPylong a 6 = false := by
  unfold Builtin.divisionGoesByPylong
  exact Bool.and_eq_false_imp.mpr fun h => absurd h (by decide +kernel)
theorem noPyl30 (a : Int) : Builtin.divisionGoesByPylong a 30 = false := by
  unfold Builtin.divisionGoesByPylong
  exact Bool.and_eq_false_imp.mpr fun h => absurd h (by decide +kernel)
theorem ps_mod {a b : Value} {i j : Int} (x : KInt i a h₀) (y : KInt j b h₀) (hj : j ≠ 0) : PS prog w A (binaryOp .Mod a b) h₀ s (KInt (i.fmod j)) := by
  obtain ⟨t, rfl⟩ := x
  obtain ⟨u, rfl⟩ := y
  exact .mk fun h tk Q E k hQ => mod_int' hj (hQ _ _ _ kh_rfl ⟨_, rfl⟩)
theorem ps_fdiv {a b : Value} {i j : Int} (x : KInt i a h₀) (y : KInt j b h₀) (hj : j ≠ 0) (hb : Builtin.divisionGoesByPylong i j = false) : PS prog w A (binaryOp .FloorDiv a b) h₀ s (KInt (i.fdiv j)) := by
  obtain ⟨t, rfl⟩ := x
  obtain ⟨u, rfl⟩ := y
  exact .mk fun h tk Q E k hQ => floordiv_int hj (hQ _ _ _ kh_rfl ⟨_, rfl⟩) (.inl hb)
theorem ps_eqI {a b : Value} {i j : Int} (x : KInt i a h₀) (y : KInt j b h₀) : PS prog w A (compareOp .Eq a b) h₀ s (KBool (i == j)) := by
  obtain ⟨t, rfl⟩ := x
  obtain ⟨u, rfl⟩ := y
  exact .mk fun h tk Q E k hQ => eq_int (hQ _ _ _ kh_rfl rfl)
theorem ps_addL {P P' P'' : List Value → Prop} {a b : Value} (x : KSeq P a h₀) (y : KSeq P' b h₀) (hP : ∀ vs ws, P vs → P' ws → P'' (vs ++ ws)) (hl : ∀ vs ws, P vs → P' ws → vs.length + ws.length ≤ sizeLine) : PS prog w A (binaryOp .Add a b) h₀ s (KNew h₀ (KSeq P'')) := by
  obtain ⟨l, vs, n, rfl, e, hx⟩ := x
  obtain ⟨l', vs', n', rfl, e', hx'⟩ := y
  exact .mk fun h tk Q E k hQ => PySem.P.add_list (k _ _ e) (k _ _ e') (hQ _ _ _ (fun b o e => Heap.get?_push_of_some _ e) ⟨⟨_, _, _, rfl, Heap.get?_push_size _ rfl, by rw [Array.toList_append]; exact hP _ _ hx hx'⟩, _, rfl, noneOf k (Heap.get?_none_of_le (Nat.le_refl _))⟩) (by simpa using hl _ _ hx hx')
theorem pc_list {P : List Value → Prop} {o : Value} (x : KSeq P o h₀) (hl : ∀ vs, P vs → vs.length ≤ sizeLine) : PC prog w A (.type "list") [o] h₀ s (KNew h₀ (KSeq P)) := by
  obtain ⟨l, vs, n, rfl, e, hx⟩ := x
  exact .mk fun h tk Q E k hQ => call_list_seq l (.inl rfl) (k _ _ e) rfl rfl (fun h' c' kk e' => hQ _ _ _ kk ⟨⟨_, vs, _, rfl, e', hx⟩, _, rfl, noneOf k (Heap.get?_none_of_le (Nat.le_refl _))⟩) (by simpa using hl _ hx)
theorem pc_listTup {a : Addr} {vs : Array Value} (x : IsTup h₀ a vs) (hl : vs.size ≤ sizeLine) : PC prog w A (.type "list") [.ref a] h₀ s (KNew h₀ (KSeq (fun ws => ws = vs.toList))) := by
  obtain ⟨o, e, hc, n, hd⟩ := x
  exact .mk fun h tk Q E k hQ => call_list_seq a (.inr rfl) (k _ _ e) hc hd (fun h' c' kk e' => hQ _ _ _ kk ⟨⟨_, vs, _, rfl, e', rfl⟩, _, rfl, noneOf k (Heap.get?_none_of_le (Nat.le_refl _))⟩) hl
theorem PG.tuple2 {e e' : Expr} {p : Pos} {c : Nat} {K K' : Value → Heap → Prop} (x : PG prog w A env e h₀ s K) (u : UpK K) (y : PG prog w A env e' h₀ s K') (u' : UpK K') (he : starEach [e, e'] env = (false, eval e env) :: starEach [e'] env := by rfl) (he' : starEach [e'] env = (false, eval e' env) :: starEach [] env := by rfl) :
    PG prog w A env (.Tuple [e, e'] c p) h₀ s (fun v h => ∃ a v1 v2, v = .ref a ∧ h₀.get? a = Option.none ∧ IsTup h a #[v1, v2] ∧ K v1 h ∧ K' v2 h) :=
  .mk fun h tk Q E k hQ => wpAny_Tuple ((PA.two x u y u' he he').run h tk _ E k fun vs h' tk' k' ⟨v1, v2, e1, k1, k2⟩ => by
    subst e1
    exact ⟨by show 2 ≤ sizeLine; decide, hQ _ _ _ (fun b o e => Heap.get?_push_of_some _ (k' _ _ e)) ⟨_, v1, v2, rfl, noneOf (kh_tr k k') (Heap.get?_none_of_le (Nat.le_refl _)), ⟨_, Heap.get?_push_size _ rfl, rfl, _, rfl⟩, u _ _ _ (fun b o e => Heap.get?_push_of_some _ e) k1, u' _ _ _ (fun b o e => Heap.get?_push_of_some _ e) k2⟩⟩)
/-- a display of written ints, of written texts and None -/
theorem PA.ints {pos : Pos} : ∀ (l : List (Int × Pos)), PA prog w A env pos (l.map fun x => .Constant (.int x.1) 0 x.2) h₀ s (fun vs _ => Paired (fun v (i : Int) => ∃ t, v = Value.int i t) vs (l.map (·.1)))
  | [] => .mk fun h tk Q E k hQ => PA.nil.run h tk Q E k fun v h' tk' k' e => hQ v h' tk' k' (by subst e; exact .nil)
  | x :: l => .mk fun h tk Q E k hQ => (PA.cons PG.int upI (PA.ints l) rfl).run h tk Q E k fun v h' tk' k' ⟨v1, vs', e1, r1, r2⟩ => hQ v h' tk' k' (by subst e1; exact .cons r1 r2)
noncomputable def optC : Option Str → Const
  | Option.none => .none
  | Option.some x => .str x
noncomputable def OptV (o : Option Str) (v : Value) : Prop := match o with
  | Option.none => v = .none
  | Option.some x => ∃ t, v = .str x t
theorem PG.opt {c : Nat} {p : Pos} : ∀ (o : Option Str), PG prog w A env (.Constant (optC o) c p) h₀ s (fun v _ => OptV o v)
  | Option.none => PG.none
  | Option.some x => PG.str
theorem PA.opts {pos : Pos} : ∀ (l : List (Option Str × Pos)), PA prog w A env pos (l.map fun x => .Constant (optC x.1) 0 x.2) h₀ s (fun vs _ => Paired (fun v (o : Option Str) => OptV o v) vs (l.map (·.1)))
  | [] => .mk fun h tk Q E k hQ => PA.nil.run h tk Q E k fun v h' tk' k' e => hQ v h' tk' k' (by subst e; exact .nil)
  | x :: l => .mk fun h tk Q E k hQ => (PA.cons (PG.opt x.1) (fun _ _ _ _ e => e) (PA.opts l) rfl).run h tk Q E k fun v h' tk' k' ⟨v1, vs', e1, r1, r2⟩ => hQ v h' tk' k' (by subst e1; exact .cons r1 r2)
theorem klist_ints {xs : List Int} {v : Value} {h : Heap} (k : KList (fun _ v (x : Int) => ∃ t, v = .int x t) xs v h) : KInts xs v h := by
  obtain ⟨l, vs, n, e1, e2, e3⟩ := k
  refine ⟨l, vs, n, e1, e2, ?_⟩
  clear e2
  generalize vs.toList = ws at e3
  induction e3 with
  | nil => exact .nil
  | cons h _ ih => obtain ⟨t, rfl⟩ := h; exact .cons _ _ ih
theorem PG.intList {p : Pos} {es : List Expr} {ks : List Int} (l : List (Int × Pos)) (he : es = l.map fun x => .Constant (.int x.1) 0 x.2) (hk : ks = l.map (·.1)) (hl : ks.length ≤ 1000) : PG prog w A env (.List es p) h₀ s (KNew h₀ (KInts ks)) := by
  subst he hk
  exact (PG.listP (R := fun _ v (x : Int) => ∃ t, v = .int x t) (fun _ _ _ _ _ h => h) (PA.ints l) (by rw [PySem.sizeLine_eq]; omega)).imp fun _ _ _ k => ⟨klist_ints k.1, k.2⟩
theorem PG.optList {p : Pos} {es : List Expr} {ks : List (Option Str)} (l : List (Option Str × Pos)) (he : es = l.map fun x => .Constant (optC x.1) 0 x.2) (hk : ks = l.map (·.1)) (hl : ks.length ≤ 1000) : PG prog w A env (.List es p) h₀ s (KList (fun _ v o => OptV o v) ks) := by
  subst he hk
  exact (PG.listP (R := fun _ v (o : Option Str) => OptV o v) (fun _ _ _ _ _ h => h) (PA.opts l) (by rw [PySem.sizeLine_eq]; omega)).imp fun _ _ _ k => k.1
end

end Mine
end
section
open PySem PySem.W PyProof.Rows
set_option Elab.async false
set_option maxRecDepth 100000
set_option maxHeartbeats 4000000
set_option linter.unusedVariables false
namespace Mine
/-- the text's own objects stand in the ghost -/
noncomputable def Gl (w : World) (g : Heap) : Prop := ∃ loose mean mg mb, (hd.heap_39 w.params).In g ∧ Top topProg loose mean mg mb g
theorem Gl.up {w : World} {g h : Heap} (G : Gl w g) (k : KeepsH g h) : Gl w h := by
  obtain ⟨l, m, mg, mb, X, T⟩ := G
  exact ⟨l, m, mg, mb, X.keeps k, T.keeps k⟩
section
variable {prog : Program} {w : World} {A : Around} {env : Env} {h₀ : Heap} {s : Shared}
theorem Gl.built {x : Str} {p : Pos} {v : Value} (G : Gl w h₀) (e : nsIn (hd.heap_39 w.params) mainGlobals x = some none) (hb : bootBuiltins x = some v) (hn : x ≠ "__name__" := by decide)
    (hg : env.globals = mainGlobals := by rfl) (hbi : env.builtins = builtinsNs := by rfl) (hk : env.scope.kind = .function := by rfl) (hx : env.kindOf x = some .globalImplicit := by rfl) (hd : (x == ("__debug__" : Str)) = false := by decide) :
    PG prog w A env (.Name x p) h₀ s (fun u _ => u = v) := by
  obtain ⟨l, m, mg, mb, X, T⟩ := G
  exact PG.built (hg ▸ T.g) (mg_none_of X T.g e) (hbi ▸ T.b) ((T.builtins _ hn).trans hb) hk hx hd
theorem Gl.fn {x : Str} {p : Pos} {v : Value} (G : Gl w h₀) (e : nsIn (hd.heap_39 w.params) mainGlobals x = some (some v))
    (hg : env.globals = mainGlobals := by rfl) (hk : env.scope.kind = .function := by rfl) (hx : env.kindOf x = some .globalImplicit := by rfl) (hd : (x == ("__debug__" : Str)) = false := by decide) :
    PG prog w A env (.Name x p) h₀ s (fun u _ => u = v) := by
  obtain ⟨l, m, mg, mb, X, T⟩ := G
  exact PG.glob (hg ▸ T.g) (mg_of X T.g e) hk hx hd
theorem e_len : nsIn (hd.heap_39 w.params) mainGlobals (Str.ofString "len") = some none := by k_is
theorem e_range : nsIn (hd.heap_39 w.params) mainGlobals (Str.ofString "range") = some none := by k_is
theorem e_sorted : nsIn (hd.heap_39 w.params) mainGlobals (Str.ofString "sorted") = some none := by k_is
theorem e_max : nsIn (hd.heap_39 w.params) mainGlobals (Str.ofString "max") = some none := by k_is
theorem e_min : nsIn (hd.heap_39 w.params) mainGlobals (Str.ofString "min") = some none := by k_is
theorem e_str : nsIn (hd.heap_39 w.params) mainGlobals (Str.ofString "str") = some none := by k_is
theorem e_list : nsIn (hd.heap_39 w.params) mainGlobals (Str.ofString "list") = some none := by k_is
theorem e_IE : nsIn (hd.heap_39 w.params) mainGlobals (Str.ofString "IndexError") = some none := by k_is
theorem e_VE : nsIn (hd.heap_39 w.params) mainGlobals (Str.ofString "ValueError") = some none := by k_is
theorem b_len : bootBuiltins (Str.ofString "len") = some (.builtin "len") := by boot_fast
theorem b_range : bootBuiltins (Str.ofString "range") = some (.type "range") := by boot_fast
theorem b_sorted : bootBuiltins (Str.ofString "sorted") = some (.builtin "sorted") := by boot_fast
theorem b_max : bootBuiltins (Str.ofString "max") = some (.builtin "max") := by boot_fast
theorem b_min : bootBuiltins (Str.ofString "min") = some (.builtin "min") := by boot_fast
theorem b_str : bootBuiltins (Str.ofString "str") = some (.type "str") := by boot_fast
theorem b_list : bootBuiltins (Str.ofString "list") = some (.type "list") := by boot_fast
theorem b_VE : bootBuiltins (Str.ofString "ValueError") = some (.type "ValueError") := by decide +kernel
theorem b_IE : bootBuiltins (Str.ofString "IndexError") = some (.type "IndexError") := by decide +kernel
theorem f_38 : nsIn (hd.heap_39 w.params) mainGlobals (Str.ofString "_strcoll") = some (some (.ref 38)) := by k_is
theorem f_45 : nsIn (hd.heap_39 w.params) mainGlobals (Str.ofString "_strxfrm") = some (some (.ref 45)) := by k_is
theorem f_52 : nsIn (hd.heap_39 w.params) mainGlobals (Str.ofString "_build_localename") = some (some (.ref 52)) := by k_is
theorem f_83 : nsIn (hd.heap_39 w.params) mainGlobals (Str.ofString "sorted_list_difference") = some (some (.ref 83)) := by k_is
theorem f_90 : nsIn (hd.heap_39 w.params) mainGlobals (Str.ofString "unorderable_list_difference") = some (some (.ref 90)) := by k_is
theorem f_97 : nsIn (hd.heap_39 w.params) mainGlobals (Str.ofString "_law_pairs") = some (some (.ref 97)) := by k_is
theorem f_104 : nsIn (hd.heap_39 w.params) mainGlobals (Str.ofString "_law_patterns") = some (some (.ref 104)) := by k_is
theorem f_111 : nsIn (hd.heap_39 w.params) mainGlobals (Str.ofString "_law_means") = some (some (.ref 111)) := by k_is
theorem f_123 : nsIn (hd.heap_39 w.params) mainGlobals (Str.ofString "_law_taken") = some (some (.ref 123)) := by k_is
theorem f_130 : nsIn (hd.heap_39 w.params) mainGlobals (Str.ofString "_law_lacking") = some (some (.ref 130)) := by k_is
theorem f_135 : nsIn (hd.heap_39 w.params) mainGlobals (Str.ofString "_law_told") = some (some (.ref 135)) := by k_is
theorem f_142 : nsIn (hd.heap_39 w.params) mainGlobals (Str.ofString "_law_refused") = some (some (.ref 142)) := by k_is
theorem f_147 : nsIn (hd.heap_39 w.params) mainGlobals (Str.ofString "_law_steps") = some (some (.ref 147)) := by k_is
/-- a def of the text stands as a function -/
noncomputable def IsFn (a : Addr) (h : Heap) : Prop := ∃ o fd, h.get? a = some o ∧ o.data = .func fd
theorem o_38 (G : Gl w h₀) : IsFn 38 h₀ := by obtain ⟨l, m, mg, mb, X, T⟩ := G; exact ⟨_, _, X _ _ (by k_is), rfl⟩
theorem o_45 (G : Gl w h₀) : IsFn 45 h₀ := by obtain ⟨l, m, mg, mb, X, T⟩ := G; exact ⟨_, _, X _ _ (by k_is), rfl⟩
theorem o_52 (G : Gl w h₀) : IsFn 52 h₀ := by obtain ⟨l, m, mg, mb, X, T⟩ := G; exact ⟨_, _, X _ _ (by k_is), rfl⟩
theorem o_83 (G : Gl w h₀) : IsFn 83 h₀ := by obtain ⟨l, m, mg, mb, X, T⟩ := G; exact ⟨_, _, X _ _ (by k_is), rfl⟩
theorem o_90 (G : Gl w h₀) : IsFn 90 h₀ := by obtain ⟨l, m, mg, mb, X, T⟩ := G; exact ⟨_, _, X _ _ (by k_is), rfl⟩
theorem o_97 (G : Gl w h₀) : IsFn 97 h₀ := by obtain ⟨l, m, mg, mb, X, T⟩ := G; exact ⟨_, _, X _ _ (by k_is), rfl⟩
theorem o_104 (G : Gl w h₀) : IsFn 104 h₀ := by obtain ⟨l, m, mg, mb, X, T⟩ := G; exact ⟨_, _, X _ _ (by k_is), rfl⟩
theorem o_111 (G : Gl w h₀) : IsFn 111 h₀ := by obtain ⟨l, m, mg, mb, X, T⟩ := G; exact ⟨_, _, X _ _ (by k_is), rfl⟩
theorem o_123 (G : Gl w h₀) : IsFn 123 h₀ := by obtain ⟨l, m, mg, mb, X, T⟩ := G; exact ⟨_, _, X _ _ (by k_is), rfl⟩
theorem o_130 (G : Gl w h₀) : IsFn 130 h₀ := by obtain ⟨l, m, mg, mb, X, T⟩ := G; exact ⟨_, _, X _ _ (by k_is), rfl⟩
theorem o_135 (G : Gl w h₀) : IsFn 135 h₀ := by obtain ⟨l, m, mg, mb, X, T⟩ := G; exact ⟨_, _, X _ _ (by k_is), rfl⟩
theorem o_142 (G : Gl w h₀) : IsFn 142 h₀ := by obtain ⟨l, m, mg, mb, X, T⟩ := G; exact ⟨_, _, X _ _ (by k_is), rfl⟩
theorem o_147 (G : Gl w h₀) : IsFn 147 h₀ := by obtain ⟨l, m, mg, mb, X, T⟩ := G; exact ⟨_, _, X _ _ (by k_is), rfl⟩
/-- a call of a def of the text -/
theorem Gl.call {x : Str} {q p : Pos} {a : Addr} {e : Expr} {es : List Expr} {Ka : List Value → Heap → Prop} {K : Value → Heap → Prop} (G : Gl w h₀) (e₀ : nsIn (hd.heap_39 w.params) mainGlobals x = some (some (.ref a))) (ho : IsFn a h₀) (y : PA prog w A env p (e :: es) h₀ s Ka)
    (h : ∀ vs h', KeepsH h₀ h' → Ka vs h' → PC prog w A (.ref a) vs h' s K)
    (he : eval (.Call (.Name x q) (e :: es) [] p) env = (do callWith p (← eval (.Name x q) env) [] (backTo p (starEach (e :: es) env)) (backToKw p (keywordEach [] env))) := by rfl)
    (hg : env.globals = mainGlobals := by rfl) (hk : env.scope.kind = .function := by rfl) (hx : env.kindOf x = some .globalImplicit := by rfl) (hd : (x == ("__debug__" : Str)) = false := by decide)
    (h1 : starEach (e :: es) env = (false, eval e env) :: starEach es env := by rfl) : PG prog w A env (.Call (.Name x q) (e :: es) [] p) h₀ s K := by
  obtain ⟨o, fd, e1, e2⟩ := ho
  exact PG.callD (Gl.fn G e₀ hg hk hx hd) e1 e2 y h he h1
/-- len(e), range(e) -/
theorem PG.len {e : Expr} {q p : Pos} {P : List Value → Prop} {c : Nat} (G : Gl w h₀) (x : PG prog w A env e h₀ s (KSeq P)) (hc : ∀ vs, P vs → vs.length = c) (hc64 : c < 1000000)
    (hg : env.globals = mainGlobals := by rfl) (hbi : env.builtins = builtinsNs := by rfl) (hk : env.scope.kind = .function := by rfl) (hx : env.kindOf (Str.ofString "len") = some .globalImplicit := by rfl)
    (he : eval (.Call (.Name (Str.ofString "len") q) [e] [] p) env = (do callWith p (← eval (.Name (Str.ofString "len") q) env) [] (backTo p (starEach [e] env)) (backToKw p (keywordEach [] env))) := by rfl)
    (h1 : starEach [e] env = (false, eval e env) :: starEach [] env := by rfl) : PG prog w A env (.Call (.Name (Str.ofString "len") q) [e] [] p) h₀ s (KInt (c : Int)) :=
  PG.callB1 (Gl.built G e_len b_len (by decide) hg hbi hk hx (by decide)) x upQ (fun v h' k kv => pc_len kv hc hc64) he h1
theorem PG.range {e : Expr} {q p : Pos} {c : Nat} (G : Gl w h₀) (x : PG prog w A env e h₀ s (KInt (c : Int)))
    (hg : env.globals = mainGlobals := by rfl) (hbi : env.builtins = builtinsNs := by rfl) (hk : env.scope.kind = .function := by rfl) (hx : env.kindOf (Str.ofString "range") = some .globalImplicit := by rfl)
    (he : eval (.Call (.Name (Str.ofString "range") q) [e] [] p) env = (do callWith p (← eval (.Name (Str.ofString "range") q) env) [] (backTo p (starEach [e] env)) (backToKw p (keywordEach [] env))) := by rfl)
    (h1 : starEach [e] env = (false, eval e env) :: starEach [] env := by rfl) : PG prog w A env (.Call (.Name (Str.ofString "range") q) [e] [] p) h₀ s (KRange c) :=
  PG.callT1 (Gl.built G e_range b_range (by decide) hg hbi hk hx (by decide)) x upI (fun v h' k kv => pc_range kv) he h1
end

end Mine
end
section
open PySem PySem.W PyProof.Rows PySem.Calls
set_option Elab.async false
set_option maxRecDepth 100000
set_option maxHeartbeats 4000000
set_option linter.unusedVariables false
namespace Mine
section
variable {prog : Program} {w : World} {A : Around} {s : Shared}
/-- entry of a def with cells over a ghost that holds all but the frame -/
theorem enter_gc {K : Frag} {Q E : Value → Shared → Prop} {p : Program} {loose : List Str} {mean : ExcName → Option Value} {mg mb : Str → Option Value}
    {name qual : Str} {params : Arguments} {body : List Stmt} {scope : Scope} {dV kV doc pm cdv ct oc : Value} {an od : Option Addr} {osl : Array (Option Value)} {f : Addr} {args : List Value} {binds : List (Str × Value)}
    (X : K.In s.heap) (T : Top p loose mean mg mb s.heap)
    (ho : K.lookup f = some ⟨oc, od, .func (fnOf name qual params body scope dV kV doc pm an cdv ct), osl⟩) (hcd : codeIn K cdv qual = true) (hroom : A.depth < recursionLimit)
    (hbind : BindsTo s (fnOf name qual params body scope dV kV doc pm an cdv ct) ⟨args, []⟩ binds) (hkind : (binds.all fun y => scope.names.lookup y.1 == some .local || scope.names.lookup y.1 == some .cell) = true)
    (hnd : ((cellsFrom 0 scope.names []).map (·.1)).Nodup)
    (h : ∀ L' h₁ tk g cells, KeepsH s.heap g → KeepsH g h₁ → g.get? L' = none → h₁.Ns L' (bindL (envOfC qual scope L' f cdv).kindOf binds fun _ => none) →
      CellsAre (bindC (envOfC qual scope L' f cdv).kindOf binds fun _ => none) (cellsFrom (L' + 1) scope.names []) cells → (∀ q ∈ cells, g.get? q.1 = some q.2) → L' = s.heap.objs.size → s.toks ≤ tk →
      wpAny (model prog w) (A.deeper (envOfC qual scope L' f cdv)) (execs body (envOfC qual scope L' f cdv))
        (fun fl s' => Q (match fl with | .ret v => v | _ => .none) s')
        (fun e s' => wpAny (model prog w) (A.deeper (envOfC qual scope L' f cdv)) (leaving (envOfC qual scope L' f cdv) e) (fun _ s'' => E e s'') (fun e' s'' => E e' s'') s')
        { s with heap := h₁, toks := tk })
    (hco : scope.isCoroutine = false) (hgen : scope.isGenerator = false) (hk : scope.kind = .function) : wpAny (model prog w) A (call (.ref f) args) Q E s := by
  refine enter_cells (led := []) (h₀ := s.heap) X T (fun _ _ e => e) (Nat.le_refl _) (fun q hq => nomatch hq) ho hcd hroom hbind hkind hnd (fun L' h₁ tk cells F N Y eL kk htk => ?_) hco hgen hk
  have hLn : s.heap.get? L' = none := by rw [eL]; exact Heap.get?_none_of_le (Nat.le_refl _)
  refine h L' h₁ tk (hideAll h₁ [L']) cells (fun b o e => hideAll_get _ (kk b o e) fun hm => ?_) (fun b o e => of_hideAll _ e) (hideAll_none _ (.head _)) F.ns Y (fun q hq => ?_) eL htk
  · rw [List.mem_singleton.mp hm, hLn] at e; cases e
  · have n := N q (List.mem_append_left _ hq)
    exact hideAll_get _ n.1 fun hm => n.2.1 (List.mem_singleton.mp hm)
/-- entry of a def without cells -/
theorem enter_g {K : Frag} {Q E : Value → Shared → Prop} {p : Program} {loose : List Str} {mean : ExcName → Option Value} {mg mb : Str → Option Value}
    {name qual : Str} {params : Arguments} {body : List Stmt} {scope : Scope} {dV kV doc pm cdv ct oc : Value} {an od : Option Addr} {osl : Array (Option Value)} {f : Addr} {args : List Value} {binds : List (Str × Value)}
    (X : K.In s.heap) (T : Top p loose mean mg mb s.heap)
    (ho : K.lookup f = some ⟨oc, od, .func (fnOf name qual params body scope dV kV doc pm an cdv ct), osl⟩) (hcd : codeIn K cdv qual = true) (hroom : A.depth < recursionLimit)
    (hbind : BindsTo s (fnOf name qual params body scope dV kV doc pm an cdv ct) ⟨args, []⟩ binds) (hloc : ∀ y ∈ binds, scope.names.lookup y.1 = some .local)
    (h : ∀ L' h₁ tk, KeepsH s.heap h₁ → s.heap.get? L' = none → h₁.Ns L' (fun y => binds.reverse.lookup y) → L' = s.heap.objs.size → s.toks ≤ tk →
      wpAny (model prog w) (A.deeper (envOf qual scope L' f cdv)) (execs body (envOf qual scope L' f cdv))
        (fun fl s' => Q (match fl with | .ret v => v | _ => .none) s')
        (fun e s' => wpAny (model prog w) (A.deeper (envOf qual scope L' f cdv)) (leaving (envOf qual scope L' f cdv) e) (fun _ s'' => E e s'') (fun e' s'' => E e' s'') s')
        { s with heap := h₁, toks := tk })
    (hco : scope.isCoroutine = false) (hgen : scope.isGenerator = false) (hk : scope.kind = .function)
    (hcell : ∀ x ∈ scope.names, x.2 ≠ .cell) : wpAny (model prog w) A (call (.ref f) args) Q E s := by
  refine enter_pure X T ho hcd hroom hbind hloc (fun L' h₁ F N eL => ?_) hco hgen hk hcell
  exact h L' h₁ _ F.keep (by rw [eL]; exact Heap.get?_none_of_le (Nat.le_refl _)) F.ns eL (Nat.le_add_right _ _)
/-- a comprehension's list into a local -/
theorem asg_local {env : Env} {y : Str} {py : Pos} {Q : Flow → Shared → Prop} {E : Value → Shared → Prop} {D : Addr} {h' : Heap} {tk : Nat} {g g' : Heap} {m : Str → Option Value}
    (hn : s.heap.Ns env.locals m) (hg : g.get? env.locals = none) (x : Ext g s.heap g' h')
    (h : ∀ h'' tk', KeepsH g' h'' → h''.Ns env.locals (fun z => if z = y then some (.ref D) else m z) → (∀ a o, a ≠ env.locals → s.heap.get? a = some o → h''.get? a = some o) → Q .next { s with heap := h'', toks := tk' })
    (hy : env.kindOf y = some .local := by rfl) (hp : (env.scope.kind == .class || (env.scope.kind == .module && env.locals != env.globals)) = false := by rfl) : AsgEnd prog w A env y py Q E D h' tk g' s := by
  have hL : ∃ o, s.heap.get? env.locals = some o := by obtain ⟨o, _, _, e, _⟩ := hn; exact ⟨o, e⟩
  refine wpAny_assign_Name (wpAny_storeName_local hy (hn.keeps x.hh) (fun h₂ hn₂ hs₂ => ?_) hp)
  refine ⟨[env.locals], fun b o hb e => hs₂.extBut b o (fun q => hb (by simp [q])) e, fun a ha => ?_, fun h'' k₁ k₂ => ?_⟩
  · rw [List.mem_singleton.mp ha]; exact ⟨x.new _ hg hL, hL⟩
  · exact h h'' _ k₁ (hn₂.at' fun o e => k₂ _ o hL e) fun a o ha e => k₂ a o ⟨o, e⟩ (hs₂.extBut a o ha (x.hh _ _ e))
/-- an assignment of a pure expression -/
theorem asg_pure {env : Env} {y : Str} {py pos : Pos} {e : Expr} {Q : Flow → Shared → Prop} {E : Value → Shared → Prop} {h₀ : Heap} {K : Value → Heap → Prop} {m : Str → Option Value}
    (x : PG prog w A env e h₀ s K) (k₀ : KeepsH h₀ s.heap) (hn : s.heap.Ns env.locals m)
    (h : ∀ v h' h'' tk', KeepsH s.heap h' → K v h' → (∀ b o, b ≠ env.locals → h'.get? b = some o → h''.get? b = some o) → h''.Ns env.locals (fun z => if z = y then some v else m z) → Q .next { s with heap := h'', toks := tk' })
    (hy : env.kindOf y = some .local := by rfl) (hp : (env.scope.kind == .class || (env.scope.kind == .module && env.locals != env.globals)) = false := by rfl)
    (hs : swapsWith e (some (.Name y py)) pos.line env = pure false := by rfl) : wpAny (model prog w) A (exec (.Assign [.Name y py] e pos) env) Q E s :=
  wpAny_Assign_Name (x.run s.heap s.toks _ E k₀ fun v h' tk' k' kv => wpAny_storeName_local hy (hn.keeps k') (fun h₂ hn₂ hs₂ => h v h' h₂ _ k' kv (fun b o hb e => hs₂.extBut b o hb e) hn₂) hp) hs
/-- the values of a display -/
noncomputable def KRd (d : PyData) (v : Value) (h : Heap) : Prop := ∃ as, Reads h v d as
theorem upR {d : PyData} : UpK (KRd d) := fun _ _ _ k ⟨as, r⟩ => ⟨as, PyProof.Rows.Reads.keeps k r⟩
theorem KStrs.rd {xs : List Str} {v : Value} {h : Heap} (k : KStrs xs v h) : KRd (.list (xs.map .str)) v h := by
  obtain ⟨l, vs, n, rfl, e, hx⟩ := k
  exact ⟨_, reads_list_at e rfl rfl (hx.reads h)⟩
noncomputable def KA (ds : List PyData) (vs : List Value) (h : Heap) : Prop := ∃ as, ReadsAll h vs ds as
theorem KA.len {ds : List PyData} {vs : List Value} {h : Heap} (k : KA ds vs h) : vs.length = ds.length := by
  obtain ⟨as, r⟩ := k
  induction ds generalizing vs as with
  | nil => cases r; rfl
  | cons d ds ih => cases r with | cons a b => simp [ih _ b]
theorem PA.rd0 {env : Env} {pos : Pos} {h₀ : Heap} : PA prog w A env pos [] h₀ s (KA []) := .mk fun h tk Q E k hQ => PA.nil.run h tk Q E k fun v h' tk' k' e => hQ v h' tk' k' (by subst e; exact ⟨_, .nil⟩)
theorem PA.rd {env : Env} {pos : Pos} {e : Expr} {es : List Expr} {d : PyData} {ds : List PyData} {h₀ : Heap} (x : PG prog w A env e h₀ s (KRd d)) (y : PA prog w A env pos es h₀ s (KA ds)) (he : starEach (e :: es) env = (false, eval e env) :: starEach es env := by rfl) : PA prog w A env pos (e :: es) h₀ s (KA (d :: ds)) :=
  .mk fun h tk Q E k hQ => (PA.cons x upR y he).run h tk Q E k fun v h' tk' k' hv => by
    obtain ⟨a, b, e1, ⟨as, r⟩, bs, r'⟩ := hv
    exact hQ v h' tk' k' (by subst e1; exact ⟨_, .cons r r'⟩)
theorem PG.tupleRd {env : Env} {pos : Pos} {c : Nat} {es : List Expr} {ds : List PyData} {h₀ : Heap} (x : PA prog w A env pos es h₀ s (KA ds)) (hl : ds.length ≤ sizeLine := by (simp only [List.length_cons, List.length_nil]; decide)) : PG prog w A env (.Tuple es c pos) h₀ s (KRd (.tuple ds)) :=
  .mk fun h tk Q E k hQ => wpAny_Tuple (x.run h tk _ E k fun vs h' tk' k' ka => ⟨by rw [ka.len]; exact hl, hQ _ _ _ (fun b o e => Heap.get?_push_of_some _ (k' _ _ e)) ⟨_, reads_tuple_at (Heap.get?_push_size _ rfl) rfl rfl (PyProof.Rows.ReadsAll.keeps (fun b o e => Heap.get?_push_of_some _ e) ka.choose_spec)⟩⟩)
theorem PG.listRd {env : Env} {pos : Pos} {es : List Expr} {ds : List PyData} {h₀ : Heap} (x : PA prog w A env pos es h₀ s (KA ds)) (hl : ds.length ≤ sizeLine := by (simp only [List.length_cons, List.length_nil]; decide)) : PG prog w A env (.List es pos) h₀ s (KRd (.list ds)) :=
  .mk fun h tk Q E k hQ => wpAny_List (x.run h tk _ E k fun vs h' tk' k' ka => ⟨by rw [ka.len]; exact hl, hQ _ _ _ (fun b o e => Heap.get?_push_of_some _ (k' _ _ e)) ⟨_, reads_list_at (Heap.get?_push_size _ rfl) rfl rfl (PyProof.Rows.ReadsAll.keeps (fun b o e => Heap.get?_push_of_some _ e) ka.choose_spec)⟩⟩)
end
section
variable {prog : Program} {w : World} {A : Around} {s : Shared}
/-- the end of a comprehension that is bound to a cell -/
noncomputable def CellEnd (prog : Program) (w : World) (A : Around) (env : Env) (y : Str) (Q : Flow → Shared → Prop) (E : Value → Shared → Prop) (D : Addr) (h' : Heap) (tk : Nat) (g' : Heap) (s : Shared) : Prop :=
  wpAny (model prog w) A (storeName env y (.ref D)) (fun _ => Q .next) E { s with heap := h', toks := tk }
theorem gcomp_assignC {env : Env} {elt iter : Expr} {x y : Str} {px py : Pos} {ifs : List Expr} {scope : Scope} {cl : List (Str × Addr)} {pos spos : Pos} {Q : Flow → Shared → Prop} {E : Value → Shared → Prop}
    (hsw : swapsWith (.ListComp elt [⟨.Name x px, iter, ifs, 0⟩] scope pos) (some (.Name y py)) spos.line env = pure false)
    (hclos : closureFor scope env = pure cl) (hcell : ∀ y ∈ scope.names, y.2 ≠ .cell) (hkind : scope.kind = .function) (hnames : ∀ z ∈ scope.names, z.2 = .local → scope.names.lookup z.1 = some .local) (hx : scope.names.lookup x = some .local)
    (h : wpAny (model prog w) A (eval iter env) (CompAt prog w A env scope cl x ifs elt (CellEnd prog w A env y Q E)) E s)
    (hs : ∀ x, foldedSetIterable iter env x = pure x := by intro _; rfl) :
    wpAny (model prog w) A (exec (.Assign [.Name y py] (.ListComp elt [⟨.Name x px, iter, ifs, 0⟩] scope pos) spos) env) Q E s :=
  wpAny_Assign_Name (gcomp_eval hclos hcell hkind hnames hx h hs) hsw
/-- a comprehension's list into a cell -/
theorem asg_cell {env : Env} {y : Str} {Q : Flow → Shared → Prop} {E : Value → Shared → Prop} {D : Addr} {h' : Heap} {tk : Nat} {g g' : Heap} {c : Addr} {v₀ : Option Value}
    (hv : s.heap.IsCell c v₀) (hg : g.get? c = none) (x : Ext g s.heap g' h')
    (h : ∀ h'' tk', KeepsH g' h'' → h''.IsCell c (some (.ref D)) → (∀ a o, a ≠ c → s.heap.get? a = some o → h''.get? a = some o) → Q .next { s with heap := h'', toks := tk' })
    (hc : env.cells.lookup y = some c := by rfl) (hy : env.kindOf y = some .cell := by rfl) (hk : env.scope.kind = .function := by rfl) : CellEnd prog w A env y Q E D h' tk g' s := by
  have hL : ∃ o, s.heap.get? c = some o := by obtain ⟨o, e, _⟩ := hv; exact ⟨o, e⟩
  refine wpAny_storeName_cell hk hy hc (by obtain ⟨o, e, d⟩ := hv; exact ⟨o, x.hh _ _ e, d⟩) fun h₂ hc₂ hs₂ => ?_
  exact h h₂ _ (fun b o e => hs₂.extBut b o (fun q => by rw [q, x.new _ hg hL] at e; cases e) (x.gh _ _ e)) hc₂ fun a o ha e => hs₂.extBut a o ha (x.hh _ _ e)
/-- an assignment of a pure expression to a cell -/
theorem asg_pureC {env : Env} {y : Str} {py pos : Pos} {e : Expr} {Q : Flow → Shared → Prop} {E : Value → Shared → Prop} {h₀ : Heap} {K : Value → Heap → Prop} {c : Addr} {v₀ : Option Value}
    (x : PG prog w A env e h₀ s K) (k₀ : KeepsH h₀ s.heap) (hv : s.heap.IsCell c v₀)
    (h : ∀ v h' h'' tk', KeepsH s.heap h' → K v h' → (∀ b o, b ≠ c → h'.get? b = some o → h''.get? b = some o) → h''.IsCell c (some v) → Q .next { s with heap := h'', toks := tk' })
    (hc : env.cells.lookup y = some c := by rfl) (hy : env.kindOf y = some .cell := by rfl) (hk : env.scope.kind = .function := by rfl)
    (hs : swapsWith e (some (.Name y py)) pos.line env = pure false := by rfl) : wpAny (model prog w) A (exec (.Assign [.Name y py] e pos) env) Q E s :=
  wpAny_Assign_Name (x.run s.heap s.toks _ E k₀ fun v h' tk' k' kv => wpAny_storeName_cell hk hy hc (by obtain ⟨o, e, d⟩ := hv; exact ⟨o, k' _ _ e, d⟩) fun h₂ hc₂ hs₂ => h v h' h₂ _ k' kv (fun b o hb e => hs₂.extBut b o hb e) hc₂) hs
end
section
variable {prog : Program} {w : World} {A : Around} {s : Shared} {env : Env} {h₀ : Heap}
/-- row.append(e) as a statement -/
theorem append_stmt {r : Expr} {e : Expr} {ap p pos : Pos} {D : Addr} {vs : Array Value} {K : Value → Heap → Prop} {Q : Flow → Shared → Prop} {E : Value → Shared → Prop} {tk : Nat} (pl : Sem Bool)
    (hr : PG prog w A env r h₀ s (fun u _ => u = .ref D)) (hD : h₀.PlainList D vs) (x : PG prog w A env e h₀ s K) (hsz : vs.size ≤ sizeLine)
    (h : ∀ v h' h'' tk', KeepsH h₀ h' → K v h' → h''.PlainList D (vs.push v) → (∀ b o, b ≠ D → h'.get? b = some o → h''.get? b = some o) → Q .next { s with heap := h'', toks := tk' })
    (he : eval (.Call (.Attribute r (Str.ofString "append") ap) [e] [] p) env = (do
      let ov ← eval r env
      standAt ap.atName
      let (f, first) ← holding [ov] (getMethod ov (Str.ofString "append") pl)
      callWith p f first (backTo p (starEach [e] env)) []) := by rfl)
    (h1 : starEach [e] env = (false, eval e env) :: starEach [] env := by rfl)
    (hi : interactive env = false := by rfl) (hs : swapsWith (.Call (.Attribute r (Str.ofString "append") ap) [e] [] p) none pos.line env = pure false := by rfl) :
    wpAny (model prog w) A (exec (.Expr (.Call (.Attribute r (Str.ofString "append") ap) [e] [] p) pos) env) Q E { s with heap := h₀, toks := tk } := by
  refine wpAny_Expr (MethodCall_ (pl := pl) (hr.run h₀ tk _ E kh_rfl fun v h₂ tk₂ k₂ kv => ?_) he) hi hs
  subst kv
  obtain ⟨c, hc⟩ := hD
  refine getMethod_builtin (T := "list") ⟨_, k₂ _ _ hc, rfl⟩ PySem.F.plainAttrs_list PySem.F.slot_list_append PySem.F.type_list_append (fun a e => by cases e; exact ⟨_, k₂ _ _ hc, rfl⟩) (callWith_method1 ?_ h1 rfl)
  refine spliced_more (x.run h₂ tk₂ _ E k₂ fun v h₃ tk₃ k₃ kv => spliced_none ?_) h1
  exact wpAny_list_append_plain (hsz := hsz) ⟨c, k₃ _ _ (k₂ _ _ hc)⟩ fun h₄ hl hs₄ => h v h₃ h₄ _ (kh_tr k₂ k₃) kv hl fun b o hb e => hs₄.extBut b o hb e
theorem PG.emptyList {p : Pos} : PG prog w A env (.List [] p) h₀ s (fun v h => ∃ D, v = .ref D ∧ h₀.get? D = Option.none ∧ h.PlainList D #[]) :=
  .mk fun h tk Q E k hQ => wpAny_List (PA.nil.run h tk _ E k fun vs h' tk' k' e => ⟨by subst e; decide, hQ _ _ _ (fun b o e => Heap.get?_push_of_some _ (k' _ _ e)) ⟨_, rfl, noneOf (kh_tr k k') (Heap.get?_none_of_le (Nat.le_refl _)), by subst e; exact ⟨_, Heap.get?_push_size _ rfl⟩⟩⟩)
end
theorem paired_strs {ys : List Value} {xs : List Str} (h : Paired (fun v (x : Str) => ∃ t, v = Value.str x t) ys xs) : StrsAre ys xs := by
  induction h with
  | nil => exact .nil
  | cons h _ ih => obtain ⟨t, rfl⟩ := h; exact .cons _ _ ih
theorem paired_ints {ys : List Value} {xs : List Int} (h : Paired (fun v (x : Int) => ∃ t, v = Value.int x t) ys xs) : IntsAre ys xs := by
  induction h with
  | nil => exact .nil
  | cons h _ ih => obtain ⟨t, rfl⟩ := h; exact .cons _ _ ih

end Mine
end
section
open PySem PySem.W PyProof.Rows PySem.Calls
set_option Elab.async false
set_option maxRecDepth 100000
set_option linter.unusedVariables false
namespace Mine
section
variable {prog : Program} {w : World} {A : Around} {s : Shared} {env : Env}
/-- the end of a turn -/
noncomputable def TurnEnd (mt : List Addr) (h₂ : Heap) (InvN : (Str → Option Value) → Shared → Prop) (Q : Flow → Shared → Prop) (f : Flow) (s'' : Shared) : Prop :=
  match f with
  | .ret v => Q (.ret v) s''
  | .brk => Q .next s''
  | _ => KeepBut mt h₂ s''.heap ∧ ∃ m', s''.heap.Ns env.locals m' ∧ InvN m' s''
/-- a for loop by an invariant over the whole state -/
noncomputable def ForAt (prog : Program) (w : World) (A : Around) (env : Env) (x : Str) (body : List Stmt) (Q : Flow → Shared → Prop) (E : Value → Shared → Prop) (xv : Value) (s : Shared) : Prop :=
  ∃ (α : Type) (xs : List α) (R : Heap → Value → α → Prop) (g : Heap) (mt : List Addr) (Inv : List Addr → Nat → (Str → Option Value) → Shared → Prop) (m : Str → Option Value),
    Src prog w A xv s g xs R ∧ KeepsH g s.heap ∧ env.locals ∈ mt ∧ (∀ b ∈ mt, g.get? b = none ∧ ∃ o, s.heap.get? b = some o) ∧ s.heap.Ns env.locals m ∧ (∀ wr h tk, (∀ b ∈ wr, s.heap.get? b = none) → KeepsH s.heap h → Inv wr 0 m { s with heap := h, toks := tk }) ∧
    (∀ wr k m (s' : Shared) h tk, Inv wr k m s' → KeepBut wr s'.heap h → Inv wr k m { s' with heap := h, toks := tk }) ∧
    (∀ wr k a v m (s' : Shared) h₂ tk₂, (∀ b ∈ wr, s.heap.get? b = none) → xs[k]? = some a → R g v a → Inv wr k m s' → s'.heap.Ns env.locals m → h₂.Ns env.locals (fun z => if z = x then some v else m z) → Heap.SameBut env.locals s'.heap h₂ → (∀ b ∈ wr, ∃ o, h₂.get? b = some o) →
      wpAny (model prog w) A (execs body env) (TurnEnd (env := env) mt h₂ (Inv wr (k + 1)) Q) E { s' with heap := h₂, toks := tk₂ }) ∧
    (∀ wr m s', (∀ b ∈ wr, s.heap.get? b = none) → s'.heap.Ns env.locals m → Inv wr xs.length m s' → Q .next s')
theorem gfor {x : Str} {px pos : Pos} {iter : Expr} {body : List Stmt} {Q : Flow → Shared → Prop} {E : Value → Shared → Prop}
   (h : wpAny (model prog w) A (eval iter env) (ForAt prog w A env x body Q E) E s)
   (hx : env.kindOf x = some .local := by rfl) (hp : (env.scope.kind == .class || (env.scope.kind == .module && env.locals != env.globals)) = false := by rfl)
   (hs : ∀ x, foldedSetIterable iter env x = pure x := by intro _; rfl)
   (hE : PassesOwn (model prog w) A env E := by passes_own) :
   wpAny (model prog w) A (exec (.For (.Name x px) iter body [] pos) env) Q E s := by
  refine wpAny_For (wpAny_mono h (fun xv s₁ h₁ => ?_) fun _ _ e => e) hs
  obtain ⟨α, xs, R, g, mt, Inv, m, hsrc, kg, hLm, hmt, hn, hI0, hIs, step, done⟩ := h₁
  refine wpAny_mono hsrc (fun it s₂ h₂ => ?_) fun _ _ e => e.elim
  obtain ⟨I, fp, wr, n, P, St, rfl, W, hsz, hst, hfp, rfl, hP, ⟨hb, tkb, rfl, khb⟩, hwr, hwe, hfg⟩ := h₂
  have hwN : ∀ b ∈ wr, s₁.heap.get? b = none := fun b hb' => (hwr b hb').1
  have hmw : ∀ b ∈ mt, b ∉ wr := fun b hb' hw => by obtain ⟨_, o, ho⟩ := hmt b hb'; rw [hwN b hw] at ho; cases ho
  have hLw : env.locals ∉ wr := hmw _ hLm
  have hLf : env.locals ∉ fp := fun hf => by
    rcases hfg _ hf with hw | ⟨o, ho⟩
    · exact hLw hw
    · rw [(hmt _ hLm).1] at ho; cases ho
  have hmf : ∀ b ∈ fp, b ∉ mt := fun b hf hm => by
    rcases hfg _ hf with hw | ⟨o, ho⟩
    · exact hmw _ hm hw
    · rw [(hmt _ hm).1] at ho; cases ho
  refine codeAny_forLoop
    (fun k s' => ∃ i m', St i s'.heap ∧ s'.heap.Ns env.locals m' ∧ Inv wr i m' s' ∧ i ≤ xs.length ∧ k = xs.length + 1 - i) ?_ (xs.length + 1)
    ⟨0, m, hst, hn.keeps khb, hI0 wr hb tkb hwN khb, Nat.zero_le _, rfl⟩
  rintro k s' ⟨i, m', hst', hn', hJ, hi, rfl⟩
  by_cases hlt : i < xs.length
  · refine W.item i _ _ _ hlt hst' fun v h₁ tk₁ hPv hst₁ hk₁ => ?_
    obtain ⟨a, ha, hRa⟩ := hP _ _ hlt hPv
    have hn₁ : h₁.Ns env.locals m' := hn'.at' fun o e => hk₁ _ o hLw e
    refine wpAny_assign_Name (wpAny_storeName_local hx hn₁ (fun h₂ hn₂ hs₂ => ?_) hp)
    have hJ₁ := hIs wr i m' s' h₁ tk₁ hJ hk₁
    refine wpAny_passesOwn hE (wpAny_mono (step wr i a v m' _ h₂ (tk₁ + 1) hwN ha hRa hJ₁ hn₁ hn₂ hs₂ (fun b hb' => by
      obtain ⟨o, ho⟩ := hwe _ _ hst₁ b hb'
      exact ⟨o, hs₂.extBut b o (fun q => hLw (q ▸ hb')) ho⟩)) (fun f s'' hf => ?_) fun _ _ e => e)
    have fin : KeepBut mt h₂ s''.heap ∧ (∃ m', s''.heap.Ns env.locals m' ∧ Inv wr (i + 1) m' s'') →
        ∃ k', k' < xs.length + 1 - i ∧ ∃ i m', St i s''.heap ∧ s''.heap.Ns env.locals m' ∧ Inv wr i m' s'' ∧ i ≤ xs.length ∧ k' = xs.length + 1 - i := by
      rintro ⟨kb, m₂, hm₂, hI₂⟩
      refine ⟨xs.length + 1 - (i + 1), by omega, i + 1, m₂, ?_, hm₂, hI₂, hlt, rfl⟩
      exact W.frame _ _ _ hst₁ fun b hb' o e => kb b o (hmf b hb') (hs₂.extBut b o (fun q => hLf (q ▸ hb')) e)
    cases f with
    | ret v => exact hf
    | brk => exact hf
    | cont => exact fin hf
    | next => exact fin hf
  · have hin : i = xs.length := by omega
    subst hin
    refine W.done _ _ _ hst' fun h₁ tk₁ hk₁ => wpAny_execs_nil ?_
    exact done wr m' _ hwN (hn'.at' fun o e => hk₁ _ o hLw e) (hIs wr _ m' s' h₁ tk₁ hJ hk₁)
/-- a while loop by an invariant and a measure -/
theorem gwhile {test : Expr} {body : List Stmt} {pos : Pos} {Q : Flow → Shared → Prop} {E : Value → Shared → Prop} (I : Nat → Shared → Prop)
   (turn : ∀ n s, I n s → wpAny (model prog w) A (isTrue test env (eval test env)) (fun b s₂ => if b = true then wpAny (model prog w) A (execs body env) (fun f s₃ => match f with
      | .next | .cont => ∃ m, m < n ∧ I m s₃
      | .brk => Q .next s₃
      | .ret v => Q (.ret v) s₃) E s₂ else Q .next s₂) E s)
   (n : Nat) (h : I n s) (hE : PassesOwn (model prog w) A env E := by passes_own) :
   wpAny (model prog w) A (exec (.While test body [] pos) env) Q E s := by
  refine wpAny_While (codeAny_whileLoop I (fun n s hI => wpAny_passesOwn hE (wpAny_mono (turn n s hI) (fun b s₂ h₂ => ?_) fun _ _ e => e)) n h)
  cases b with
  | true =>
    simp only [if_true] at h₂ ⊢
    refine wpAny_passesOwn hE (wpAny_mono h₂ (fun f s₃ h₃ => ?_) fun _ _ e => e)
    cases f <;> exact h₃
  | false =>
    simp only [Bool.false_eq_true, if_false] at h₂ ⊢
    exact wpAny_execs_nil h₂
/-- the ends of a body as names -/
theorem bodyO {M : Model} {body : List Stmt} {Q : Flow → Shared → Prop} {E : Value → Shared → Prop} (hE : PassesOwn M A env E) (h : ∀ (Q' : Flow → Shared → Prop) (E' : Value → Shared → Prop), PassesOwn M A env E' → (∀ f s, Q f s → Q' f s) → wpAny M A (execs body env) Q' E' s) : wpAny M A (execs body env) Q E s := h Q E hE fun _ _ q => q
theorem turnO {M : Model} {t : Sem Flow} {mt : List Addr} {h₂ : Heap} {InvN : (Str → Option Value) → Shared → Prop} {Q : Flow → Shared → Prop} {E : Value → Shared → Prop}
   (h : ∀ T : Flow → Shared → Prop, (∀ s'' m', KeepBut mt h₂ s''.heap → s''.heap.Ns env.locals m' → InvN m' s'' → T .next s'') → wpAny M A t T E s) : wpAny M A t (TurnEnd (env := env) mt h₂ InvN Q) E s := h _ fun s'' m' a b c => ⟨a, m', b, c⟩
/-- … where the ends of a turn are names -/
theorem gwhileO {test : Expr} {body : List Stmt} {pos : Pos} {Q : Flow → Shared → Prop} {E : Value → Shared → Prop} (I : Nat → Shared → Prop)
   (turn : ∀ n s, I n s → ∀ (Q' : Flow → Shared → Prop) (N : Shared → Prop) (E' : Value → Shared → Prop), PassesOwn (model prog w) A env E' → (∀ m s₃, m < n → I m s₃ → Q' .next s₃) → (∀ s₃, Q .next s₃ → Q' .brk s₃) → (∀ v s₃, Q (.ret v) s₃ → Q' (.ret v) s₃) → (∀ s₂, Q .next s₂ → N s₂) →
     wpAny (model prog w) A (isTrue test env (eval test env)) (fun b s₂ => if b = true then wpAny (model prog w) A (execs body env) Q' E' s₂ else N s₂) E' s)
   (n : Nat) (h : I n s) (hE : PassesOwn (model prog w) A env E := by passes_own) :
   wpAny (model prog w) A (exec (.While test body [] pos) env) Q E s :=
  gwhile I (fun n s hI => turn n s hI _ _ E hE (fun m s₃ hm hi => ⟨m, hm, hi⟩) (fun _ q => q) (fun _ _ q => q) fun _ q => q) n h hE
theorem upd_list {h : Heap} {l : Addr} {vs : Array Value} {n : Nat} (e : h.get? l = some (listOf vs n)) (f : Array Value → Array Value) : (∃ n', (h.update l (Obj.mapSeq f)).get? l = some (listOf (f vs) n')) ∧ KeepBut [l] h (h.update l (Obj.mapSeq f)) := by
  have e' : ∃ n', (listOf vs n).mapSeq f = listOf (f vs) n' := ⟨_, rfl⟩
  obtain ⟨n', e'⟩ := e'
  refine ⟨⟨n', ?_⟩, fun b o hb eb => (Heap.get?_update_ne _ _ _ _ (fun q => hb (by simp [q]))).trans eb⟩
  rw [← e']
  exact Heap.get?_update_self _ e (by rw [e']; rfl)
end

end Mine
end
section
open PySem PySem.W PyProof.Rows PySem.Calls
set_option Elab.async false
set_option maxRecDepth 100000
set_option linter.unusedVariables false
namespace Mine
/-- an exception just made (context c) -/
noncomputable def ExcNew (h : Heap) (e : Addr) (X : String) (c : Value) : Prop := ∃ ob t, h.get? e = some ob ∧ ob.cls = .type X ∧ ob.data = .fields #[t, .none, c, .none, .bool false, .none]
/-- an exception that was noted; fl: the frame it flies in -/
noncomputable def ExcHeld (h : Heap) (e tb : Addr) (X : String) (c fl : Value) : Prop := ∃ ob t oT ts, h.get? e = some ob ∧ ob.cls = .type X ∧ ob.data = .fields #[t, .ref tb, c, .none, .bool false, .none] ∧ tb ≠ e ∧ h.get? tb = some oT ∧ oT.data = .fields ts ∧ ts[3]? = some fl
theorem ExcNew.of {h h' : Heap} {e : Addr} {X : String} (x : Heap.NewExc h h' e X) : ExcNew h' e X .none := by
  obtain ⟨ob, t, a, b, c⟩ := x.there
  exact ⟨ob, t, a, b, c⟩
/-- frames (each a dict object): those of the stack -/
noncomputable def FrsAt (h : Heap) : List Env → Prop
  | [] => True
  | env :: rest => env.scope.kind ≠ .module ∧ (∃ L o, env.frame = some L ∧ h.get? L = some o ∧ ∃ es ep, o.data = .dict es ep) ∧ FrsAt h rest
theorem FrsAt.fun {h : Heap} : ∀ {l : List Env}, FrsAt h l → h.FunFrames ({} : Heap) l
  | [], _ => trivial
  | env :: rest, ⟨a, ⟨L, o, b, c, es, ep, d⟩, r⟩ => ⟨a, ⟨L, o, b, by unfold Heap.get?; simp, c, fun vs q => by rw [d] at q; cases q⟩, FrsAt.fun r⟩
theorem FrsAt.up {h h' : Heap} (k : ∀ b o es ep, h.get? b = some o → o.data = .dict es ep → ∃ o' es' ep', h'.get? b = some o' ∧ o'.data = .dict es' ep') : ∀ {l : List Env}, FrsAt h l → FrsAt h' l
  | [], _ => trivial
  | env :: rest, ⟨a, ⟨L, o, b, c, es, ep, d⟩, r⟩ => by
    obtain ⟨o', es', ep', e1, e2⟩ := k L o es ep c d
    exact ⟨a, ⟨L, o', b, e1, es', ep', e2⟩, FrsAt.up k r⟩
theorem FrsAt.up' {h h' : Heap} : ∀ {l : List Env}, FrsAt h l → (∀ b ∈ l.filterMap (·.frame), ∀ o, h.get? b = some o → ∃ o', h'.get? b = some o' ∧ o'.data = o.data) → FrsAt h' l
  | [], _, _ => trivial
  | env :: rest, ⟨a, ⟨L, o, b, c, es, ep, d⟩, r⟩, k => by
    obtain ⟨o', e1, e2⟩ := k L (by simp [b]) o c
    exact ⟨a, ⟨L, o', b, e1, es, ep, e2.trans d⟩, FrsAt.up' r fun b' hb' => k b' (by simp only [List.filterMap_cons, b]; exact .tail _ hb')⟩
/-- all but these stays; the frames stay up to their slots -/
structure Slk (fs mt : List Addr) (h h' : Heap) : Prop where
  keep : ∀ b o, b ∉ mt → b ∉ fs → h.get? b = some o → h'.get? b = some o
  slot : ∀ b o, b ∉ mt → h.get? b = some o → ∃ sl, h'.get? b = some { o with slots := sl }
theorem Slk.of {fs mt : List Addr} {h h' : Heap} (k : KeepBut mt h h') : Slk fs mt h h' := ⟨fun b o hm _ e => k b o hm e, fun b o hm e => ⟨o.slots, k b o hm e⟩⟩
theorem Slk.trans {fs mt : List Addr} {h h₁ h₂ : Heap} (x : Slk fs mt h h₁) (y : Slk fs mt h₁ h₂) : Slk fs mt h h₂ :=
  ⟨fun b o a b' e => y.keep b o a b' (x.keep b o a b' e), fun b o a e => let ⟨sl, e₁⟩ := x.slot b o a e; let ⟨sl', e₂⟩ := y.slot b _ a e₁; ⟨sl', e₂⟩⟩
theorem Slk.mono {fs mt mt' : List Addr} {h h' : Heap} (x : Slk fs mt h h') (k : ∀ b ∈ mt, b ∈ mt') : Slk fs mt' h h' :=
  ⟨fun b o a b' e => x.keep b o (fun hm => a (k b hm)) b' e, fun b o a e => x.slot b o (fun hm => a (k b hm)) e⟩
theorem Slk.ns {fs mt : List Addr} {h h' : Heap} {L : Addr} {m : Str → Option Value} (x : Slk fs mt h h') (hL : L ∉ mt) (n : h.Ns L m) : h'.Ns L m := by
  obtain ⟨o, es, ep, ho, hd, r⟩ := n
  obtain ⟨sl, e⟩ := x.slot L o hL ho
  exact ⟨_, es, ep, e, hd, r⟩
theorem Slk.frs {fs mt : List Addr} {h h' : Heap} (x : Slk fs mt h h') (hmt : ∀ b ∈ mt, ∀ o es ep, h.get? b = some o → o.data ≠ .dict es ep) {l : List Env} (n : FrsAt h l) : FrsAt h' l :=
  n.up fun b o es ep e d => by
    obtain ⟨sl, e'⟩ := x.slot b o (fun hm => hmt b hm o es ep e d) e
    exact ⟨_, es, ep, e', d⟩
section
variable {M : Model} {A : Around} {E : Value → Shared → Prop} {s : Shared}
theorem note_new {env : Env} {outer : List Env} {L e : Addr} {X : String} {c : Value} {Q : Unit → Shared → Prop} (hfr : A.frames = some (env :: outer)) (hl : FrsAt s.heap (env :: outer)) (hf : env.frame = some L) (x : ExcNew s.heap e X c)
    (h : ∀ h' tb, Slk ((env :: outer).filterMap (·.frame)) [e] s.heap h' → s.heap.get? tb = none → ExcHeld h' e tb X c (rawInt L) → Q () { s with heap := h' }) : wpAny M A (noteFrame (.ref e) env) Q E s := by
  obtain ⟨ob, t, he, hcl, hd⟩ := x
  have hff := hl.fun
  have hene : e ∉ (env :: outer).filterMap (·.frame) := fun hm => by
    obtain ⟨_, o, ho, hnf⟩ := hff.mem hm
    rw [he] at ho; injection ho with ho; subst ho; exact hnf _ hd
  unfold noteFrame
  simp only [hf]
  refine wpAny_bind (wpAny_field he hd (x := .none) rfl ?_)
  rw [if_neg (by decide)]
  refine wpAny_bind (wpAny_frameOf_fun hfr hff hf fun h₁ hs₁ => ?_)
  refine wpAny_bind (wpAny_entryPlaceOf fun pl hpl => ?_)
  unfold EntryCells.newEntry newFields
  refine wpAny_bind (wpAny_newObj_type ?_ (hpl.sizeOk5 _ _ _ _ _))
  have he₁ : h₁.get? e = some ob := (hs₁.2.1 e hene).trans he
  generalize hT : ({ cls := .type "traceback", dict := none, data := .fields ([Value.none, .ref L, .none, rawInt L, .none] ++ (if pl.isEmpty then List.replicate 6 Value.none else pl)).toArray } : Obj) = oT
  have he₂ := Heap.get?_push_of_some (h := h₁) oT he₁
  refine wpAny_setField he₂ hd (by show 1 < 6; decide) ?_
  have hTe : h₁.objs.size ≠ e := Nat.ne_of_gt (Heap.lt_size he₁)
  have hd₃ := Obj.data_mapFields hd (·.setIfInBounds 1 (Value.ref h₁.objs.size))
  have he₃ := Heap.get?_update_self (Obj.mapFields (·.setIfInBounds 1 (Value.ref h₁.objs.size))) he₂ (Obj.isFreed_of_fields hd₃)
  have hT₃ := (Heap.get?_update_other (h₁.push oT) (Obj.mapFields (·.setIfInBounds 1 (Value.ref h₁.objs.size))) (Ne.symm hTe)).trans (Heap.get?_push_size h₁ (by subst hT; rfl))
  have keep : ∀ b o, b ≠ e → h₁.get? b = some o → ((h₁.push oT).update e (Obj.mapFields (·.setIfInBounds 1 (Value.ref h₁.objs.size)))).get? b = some o := fun b o hbe hb => by
    rw [Heap.get?_update_other _ _ (Ne.symm hbe)]
    exact Heap.get?_push_of_some _ hb
  refine h _ h₁.objs.size ⟨fun b o hm hfs eb => keep b o (fun q => hm (by simp [q])) ((hs₁.2.1 b hfs).trans eb), fun b o hm eb => ?_⟩ (Heap.get?_none_of_le (by rw [hs₁.1]; exact Nat.le_refl _)) ⟨_, t, oT, _, he₃, (Obj.cls_mapFields _ _).trans hcl, hd₃, hTe, hT₃, by subst hT; rfl, ?_⟩
  · obtain ⟨sl, hs⟩ := hs₁.2.2 b o eb
    exact ⟨sl, keep b _ (fun q => hm (by simp [q])) hs⟩
  · first | (simp; done) | (rcases hpl with rfl | ⟨_, _, _, _, _, _, _, rfl⟩ <;> simp)
theorem note_again {env : Env} {L e tb : Addr} {X : String} {c : Value} {Q : Unit → Shared → Prop} (hf : env.frame = some L) (x : ExcHeld s.heap e tb X c (rawInt L)) (h : Q () s) : wpAny M A (noteFrame (.ref e) env) Q E s := by
  obtain ⟨ob, t, oT, ts, he, hcl, hd, hne, hT, hdT, h3⟩ := x
  exact wpAny_noteFrame_inFlight hf he hd rfl hT hdT h3 h
theorem set_flight {e tb : Addr} {X : String} {c fl : Value} {fr : Option Addr} {Q : Unit → Shared → Prop} (x : ExcHeld s.heap e tb X c fl)
    (h : ∀ h', KeepBut [tb] s.heap h' → ExcHeld h' e tb X c (fr.elim .none fun f => rawInt f) → Q () { s with heap := h' }) : wpAny M A (setFlight (.ref e) fr) Q E s := by
  obtain ⟨ob, t, oT, ts, he, hcl, hd, hne, hT, hdT, h3⟩ := x
  have hsz : 3 < ts.size := (Array.getElem?_eq_some_iff.mp h3).1
  unfold setFlight
  refine wpAny_bind (wpAny_field he hd (x := .ref tb) rfl ?_)
  rw [if_pos (show (Value.ref tb != Value.none) = true from by simp)]
  refine wpAny_setField hT hdT hsz (h _ (fun b o hb eb => ?_) ⟨ob, t, _, _, ?_, hcl, hd, hne, Heap.get?_update_self _ hT (Obj.isFreed_of_fields (Obj.data_mapFields hdT _)), Obj.data_mapFields hdT _, by simp [hsz]⟩)
  · exact (Heap.get?_update_ne _ _ _ _ (fun q => hb (by simp [q]))).trans eb
  · exact (Heap.get?_update_ne _ _ _ _ (Ne.symm hne)).trans he
theorem pass_on {α : Type} {what : String} {env : Env} {L e tb : Addr} {X : String} {c fl : Value} {Q : α → Shared → Prop} (hf : env.frame = some L) (x : ExcHeld s.heap e tb X c fl)
    (h : ∀ h', KeepBut [tb] s.heap h' → ExcHeld h' e tb X c (rawInt L) → E (.ref e) { s with heap := h' }) : wpAny M A (PySem.passOn what (.ref e) env : Sem α) Q E s := by
  obtain ⟨ob, t, oT, ts, he, hcl, hd, hne, hT, hdT, h3⟩ := id x
  unfold PySem.passOn
  refine wpAny_bind (wpAny_field he hd (x := .ref tb) rfl ?_)
  rw [if_neg (by simp)]
  rw [hf]
  first
    | exact wpAny_bind (set_flight x fun h' k x' => wpAny_throw (h h' k x'))
    | exact wpAny_bind (wpAny_pure (wpAny_bind (set_flight x fun h' k x' => wpAny_throw (h h' k x'))))
end
section
variable {prog : Program} {w : World} {A : Around} {E : Value → Shared → Prop} {s : Shared}
theorem Slk.fresh {fs mt : List Addr} {h h₁ h₂ : Heap} {tb : Addr} (x : Slk fs mt h h₁) (hn : h.get? tb = none) (k : KeepBut [tb] h₁ h₂) : Slk fs mt h h₂ :=
  ⟨fun b o a b' e => k b o (fun q => by rw [List.mem_singleton.mp q, hn] at e; cases e) (x.keep b o a b' e), fun b o a e => let ⟨sl, e₁⟩ := x.slot b o a e; ⟨sl, k b _ (fun q => by rw [List.mem_singleton.mp q, hn] at e; cases e) e₁⟩⟩
/-- a clause takes a held exception -/
theorem clause_held {env : Env} {e tb : Addr} {X T : String} {c fl : Value} {t : Expr} {b₀ : Stmt} {suite : List Stmt} {pos : Pos} {rest : List ExceptHandler} {Q : Flow → Shared → Prop} (x : ExcHeld s.heap e tb X c fl)
    (hexc : subB T (.type "BaseException") = some true) (hnt : subB ((Manifest.find? T).elim "type" fun y => y.metatype) (.type "tuple") = some false) (hsub : subB X (.type T) = some true)
    (hname : PG prog w (A.mark (some (.ref e))) env t s.heap s (fun u _ => u = .type T))
    (k : ∀ h' tk' E', KeepBut [tb] s.heap h' → wpAny (model prog w) (A.mark (some (.ref e))) (execs (b₀ :: suite) env) Q E' { s with heap := h', toks := tk' }) :
    wpAny (model prog w) A (handleBy (.ref e) env (.ExceptHandler (some t) none (b₀ :: suite) pos :: rest)) Q E s := by
  refine wpAny_handleBy_builtin (X := X) (T := T) (b := true) (isSubtype_of_subB hexc) (isSubtype_of_subB hnt) (isSubtype_of_subB hsub) (hname.run s.heap s.toks _ _ kh_rfl fun u h' tk' kk hu => ?_)
  have x' : ExcHeld h' e tb X c fl := by
    obtain ⟨ob, t, oT, ts, he, hcl, hd, hne, hT, hdT, h3⟩ := x
    exact ⟨ob, t, oT, ts, kk _ _ he, hcl, hd, hne, kk _ _ hT, hdT, h3⟩
  refine ⟨hu, by obtain ⟨ob, t, oT, ts, he, hcl, _⟩ := x'; exact ⟨ob, he, hcl⟩, ?_⟩
  rw [if_pos rfl]
  exact set_flight (s := { s with heap := h', toks := tk' }) x' fun h₂ k₂ _ => k h₂ tk' _ fun b o hb eb => k₂ b o hb (kk b o eb)
/-- try .. except at a new exception: note it, take it -/
theorem caught_new {env : Env} {outer : List Env} {L e : Addr} {X T : String} {c : Value} {t : Expr} {b₀ : Stmt} {suite : List Stmt} {pos : Pos} {rest : List ExceptHandler} {Q : Flow → Shared → Prop}
    (hfr : A.frames = some (env :: outer)) (hl : FrsAt s.heap (env :: outer)) (hf : env.frame = some L) (x : ExcNew s.heap e X c)
    (hexc : subB T (.type "BaseException") = some true) (hnt : subB ((Manifest.find? T).elim "type" fun y => y.metatype) (.type "tuple") = some false) (hsub : subB X (.type T) = some true)
    (hname : ∀ h', Slk ((env :: outer).filterMap (·.frame)) [e] s.heap h' → PG prog w (A.mark (some (.ref e))) env t h' s (fun u _ => u = .type T))
    (k : ∀ h' tk' E', Slk ((env :: outer).filterMap (·.frame)) [e] s.heap h' → wpAny (model prog w) (A.mark (some (.ref e))) (execs (b₀ :: suite) env) Q E' { s with heap := h', toks := tk' }) :
    wpAny (model prog w) A (noteFrame (.ref e) env) (fun _ s₂ => wpAny (model prog w) A (setFlight (.ref e) none) (fun _ s₃ => wpAny (model prog w) A (handleBy (.ref e) env (.ExceptHandler (some t) none (b₀ :: suite) pos :: rest)) Q E s₃) E s₂) E s := by
  refine note_new hfr hl hf x fun h₁ tb k₁ htb x₁ => ?_
  refine set_flight x₁ fun h₂ k₂ x₂ => ?_
  have s₂ := k₁.fresh htb k₂
  exact clause_held (s := { s with heap := h₂ }) x₂ hexc hnt hsub (hname h₂ s₂).shift fun h' tk' E' kk => k h' tk' E' (s₂.fresh htb kk)
/-- … and at an exception that was noted here -/
theorem caught_again {env : Env} {L e tb : Addr} {X T : String} {c : Value} {t : Expr} {b₀ : Stmt} {suite : List Stmt} {pos : Pos} {rest : List ExceptHandler} {Q : Flow → Shared → Prop}
    (hf : env.frame = some L) (x : ExcHeld s.heap e tb X c (rawInt L))
    (hexc : subB T (.type "BaseException") = some true) (hnt : subB ((Manifest.find? T).elim "type" fun y => y.metatype) (.type "tuple") = some false) (hsub : subB X (.type T) = some true)
    (hname : ∀ h', KeepBut [tb] s.heap h' → PG prog w (A.mark (some (.ref e))) env t h' s (fun u _ => u = .type T))
    (k : ∀ h' tk' E', KeepBut [tb] s.heap h' → wpAny (model prog w) (A.mark (some (.ref e))) (execs (b₀ :: suite) env) Q E' { s with heap := h', toks := tk' }) :
    wpAny (model prog w) A (noteFrame (.ref e) env) (fun _ s₂ => wpAny (model prog w) A (setFlight (.ref e) none) (fun _ s₃ => wpAny (model prog w) A (handleBy (.ref e) env (.ExceptHandler (some t) none (b₀ :: suite) pos :: rest)) Q E s₃) E s₂) E s := by
  refine note_again hf x ?_
  refine set_flight x fun h₂ k₂ x₂ => ?_
  exact clause_held (s := { s with heap := h₂ }) x₂ hexc hnt hsub (hname h₂ k₂).shift fun h' tk' E' kk => k h' tk' E' fun b o hb e => kk b o hb (k₂ b o hb e)
end

end Mine
end
section
open PySem PySem.W PyProof.Rows PySem.Calls
set_option Elab.async false
set_option maxRecDepth 100000
set_option linter.unusedVariables false
namespace Mine
/-- the exception that is being handled: none, or one without a context -/
noncomputable def HCtx (A : Around) (h : Heap) (c : Value) : Prop := (A.handled = none ∧ c = .none) ∨ ∃ e₁ ob fs, A.handled = some (.ref e₁) ∧ c = .ref e₁ ∧ h.get? e₁ = some ob ∧ ob.data = .fields fs ∧ fs[2]? = some .none
theorem HCtx.keep {A : Around} {h h' : Heap} {c : Value} (x : HCtx A h c) (k : ∀ e o, c = .ref e → h.get? e = some o → h'.get? e = some o) : HCtx A h' c := by
  rcases x with x | ⟨e, ob, fs, a, b, c', d⟩
  · exact .inl x
  · exact .inr ⟨e, ob, fs, a, b, k e ob b c', d⟩
theorem HCtx.held {A : Around} {h : Heap} {e tb : Addr} {X : String} {fl : Value} (x : ExcHeld h e tb X .none fl) : HCtx (A.mark (some (.ref e))) h (.ref e) := by
  obtain ⟨ob, t, oT, ts, a, b, c, d⟩ := x
  exact .inr ⟨e, ob, _, rfl, rfl, a, c, rfl⟩
theorem HCtx.none {A : Around} {h : Heap} (x : A.handled = Option.none) : HCtx A h .none := .inl ⟨x, rfl⟩
section
variable {prog : Program} {w : World} {A : Around} {E : Value → Shared → Prop} {s : Shared}
theorem entry_unchain : entryFor table "proto.unchain" = some Builtin.«proto.unchain» := entryFor_of_tree (by kernel_rfl)
theorem raise_new {α : Type} {X : String} {e : Addr} {t c : Value} {Q : α → Shared → Prop} (ob : Obj) (he : s.heap.get? e = some ob) (hcl : ob.cls = .type X) (hd : ob.data = .fields #[t, .none, .none, .none, .bool false, .none]) (hc : HCtx A s.heap c) (hne : c ≠ .ref e)
   (h : ∀ h', KeepBut [e] s.heap h' → ExcNew h' e X c → E (.ref e) { s with heap := h' }) : wpAny (model prog w) A (raiseNew (.ref e) : Sem α) Q E s := by
  unfold raiseNew
  refine wpAny_bind (wpAny_handled ?_)
  rcases hc with ⟨a, rfl⟩ | ⟨e₁, ob₁, fs, a, rfl, h1, h2, h3⟩
  · rw [a]
    first
      | exact wpAny_throw (h s.heap (fun _ _ _ e => e) ⟨ob, t, he, hcl, hd⟩)
      | exact wpAny_bind (wpAny_pure (wpAny_throw (h s.heap (fun _ _ _ e => e) ⟨ob, t, he, hcl, hd⟩)))
  · rw [a]
    dsimp only
    rw [if_pos (show (Value.ref e₁ != Value.ref e) = true by simpa using hne)]
    have fin : wpAny (model prog w) A (do let _ ← holding [Value.ref e] (runValue (.builtin "proto.unchain" ⟨[.ref e, .ref e₁, .ref e₁, .bool false], []⟩)); updateField e 2 (.ref e₁); throw (.ref e) : Sem α) Q E s := by
      refine wpAny_bind (wpAny_holding (wpAny_runValue (codeAny_builtin entry_unchain ?_)))
      unfold Builtin.«proto.unchain»
      refine wpAny_bind (wpAny_field h1 h2 h3 ?_)
      rw [if_pos (by rfl)]
      refine wpAny_pure ?_
      refine wpAny_bind ?_
      have hne' : e₁ ≠ e := fun q => hne (by rw [q])
      show wpAny _ _ (setField (.ref e) 2 (.ref e₁)) _ _ _
      refine wpAny_setField he hd (by show 2 < 6; decide) ?_
      refine wpAny_throw (h _ (fun b o hb eb => ?_) ⟨_, t, Heap.get?_update_self _ he (Obj.isFreed_of_fields (Obj.data_mapFields hd _)), (Obj.cls_mapFields _ _).trans hcl, Obj.data_mapFields hd _⟩)
      exact (Heap.get?_update_ne _ _ _ _ (fun q => hb (by simp [q]))).trans eb
    first
      | exact fin
      | (simp only [bind_assoc] ; exact fin)
theorem raise_words {α : Type} {cls msg : String} {c : Value} {Q : α → Shared → Prop} (hp : PlainExc cls) (hc : HCtx A s.heap c)
    (h : ∀ h' tk e, s.heap.get? e = none → KeepsH s.heap h' → ExcNew h' e cls c → E (.ref e) { s with heap := h', toks := tk }) :
    wpAny (model prog w) A (raiseErrorWords cls msg : Sem α) Q E s := by
  unfold raiseErrorWords
  refine wpAny_bind (wpAny_mkText (wpAny_bind ?_))
  unfold newExc newTuple
  refine wpAny_bind (wpAny_newObj_type ?_)
  refine wpAny_bind (m := firstArgMember _ _) (wpAny_of_eq (a := Value.none) (by simp only [firstArgMember, hp.first]; rfl) ?_)
  rw [hp.own]
  refine wpAny_newObj_type ?_
  have hn : s.heap.get? (s.heap.objs.size + 1) = none := Heap.get?_none_of_le (Nat.le_succ _)
  have kk : KeepsH s.heap ((s.heap.push { cls := .type "tuple", data := .seq #[Value.str (Str.ofString msg) s.toks] }).push { cls := .type cls, data := .fields (#[Value.ref s.heap.objs.size, .none, .none, .none, .bool false, .none] ++ #[]) }) := fun b o hb => Heap.get?_push_of_some _ (Heap.get?_push_of_some _ hb)
  refine raise_new (X := cls) (t := .ref s.heap.objs.size) (c := c) _ (Heap.get?_push_size _ rfl) rfl (by simp) (hc.keep fun e o _ q => Heap.get?_push_of_some _ (Heap.get?_push_of_some _ q)) ?_ fun h' k x => ?_
  · intro q
    rcases hc with ⟨_, rfl⟩ | ⟨e₁, ob₁, fs, _, rfl, h1, _⟩
    · cases q
    · injection q with q
      rw [q] at h1
      have := Heap.lt_size h1
      simp at this
      exact absurd (Nat.lt_trans (Nat.lt_succ_self _) (this : Nat.lt (s.heap.objs.size + 1) s.heap.objs.size)) (Nat.lt_irrefl _)
  · refine h h' _ _ (Heap.get?_none_of_le (by simp)) (fun b o eb => k b o (fun q => ?_) (Heap.get?_push_of_some _ (Heap.get?_push_of_some _ eb))) x
    have := Heap.lt_size eb
    rw [List.mem_singleton.mp q] at this
    simp at this
    exact absurd (Nat.lt_trans (Nat.lt_succ_self _) (this : Nat.lt (s.heap.objs.size + 1) s.heap.objs.size)) (Nat.lt_irrefl _)
/-- a list has nothing at that place -/
theorem idx_out {l : Addr} {items : Array Value} {j : Nat} {t : Tok} {c : Value} {Q : Value → Shared → Prop} (hc : HCtx A s.heap c) (hl : s.heap.IsList l items)
    (hout : items.size ≤ j) (hhi : j < 1000000)
    (hE : ∀ h' tk e, s.heap.get? e = none → KeepsH s.heap h' → ExcNew h' e "IndexError" c → E (.ref e) { s with heap := h', toks := tk }) :
    wpAny (model prog w) A (getItem (.ref l) (.int (j : Int) t)) Q E s := by
  obtain ⟨o, ho, hcl, ne, hd⟩ := id hl
  have hf := fitsIndex_both (k := (j : Int)) (by omega) (by omega)
  clear hhi
  obtain ⟨k, hk⟩ : ∃ k : Int, k = (j : Int) := ⟨_, rfl⟩
  rw [← hk] at hf ⊢
  unfold getItem
  try with_reducible refine wpAny_holding ?_
  first | refine wpAny_bind (wpAny_pure ?_) | skip
  refine wpAny_bind (wpAny_sequenceKey hl.typeIs (by decide) ?_)
  refine wpAny_bind (wpAny_callSpecial?_slot (name := Str.ofString "__getitem__") hl.typeIs slot_list_getitem
    (wpAny_call_entry slot_list_getitem hl.typeIs entry_list_getitem ?_ (args_list_getitem _ _)))
  show wpAny _ _ (Builtin.List.listSubscript? (.int k t) >>= _) _ _ s
  refine wpAny_bind (wpAny_listSubscript_int hf ?_)
  clear hf
  subst hk
  have hx : items[j]? = none := Array.getElem?_eq_none hout
  show wpAny _ _ ((seqItemAt l j >>= fun r => pure (r.map (j, ·))) >>= _) _ _ s
  refine wpAny_bind (wpAny_bind (wpAny_seqItemAt ho hd (wpAny_pure ?_)))
  rw [hx]
  have hc' : HCtx A.in1 s.heap c := hc
  first
    | exact wpAny_bind (wpAny_rule (raise_words plainExc_IndexError hc' hE))
    | exact wpAny_bind (wpAny_rule (wpAny_bind (raise_words plainExc_IndexError hc' hE)))
    | exact wpAny_rule (raise_words plainExc_IndexError hc' hE)
/-- X[i], in the list or behind it -/
theorem at_or {env : Env} {xs : List Str} {i : Nat} {a ix : Expr} {p : Pos} {h : Heap} {tk : Nat} {c : Value} {Q : Value → Shared → Prop} (y : PG prog w A env a h s (KStrs xs)) (z : PG prog w A env ix h s (KInt (i : Int))) (hi : i < 1000000) (hc : HCtx A h c)
    (hQ : ∀ x h' tk' v, xs[i]? = some x → KeepsH h h' → KStr x v h' → Q v { s with heap := h', toks := tk' })
    (hE : ∀ h' tk' e, xs.length ≤ i → KeepsH h h' → h.get? e = none → ExcNew h' e "IndexError" c → E (.ref e) { s with heap := h', toks := tk' })
    (hs : ∀ l t, subscripted ix false (.ref l) (.int (i : Int) t) = operate [.ref l, .int (i : Int) t] (getItem (.ref l) (.int (i : Int) t)) := by intro _ _; with_unfolding_all rfl) :
    wpAny (model prog w) A (eval (.Subscript a ix p) env) Q E { s with heap := h, toks := tk } := by
  by_cases hl : i < xs.length
  · have hx : xs[i]? = some xs[i] := List.getElem?_eq_getElem hl
    exact (PG.item y z hx hi hs).run h tk Q E kh_rfl fun v h' tk' k kv => hQ _ h' tk' v hx k kv
  · refine Subscript_ (y.run h tk _ E kh_rfl fun o h₂ tk₂ k₂ ko => z.run h₂ tk₂ _ E k₂ fun j h₃ tk₃ k₃ kj => ?_)
    obtain ⟨t, rfl⟩ := kj
    obtain ⟨l, vs, n, rfl, e, hx⟩ := upSs _ _ _ k₃ ko
    have k23 := kh_tr k₂ k₃
    have hsz : vs.size = xs.length := by simpa using hx.length
    refine tail_any (isLA e).typeIs slot_list_getitem.lookup (idx_out (c := c) (hc.keep fun e o _ q => k23 _ _ q) (isLA e) (by omega) hi fun h' tk' e' hn k x => ?_) (hs _ _)
    exact hE h' tk' e' (by omega) (kh_tr k23 k) (noneOf k23 hn) x
/-- x += 1 -/
theorem incr {env : Env} {x : Str} {px q pos : Pos} {c : Nat} {h : Heap} {tk : Nat} {m : Str → Option Value} {i : Int} {t : Tok} {Q : Flow → Shared → Prop} (hn : h.Ns env.locals m) (hm : m x = some (.int i t))
    (hQ : ∀ h' tk' t', KeepBut [env.locals] h h' → h'.Ns env.locals (fun z => if z = x then some (.int (i + 1) t') else m z) → Q .next { s with heap := h', toks := tk' })
    (hk : env.scope.kind = .function := by rfl) (hx : env.kindOf x = some .local := by rfl) (hp : (env.scope.kind == .class || (env.scope.kind == .module && env.locals != env.globals)) = false := by rfl) :
    wpAny (model prog w) A (exec (.AugAssign (.Name x px) .Add (.Constant (.int 1) c q) pos) env) Q E { s with heap := h, toks := tk } := by
  refine wpAny_AugAssign_Name (wpAny_loadName_local hk hx hn hm (wpAny_Constant_int (wpAny_iadd_int ?_)))
  refine wpAny_storeName_local hx hn (fun h₂ hn₂ hs₂ => hQ h₂ _ _ (fun b o hb e => hs₂.extBut b o (fun q => hb (by simp [q])) e) hn₂) hp
theorem ps_eqStr {h₀ : Heap} {x y : Str} {a b : Value} (ha : KStr x a h₀) (hb : KStr y b h₀) : PS prog w A (compareOp .Eq a b) h₀ s (KBool (x == y)) := by
  obtain ⟨t, rfl⟩ := ha
  obtain ⟨u, rfl⟩ := hb
  have e : (x == y) = (x.cps.toList == y.cps.toList) := by
    rw [Bool.eq_iff_iff]
    simp only [beq_iff_eq]
    exact ⟨fun q => by rw [q], fun q => by cases x; cases y; simpa using q⟩
  rw [e]
  exact .mk fun h tk Q E k hQ => PySem.P.eq_str (hQ _ _ _ kh_rfl rfl)
theorem ps_ltS {h₀ : Heap} {x y : Str} {a b : Value} (ha : KStr x a h₀) (hb : KStr y b h₀) : PS prog w A (compareOp .Lt a b) h₀ s (KBool (slt x y)) := by
  obtain ⟨t, rfl⟩ := ha
  obtain ⟨u, rfl⟩ := hb
  exact .mk fun h tk Q E k hQ => PySem.P.lt_str (hQ _ _ _ kh_rfl rfl)
/-- while X[c] == x: c += 1 -/
theorem skip_loop {env : Env} {nm ctr el : Str} {p1 p2 p3 p4 p5 p6 p7 p8 pos : Pos} {c0 : Nat} {h : Heap} {tk : Nat} {m : Str → Option Value} {c vl vx : Value} {xs : List Str} {x : Str} {i : Nat} {t : Tok} {Q : Flow → Shared → Prop}
    (hn : h.Ns env.locals m) (hm1 : m nm = some vl) (hl : KStrs xs vl h) (hm2 : m ctr = some (.int (i : Int) t)) (hm3 : m el = some vx) (hx : KStr x vx h) (hi : i ≤ xs.length) (h60 : xs.length ≤ 1000) (n1 : nm ≠ ctr) (n2 : el ≠ ctr) (hc : HCtx A h c) (hcl : c ≠ .ref env.locals) (hll : vl ≠ .ref env.locals)
    (hQ : ∀ h' tk' i' t' m', i ≤ i' → i' < xs.length → xs.drop i' = (xs.drop i).dropWhile (· == x) → KeepBut [env.locals] h h' → h'.Ns env.locals m' → m' ctr = some (.int (i' : Int) t') → (∀ z, z ≠ ctr → m' z = m z) → Q .next { s with heap := h', toks := tk' })
    (hE : ∀ h' tk' e t' m', (xs.drop i).dropWhile (· == x) = [] → KeepBut [env.locals] h h' → h'.Ns env.locals m' → m' ctr = some (.int (xs.length : Int) t') → (∀ z, z ≠ ctr → m' z = m z) → h.get? e = none → ExcNew h' e "IndexError" c → E (.ref e) { s with heap := h', toks := tk' })
    (hPE : PassesOwn (model prog w) A env E)
    (hk : env.scope.kind = .function := by rfl) (kc : env.kindOf ctr = some .local := by rfl) (l1 : env.scope.names.lookup nm = some .local := by rfl) (l2 : env.scope.names.lookup ctr = some .local := by rfl) (l3 : env.scope.names.lookup el = some .local := by rfl)
    (d1 : (nm == ("__debug__" : Str)) = false := by decide) (d2 : (ctr == ("__debug__" : Str)) = false := by decide) (d3 : (el == ("__debug__" : Str)) = false := by decide) (hp : (env.scope.kind == .class || (env.scope.kind == .module && env.locals != env.globals)) = false := by rfl)
    (hs : ∀ (j : Int) l t, subscripted (.Name ctr p2) false (.ref l) (.int j t) = operate [.ref l, .int j t] (getItem (.ref l) (.int j t)) := by intro _ _ _; with_unfolding_all rfl) :
    wpAny (model prog w) A (exec (.While (.Compare (.Subscript (.Name nm p1) (.Name ctr p2) p3) [.Eq] [.Name el p4] p5) [.AugAssign (.Name ctr p6) .Add (.Constant (.int 1) c0 p7) p8] [] pos) env) Q E { s with heap := h, toks := tk } := by
  refine gwhile (fun n s' => ∃ h' tk' i' t' m', s' = { s with heap := h', toks := tk' } ∧ i ≤ i' ∧ i' ≤ xs.length ∧ n = xs.length - i' ∧ (xs.drop i').dropWhile (· == x) = (xs.drop i).dropWhile (· == x) ∧ KeepBut [env.locals] h h' ∧ h'.Ns env.locals m' ∧ m' ctr = some (.int (i' : Int) t') ∧ (∀ z, z ≠ ctr → m' z = m z)) ?_ (xs.length - i)
    ⟨h, tk, i, t, m, rfl, Nat.le_refl _, hi, rfl, rfl, fun _ _ _ e => e, hn, hm2, fun _ _ => rfl⟩ hPE
  rintro n s' ⟨h₁, tk₁, i', t', m', rfl, hii, hil, rfl, hdw, kb, hn', hm', hz⟩
  have hl' : KStrs xs vl h₁ := by
    obtain ⟨l, vs, nn, rfl, e, q⟩ := hl
    exact ⟨l, vs, nn, rfl, kb _ _ (by simpa using fun q => hll (by rw [q])) e, q⟩
  have hc' : HCtx A h₁ c := hc.keep fun e o q e' => kb _ _ (by simpa using fun r => hcl (by rw [q, r])) e'
  have upc : KeepsH h₁ h₁ := kh_rfl
  refine wpAny_isTrue_Compare1 (at_or (c := c) (PG.nameK hn' ((hz _ n1).trans hm1) hl' upSs hk l1 d1) (PG.nameK hn' hm' ⟨_, rfl⟩ upI hk l2 d2) (by omega) hc' ?_ ?_ (hs _)) (by with_unfolding_all rfl)
  · intro y h₂ tk₂ v hy k₂ kv
    have hlt : i' < xs.length := (List.getElem?_eq_some_iff.mp hy).1
    have hd : xs.drop i' = y :: xs.drop (i' + 1) := by rw [List.drop_eq_getElem_cons hlt]; rw [List.getElem?_eq_getElem hlt] at hy; injection hy with hy; rw [hy]
    refine (PG.name (hn'.keeps k₂) ((hz _ n2).trans hm3) hk l3 d3).run h₂ tk₂ _ E kh_rfl fun u h₃ tk₃ k₃ hu => ?_
    subst hu
    refine (ps_eqStr (upS _ _ _ k₃ kv) (upS _ _ _ kh_rfl hx : KStr x u h₃)).run h₃ tk₃ _ E kh_rfl fun b h₄ tk₄ k₄ hb => ?_
    obtain rfl : b = .bool (y == x) := hb
    refine wpAny_truthy_bool ?_
    have k14 := kh_tr k₂ (kh_tr k₃ k₄)
    have kb4 : KeepBut [env.locals] h h₄ := fun b o hb e => k14 _ _ (kb b o hb e)
    by_cases q : (y == x) = true
    · rw [if_pos q]
      refine wpAny_execs_cons (incr (hn'.keeps k14) hm' (fun h₅ tk₅ t₅ k₅ hn₅ => wpAny_execs_nil ⟨xs.length - (i' + 1), by omega, h₅, tk₅, i' + 1, t₅, _, rfl, by omega, hlt, rfl, ?_, fun b o hb e => k₅ b o hb (kb4 b o hb e), hn₅, by simp, fun z hz' => by simp only [hz', if_false]; exact hz z hz'⟩) hk kc hp)
      rw [← hdw, hd, List.dropWhile_cons, if_pos q]
    · rw [if_neg q]
      refine hQ h₄ tk₄ i' t' m' hii hlt ?_ kb4 (hn'.keeps k14) hm' hz
      rw [← hdw, hd, List.dropWhile_cons, if_neg q]
  · intro h₂ tk₂ e hle k₂ hne hx₂
    have : i' = xs.length := by omega
    subst this
    have hdw' : (xs.drop i).dropWhile (· == x) = [] := by rw [← hdw]; simp
    refine hE h₂ tk₂ e t' m' hdw' (fun b o hb e => k₂ _ _ (kb b o hb e)) (hn'.keeps k₂) hm' hz ?_ hx₂
    cases q : h.get? e with
    | none => rfl
    | some o =>
      by_cases r : e = env.locals
      · obtain ⟨o', _, _, q', _⟩ := hn'
        rw [r, q'] at hne; cases hne
      · rw [kb e o (by simpa using r) q] at hne; cases hne
end

end Mine
end
section
open PySem PySem.W PyProof.Rows PySem.Calls
set_option Elab.async false
set_option maxRecDepth 100000
set_option linter.unusedVariables false
namespace Mine
theorem ExcHeld.keep {h h' : Heap} {e tb : Addr} {X : String} {c fl : Value} (x : ExcHeld h e tb X c fl) (ke : ∀ o, h.get? e = some o → h'.get? e = some o) (kt : ∀ o, h.get? tb = some o → h'.get? tb = some o) : ExcHeld h' e tb X c fl := by
  obtain ⟨ob, t, oT, ts, a, b, c, d, f, g⟩ := x
  exact ⟨ob, t, oT, ts, ke _ a, b, c, d, kt _ f, g⟩
theorem strs_app {vs ws : List Value} {xs ys : List Str} (h : StrsAre vs xs) (k : StrsAre ws ys) : StrsAre (vs ++ ws) (xs ++ ys) := by
  induction h with
  | nil => exact k
  | cons _ t h ih => exact .cons _ t ih
section
variable {prog : Program} {w : World} {A : Around} {E : Value → Shared → Prop} {s : Shared} {env : Env}
/-- try .. except, with what the body promises about the exceptions that it lets out -/
theorem try_gen {body : List Stmt} {h₀ : ExceptHandler} {hs : List ExceptHandler} {pos : Pos} {Q : Flow → Shared → Prop} (P : Value → Shared → Prop)
    (hP : ∀ e s₁, P e s₁ → wpAny (model prog w) A (noteFrame e env) (fun _ s₂ => wpAny (model prog w) A (setFlight e none) (fun _ s₃ => wpAny (model prog w) A (handleBy e env (h₀ :: hs)) Q E s₃) E s₂) E s₁)
    (hb : ∀ E₀, PassesOwn (model prog w) A env E₀ → (∀ hd, PassesOwnAt (model prog w) (A.mark hd) A env E₀) → (∀ e s₁, P e s₁ → E₀ e s₁) → wpAny (model prog w) A (execs body env) Q E₀ s) :
    wpAny (model prog w) A (exec (.Try body (h₀ :: hs) [] [] pos) env) Q E s := by
  refine wpAny_Try_except (wpAny_mono (hb _ PassesOwn.looking (fun hd => PassesOwnAt.looking) hP) (fun f s₁ hq => ?_) fun _ _ e => e)
  cases f <;> first | exact wpAny_execs_nil hq | exact hq
/-- try .. finally -/
theorem finally_gen {body : List Stmt} {f₀ : Stmt} {fs : List Stmt} {pos : Pos} {Q : Flow → Shared → Prop} (P : Value → Shared → Prop) (N : Shared → Prop)
    (hP : ∀ e s₁, P e s₁ → wpAny (model prog w) A (noteFrame e env) (fun _ s₂ => FinallyRaised prog w A E env (f₀ :: fs) Q e s₂) (FinallyRaised prog w A E env (f₀ :: fs) Q) s₁)
    (hN : ∀ s₁, N s₁ → wpAny (model prog w) A (execs (f₀ :: fs) env) Q E s₁)
    (hE : PassesOwn (model prog w) A env E)
    (hb : ∀ E₀, PassesOwn (model prog w) A env E₀ → (∀ e s₁, P e s₁ → E₀ e s₁) → wpAny (model prog w) A (execs body env) (fun f s₁ => f = .next ∧ N s₁) E₀ s) :
    wpAny (model prog w) A (exec (.Try body [] [] (f₀ :: fs) pos) env) Q E s := by
  refine wpAny_Try_finally (wpAny_mono (hb _ PassesOwn.looking hP) (fun f s₁ hq => ?_) fun _ _ e => e)
  obtain ⟨rfl, hq⟩ := hq
  refine wpAny_execs_nil (wpAny_passesOwn hE (wpAny_mono (hN s₁ hq) (fun g s₂ h₂ => ?_) fun _ _ e => e))
  cases g <;> exact h₂
/-- a new exception meets a finally -/
theorem finally_new {outer : List Env} {L e : Addr} {X : String} {c : Value} {f₀ : Stmt} {fs : List Stmt} {Q : Flow → Shared → Prop}
    (hfr : A.frames = some (env :: outer)) (hl : FrsAt s.heap (env :: outer)) (hf : env.frame = some L) (x : ExcNew s.heap e X c)
    (k : ∀ h' tb, Slk ((env :: outer).filterMap (·.frame)) [e] s.heap h' → s.heap.get? tb = none → ExcHeld h' e tb X c .none →
      wpAny (model prog w) (A.mark (some (.ref e))) (execs (f₀ :: fs) env)
      (fun g s₂ => match g with | .next => wpAny (model prog w) A (passOn "try.finally" (.ref e) env) Q E s₂ | g => wpAny (model prog w) A (setFlight (.ref e) none) (fun _ s₃ => Q g s₃) E s₂) (notedBy (model prog w) (A.mark (some (.ref e))) env (cameBackBy (model prog w) A env E)) { s with heap := h' }) :
    wpAny (model prog w) A (noteFrame (.ref e) env) (fun _ s₂ => FinallyRaised prog w A E env (f₀ :: fs) Q (.ref e) s₂) (FinallyRaised prog w A E env (f₀ :: fs) Q) s := by
  refine note_new hfr hl hf x fun h₁ tb k₁ htb x₁ => ⟨ref_ne_byPass e, ?_⟩
  refine note_again (s := { s with heap := h₁ }) hf x₁ ?_
  refine set_flight (s := { s with heap := h₁ }) (fr := none) x₁ fun h₂ k₂ x₂ => ?_
  exact k h₂ tb (k₁.fresh htb k₂) htb x₂
/-- row.extend(e) -/
theorem extend_stmt {r : Expr} {e : Expr} {ap p pos : Pos} {D : Addr} {vs : List Value} {xs ys : List Str} {Q : Flow → Shared → Prop} {E : Value → Shared → Prop} {tk : Nat} {h₀ : Heap} (pl : Sem Bool)
    (hr : PG prog w A env r h₀ s (fun u _ => u = .ref D)) (hD : h₀.PlainList D (List.toArray vs)) (hx : StrsAre vs xs) (x : PG prog w A env e h₀ s (KStrs ys)) (h1 : xs.length ≤ 1000) (h2 : ys.length ≤ 1000)
    (h : ∀ h' h'' tk' vs', KeepsH h₀ h' → h''.PlainList D (List.toArray vs') → StrsAre vs' (xs ++ ys) → (∀ b o, b ≠ D → h'.get? b = some o → h''.get? b = some o) → Q .next { s with heap := h'', toks := tk' })
    (he : eval (.Call (.Attribute r (Str.ofString "extend") ap) [e] [] p) env = (do
      let ov ← eval r env
      standAt ap.atName
      let (f, first) ← holding [ov] (getMethod ov (Str.ofString "extend") pl)
      callWith p f first (backTo p (starEach [e] env)) []) := by rfl)
    (h1 : starEach [e] env = (false, eval e env) :: starEach [] env := by rfl)
    (hi : interactive env = false := by rfl) (hs : swapsWith (.Call (.Attribute r (Str.ofString "extend") ap) [e] [] p) none pos.line env = pure false := by rfl) :
    wpAny (model prog w) A (exec (.Expr (.Call (.Attribute r (Str.ofString "extend") ap) [e] [] p) pos) env) Q E { s with heap := h₀, toks := tk } := by
  refine wpAny_Expr (MethodCall_ (pl := pl) (hr.run h₀ tk _ E kh_rfl fun v h₂ tk₂ k₂ kv => ?_) he) hi hs
  subst kv
  obtain ⟨c, hc⟩ := hD
  have hlen := hx.length
  refine getMethod_builtin (T := "list") ⟨_, k₂ _ _ hc, rfl⟩ PySem.F.plainAttrs_list PySem.F.slot_list_extend PySem.F.type_list_extend (fun a e => by cases e; exact ⟨_, k₂ _ _ hc, rfl⟩) (callWith_method1 ?_ h1 rfl)
  refine spliced_more (x.run h₂ tk₂ _ E k₂ fun v h₃ tk₃ k₃ kv => spliced_none ?_) h1
  obtain ⟨l, ws, n, rfl, el, hy⟩ := kv
  have hc3 := k₃ _ _ (k₂ _ _ hc)
  have hwl : ws.size = ys.length := by simpa using hy.length
  have hsz : (List.toArray vs).size + ws.size ≤ sizeLine := by rw [List.size_toArray, PySem.sizeLine_eq]; omega
  refine call_meets PySem.F.slot_list_extend ⟨_, hc3, rfl⟩ PySem.F.entry_list_extend (PySem.F.args_list_extend_2 _ _) (AutoSeq1.list_extend_list_list_0 D (List.toArray vs) c l ws n (extend_door hsz) (Nat.le_trans (Nat.le_add_right _ _) hsz) (Nat.le_trans hsz (Nat.le_succ _))) ⟨hc3, el, ?_⟩
  obtain ⟨⟨c', hc'⟩, kk⟩ := upd_list (h := h₃) (l := D) (vs := List.toArray vs) (n := c) hc3 (fun x => x ++ ws)
  refine h h₃ _ _ (vs ++ ws.toList) (kh_tr k₂ k₃) ⟨c', ?_⟩ (strs_app hx hy) fun b o hb e => kk b o (by simpa using hb) e
  have q : List.toArray vs ++ ws = List.toArray (vs ++ ws.toList) := by simp
  exact hc'.trans (by rw [q])
end

end Mine
end
section
open PySem PySem.W PyProof.Rows PySem.Calls
set_option Elab.async false
set_option maxRecDepth 100000
set_option maxHeartbeats 4000000
set_option linter.unusedVariables false
namespace Mine
noncomputable def unordGo : List Str → List Str → List Str → List Str × List Str
  | [], ys, ms => (ms, ys)
  | x :: r, ys, ms => if ys.contains x then unordGo r (ys.eraseIdx (ys.idxOf x)) ms else unordGo r ys (ms ++ [x])
noncomputable def unordF (xs ys : List Str) : List Str × List Str := unordGo xs.reverse ys []
theorem strsAre_eraseIdx {vs : List Value} {ys : List Str} (h : StrsAre vs ys) : ∀ j, StrsAre (vs.eraseIdx j) (ys.eraseIdx j) := by
  induction h with
  | nil => intro j; simpa using StrsAre.nil
  | cons x t h ih =>
    intro j
    cases j with
    | zero => simpa using h
    | succ j => simpa using StrsAre.cons x t (ih j)
theorem strs_snoc_inv {xs : List Str} {x : Str} : ∀ {vs : List Value}, StrsAre vs (xs ++ [x]) → ∃ vi t, vs = vi ++ [.str x t] ∧ StrsAre vi xs := by
  induction xs with
  | nil => intro vs h; cases h with | cons _ t h => cases h; exact ⟨[], t, rfl, .nil⟩
  | cons y ys ih => intro vs h; cases h with | cons _ t h => obtain ⟨vi, u, rfl, hv⟩ := ih h; exact ⟨_ :: vi, u, rfl, .cons _ t hv⟩
theorem erase_list (xs : Array Value) (j : Nat) : (xs.eraseIdxIfInBounds j).toList = xs.toList.eraseIdx j := by
  unfold Array.eraseIdxIfInBounds
  split
  · simp
  · rw [List.eraseIdx_of_length_le]; simp; omega
theorem erase_last {vs : List Value} {v : Value} : (vs ++ [v]).eraseIdx vs.length = vs := by rw [List.eraseIdx_append_of_length_le (Nat.le_refl _)]; simp
/-- what the frames' objects are -/
noncomputable abbrev fsOf (l : List Env) : List Addr := l.filterMap (·.frame)
theorem frs_cons {h : Heap} {env : Env} {l : List Env} {L : Addr} {m : Str → Option Value} (hk : env.scope.kind ≠ .module) (hf : env.frame = some L) (n : h.Ns L m) (r : FrsAt h l) : FrsAt h (env :: l) := by
  obtain ⟨o, es, ep, e, d, _⟩ := n
  exact ⟨hk, ⟨L, o, hf, e, es, ep, d⟩, r⟩
theorem slk_own {fs mt : List Addr} {h h1 h2 : Heap} {L e : Addr} (x : Slk fs mt h h1) (y : Slk (L :: fs) [e] h1 h2) (hL : h.get? L = none) (he : h.get? e = none) : Slk fs mt h h2 := by
  have ne : ∀ {b : Addr} {o : Obj}, h.get? b = some o → b ≠ e := fun q r => by rw [r, he] at q; cases q
  have nL : ∀ {b : Addr} {o : Obj}, h.get? b = some o → b ≠ L := fun q r => by rw [r, hL] at q; cases q
  refine ⟨fun b o a b' q => y.keep b o (by simpa using ne q) (by simp [nL q, b']) (x.keep b o a b' q), fun b o a q => ?_⟩
  obtain ⟨sl, e1⟩ := x.slot b o a q
  obtain ⟨sl', e2⟩ := y.slot b _ (by simpa using ne q) e1
  exact ⟨sl', e2⟩
theorem strsAre_snoc {vs : List Value} {ys : List Str} (h : StrsAre vs ys) (x : Str) (t) : StrsAre (vs ++ [.str x t]) (ys ++ [x]) := by
  induction h with
  | nil => exact .cons _ _ .nil
  | cons _ t h ih => exact .cons _ t ih
structure UI (envs : List Env) (la lb L' D : Addr) (hh : Heap) (xs ys : List Str) (n : Nat) (h : Heap) (xs' ys' : List Str) (vx : Array Value) (nx : Nat) (vy : Array Value) (ny : Nat) (vm : List Value) (ms : List Str) (m : Str → Option Value) : Prop where
  sk : Slk (fsOf envs) [la, lb] hh h
  ea : h.get? la = some (listOf vx nx)
  hxs : StrsAre vx.toList xs'
  eb : h.get? lb = some (listOf vy ny)
  hys : StrsAre vy.toList ys'
  hD : h.PlainList D (List.toArray vm)
  hms : StrsAre vm ms
  hn : h.Ns L' m
  m1 : m (Str.ofString "expected") = some (.ref la)
  m2 : m (Str.ofString "actual") = some (.ref lb)
  m3 : m (Str.ofString "missing") = some (.ref D)
  hfr : FrsAt h envs
  hgo : unordGo xs'.reverse ys' ms = unordF xs ys
  hlx : xs'.length + ms.length ≤ 60
  hly : ys'.length ≤ 60
  hnn : n = xs'.length
theorem unord_spec (w : World) (dp un : Nat) (gd : Option (List Code)) (envs : List Env) (s : Shared) (hh : Heap) (tk0 : Nat) (g : Heap) (la lb : Addr) (vas vbs : Array Value) (na nb : Nat) (xs ys : List Str) (Q E : Value → Shared → Prop)
   (kg : KeepsH g hh) (G : Gl w g) (hla : hh.get? la = some (listOf vas na)) (hlb : hh.get? lb = some (listOf vbs nb)) (hab : la ≠ lb) (gla : g.get? la = none) (glb : g.get? lb = none) (gfs : ∀ b ∈ fsOf envs, g.get? b = none ∧ b ≠ la ∧ b ≠ lb) (hfs : FrsAt hh envs)
   (hx : StrsAre vas.toList xs) (hy : StrsAre vbs.toList ys) (hx60 : xs.length ≤ 60) (hy60 : ys.length ≤ 60) (hdp : dp + 3 < recursionLimit) (hun : un + 200 < cLine)
   (hQ : ∀ v h' tk', Slk (fsOf envs) [la, lb] hh h' → KRd (.tuple [.list ((unordF xs ys).1.map .str), .list ((unordF xs ys).2.map .str)]) v h' → Q v { s with heap := h', toks := tk' }) :
   wpAny (model PySem.Challenge.rw_in0044_01.row.prog w) (AA dp un gd (some envs)) (call (.ref 90) [.ref la, .ref lb]) Q E { s with heap := hh, toks := tk0 } := by
  obtain ⟨loose, mean, mg, mb, X, T⟩ := G.up kg
  k_dflt (refine' enter_g ?k3 ?k5 ?k6 ?k7 ?k8 ?k9 ?kB ?_ ?c2 ?c3 ?c4 ?c5; (case k3 => exact X); (case k5 => exact T); (case k6 => k_is); (case k7 => k_is); (case k8 => ktr_room); (case k9 => exact BindsTo.of_eq rfl); (case kB => exact locs rfl); (case c2 => exact rfl); (case c3 => exact rfl); (case c4 => exact rfl); (case c5 => decide); k_whole; intro L' h₁ tk k1 gL F' eL htk)
  clear X T
  refine wpAny_execs_cons (asg_pure (h₀ := h₁) PG.emptyList kh_rfl F' ?_)
  rintro v h2 h3 tk3 k2 ⟨D, rfl, hDn, hD2⟩ k3 F3
  have ltL : ∀ {b : Addr} {o : Obj}, hh.get? b = some o → b ≠ L' := fun e q => by rw [q, gL] at e; cases e
  have hLD : L' ≠ D := fun e => by obtain ⟨o, _, _, e', _⟩ := F'; rw [← e] at hDn; exact absurd (e'.symm.trans hDn) (by simp)
  have kh3 : KeepsH hh h3 := fun b o e => k3 b o (ltL e) (k2 _ _ (k1 b o e))
  have hDh : hh.get? D = none := noneOf k1 hDn
  have ltD : ∀ {b : Addr} {o : Obj}, hh.get? b = some o → b ≠ D := fun e q => by rw [q, hDh] at e; cases e
  have hD3 : h3.PlainList D #[] := hD2.at fun o e => k3 _ o (Ne.symm hLD) e
  have fsD : ∀ b ∈ fsOf envs, b ≠ D ∧ b ≠ L' := fun b hb => by
    obtain ⟨_, o, e, _⟩ := hfs.fun.mem hb
    exact ⟨ltD e, ltL e⟩
  clear k3 hD2 k2 hDn F' k1
  refine wpAny_execs_cons (gwhileO (fun n s' => ∃ h tk xs' ys' vx nx vy ny vm ms m, s' = { s with heap := h, toks := tk } ∧ UI envs la lb L' D hh xs ys n h xs' ys' vx nx vy ny vm ms m) ?turn xs.length
    ⟨h3, tk3, xs, ys, vas, na, vbs, nb, [], [], _, rfl, .of fun b o _ e => kh3 _ _ e, kh3 _ _ hla, hx, kh3 _ _ hlb, hy, hD3, .nil, F3, rfl, rfl, rfl, hfs.up fun b o es ep e d => ⟨o, es, ep, kh3 _ _ e, d⟩, rfl, by simpa using hx60, hy60, rfl⟩ (by passes_own))
  rintro n s' ⟨h, tk, xs', ys', vx, nx, vy, ny, vm, ms, m, rfl, sk, ea, hxs, eb, hys, hD, hms, hn, m1, m2, m3, hfr, hgo, hlx, hly, rfl⟩ Q9 N9 E9 hE9 hnext9 _ _ hN9
  have gkeep : ∀ {h' : Heap}, Slk (fsOf envs) [la, lb] hh h' → KeepsH g h' := fun sk b o e => sk.keep b o (fun hm => by
    rcases List.mem_cons.mp hm with q | hm
    · rw [q, gla] at e; cases e
    · rw [List.mem_singleton.mp hm, glb] at e; cases e) (fun hm => by rw [(gfs b hm).1] at e; cases e) (kg b o e)
  have hxl := hxs.length
  have hyl := hys.length
  refine isTrue_plain (PG.use (g := h) (PG.name hn m1) kh_rfl fun v h4 tk4 k4 hv => ?_)
  subst hv
  refine wpAny_truthy_list (isLA (k4 _ _ ea)) (by simp at hxl; omega) ?_
  have up4 : ∀ {l : Addr} {o : Obj}, h.get? l = some o → h4.get? l = some o := fun e => k4 _ _ e
  have sk4 : Slk (fsOf envs) [la, lb] hh h4 := sk.trans (.of fun b o _ e => k4 b o e)
  have hfr4 : FrsAt h4 envs := hfr.up fun b o es ep e d => ⟨o, es, ep, k4 _ _ e, d⟩
  have ea4 := k4 _ _ ea
  have eb4 := k4 _ _ eb
  have hD4 : h4.PlainList D (List.toArray vm) := hD.at fun o e => k4 _ o e
  have hn4 := hn.keeps k4
  have laL : la ≠ L' := ltL hla
  have lbL : lb ≠ L' := ltL hlb
  have laD : la ≠ D := ltD hla
  have lbD : lb ≠ D := ltD hlb
  clear ea eb hD hn sk hfr up4 k4
  obtain rfl | ⟨xi, x, rfl⟩ : xs' = [] ∨ ∃ xi x, xs' = xi ++ [x] := by
    rcases List.eq_nil_or_concat xs' with h | ⟨a, b, h⟩
    · exact .inl h
    · exact .inr ⟨a, b, by rw [h, List.concat_eq_append]⟩
  · have hv : vx.toList = [] := List.length_eq_zero_iff.mp hxl
    have hv' : vx.isEmpty = true := by simpa using hv
    rw [hv']
    simp only [Bool.not_true, Bool.false_eq_true, if_false]
    have G4 := G.up (gkeep sk4)
    refine hN9 _ ?_
    refine wpAny_execs_cons (wpAny_Return_some (PG.use (g := h4) (PG.tupleRd (ds := [.list ((unordF xs ys).1.map .str), .list ((unordF xs ys).2.map .str)]) (PA.rd ?a1 (PA.rd ?a2 PA.rd0))) kh_rfl fun v h8 tk8 k8 r8 => hQ v h8 tk8 (sk4.trans (.of fun b o _ e => k8 _ _ e)) r8))
    case a1 =>
      have e : (unordF xs ys).1 = ms := by rw [← hgo]; rfl
      rw [e]
      obtain ⟨c, hc⟩ := hD4
      exact (PG.nameK hn4 m3 (K := KStrs ms) ⟨D, List.toArray vm, c, rfl, hc, hms⟩ upSs).imp fun _ _ _ k => KStrs.rd k
    case a2 =>
      have e : (unordF xs ys).2 = ys' := by rw [← hgo]; rfl
      rw [e]
      exact (PG.nameK hn4 m2 (K := KStrs ys') ⟨lb, vy, ny, rfl, eb4, hys⟩ upSs).imp fun _ _ _ k => KStrs.rd k
  · obtain ⟨vi, t, hv, hvi⟩ : ∃ vi t, vx.toList = vi ++ [.str x t] ∧ StrsAre vi xi := strs_snoc_inv hxs
    have hv' : vx.isEmpty = false := by
      cases e : vx.isEmpty with
      | false => rfl
      | true => have : vx = #[] := by simpa using e
                rw [this] at hv; simp at hv
    have hsz : vx.size = vi.length + 1 := by have := congrArg List.length hv; simpa using this
    have hlast : vx[vx.size - 1]? = some (.str x t) := by
      rw [← Array.getElem?_toList, hv, hsz]; simp
    have hvl : vx.size ≤ 60 := by simp at hxl hlx; omega
    rw [hv']
    simp only [Bool.not_false, if_true]
    have hlx' : xi.length + 1 + ms.length ≤ 60 := by simpa using hlx
    refine wpAny_execs_cons (wpAny_Assign_Name (MethodCall_ ((PG.name hn4 m1).run h4 _ _ _ kh_rfl fun v h5 tk5 k5 hv5 => ?_)))
    subst hv5
    refine getMethod_builtin (T := "list") ⟨_, k5 _ _ ea4, rfl⟩ PySem.F.plainAttrs_list PySem.F.slot_list_pop PySem.F.type_list_pop (fun a e => by cases e; exact ⟨_, k5 _ _ ea4, rfl⟩) (callWith_method0 ?_)
    refine call_meets PySem.F.slot_list_pop ⟨_, k5 _ _ ea4, rfl⟩ PySem.F.entry_list_pop (PySem.F.args_list_pop_1 _) (MeetsSeq.list_pop_last la vx nx (.str x t) hlast (by rw [PySem.sizeLine_eq]; omega)) ⟨k5 _ _ ea4, ?_⟩
    obtain ⟨⟨n6, ea6⟩, k6⟩ := upd_list (k5 _ _ ea4) (fun xs => xs.eraseIdxIfInBounds (vx.size - 1))
    have hvx6 : StrsAre (vx.eraseIdxIfInBounds (vx.size - 1)).toList xi := by rw [erase_list, hv, hsz]; simpa [erase_last] using hvi
    dsimp only at ea6 k6 ⊢
    generalize h5.update la (Obj.mapSeq fun xs => xs.eraseIdxIfInBounds (vx.size - 1)) = h6 at ea6 k6 ⊢
    generalize vx.eraseIdxIfInBounds (vx.size - 1) = vx6 at ea6 hvx6
    have k46 : KeepBut [la] h4 h6 := fun b o hb e => k6 b o hb (k5 _ _ e)
    have hn6 : h6.Ns L' m := hn4.at' fun o e => k46 _ o (by simpa using Ne.symm laL) e
    show wpAny _ _ (storeName _ _ _) _ _ _
    refine wpAny_storeName_local rfl hn6 (fun h7 hn7 hs7 => ?_) rfl
    have k47 : ∀ b o, b ≠ la → b ≠ L' → h4.get? b = some o → h7.get? b = some o := fun b o hb hb' e => hs7.extBut b o hb' (k46 b o (by simpa using hb) e)
    have ea7 : h7.get? la = some (listOf vx6 n6) := hs7.extBut _ _ laL ea6
    have eb7 : h7.get? lb = some (listOf vy ny) := k47 _ _ (Ne.symm hab) lbL eb4
    have hD7 : h7.PlainList D (List.toArray vm) := hD4.at fun o e => k47 _ o (Ne.symm laD) (Ne.symm hLD) e
    have dfs : ∀ b ∈ fsOf envs, b ≠ la ∧ b ≠ lb ∧ b ≠ D ∧ b ≠ L' := fun b hb => ⟨(gfs b hb).2.1, (gfs b hb).2.2, fsD b hb⟩
    have sk7 : Slk (fsOf envs) [la, lb] hh h7 := ⟨fun b o hm hf e => k47 b o (fun q => hm (by simp [q])) (ltL e) (sk4.keep b o hm hf e), fun b o hm e => let ⟨sl, e'⟩ := sk4.slot b o hm e; ⟨sl, k47 b _ (fun q => hm (by simp [q])) (ltL e) e'⟩⟩
    have hfr7 : FrsAt h7 envs := by
      refine hfr4.up' fun b hb o e => ?_
      exact ⟨o, k47 b o (dfs b hb).1 (dfs b hb).2.2.2 e, rfl⟩
    clear k46 hn6 k6 ea6 hs7 k5
    have hgo' : ∀ ys' ms, unordGo (xi ++ [x]).reverse ys' ms = if ys'.contains x then unordGo xi.reverse (ys'.eraseIdx (ys'.idxOf x)) ms else unordGo xi.reverse ys' (ms ++ [x]) := fun _ _ => by rw [List.reverse_append]; rfl
    rw [hgo'] at hgo
    refine wpAny_execs_cons (wpAny_Try_except (wpAny_execs_cons (wpAny_Expr (MethodCall_ ((PG.name (x := Str.ofString "actual") (v := .ref lb) hn7 m2).run h7 _ _ _ kh_rfl fun v h8 tk8 k8 hv8 => ?_)))))
    subst hv8
    refine getMethod_builtin (T := "list") ⟨_, k8 _ _ eb7, rfl⟩ PySem.F.plainAttrs_list PySem.F.slot_list_remove PySem.F.type_list_remove (fun a e => by cases e; exact ⟨_, k8 _ _ eb7, rfl⟩) (callWith_method1 ?_)
    refine spliced_more ((PG.name (x := Str.ofString "item") (v := .str x t) (hn7.keeps k8) rfl).run h8 _ _ _ kh_rfl fun v h9 tk9 k9 hv9 => spliced_none ?_)
    subst hv9
    have k79 := kh_tr k8 k9
    have ea9 := k79 _ _ ea7
    have eb9 := k79 _ _ eb7
    have hD9 : h9.PlainList D (List.toArray vm) := hD7.at fun o e => k79 _ o e
    have hn9 := hn7.keeps k79
    have sk9 : Slk (fsOf envs) [la, lb] hh h9 := sk7.trans (.of fun b o _ e => k79 b o e)
    have hfr9 : FrsAt h9 envs := hfr7.up' fun b _ o e => ⟨o, k79 _ _ e, rfl⟩
    clear ea7 eb7 hD7 hn7 sk7 hfr7 k8 k79 k9 k47 hD4 hn4 sk4 hfr4 ea4 eb4
    by_cases hc : ys'.contains x = true
    · rw [if_pos hc] at hgo
      have hxy : x ∈ ys' := by simpa using hc
      have hj : ys'.idxOf x < ys'.length := List.idxOf_lt_length_iff.mpr hxy
      have hvy : vy.size = ys'.length := by simpa using hyl
      refine call_meets PySem.F.slot_list_remove ⟨_, eb9, rfl⟩ PySem.F.entry_list_remove (PySem.F.args_list_remove_2 _ _)
        (MeetsSeq.list_remove lb vy ny (.str x t) (isStrOf x) (fun y hy => eq_isStrOf x t hys y (by simpa using hy)) (ys'.idxOf x) (by omega) ?hit ?hno (by rw [PySem.sizeLine_eq]; omega)) ⟨eb9, ?_⟩
      case hit =>
        have := isStrOf_at (k := x) hys (j := ys'.idxOf x) (by omega) hj
        simp only [Array.getElem_toList] at this
        rw [this]
        simpa using List.getElem_idxOf hj
      case hno =>
        intro j hjs hlt
        have := isStrOf_at (k := x) hys (j := j) (by simpa using hjs) (by omega)
        simp only [Array.getElem_toList] at this
        rw [this]
        have := List.not_of_lt_findIdx (p := (· == x)) hlt
        simpa using this
      obtain ⟨⟨n10, eb10⟩, k10⟩ := upd_list eb9 (fun xs => xs.eraseIdxIfInBounds (ys'.idxOf x))
      have hvy10 : StrsAre (vy.eraseIdxIfInBounds (ys'.idxOf x)).toList (ys'.eraseIdx (ys'.idxOf x)) := by rw [erase_list]; exact strsAre_eraseIdx hys _
      dsimp only at eb10 k10 ⊢
      generalize h9.update lb (Obj.mapSeq fun xs => xs.eraseIdxIfInBounds (ys'.idxOf x)) = h10 at eb10 k10 ⊢
      generalize vy.eraseIdxIfInBounds (ys'.idxOf x) = vy10 at eb10 hvy10
      refine wpAny_execs_nil (wpAny_execs_nil (wpAny_execs_nil (hnext9 xi.length _ (by simp) ⟨h10, tk9, xi, _, vx6, n6, vy10, n10, vm, ms, _, rfl, sk9.trans (.mono (.of k10) (by simp)), k10 _ _ (by simpa using hab) ea9, hvx6, eb10, hvy10, hD9.at fun o e => k10 _ o (by simpa using Ne.symm lbD) e, hms, hn9.at' fun o e => k10 _ o (fun q => lbL (List.mem_singleton.mp q).symm) e, m1, m2, m3, hfr9.up' fun b hb o e => ⟨o, k10 _ _ (by simpa using (dfs b hb).2.1) e, rfl⟩, hgo, by omega, Nat.le_trans (List.length_eraseIdx_le _ _) hly, rfl⟩)))
    · rw [if_neg hc] at hgo
      refine call_meets PySem.F.slot_list_remove ⟨_, eb9, rfl⟩ PySem.F.entry_list_remove (PySem.F.args_list_remove_2 _ _)
        (MeetsSeq.list_remove_none lb vy ny (.str x t) (isStrOf x) (fun y hy => eq_isStrOf x t hys y (by simpa using hy)) ?hno) ⟨eb9, rfl, fun h10 tk10 e hx10 => ?_⟩
      case hno =>
        intro j hjs
        have := isStrOf_at (k := x) hys (j := j) (by simpa using hjs) (by simp at hyl; omega)
        simp only [Array.getElem_toList] at this
        rw [this]
        cases hb : ys'[j]'(by simp at hyl; omega) == x with
        | false => rfl
        | true => exact absurd (by simp only [List.contains_iff_mem]; rw [← (beq_iff_eq.mp hb)]; exact List.getElem_mem _) hc
      have xe : hh.get? e = none ∧ e ≠ L' ∧ e ≠ D ∧ e ≠ la ∧ e ≠ lb := by
        have hn := hx10.new
        refine ⟨?_, ?_, ?_, ?_, ?_⟩
        · cases q : hh.get? e with
          | none => rfl
          | some o =>
            by_cases hm : e = la
            · rw [hm, ea9] at hn; cases hn
            · by_cases hm' : e = lb
              · rw [hm', eb9] at hn; cases hn
              · obtain ⟨sl, e'⟩ := sk9.slot e o (by simp [hm, hm']) q
                rw [e'] at hn; cases hn
        · intro q; obtain ⟨o, _, _, e', _⟩ := hn9; rw [q, show h9.get? L' = some o from e'] at hn; cases hn
        · intro q; obtain ⟨c, e'⟩ := hD9; rw [q, e'] at hn; cases hn
        · intro q; rw [q, ea9] at hn; cases hn
        · intro q; rw [q, eb9] at hn; cases hn
      have kk := hx10.keeps
      have sk10 : Slk (fsOf envs) [la, lb] hh h10 := sk9.trans (.of fun b o _ e => kk b o e)
      have hn10 := hn9.keeps kk
      refine caught_new (T := "ValueError") (L := L') (outer := envs) rfl (frs_cons (by show ScopeKind.function ≠ ScopeKind.module; decide) rfl hn10 (hfr9.up' fun b _ o e => ⟨o, kk _ _ e, rfl⟩)) rfl (ExcNew.of hx10) (by decide +kernel) (by decide +kernel) (by decide +kernel) (fun h11 sk11 => ?nm) fun h11 tk11 E' sk11 => ?_
      case nm => exact Gl.built (G.up (gkeep (slk_own sk10 sk11 gL xe.1))) e_VE b_VE
      have sko : Slk (fsOf envs) [la, lb] hh h11 := slk_own sk10 sk11 gL xe.1
      have kk11 : ∀ b o, b ≠ e → b ≠ L' → b ∉ fsOf envs → h10.get? b = some o → h11.get? b = some o := fun b o h1 h2 h3 q => sk11.keep b o (by simpa using h1) (by show b ∉ L' :: fsOf envs; simp [h2, h3]) q
      have ea11 := kk11 la _ (fun q => xe.2.2.2.1 q.symm) laL (fun q => (gfs _ q).2.1 rfl) (kk _ _ ea9)
      have eb11 := kk11 lb _ (fun q => xe.2.2.2.2 q.symm) lbL (fun q => (gfs _ q).2.2 rfl) (kk _ _ eb9)
      have hD11 : h11.PlainList D (List.toArray vm) := hD9.at fun o q => kk11 D o (fun q => xe.2.2.1 q.symm) (Ne.symm hLD) (fun q => (fsD _ q).1 rfl) (kk _ _ q)
      have hn11 : h11.Ns L' _ := sk11.ns (by simpa using fun q => xe.2.1 q.symm) hn10
      have hfr11 : FrsAt h11 envs := sk11.frs (fun b hb o es ep q d => by
        obtain ⟨ob, t, q1, _, q2⟩ := ExcNew.of hx10
        rw [List.mem_singleton.mp hb, q1] at q; cases q; rw [q2] at d; cases d) (hfr9.up' fun b _ o e => ⟨o, kk _ _ e, rfl⟩)
      refine wpAny_execs_cons ?_
      with_reducible refine' append_stmt (K := fun v _ => v = .str x t) (vs := List.toArray vm) (D := D) ?pl ?nm hD11 ?arg ?sz ?cont2 ?he ?h1 ?hi ?hs
      case nm => exact PG.name (x := Str.ofString "missing") hn11 m3
      case he => rfl
      case h1 => rfl
      case hi => rfl
      case hs => rfl
      case arg => exact PG.name (x := Str.ofString "item") hn11 rfl
      case sz => rw [List.size_toArray, PySem.sizeLine_eq]; have := hms.length; omega
      case cont2 =>
        intro v h12 h13 tk13 k12 hv D13 k13
        subst hv
        have kh : ∀ b o, b ≠ D → h11.get? b = some o → h13.get? b = some o := fun b o hb e => k13 b o hb (k12 _ _ e)
        exact wpAny_execs_nil (wpAny_execs_nil (hnext9 xi.length _ (by simp) ⟨h13, tk13, xi, ys', vx6, n6, vy, ny, vm ++ [.str x t], ms ++ [x], _, rfl, ⟨fun b o a b' e => kh b o (ltD e) (sko.keep b o a b' e), fun b o a e => let ⟨sl, e'⟩ := sko.slot b o a e; ⟨sl, kh b _ (ltD e) e'⟩⟩, kh _ _ laD ea11, hvx6, kh _ _ lbD eb11, hys, by simpa using D13, strsAre_snoc hms x t, hn11.at' fun o e => kh _ o hLD e, m1, m2, m3, hfr11.up' fun b hb o e => ⟨o, kh _ _ (fsD _ hb).1 e, rfl⟩, hgo, by simp; omega, hly, rfl⟩))


end Mine
end
section
open PySem PySem.W PyProof.Rows PySem.Calls
set_option Elab.async false
set_option maxRecDepth 100000
set_option maxHeartbeats 4000000
set_option linter.unusedVariables false
namespace Mine
noncomputable def sldGo : Nat → List Str → List Str → List Str → List Str → List Str × List Str
  | n + 1, e :: X, a :: Y, m, u => if slt e a then sldGo n (X.dropWhile (· == e)) (a :: Y) (m ++ [e]) u else if slt a e then sldGo n (e :: X) (Y.dropWhile (· == a)) m (u ++ [a]) else sldGo n (X.dropWhile (· == e)) (Y.dropWhile (· == a)) m u
  | _, X, Y, m, u => (m ++ X, u ++ Y)
noncomputable def sldF (xs ys : List Str) : List Str × List Str := sldGo (xs.length + ys.length) xs ys [] []
theorem sldGo_done {n : Nat} {X Y m u : List Str} (h : X = [] ∨ Y = []) : sldGo n X Y m u = (m ++ X, u ++ Y) := by
  cases n with
  | zero => unfold sldGo; rfl
  | succ n =>
    cases X with
    | nil => unfold sldGo; rfl
    | cons e X =>
      cases Y with
      | nil => unfold sldGo; rfl
      | cons a Y => rcases h with h | h <;> cases h
structure SInv (hh : Heap) (envs : List Env) (L' la lb D1 D2 : Addr) (i j : Nat) (ms us : List Str) (h : Heap) (m : Str → Option Value) : Prop where
  sk : Slk (fsOf envs) [] hh h
  hn : h.Ns L' m
  d1 : ∃ vm, h.PlainList D1 (List.toArray vm) ∧ StrsAre vm ms
  d2 : ∃ vu, h.PlainList D2 (List.toArray vu) ∧ StrsAre vu us
  fr : FrsAt h envs
  m1 : m (Str.ofString "expected") = some (.ref la)
  m2 : m (Str.ofString "actual") = some (.ref lb)
  m3 : m (Str.ofString "missing") = some (.ref D1)
  m4 : m (Str.ofString "unexpected") = some (.ref D2)
  mi : ∃ t, m (Str.ofString "i") = some (.int (i : Int) t)
  mj : ∃ t, m (Str.ofString "j") = some (.int (j : Int) t)
structure SCst (hh : Heap) (envs : List Env) (L' la lb D1 D2 : Addr) (xs ys : List Str) : Prop where
  hL : hh.get? L' = none
  h1 : hh.get? D1 = none
  h2 : hh.get? D2 = none
  a1 : D1 ≠ L'
  a2 : D2 ≠ L'
  a3 : D1 ≠ D2
  la : ∃ vs n, hh.get? la = some (listOf vs n) ∧ StrsAre vs.toList xs
  lb : ∃ vs n, hh.get? lb = some (listOf vs n) ∧ StrsAre vs.toList ys
  fr : FrsAt hh envs
theorem SCst.fs {hh : Heap} {envs : List Env} {L' la lb D1 D2 : Addr} {xs ys : List Str} (c : SCst hh envs L' la lb D1 D2 xs ys) : ∀ b ∈ fsOf envs, b ≠ L' ∧ b ≠ D1 ∧ b ≠ D2 ∧ b ≠ la ∧ b ≠ lb := fun b hb => by
  have hl : ∀ {h : Heap} {l : List Env}, FrsAt h l → ∀ b ∈ fsOf l, ∃ o es ep, h.get? b = some o ∧ o.data = .dict es ep := by
    intro h l
    induction l with
    | nil => intro _ b hb; cases hb
    | cons env l ih =>
      rintro ⟨_, ⟨L, o, e1, e2, es, ep, e3⟩, r⟩ b hb
      simp only [fsOf, List.filterMap_cons, e1] at hb
      rcases List.mem_cons.mp hb with q | q
      · subst q; exact ⟨o, es, ep, e2, e3⟩
      · exact ih r b q
  obtain ⟨o, es, ep, e, d⟩ := hl c.fr b hb
  refine ⟨?_, ?_, ?_, ?_, ?_⟩ <;> intro q <;> subst q
  · rw [c.hL] at e; cases e
  · rw [c.h1] at e; cases e
  · rw [c.h2] at e; cases e
  · obtain ⟨vs, n, e', _⟩ := c.la; rw [e] at e'; cases e'; cases d
  · obtain ⟨vs, n, e', _⟩ := c.lb; rw [e] at e'; cases e'; cases d
section
variable {hh : Heap} {envs : List Env} {L' la lb D1 D2 : Addr} {xs ys : List Str} {i j : Nat} {ms us : List Str} {h h' : Heap} {m : Str → Option Value}
theorem SInv.kla (x : SInv hh envs L' la lb D1 D2 i j ms us h m) (c : SCst hh envs L' la lb D1 D2 xs ys) : KStrs xs (.ref la) h := by
  obtain ⟨vs, n, e, q⟩ := c.la
  exact ⟨la, vs, n, rfl, x.sk.keep _ _ (by simp) (fun q => (c.fs _ q).2.2.2.1 rfl) e, q⟩
theorem SInv.klb (x : SInv hh envs L' la lb D1 D2 i j ms us h m) (c : SCst hh envs L' la lb D1 D2 xs ys) : KStrs ys (.ref lb) h := by
  obtain ⟨vs, n, e, q⟩ := c.lb
  exact ⟨lb, vs, n, rfl, x.sk.keep _ _ (by simp) (fun q => (c.fs _ q).2.2.2.2 rfl) e, q⟩
/-- other objects -/
theorem SInv.but {mt : List Addr} (x : SInv hh envs L' la lb D1 D2 i j ms us h m) (c : SCst hh envs L' la lb D1 D2 xs ys) (k : KeepBut mt h h') (hm : ∀ b ∈ mt, hh.get? b = none ∧ b ≠ L' ∧ b ≠ D1 ∧ b ≠ D2) : SInv hh envs L' la lb D1 D2 i j ms us h' m := by
  have nf : ∀ b o, hh.get? b = some o → b ∉ mt := fun b o e q => by rw [(hm b q).1] at e; cases e
  obtain ⟨vm, a1, b1⟩ := x.d1
  obtain ⟨vu, a2, b2⟩ := x.d2
  refine ⟨⟨fun b o a b' e => k b o (nf _ _ e) (x.sk.keep b o a b' e), fun b o a e => let ⟨sl, e'⟩ := x.sk.slot b o a e; ⟨sl, k b _ (nf _ _ e) e'⟩⟩, x.hn.at' fun o e => k _ o (fun q => (hm _ q).2.1 rfl) e, ⟨vm, a1.at fun o e => k _ o (fun q => (hm _ q).2.2.1 rfl) e, b1⟩, ⟨vu, a2.at fun o e => k _ o (fun q => (hm _ q).2.2.2 rfl) e, b2⟩, ?_, x.m1, x.m2, x.m3, x.m4, x.mi, x.mj⟩
  refine x.fr.up' fun b hb o e => ⟨o, k _ _ (fun q => ?_) e, rfl⟩
  obtain ⟨_, o', e', _⟩ := c.fr.fun.mem hb
  exact nf _ _ e' q
theorem SInv.keeps (x : SInv hh envs L' la lb D1 D2 i j ms us h m) (c : SCst hh envs L' la lb D1 D2 xs ys) (k : KeepsH h h') : SInv hh envs L' la lb D1 D2 i j ms us h' m :=
  x.but (mt := []) c (fun b o _ e => k b o e) (fun _ q => nomatch q)
/-- names -/
theorem SInv.locals {i' j' : Nat} {m' : Str → Option Value} (x : SInv hh envs L' la lb D1 D2 i j ms us h m) (c : SCst hh envs L' la lb D1 D2 xs ys) (k : KeepBut [L'] h h') (hn : h'.Ns L' m')
    (hz : ∀ z, z = Str.ofString "expected" ∨ z = Str.ofString "actual" ∨ z = Str.ofString "missing" ∨ z = Str.ofString "unexpected" → m' z = m z) (mi : ∃ t, m' (Str.ofString "i") = some (.int (i' : Int) t)) (mj : ∃ t, m' (Str.ofString "j") = some (.int (j' : Int) t)) : SInv hh envs L' la lb D1 D2 i' j' ms us h' m' := by
  have nL : ∀ b o, hh.get? b = some o → b ∉ [L'] := fun b o e q => by rw [List.mem_singleton.mp q, c.hL] at e; cases e
  obtain ⟨vm, a1, b1⟩ := x.d1
  obtain ⟨vu, a2, b2⟩ := x.d2
  refine ⟨⟨fun b o a b' e => k b o (nL _ _ e) (x.sk.keep b o a b' e), fun b o a e => let ⟨sl, e'⟩ := x.sk.slot b o a e; ⟨sl, k b _ (nL _ _ e) e'⟩⟩, hn, ⟨vm, a1.at fun o e => k _ o (by simpa using c.a1) e, b1⟩, ⟨vu, a2.at fun o e => k _ o (by simpa using c.a2) e, b2⟩, ?_,
    (hz _ (.inl rfl)).trans x.m1, (hz _ (.inr (.inl rfl))).trans x.m2, (hz _ (.inr (.inr (.inl rfl)))).trans x.m3, (hz _ (.inr (.inr (.inr rfl)))).trans x.m4, mi, mj⟩
  refine x.fr.up' fun b hb o e => ⟨o, k _ _ (fun q => ?_) e, rfl⟩
  exact (c.fs _ hb).1 (List.mem_singleton.mp q)
/-- what an exception's note does -/
theorem SInv.exc {e : Addr} (x : SInv hh envs L' la lb D1 D2 i j ms us h m) (c : SCst hh envs L' la lb D1 D2 xs ys) (s' : Slk (L' :: fsOf envs) [e] h h') (he : hh.get? e = none ∧ e ≠ L' ∧ e ≠ D1 ∧ e ≠ D2) : SInv hh envs L' la lb D1 D2 i j ms us h' m := by
  obtain ⟨vm, a1, b1⟩ := x.d1
  obtain ⟨vu, a2, b2⟩ := x.d2
  have kk : ∀ b o, b ≠ e → b ≠ L' → b ∉ fsOf envs → h.get? b = some o → h'.get? b = some o := fun b o h1 h2 h3 q => s'.keep b o (by simpa using h1) (by simp [h2, h3]) q
  refine ⟨slk_own x.sk s' c.hL he.1, s'.ns (by simpa using he.2.1.symm) x.hn, ⟨vm, a1.at fun o q => kk _ o he.2.2.1.symm c.a1 (fun q => (c.fs _ q).2.1 rfl) q, b1⟩, ⟨vu, a2.at fun o q => kk _ o he.2.2.2.symm c.a2 (fun q => (c.fs _ q).2.2.1 rfl) q, b2⟩, ?_, x.m1, x.m2, x.m3, x.m4, x.mi, x.mj⟩
  have hh' : ∀ b ∈ fsOf envs, ∀ o, h.get? b = some o → ∃ o', h'.get? b = some o' ∧ o'.data = o.data := fun b hb o q => by
    obtain ⟨_, o', e', _⟩ := c.fr.fun.mem hb
    obtain ⟨sl, q'⟩ := s'.slot b o (fun r => by rw [List.mem_singleton.mp r, he.1] at e'; cases e') q
    exact ⟨_, q', rfl⟩
  exact x.fr.up' hh'
theorem SInv.neE {e : Addr} {o : Obj} (x : SInv hh envs L' la lb D1 D2 i j ms us h m) (hn : h.get? e = none) : hh.get? e = none ∧ e ≠ L' ∧ e ≠ D1 ∧ e ≠ D2 := by
  refine ⟨?_, ?_, ?_, ?_⟩
  · cases q : hh.get? e with
    | none => rfl
    | some o =>
      obtain ⟨sl, e'⟩ := x.sk.slot e o (by simp) q
      rw [e'] at hn; cases hn
  · intro q; obtain ⟨o, _, _, e', _⟩ := x.hn; rw [q, show h.get? L' = some o from e'] at hn; cases hn
  · intro q; obtain ⟨vm, ⟨n, e'⟩, _⟩ := x.d1; rw [q, e'] at hn; cases hn
  · intro q; obtain ⟨vm, ⟨n, e'⟩, _⟩ := x.d2; rw [q, e'] at hn; cases hn
/-- a list grows -/
theorem SInv.grow1 {ms' : List Str} {vm : List Value} (x : SInv hh envs L' la lb D1 D2 i j ms us h m) (c : SCst hh envs L' la lb D1 D2 xs ys) (k : ∀ b o, b ≠ D1 → h.get? b = some o → h'.get? b = some o) (hD : h'.PlainList D1 (List.toArray vm)) (hv : StrsAre vm ms') : SInv hh envs L' la lb D1 D2 i j ms' us h' m := by
  have nf : ∀ b o, hh.get? b = some o → b ≠ D1 := fun b o e q => by rw [q, c.h1] at e; cases e
  obtain ⟨vu, a2, b2⟩ := x.d2
  exact ⟨⟨fun b o a b' e => k b o (nf _ _ e) (x.sk.keep b o a b' e), fun b o a e => let ⟨sl, e'⟩ := x.sk.slot b o a e; ⟨sl, k b _ (nf _ _ e) e'⟩⟩, x.hn.at' fun o e => k _ o c.a1.symm e, ⟨vm, hD, hv⟩, ⟨vu, a2.at fun o e => k _ o c.a3.symm e, b2⟩, x.fr.up' fun b hb o e => ⟨o, k _ _ (c.fs _ hb).2.1 e, rfl⟩, x.m1, x.m2, x.m3, x.m4, x.mi, x.mj⟩
theorem SInv.grow2 {us' : List Str} {vm : List Value} (x : SInv hh envs L' la lb D1 D2 i j ms us h m) (c : SCst hh envs L' la lb D1 D2 xs ys) (k : ∀ b o, b ≠ D2 → h.get? b = some o → h'.get? b = some o) (hD : h'.PlainList D2 (List.toArray vm)) (hv : StrsAre vm us') : SInv hh envs L' la lb D1 D2 i j ms us' h' m := by
  have nf : ∀ b o, hh.get? b = some o → b ≠ D2 := fun b o e q => by rw [q, c.h2] at e; cases e
  obtain ⟨vu, a2, b2⟩ := x.d1
  exact ⟨⟨fun b o a b' e => k b o (nf _ _ e) (x.sk.keep b o a b' e), fun b o a e => let ⟨sl, e'⟩ := x.sk.slot b o a e; ⟨sl, k b _ (nf _ _ e) e'⟩⟩, x.hn.at' fun o e => k _ o c.a2.symm e, ⟨vu, a2.at fun o e => k _ o c.a3 e, b2⟩, ⟨vm, hD, hv⟩, x.fr.up' fun b hb o e => ⟨o, k _ _ (c.fs _ hb).2.2.1 e, rfl⟩, x.m1, x.m2, x.m3, x.m4, x.mi, x.mj⟩
end
/-- how far the walk is -/
structure SGo (xs ys : List Str) (i j : Nat) (ms us : List Str) (n : Nat) : Prop where
  li : i ≤ xs.length
  lj : j ≤ ys.length
  go : sldGo n (xs.drop i) (ys.drop j) ms us = sldF xs ys
  ln : xs.length - i + (ys.length - j) ≤ n
  lm : ms.length + (xs.length - i) ≤ xs.length
  lu : us.length + (ys.length - j) ≤ ys.length
/-- the exceptions that the body lets out -/
noncomputable def SOut (s : Shared) (hh : Heap) (envs : List Env) (L' la lb D1 D2 : Addr) (xs ys : List Str) (e : Value) (s' : Shared) : Prop :=
  ∃ h tk a i j ms us m n, e = .ref a ∧ s' = { s with heap := h, toks := tk } ∧ SInv hh envs L' la lb D1 D2 i j ms us h m ∧ SGo xs ys i j ms us n ∧ (xs.drop i = [] ∨ ys.drop j = []) ∧ (hh.get? a = none ∧ a ≠ L' ∧ a ≠ D1 ∧ a ≠ D2) ∧
    ((∃ c, ExcNew h a "IndexError" c) ∨ ∃ tb c, ExcHeld h a tb "IndexError" c (rawInt L') ∧ (hh.get? tb = none ∧ tb ≠ L' ∧ tb ≠ D1 ∧ tb ≠ D2))
theorem drop_at {α : Type} {xs : List α} {i : Nat} {x : α} (h : xs[i]? = some x) : i < xs.length ∧ xs.drop i = x :: xs.drop (i + 1) := by
  obtain ⟨hl, rfl⟩ := List.getElem?_eq_some_iff.mp h
  exact ⟨hl, List.drop_eq_getElem_cons hl⟩
section
variable {xs ys ms us : List Str} {i j i' j' n : Nat} {e a : Str}
theorem SGo.step1 (go : SGo xs ys i j ms us (n + 1)) (he : xs[i]? = some e) (ha : ys[j]? = some a) (hlt : slt e a = true) (h1 : i + 1 ≤ i') (h2 : i' ≤ xs.length) (hd : xs.drop i' = (xs.drop (i + 1)).dropWhile (· == e)) : SGo xs ys i' j (ms ++ [e]) us n := by
  obtain ⟨li, hX⟩ := drop_at he
  obtain ⟨lj, hY⟩ := drop_at ha
  have g := go.go
  rw [hX, hY] at g
  unfold sldGo at g
  rw [if_pos hlt] at g
  refine ⟨h2, go.lj, by rw [hd, hY, g], ?_, ?_, go.lu⟩
  · have := go.ln; omega
  · have := go.lm; simp; omega
theorem SGo.step2 (go : SGo xs ys i j ms us (n + 1)) (he : xs[i]? = some e) (ha : ys[j]? = some a) (hn : slt e a ≠ true) (hlt : slt a e = true) (h1 : j + 1 ≤ j') (h2 : j' ≤ ys.length) (hd : ys.drop j' = (ys.drop (j + 1)).dropWhile (· == a)) : SGo xs ys i j' ms (us ++ [a]) n := by
  obtain ⟨li, hX⟩ := drop_at he
  obtain ⟨lj, hY⟩ := drop_at ha
  have g := go.go
  rw [hX, hY] at g
  unfold sldGo at g
  rw [if_neg hn, if_pos hlt] at g
  refine ⟨go.li, h2, by rw [hd, hX, g], ?_, go.lm, ?_⟩
  · have := go.ln; omega
  · have := go.lu; simp; omega
theorem SGo.step3 (go : SGo xs ys i j ms us (n + 1)) (he : xs[i]? = some e) (ha : ys[j]? = some a) (hn : slt e a ≠ true) (hn' : slt a e ≠ true) (h1 : i + 1 ≤ i') (h2 : i' ≤ xs.length) (hd : xs.drop i' = (xs.drop (i + 1)).dropWhile (· == e))
   (h1' : j + 1 ≤ j') (h2' : j' ≤ ys.length) (hd' : ys.drop j' = (ys.drop (j + 1)).dropWhile (· == a)) : SGo xs ys i' j' ms us n := by
  obtain ⟨li, hX⟩ := drop_at he
  obtain ⟨lj, hY⟩ := drop_at ha
  have g := go.go
  rw [hX, hY] at g
  unfold sldGo at g
  rw [if_neg hn, if_neg hn'] at g
  refine ⟨h2, h2', by rw [hd, hd', g], ?_, ?_, ?_⟩
  · have := go.ln; omega
  · have := go.lm; omega
  · have := go.lu; omega
theorem SCst.laL {hh : Heap} {envs : List Env} {L' la lb D1 D2 : Addr} (c : SCst hh envs L' la lb D1 D2 xs ys) : Value.ref la ≠ .ref L' := fun q => by
  injection q with q
  obtain ⟨vs, n, e, _⟩ := c.la
  rw [q, c.hL] at e; cases e
theorem SCst.lbL {hh : Heap} {envs : List Env} {L' la lb D1 D2 : Addr} (c : SCst hh envs L' la lb D1 D2 xs ys) : Value.ref lb ≠ .ref L' := fun q => by
  injection q with q
  obtain ⟨vs, n, e, _⟩ := c.lb
  rw [q, c.hL] at e; cases e
end


end Mine
end
section
open PySem PySem.W PyProof.Rows PySem.Calls
set_option Elab.async false
set_option maxRecDepth 100000
set_option maxHeartbeats 4000000
set_option linter.unusedVariables false
namespace Mine
/-- data whose lists are all new -/
noncomputable def KRdN (hh : Heap) (d : PyData) (v : Value) (h : Heap) : Prop := ∃ as, Reads h v d as ∧ ∀ b ∈ as, hh.get? b = none
theorem sld_spec (w : World) (dp un : Nat) (gd : Option (List Code)) (envs : List Env) (s : Shared) (hh : Heap) (tk0 : Nat) (g : Heap) (la lb : Addr) (vas vbs : Array Value) (na nb : Nat) (xs ys : List Str) (Q E : Value → Shared → Prop)
   (kg : KeepsH g hh) (G : Gl w g) (hla : hh.get? la = some (listOf vas na)) (hlb : hh.get? lb = some (listOf vbs nb)) (gfs : ∀ b ∈ fsOf envs, g.get? b = none) (hfs : FrsAt hh envs)
   (hx : StrsAre vas.toList xs) (hy : StrsAre vbs.toList ys) (hx60 : xs.length ≤ 60) (hy60 : ys.length ≤ 60) (hdp : dp + 3 < recursionLimit) (hun : un + 200 < cLine)
   (hQ : ∀ v h' tk', Slk (fsOf envs) [] hh h' → KRdN hh (.tuple [.list ((sldF xs ys).1.map .str), .list ((sldF xs ys).2.map .str)]) v h' → Q v { s with heap := h', toks := tk' }) :
   wpAny (model PySem.Challenge.rw_in0044_01.row.prog w) (AA dp un gd (some envs)) (call (.ref 83) [.ref la, .ref lb]) Q E { s with heap := hh, toks := tk0 } := by
  obtain ⟨loose, mean, mg, mb, X, T⟩ := G.up kg
  k_dflt (refine' enter_g ?k3 ?k5 ?k6 ?k7 ?k8 ?k9 ?kB ?_ ?c2 ?c3 ?c4 ?c5; (case k3 => exact X); (case k5 => exact T); (case k6 => k_is); (case k7 => k_is); (case k8 => ktr_room); (case k9 => exact BindsTo.of_eq rfl); (case kB => exact locs rfl); (case c2 => exact rfl); (case c3 => exact rfl); (case c4 => exact rfl); (case c5 => decide); k_whole; intro L' h₁ tk k1 gL F' eL htk)
  clear X T
  refine wpAny_execs_cons (wpAny_Assign_two (wpAny_Constant_int (wpAny_assign_Name (wpAny_storeName_local rfl F' (fun h2 hn2 hs2 => wpAny_assign_Name (wpAny_storeName_local rfl hn2 (fun h3 hn3 hs3 => ?_) rfl)) rfl))))
  have ltL : ∀ {b : Addr} {o : Obj}, hh.get? b = some o → b ≠ L' := fun e q => by rw [q, gL] at e; cases e
  have kh3 : KeepsH hh h3 := fun b o e => hs3.extBut b o (ltL e) (hs2.extBut b o (ltL e) (k1 b o e))
  clear hs3 hs2 hn2 F' k1
  refine wpAny_execs_cons (asg_pure (h₀ := h3) PG.emptyList kh_rfl hn3 ?_)
  rintro v h4 h5 tk5 k4 ⟨D1, rfl, hDn, hD4⟩ k5 hn5
  have gD1 : hh.get? D1 = none := noneOf kh3 hDn
  have a1 : D1 ≠ L' := fun q => by obtain ⟨o, _, _, e', _⟩ := hn3; rw [q] at hDn; exact absurd (e'.symm.trans hDn) (by simp)
  have hD5 : h5.PlainList D1 #[] := hD4.at fun o e => k5 _ o a1 e
  have kh5 : KeepsH hh h5 := fun b o e => k5 b o (ltL e) (k4 _ _ (kh3 b o e))
  clear k5 k4 hD4 hDn hn3 kh3
  refine wpAny_execs_cons (asg_pure (h₀ := h5) PG.emptyList kh_rfl hn5 ?_)
  rintro v h6 h7 tk7 k6 ⟨D2, rfl, hDn, hD6⟩ k7 hn7
  have gD2 : hh.get? D2 = none := noneOf kh5 hDn
  have a2 : D2 ≠ L' := fun q => by obtain ⟨o, _, _, e', _⟩ := hn5; rw [q] at hDn; exact absurd (e'.symm.trans hDn) (by simp)
  have a3 : D1 ≠ D2 := fun q => by obtain ⟨n, e'⟩ := hD5; rw [← q] at hDn; exact absurd (e'.symm.trans hDn) (by simp)
  have hD7 : h7.PlainList D2 #[] := hD6.at fun o e => k7 _ o a2 e
  have hD7' : h7.PlainList D1 #[] := hD5.at fun o e => k7 _ o a1 (k6 _ _ e)
  have kh7 : KeepsH hh h7 := fun b o e => k7 b o (ltL e) (k6 _ _ (kh5 b o e))
  clear k7 k6 hD6 hDn hn5 kh5 hD5
  have cst : SCst hh envs L' la lb D1 D2 xs ys := ⟨gL, gD1, gD2, a1, a2, a3, ⟨vas, na, hla, hx⟩, ⟨vbs, nb, hlb, hy⟩, hfs⟩
  have si0 : SInv hh envs L' la lb D1 D2 0 0 [] [] h7 _ := ⟨.of fun b o _ e => kh7 _ _ e, hn7, ⟨[], hD7', .nil⟩, ⟨[], hD7, .nil⟩, hfs.up fun b o es ep e d => ⟨o, es, ep, kh7 _ _ e, d⟩, rfl, rfl, rfl, rfl, ⟨_, rfl⟩, ⟨_, rfl⟩⟩
  have gkeep : ∀ {h' : Heap}, Slk (fsOf envs) [] hh h' → KeepsH g h' := fun sk b o e => sk.keep b o (by simp) (fun hm => by rw [gfs b hm] at e; cases e) (kg b o e)
  clear hD7 hD7' kh7 hn7 ltL
  refine wpAny_execs_cons (wpAny_mono (Q := fun fl s₃ => fl = .next ∧ ∃ h tk m, s₃ = { s with heap := h, toks := tk } ∧ ∃ i j, SInv hh envs L' la lb D1 D2 i j (sldF xs ys).1 (sldF xs ys).2 h m)
    (gwhileO (fun n s' => ∃ h tk m i j ms us, s' = { s with heap := h, toks := tk } ∧ SInv hh envs L' la lb D1 D2 i j ms us h m ∧ SGo xs ys i j ms us n) ?turn (xs.length + ys.length)
      ⟨h7, tk7, _, 0, 0, [], [], rfl, si0, ⟨Nat.zero_le _, Nat.zero_le _, rfl, by simp, by simp, by simp⟩⟩ (by passes_own)) ?fin (fun _ _ e => e))
  case fin =>
    rintro fl s₃ ⟨rfl, h, tk, m, rfl, i, j, si⟩
    obtain ⟨vm, d1, q1⟩ := si.d1
    obtain ⟨vu, d2, q2⟩ := si.d2
    obtain ⟨c1, e1⟩ := d1
    obtain ⟨c2, e2⟩ := d2
    refine wpAny_execs_cons (wpAny_Return_some (PG.use (g := h) (PG.tuple2 (K := fun v _ => v = .ref D1) (K' := fun v _ => v = .ref D2) (PG.name si.hn si.m3) (fun _ _ _ _ e => e) (PG.name si.hn si.m4) (fun _ _ _ _ e => e)) kh_rfl fun v h8 tk8 k8 r8 => hQ v h8 tk8 (si.sk.trans (.of fun b o _ e => k8 _ _ e)) ?_))
    obtain ⟨a, v1, v2, rfl, _, ⟨o, eo, co, n, dd⟩, rfl, rfl⟩ := r8
    refine ⟨_, .tuple eo co dd (.cons (reads_list_at (k8 _ _ e1) rfl rfl (q1.reads h8)) (.cons (reads_list_at (k8 _ _ e2) rfl rfl (q2.reads h8)) .nil)), fun b hb => ?_⟩
    simp only [List.cons_append, List.nil_append, List.append_nil, List.mem_cons, List.not_mem_nil, or_false] at hb
    rcases hb with rfl | rfl
    · exact cst.h1
    · exact cst.h2
  case turn =>
    rintro n s' ⟨h, tk, m, i, j, ms, us, rfl, si, go⟩ Q9 N9 E9 hE9 hnext9 hbrk9 _ _
    refine isTrue_plain (PG.use (g := h) PG.bool kh_rfl fun v h1 tk1 k1 hv => ?_)
    obtain rfl : v = .bool true := hv
    refine wpAny_truthy_bool ?_
    simp only [if_true]
    have si1 := si.keeps cst k1
    clear si k1
    refine wpAny_execs_cons (try_gen (SOut s hh envs L' la lb D1 D2 xs ys) ?out ?body)
    case out =>
      rintro e s₁ ⟨h, tk, a, i, j, ms, us, m, n, rfl, rfl, si, go, done, na, hex⟩
      have fin : ∀ {h : Heap} {m : Str → Option Value}, SInv hh envs L' la lb D1 D2 i j (ms ++ xs.drop i) (us ++ ys.drop j) h m → SInv hh envs L' la lb D1 D2 i j (sldF xs ys).1 (sldF xs ys).2 h m := fun si => by
        rw [← go.go, sldGo_done done]; exact si
      have l1 := go.lm
      have l2 := go.lu
      clear go
      rcases hex with ⟨c, x⟩ | ⟨tb, c, x, ntb⟩
      · refine caught_new (T := "IndexError") (L := L') (outer := envs) rfl (frs_cons (by show ScopeKind.function ≠ ScopeKind.module; decide) rfl si.hn si.fr) rfl x (by decide +kernel) (by decide +kernel) (by decide +kernel) (fun h11 sk => Gl.built (G.up (gkeep (si.exc cst sk na).sk)) e_IE b_IE) (fun h11 tk11 E' sk => ?suite1)
        case suite1 =>
          have si' := si.exc cst sk na
          clear sk x si
          obtain ⟨ti, mi⟩ := si'.mi
          obtain ⟨tj, mj⟩ := si'.mj
          obtain ⟨vm, d1, q1⟩ := si'.d1
          refine wpAny_execs_cons ?_
          with_reducible refine' extend_stmt (xs := ms) (ys := xs.drop i) (D := D1) ?pl ?nm d1 q1 ?arg ?sz1 ?sz2 ?cont ?he ?h1 ?hi ?hs
          case nm => exact PG.name (x := Str.ofString "missing") si'.hn si'.m3
          case he => rfl
          case h1 => rfl
          case hi => rfl
          case hs => rfl
          case arg => exact PG.dropS (PG.nameK (x := Str.ofString "expected") si'.hn si'.m1 (si'.kla cst) upSs) (PG.nameK (x := Str.ofString "i") si'.hn mi ⟨_, rfl⟩ upI) (by omega)
          case sz1 => omega
          case sz2 => simp; omega
          case cont =>
            intro h12 h13 tk13 vs' k12 D13 q13 k13
            have si2 := (si'.keeps cst k12).grow1 cst k13 D13 q13
            obtain ⟨vu, d2, q2⟩ := si2.d2
            refine wpAny_execs_cons ?_
            with_reducible refine' extend_stmt (xs := us) (ys := ys.drop j) (D := D2) ?plb ?nmb d2 q2 ?argb ?sz1b ?sz2b ?contb ?heb ?h1b ?hib ?hsb
            case nmb => exact PG.name (x := Str.ofString "unexpected") si2.hn si2.m4
            case heb => rfl
            case h1b => rfl
            case hib => rfl
            case hsb => rfl
            case argb => exact PG.dropS (PG.nameK (x := Str.ofString "actual") si2.hn si2.m2 (si2.klb cst) upSs) (PG.nameK (x := Str.ofString "j") si2.hn mj ⟨_, rfl⟩ upI) (by omega)
            case sz1b => omega
            case sz2b => simp; omega
            case contb =>
              intro h14 h15 tk15 vs'' k14 D15 q15 k15
              have si3 := (si2.keeps cst k14).grow2 cst k15 D15 q15
              exact wpAny_execs_cons (wpAny_Break (hbrk9 _ ⟨rfl, h15, tk15, m, rfl, i, j, fin si3⟩))
      · refine caught_again (L := L') (T := "IndexError") rfl x (by decide +kernel) (by decide +kernel) (by decide +kernel) (fun h11 k => Gl.built (G.up (gkeep (si.but cst k (fun b q => by rw [List.mem_singleton.mp q]; exact ntb)).sk)) e_IE b_IE) (fun h11 tk11 E' k => ?suite2)
        case suite2 =>
          have si' := si.but cst k (fun b q => by rw [List.mem_singleton.mp q]; exact ntb)
          clear k x si
          obtain ⟨ti, mi⟩ := si'.mi
          obtain ⟨tj, mj⟩ := si'.mj
          obtain ⟨vm, d1, q1⟩ := si'.d1
          refine wpAny_execs_cons ?_
          with_reducible refine' extend_stmt (xs := ms) (ys := xs.drop i) (D := D1) ?plc ?nmc d1 q1 ?argc ?sz1c ?sz2c ?contc ?hec ?h1c ?hic ?hsc
          case nmc => exact PG.name (x := Str.ofString "missing") si'.hn si'.m3
          case hec => rfl
          case h1c => rfl
          case hic => rfl
          case hsc => rfl
          case argc => exact PG.dropS (PG.nameK (x := Str.ofString "expected") si'.hn si'.m1 (si'.kla cst) upSs) (PG.nameK (x := Str.ofString "i") si'.hn mi ⟨_, rfl⟩ upI) (by omega)
          case sz1c => omega
          case sz2c => simp; omega
          case contc =>
            intro h12 h13 tk13 vs' k12 D13 q13 k13
            have si2 := (si'.keeps cst k12).grow1 cst k13 D13 q13
            obtain ⟨vu, d2, q2⟩ := si2.d2
            refine wpAny_execs_cons ?_
            with_reducible refine' extend_stmt (xs := us) (ys := ys.drop j) (D := D2) ?plbc ?nmbc d2 q2 ?argbc ?sz1bc ?sz2bc ?contbc ?hebc ?h1bc ?hibc ?hsbc
            case nmbc => exact PG.name (x := Str.ofString "unexpected") si2.hn si2.m4
            case hebc => rfl
            case h1bc => rfl
            case hibc => rfl
            case hsbc => rfl
            case argbc => exact PG.dropS (PG.nameK (x := Str.ofString "actual") si2.hn si2.m2 (si2.klb cst) upSs) (PG.nameK (x := Str.ofString "j") si2.hn mj ⟨_, rfl⟩ upI) (by omega)
            case sz1bc => omega
            case sz2bc => simp; omega
            case contbc =>
              intro h14 h15 tk15 vs'' k14 D15 q15 k15
              have si3 := (si2.keeps cst k14).grow2 cst k15 D15 q15
              exact wpAny_execs_cons (wpAny_Break (hbrk9 _ ⟨rfl, h15, tk15, m, rfl, i, j, fin si3⟩))
    case body =>
      intro E₀ hPE hPA hOut
      obtain ⟨ti, mi⟩ := si1.mi
      obtain ⟨tj, mj⟩ := si1.mj
      have li := go.li
      have lj := go.lj
      refine wpAny_execs_cons (wpAny_Assign_Name (at_or (c := .none) (xs := xs) (i := i) (PG.nameK si1.hn si1.m1 (si1.kla cst) upSs) (PG.nameK si1.hn mi ⟨_, rfl⟩ upI) (by omega) (HCtx.none rfl) ?v1 ?x1))
      case x1 =>
        intro h2 tk2 a hle k2 hn x
        exact hOut _ _ ⟨h2, tk2, a, i, j, ms, us, m, n, rfl, rfl, si1.keeps cst k2, go, .inl (List.drop_eq_nil_of_le hle), si1.neE (o := default) hn, .inl ⟨_, x⟩⟩
      case v1 =>
      rintro e h2 tk2 v he k2 ⟨te, rfl⟩
      refine wpAny_storeName_local rfl (si1.hn.keeps k2) (fun h3 hn3 hs3 => ?_) rfl
      have si3 : SInv hh envs L' la lb D1 D2 i j ms us h3 _ := (si1.keeps cst k2).locals cst (fun b o hb e => hs3.extBut b o (fun q => hb (List.mem_singleton.mpr q)) e) hn3 (by rintro z (rfl | rfl | rfl | rfl) <;> rfl) ⟨ti, mi⟩ ⟨tj, mj⟩
      clear hs3 hn3 k2 si1
      refine wpAny_execs_cons (wpAny_Assign_Name (at_or (c := .none) (xs := ys) (i := j) (PG.nameK si3.hn si3.m2 (si3.klb cst) upSs) (PG.nameK si3.hn mj ⟨_, rfl⟩ upI) (by omega) (HCtx.none rfl) ?v2 ?x2))
      case x2 =>
        intro h2 tk2 a hle k2 hn x
        exact hOut _ _ ⟨h2, tk2, a, i, j, ms, us, _, n, rfl, rfl, si3.keeps cst k2, go, .inr (List.drop_eq_nil_of_le hle), si3.neE (o := default) hn, .inl ⟨_, x⟩⟩
      case v2 =>
      rintro a h4 tk4 v ha k4 ⟨ta, rfl⟩
      refine wpAny_storeName_local rfl (si3.hn.keeps k4) (fun h5 hn5 hs5 => ?_) rfl
      have si5 : SInv hh envs L' la lb D1 D2 i j ms us h5 _ := (si3.keeps cst k4).locals cst (fun b o hb e => hs5.extBut b o (fun q => hb (List.mem_singleton.mpr q)) e) hn5 (by rintro z (rfl | rfl | rfl | rfl) <;> rfl) ⟨ti, mi⟩ ⟨tj, mj⟩
      clear hs5 hn5 k4 si3
      obtain ⟨hil, _⟩ := drop_at he
      obtain ⟨hjl, _⟩ := drop_at ha
      obtain ⟨n, rfl⟩ : ∃ n', n = n' + 1 := ⟨n - 1, by have := go.ln; omega⟩
      refine wpAny_execs_cons (wpAny_If (PT.use (PT.cmp (PG.nameK si5.hn rfl ⟨te, rfl⟩ (upS (x := e))) (PG.nameK si5.hn rfl ⟨ta, rfl⟩ (upS (x := a))) upS fun _ _ _ _ ka kb => ps_ltS ka kb) kh_rfl fun h6 tk6 k6 => ?_))
      have si6 := si5.keeps cst k6
      clear si5 k6
      by_cases hlt : slt e a = true
      · rw [if_pos hlt]
        obtain ⟨vm, d1, q1⟩ := si6.d1
        refine wpAny_execs_cons ?_
        have hml := q1.length
        have hlm := go.lm
        with_reducible refine' append_stmt (K := fun v _ => v = .str e te) (vs := List.toArray vm) (D := D1) ?ppl ?pnm d1 ?parg ?psz ?pcont ?phe ?ph1 ?phi ?phs
        case pnm => exact PG.name (x := Str.ofString "missing") si6.hn si6.m3
        case phe => rfl
        case ph1 => rfl
        case phi => rfl
        case phs => rfl
        case parg => exact PG.name (x := Str.ofString "e") si6.hn rfl
        case psz => rw [List.size_toArray, PySem.sizeLine_eq]; omega
        case pcont =>
          intro v h7 h8 tk8 k7 hv D8 k8
          subst hv
          have si8 := (si6.keeps cst k7).grow1 (vm := vm ++ [.str e te]) (ms' := ms ++ [e]) cst k8 (by simpa using D8) (strsAre_snoc q1 e te)
          clear si6 k7 k8 D8 d1
          refine wpAny_execs_cons (incr si8.hn mi (fun h9 tk9 t9 k9 hn9 => ?_))
          have si9 : SInv hh envs L' la lb D1 D2 (i + 1) j (ms ++ [e]) us h9 _ := si8.locals cst k9 hn9 (by rintro z (rfl | rfl | rfl | rfl) <;> rfl) ⟨t9, rfl⟩ ⟨tj, mj⟩
          refine wpAny_execs_cons (skip_loop (nm := Str.ofString "expected") (ctr := Str.ofString "i") (el := Str.ofString "e") (c := .none) (xs := xs) (x := e) (i := i + 1) (t := t9) si9.hn si9.m1 (si9.kla cst) rfl rfl ⟨te, rfl⟩ (by omega) (by omega) (by decide) (by decide) (HCtx.none rfl) (by intro q; cases q) cst.laL ?sn ?sx hPE)
          case sn =>
            intro h10 tk10 i' t' m' g1 g2 g3 kb hn mi' hz
            exact wpAny_execs_nil (wpAny_execs_nil (wpAny_execs_nil (hnext9 n _ (Nat.lt_succ_self _) ⟨h10, tk10, m', i', j, _, us, rfl, si9.locals cst kb hn (by rintro z (rfl | rfl | rfl | rfl) <;> exact hz _ (by decide)) ⟨t', mi'⟩ ⟨tj, (hz _ (by decide)).trans mj⟩, go.step1 he ha hlt g1 (by omega) g3⟩)))
          case sx =>
            intro h10 tk10 ex t' m' g1 kb hn mi' hz hne x
            exact hOut _ _ ⟨h10, tk10, ex, xs.length, j, _, us, m', n, rfl, rfl, si9.locals cst kb hn (by rintro z (rfl | rfl | rfl | rfl) <;> exact hz _ (by decide)) ⟨t', mi'⟩ ⟨tj, (hz _ (by decide)).trans mj⟩, go.step1 he ha hlt (by omega) (Nat.le_refl _) (by rw [g1]; simp), .inl (by simp), si9.neE (o := default) hne, .inl ⟨_, x⟩⟩
      · rw [if_neg hlt]
        refine wpAny_execs_cons (wpAny_If (PT.use (PT.cmp (PG.nameK si6.hn rfl ⟨te, rfl⟩ (upS (x := e))) (PG.nameK si6.hn rfl ⟨ta, rfl⟩ (upS (x := a))) upS fun _ _ _ _ ka kb => ps_gtS ka kb) kh_rfl fun h7 tk7 k7 => ?_))
        have si7 := si6.keeps cst k7
        clear si6 k7
        by_cases hgt : slt a e = true
        · rw [if_pos hgt]
          obtain ⟨vu, d2, q2⟩ := si7.d2
          refine wpAny_execs_cons ?_
          have hul := q2.length
          have hlu := go.lu
          with_reducible refine' append_stmt (K := fun v _ => v = .str a ta) (vs := List.toArray vu) (D := D2) ?rpl ?rnm d2 ?rarg ?rsz ?rcont ?rhe ?rh1 ?rhi ?rhs
          case rnm => exact PG.name (x := Str.ofString "unexpected") si7.hn si7.m4
          case rhe => rfl
          case rh1 => rfl
          case rhi => rfl
          case rhs => rfl
          case rarg => exact PG.name (x := Str.ofString "a") si7.hn rfl
          case rsz => rw [List.size_toArray, PySem.sizeLine_eq]; omega
          case rcont =>
            intro v h7 h8 tk8 k7 hv D8 k8
            subst hv
            have si8 := (si7.keeps cst k7).grow2 (vm := vu ++ [.str a ta]) (us' := us ++ [a]) cst k8 (by simpa using D8) (strsAre_snoc q2 a ta)
            clear si7 k7 k8 D8 d2
            refine wpAny_execs_cons (incr si8.hn mj (fun h9 tk9 t9 k9 hn9 => ?_))
            have si9 : SInv hh envs L' la lb D1 D2 i (j + 1) ms (us ++ [a]) h9 _ := si8.locals cst k9 hn9 (by rintro z (rfl | rfl | rfl | rfl) <;> rfl) ⟨ti, mi⟩ ⟨t9, rfl⟩
            refine wpAny_execs_cons (skip_loop (nm := Str.ofString "actual") (ctr := Str.ofString "j") (el := Str.ofString "a") (c := .none) (xs := ys) (x := a) (i := j + 1) (t := t9) si9.hn si9.m2 (si9.klb cst) rfl rfl ⟨ta, rfl⟩ (by omega) (by omega) (by decide) (by decide) (HCtx.none rfl) (by intro q; cases q) cst.lbL ?un ?ux hPE)
            case un =>
              intro h10 tk10 j' t' m' g1 g2 g3 kb hn mj' hz
              exact wpAny_execs_nil (wpAny_execs_nil (wpAny_execs_nil (wpAny_execs_nil (hnext9 n _ (Nat.lt_succ_self _) ⟨h10, tk10, m', i, j', ms, _, rfl, si9.locals cst kb hn (by rintro z (rfl | rfl | rfl | rfl) <;> exact hz _ (by decide)) ⟨ti, (hz _ (by decide)).trans mi⟩ ⟨t', mj'⟩, go.step2 he ha hlt hgt g1 (by omega) g3⟩))))
            case ux =>
              intro h10 tk10 ex t' m' g1 kb hn mj' hz hne x
              exact hOut _ _ ⟨h10, tk10, ex, i, ys.length, ms, _, m', n, rfl, rfl, si9.locals cst kb hn (by rintro z (rfl | rfl | rfl | rfl) <;> exact hz _ (by decide)) ⟨ti, (hz _ (by decide)).trans mi⟩ ⟨t', mj'⟩, go.step2 he ha hlt hgt (by omega) (Nat.le_refl _) (by rw [g1]; simp), .inr (by simp), si9.neE (o := default) hne, .inl ⟨_, x⟩⟩
        · rw [if_neg hgt]
          refine wpAny_execs_cons (incr si7.hn mi (fun h9 tk9 t9 k9 hn9 => ?_))
          have si9 : SInv hh envs L' la lb D1 D2 (i + 1) j ms us h9 _ := si7.locals cst k9 hn9 (by rintro z (rfl | rfl | rfl | rfl) <;> rfl) ⟨t9, rfl⟩ ⟨tj, mj⟩
          clear si7 k9
          refine wpAny_execs_cons (finally_gen
            (fun ev s' => ∃ h tk x t m, ev = .ref x ∧ s' = { s with heap := h, toks := tk } ∧ SInv hh envs L' la lb D1 D2 xs.length j ms us h m ∧ (xs.drop (i + 1)).dropWhile (· == e) = [] ∧ m (Str.ofString "a") = some (.str a ta) ∧ m (Str.ofString "i") = some (.int (xs.length : Int) t) ∧ m (Str.ofString "j") = some (.int (j : Int) tj) ∧ (hh.get? x = none ∧ x ≠ L' ∧ x ≠ D1 ∧ x ≠ D2) ∧ ExcNew h x "IndexError" .none)
            (fun s' => ∃ h tk i' t m, s' = { s with heap := h, toks := tk } ∧ SInv hh envs L' la lb D1 D2 i' j ms us h m ∧ i + 1 ≤ i' ∧ i' ≤ xs.length ∧ xs.drop i' = (xs.drop (i + 1)).dropWhile (· == e) ∧ m (Str.ofString "a") = some (.str a ta) ∧ m (Str.ofString "i") = some (.int (i' : Int) t) ∧ m (Str.ofString "j") = some (.int (j : Int) tj))
            ?fP ?fN hPE ?fB)
          case fB =>
            intro E₁ hPE₁ hO₁
            refine wpAny_execs_cons (skip_loop (nm := Str.ofString "expected") (ctr := Str.ofString "i") (el := Str.ofString "e") (c := .none) (xs := xs) (x := e) (i := i + 1) (t := t9) si9.hn si9.m1 (si9.kla cst) rfl rfl ⟨te, rfl⟩ (by omega) (by omega) (by decide) (by decide) (HCtx.none rfl) (by intro q; cases q) cst.laL ?fn ?fx hPE₁)
            case fn =>
              intro h10 tk10 i' t' m' g1 g2 g3 kb hn mi' hz
              exact wpAny_execs_nil ⟨rfl, h10, tk10, i', t', m', rfl, si9.locals cst kb hn (by rintro z (rfl | rfl | rfl | rfl) <;> exact hz _ (by decide)) ⟨t', mi'⟩ ⟨tj, (hz _ (by decide)).trans mj⟩, g1, by omega, g3, (hz _ (by decide)).trans rfl, mi', (hz _ (by decide)).trans mj⟩
            case fx =>
              intro h10 tk10 ex t' m' g1 kb hn mi' hz hne x
              exact hO₁ _ _ ⟨h10, tk10, ex, t', m', rfl, rfl, si9.locals cst kb hn (by rintro z (rfl | rfl | rfl | rfl) <;> exact hz _ (by decide)) ⟨t', mi'⟩ ⟨tj, (hz _ (by decide)).trans mj⟩, g1, (hz _ (by decide)).trans rfl, mi', (hz _ (by decide)).trans mj, si9.neE (o := default) hne, x⟩
          case fN =>
            rintro s₁ ⟨h10, tk10, i', t', m', rfl, si10, g1, g2, g3, ma, mi', mj'⟩
            refine wpAny_execs_cons (incr si10.hn mj' (fun h11 tk11 t11 k11 hn11 => ?_))
            have si11 : SInv hh envs L' la lb D1 D2 i' (j + 1) ms us h11 _ := si10.locals cst k11 hn11 (by rintro z (rfl | rfl | rfl | rfl) <;> rfl) ⟨t', mi'⟩ ⟨t11, rfl⟩
            refine wpAny_execs_cons (skip_loop (nm := Str.ofString "actual") (ctr := Str.ofString "j") (el := Str.ofString "a") (c := .none) (xs := ys) (x := a) (i := j + 1) (t := t11) si11.hn si11.m2 (si11.klb cst) rfl ma ⟨ta, rfl⟩ (by omega) (by omega) (by decide) (by decide) (HCtx.none rfl) (by intro q; cases q) cst.lbL ?gn ?gx hPE)
            case gn =>
              intro h12 tk12 j' t12 m12 f1 f2 f3 kb hn mj'' hz
              exact wpAny_execs_nil (wpAny_execs_nil (wpAny_execs_nil (wpAny_execs_nil (wpAny_execs_nil (hnext9 n _ (Nat.lt_succ_self _) ⟨h12, tk12, m12, i', j', ms, us, rfl, si11.locals cst kb hn (by rintro z (rfl | rfl | rfl | rfl) <;> exact hz _ (by decide)) ⟨t', (hz _ (by decide)).trans mi'⟩ ⟨t12, mj''⟩, go.step3 he ha hlt hgt g1 g2 g3 f1 (by omega) f3⟩)))))
            case gx =>
              intro h12 tk12 ex t12 m12 f1 kb hn mj'' hz hne x
              exact hOut _ _ ⟨h12, tk12, ex, i', ys.length, ms, us, m12, n, rfl, rfl, si11.locals cst kb hn (by rintro z (rfl | rfl | rfl | rfl) <;> exact hz _ (by decide)) ⟨t', (hz _ (by decide)).trans mi'⟩ ⟨t12, mj''⟩, go.step3 he ha hlt hgt g1 g2 g3 (by omega) (Nat.le_refl _) (by rw [f1]; simp), .inr (by simp), si11.neE (o := default) hne, .inl ⟨_, x⟩⟩
          case fP =>
            rintro ev s₁ ⟨h10, tk10, ex, t', m', rfl, rfl, si10, g1, ma, mi', mj', nx, x⟩
            refine finally_new (L := L') (outer := envs) rfl (frs_cons (by show ScopeKind.function ≠ ScopeKind.module; decide) rfl si10.hn si10.fr) rfl x fun h11 tb sk htb x11 => ?_
            have si11 := si10.exc cst sk nx
            have ntb := si10.neE (o := default) htb
            have tbx : tb ≠ ex := fun q => by obtain ⟨o, t, e', _⟩ := x; rw [q, e'] at htb; cases htb
            clear sk si10
            refine wpAny_execs_cons (incr si11.hn mj' (fun h12 tk12 t12 k12 hn12 => ?_))
            have si12 : SInv hh envs L' la lb D1 D2 xs.length (j + 1) ms us h12 _ := si11.locals cst k12 hn12 (by rintro z (rfl | rfl | rfl | rfl) <;> rfl) ⟨t', mi'⟩ ⟨t12, rfl⟩
            have x12 : ExcHeld h12 ex tb "IndexError" .none .none := x11.keep (fun o e => k12 _ _ (fun q => nx.2.1 (List.mem_singleton.mp q)) e) (fun o e => k12 _ _ (fun q => ntb.2.1 (List.mem_singleton.mp q)) e)
            refine wpAny_execs_cons (skip_loop (nm := Str.ofString "actual") (ctr := Str.ofString "j") (el := Str.ofString "a") (c := .ref ex) (xs := ys) (x := a) (i := j + 1) (t := t12) si12.hn si12.m2 (si12.klb cst) rfl ma ⟨ta, rfl⟩ (by omega) (by omega) (by decide) (by decide) (HCtx.held x12) (by intro q; injection q with q; exact nx.2.1 q) cst.lbL ?hn ?hx PassesOwn.looking)
            case hn =>
              intro h13 tk13 j' t13 m13 f1 f2 f3 kb hn mj'' hz
              have si13 : SInv hh envs L' la lb D1 D2 xs.length j' ms us h13 _ := si12.locals cst kb hn (by rintro z (rfl | rfl | rfl | rfl) <;> exact hz _ (by decide)) ⟨t', (hz _ (by decide)).trans mi'⟩ ⟨t13, mj''⟩
              refine wpAny_execs_nil (pass_on (L := L') rfl (x12.keep (fun o e => kb _ _ (fun q => nx.2.1 (List.mem_singleton.mp q)) e) (fun o e => kb _ _ (fun q => ntb.2.1 (List.mem_singleton.mp q)) e)) fun h14 k14 x14 => ?_)
              exact hOut _ _ ⟨h14, tk13, ex, xs.length, j', ms, us, m13, n, rfl, rfl, si13.but cst k14 (fun b q => by rw [List.mem_singleton.mp q]; exact ntb), go.step3 he ha hlt hgt (by omega) (Nat.le_refl _) (by rw [g1]; simp) f1 (by omega) f3, .inl (by simp), nx, .inr ⟨tb, _, x14, ntb⟩⟩
            case hx =>
              intro h13 tk13 ex2 t13 m13 f1 kb hn mj'' hz hne x13
              refine hPA _ _ _ (hOut _ _ ⟨h13, tk13, ex2, xs.length, ys.length, ms, us, m13, n, rfl, rfl, si12.locals cst kb hn (by rintro z (rfl | rfl | rfl | rfl) <;> exact hz _ (by decide)) ⟨t', (hz _ (by decide)).trans mi'⟩ ⟨t13, mj''⟩, go.step3 he ha hlt hgt (by omega) (Nat.le_refl _) (by rw [g1]; simp) (by omega) (Nat.le_refl _) (by rw [f1]; simp), .inl (by simp), si12.neE (o := default) hne, .inl ⟨_, x13⟩⟩)


end Mine
end
section
open PySem PySem.W PyProof.Rows PySem.Calls
set_option Elab.async false
set_option maxRecDepth 100000
set_option linter.unusedVariables false
namespace Mine
/-- an exception with its fields -/
noncomputable def ExcO (h : Heap) (e : Addr) (X : String) (t tbv c : Value) (b : Bool) : Prop := ∃ ob, h.get? e = some ob ∧ ob.cls = .type X ∧ ob.data = .fields #[t, tbv, c, .none, .bool b, .none]
/-- … that was noted -/
noncomputable def ExcT (h : Heap) (e tb : Addr) (X : String) (t c : Value) (b : Bool) (fl : Value) : Prop := ExcO h e X t (.ref tb) c b ∧ tb ≠ e ∧ ∃ oT ts, h.get? tb = some oT ∧ oT.data = .fields ts ∧ ts[3]? = some fl
theorem ExcO.keep {h h' : Heap} {e : Addr} {X : String} {t tbv c : Value} {b : Bool} (x : ExcO h e X t tbv c b) (k : ∀ o, h.get? e = some o → h'.get? e = some o) : ExcO h' e X t tbv c b := by
  obtain ⟨ob, a, r⟩ := x
  exact ⟨ob, k _ a, r⟩
theorem ExcT.keep {h h' : Heap} {e tb : Addr} {X : String} {t c fl : Value} {b : Bool} (x : ExcT h e tb X t c b fl) (k : ∀ o, h.get? e = some o → h'.get? e = some o) (k' : ∀ o, h.get? tb = some o → h'.get? tb = some o) : ExcT h' e tb X t c b fl := by
  obtain ⟨a, n, oT, ts, q, r⟩ := x
  exact ⟨a.keep k, n, oT, ts, k' _ q, r⟩
section
variable {M : Model} {A : Around} {E : Value → Shared → Prop} {s : Shared}
theorem note_core {env : Env} {outer : List Env} {L e : Addr} {X : String} {t c head : Value} {b hn : Bool} {Q : Unit → Shared → Prop} (hfr : A.frames = some (env :: outer)) (hl : FrsAt s.heap (env :: outer)) (hf : env.frame = some L) (x : ExcO s.heap e X t head c b)
    (h : ∀ h' tb, Slk ((env :: outer).filterMap (·.frame)) [e] s.heap h' → s.heap.get? tb = none → ExcT h' e tb X t c b (rawInt L) → Q () { s with heap := h' }) :
    wpAny M A (do setField (.ref e) 1 (← EntryCells.newEntry head (← frameOf env) .none (rawInt L) .none (← entryPlaceOf L hn))) Q E s := by
  obtain ⟨ob, he, hcl, hd⟩ := x
  have hff := hl.fun
  have hene : e ∉ (env :: outer).filterMap (·.frame) := fun hm => by
    obtain ⟨_, o, ho, hnf⟩ := hff.mem hm
    rw [he] at ho; injection ho with ho; subst ho; exact hnf _ hd
  refine wpAny_bind (wpAny_frameOf_fun hfr hff hf fun h₁ hs₁ => ?_)
  refine wpAny_bind (wpAny_entryPlaceOf fun pl hpl => ?_)
  unfold EntryCells.newEntry newFields
  refine wpAny_bind (wpAny_newObj_type ?_ (hpl.sizeOk5 _ _ _ _ _))
  have he₁ : h₁.get? e = some ob := (hs₁.2.1 e hene).trans he
  generalize hT : ({ cls := .type "traceback", dict := none, data := .fields ([head, .ref L, .none, rawInt L, .none] ++ (if pl.isEmpty then List.replicate 6 Value.none else pl)).toArray } : Obj) = oT
  have he₂ := Heap.get?_push_of_some (h := h₁) oT he₁
  refine wpAny_setField he₂ hd (by show 1 < 6; decide) ?_
  have hTe : h₁.objs.size ≠ e := Nat.ne_of_gt (Heap.lt_size he₁)
  have hd₃ := Obj.data_mapFields hd (·.setIfInBounds 1 (Value.ref h₁.objs.size))
  have he₃ := Heap.get?_update_self (Obj.mapFields (·.setIfInBounds 1 (Value.ref h₁.objs.size))) he₂ (Obj.isFreed_of_fields hd₃)
  have hT₃ := (Heap.get?_update_other (h₁.push oT) (Obj.mapFields (·.setIfInBounds 1 (Value.ref h₁.objs.size))) (Ne.symm hTe)).trans (Heap.get?_push_size h₁ (by subst hT; rfl))
  have keep : ∀ b o, b ≠ e → h₁.get? b = some o → ((h₁.push oT).update e (Obj.mapFields (·.setIfInBounds 1 (Value.ref h₁.objs.size)))).get? b = some o := fun b o hbe hb => by
    rw [Heap.get?_update_other _ _ (Ne.symm hbe)]
    exact Heap.get?_push_of_some _ hb
  refine h _ h₁.objs.size ⟨fun b o hm hfs eb => keep b o (fun q => hm (by simp [q])) ((hs₁.2.1 b hfs).trans eb), fun b o hm eb => ?_⟩ (Heap.get?_none_of_le (by rw [hs₁.1]; exact Nat.le_refl _)) ⟨⟨_, he₃, (Obj.cls_mapFields _ _).trans hcl, hd₃⟩, hTe, oT, _, hT₃, by subst hT; rfl, ?_⟩
  · obtain ⟨sl, hs⟩ := hs₁.2.2 b o eb
    exact ⟨sl, keep b _ (fun q => hm (by simp [q])) hs⟩
  · first | (simp; done) | (rcases hpl with rfl | ⟨_, _, _, _, _, _, _, rfl⟩ <;> simp)
/-- the first note -/
theorem note1 {env : Env} {outer : List Env} {L e : Addr} {X : String} {t c : Value} {b : Bool} {Q : Unit → Shared → Prop} (hfr : A.frames = some (env :: outer)) (hl : FrsAt s.heap (env :: outer)) (hf : env.frame = some L) (x : ExcO s.heap e X t .none c b)
    (h : ∀ h' tb, Slk ((env :: outer).filterMap (·.frame)) [e] s.heap h' → s.heap.get? tb = none → ExcT h' e tb X t c b (rawInt L) → Q () { s with heap := h' }) : wpAny M A (noteFrame (.ref e) env) Q E s := by
  obtain ⟨ob, he, hcl, hd⟩ := id x
  unfold noteFrame
  simp only [hf]
  refine wpAny_bind (wpAny_field he hd (x := .none) rfl ?_)
  rw [if_neg (by decide)]
  exact note_core hfr hl hf x h
/-- the note of the next frame -/
theorem note2 {env : Env} {outer : List Env} {L e tb₀ : Addr} {X : String} {t c : Value} {b : Bool} {Q : Unit → Shared → Prop} (hfr : A.frames = some (env :: outer)) (hl : FrsAt s.heap (env :: outer)) (hf : env.frame = some L) (x : ExcT s.heap e tb₀ X t c b .none)
    (h : ∀ h' tb, Slk ((env :: outer).filterMap (·.frame)) [e, tb₀] s.heap h' → s.heap.get? tb = none → ExcT h' e tb X t c b (rawInt L) → Q () { s with heap := h' }) : wpAny M A (noteFrame (.ref e) env) Q E s := by
  obtain ⟨⟨ob, he, hcl, hd⟩, hne, oT, ts, hT, hdT, h3⟩ := id x
  unfold noteFrame
  simp only [hf]
  refine wpAny_bind (wpAny_field he hd (x := .ref tb₀) rfl ?_)
  rw [if_pos (by simp)]
  refine wpAny_bind (wpAny_field hT hdT h3 ?_)
  rw [if_neg (show ¬ ((Value.none == rawInt L) = true) from by simp [rawInt])]
  refine wpAny_bind (wpAny_setField hT hdT (Array.getElem?_eq_some_iff.mp h3).1 ?_)
  have kb : KeepBut [tb₀] s.heap (s.heap.update tb₀ (Obj.mapFields (·.setIfInBounds 3 Value.none))) := fun b o hb eb => (Heap.get?_update_ne _ _ _ _ (fun q => hb (by simp [q]))).trans eb
  have hff := hl.fun
  have hfs : ∀ b ∈ (env :: outer).filterMap (·.frame), b ≠ tb₀ := fun b hm q => by
    obtain ⟨_, o, ho, hnf⟩ := hff.mem hm
    rw [q, hT] at ho; injection ho with ho; subst ho; exact hnf _ hdT
  refine note_core (s := { s with heap := s.heap.update tb₀ (Obj.mapFields (·.setIfInBounds 3 Value.none)) }) hfr (hl.up' fun b hb o e' => ⟨o, kb b o (by simpa using hfs b hb) e', rfl⟩) hf ⟨ob, kb e ob (by simpa using Ne.symm hne) he, hcl, hd⟩ fun h' tb sk htb x' => ?_
  refine h h' tb ((Slk.of kb).mono (by simp) |>.trans (sk.mono (by simp))) ?_ x'
  cases q : s.heap.get? tb with
  | none => rfl
  | some o =>
    by_cases r : tb = tb₀
    · rw [r] at htb
      have := Heap.get?_update_self (Obj.mapFields (·.setIfInBounds 3 Value.none)) hT (Obj.isFreed_of_fields (Obj.data_mapFields hdT _))
      rw [this] at htb; cases htb
    · rw [kb tb o (by simpa using r) q] at htb; cases htb
theorem flight {e tb : Addr} {X : String} {t c fl : Value} {b : Bool} {fr : Option Addr} {Q : Unit → Shared → Prop} (x : ExcT s.heap e tb X t c b fl)
    (h : ∀ h', KeepBut [tb] s.heap h' → ExcT h' e tb X t c b (fr.elim .none fun f => rawInt f) → Q () { s with heap := h' }) : wpAny M A (setFlight (.ref e) fr) Q E s := by
  obtain ⟨⟨ob, he, hcl, hd⟩, hne, oT, ts, hT, hdT, h3⟩ := x
  have hsz : 3 < ts.size := (Array.getElem?_eq_some_iff.mp h3).1
  unfold setFlight
  refine wpAny_bind (wpAny_field he hd (x := .ref tb) rfl ?_)
  rw [if_pos (show (Value.ref tb != Value.none) = true from by simp)]
  refine wpAny_setField hT hdT hsz (h _ (fun b o hb eb => ?_) ⟨⟨ob, ?_, hcl, hd⟩, hne, _, _, Heap.get?_update_self _ hT (Obj.isFreed_of_fields (Obj.data_mapFields hdT _)), Obj.data_mapFields hdT _, by simp [hsz]⟩)
  · exact (Heap.get?_update_ne _ _ _ _ (fun q => hb (by simp [q]))).trans eb
  · exact (Heap.get?_update_ne _ _ _ _ (Ne.symm hne)).trans he
end
section
variable {prog : Program} {w : World} {A : Around} {E : Value → Shared → Prop} {s : Shared} {env : Env}
theorem raise_newO {α : Type} {X : String} {e : Addr} {t c : Value} {b : Bool} {Q : α → Shared → Prop} (x : ExcO s.heap e X t .none .none b) (hc : HCtx A s.heap c) (hne : c ≠ .ref e)
   (h : ∀ h', KeepBut [e] s.heap h' → ExcO h' e X t .none c b → E (.ref e) { s with heap := h' }) : wpAny (model prog w) A (raiseNew (.ref e) : Sem α) Q E s := by
  obtain ⟨ob, he, hcl, hd⟩ := x
  unfold raiseNew
  refine wpAny_bind (wpAny_handled ?_)
  rcases hc with ⟨a, rfl⟩ | ⟨e₁, ob₁, fs, a, rfl, h1, h2, h3⟩
  · rw [a]
    first
      | exact wpAny_throw (h s.heap (fun _ _ _ e => e) ⟨ob, he, hcl, hd⟩)
      | exact wpAny_bind (wpAny_pure (wpAny_throw (h s.heap (fun _ _ _ e => e) ⟨ob, he, hcl, hd⟩)))
  · rw [a]
    dsimp only
    rw [if_pos (show (Value.ref e₁ != Value.ref e) = true by simpa using hne)]
    have fin : wpAny (model prog w) A (do let _ ← holding [Value.ref e] (runValue (.builtin "proto.unchain" ⟨[.ref e, .ref e₁, .ref e₁, .bool false], []⟩)); updateField e 2 (.ref e₁); throw (.ref e) : Sem α) Q E s := by
      refine wpAny_bind (wpAny_holding (wpAny_runValue (codeAny_builtin entry_unchain ?_)))
      unfold Builtin.«proto.unchain»
      refine wpAny_bind (wpAny_field h1 h2 h3 ?_)
      rw [if_pos (by rfl)]
      refine wpAny_pure ?_
      refine wpAny_bind ?_
      show wpAny _ _ (setField (.ref e) 2 (.ref e₁)) _ _ _
      refine wpAny_setField he hd (by show 2 < 6; decide) ?_
      refine wpAny_throw (h _ (fun b o hb eb => ?_) ⟨_, Heap.get?_update_self _ he (Obj.isFreed_of_fields (Obj.data_mapFields hd _)), (Obj.cls_mapFields _ _).trans hcl, Obj.data_mapFields hd _⟩)
      exact (Heap.get?_update_ne _ _ _ _ (fun q => hb (by simp [q]))).trans eb
    first
      | exact fin
      | (simp only [bind_assoc] ; exact fin)
/-- raise e from None, e just made -/
theorem raise_from {exc : Expr} {k : Nat} {p pos : Pos} {X N I : String} {c : Value} {Q : Flow → Shared → Prop} (hX : ExcClass X N I)
    (h : wpAny (model prog w) A (eval exc env) (fun v s₁ => ∃ e t, v = .ref e ∧ ExcO s₁.heap e X t .none .none false ∧ HCtx A s₁.heap c ∧ c ≠ .ref e ∧
      ∀ h', KeepBut [e] s₁.heap h' → ExcO h' e X t .none c true → E (.ref e) { s₁ with heap := h' }) E s) :
    wpAny (model prog w) A (exec (.Raise (some exc) (some (.Constant .none k p)) pos) env) Q E s := by
  show wpAny _ A (do standAt pos; raiseStmt env (some (do let v ← eval exc env; standAt pos; pure v)) (some (do let c ← eval (.Constant .none k p) env; standAt pos; pure c))) Q E s
  refine wpAny_bind (wpAny_standAt ?_)
  unfold raiseStmt
  dsimp only
  refine wpAny_bind (wpAny_bind (wpAny_mono h (fun v s₁ h₁ => wpAny_bind (wpAny_standAt (wpAny_pure ?_))) fun _ _ x => x))
  obtain ⟨a, t, rfl, ⟨ob, ha, hcls, hd⟩, hc, hne, hE⟩ := h₁
  have hT : s₁.TypeIs (.ref a) X := ⟨ob, ha, hcls⟩
  refine wpAny_bind (wpAny_holding (wpAny_bind (wpAny_Constant_none (wpAny_bind (wpAny_standAt (wpAny_pure (wpAny_bind (wpAny_pure ?_))))))))
  have hnt : ∀ {h : Heap} {ob : Obj} {vs : Array Value} {Q' : Bool → Shared → Prop}, h.get? a = some ob → ob.data = .fields vs → Q' false { s₁ with heap := h } → wpAny (model prog w) A (isType (.ref a)) Q' E { s₁ with heap := h } := by
    intro h ob vs Q' ha hd hq
    simp only [isType, loadHead]
    refine wpAny_bind (wpAny_loadPart ha ?_)
    rw [hd]; exact wpAny_pure hq
  refine wpAny_bind (wpAny_holding ?_)
  unfold excFromValue isExcClass
  refine wpAny_bind (wpAny_bind (hnt ha hd ?_))
  simp only [Bool.false_eq_true, if_false]
  refine wpAny_pure ?_
  simp only [Bool.false_eq_true, if_false]
  refine wpAny_bind (wpAny_isInstance hT hX.base ?_)
  simp only [if_true]
  refine wpAny_pure ?_
  rw [if_pos (by rfl)]
  refine wpAny_bind (wpAny_pure ?_)
  have e1 := Heap.get?_update_self (Obj.mapFields (·.setIfInBounds 3 Value.none)) ha (Obj.isFreed_of_fields (Obj.data_mapFields hd _))
  have d1 := Obj.data_mapFields hd (·.setIfInBounds 3 Value.none)
  refine wpAny_bind (wpAny_setField ha hd (by show 3 < 6; decide) ?_)
  have e2 := Heap.get?_update_self (Obj.mapFields (·.setIfInBounds 4 (Value.bool true))) e1 (Obj.isFreed_of_fields (Obj.data_mapFields d1 _))
  have d2 := Obj.data_mapFields d1 (·.setIfInBounds 4 (Value.bool true))
  refine wpAny_bind (wpAny_setField e1 d1 (by show 4 < 6; decide) ?_)
  have c2 : (Obj.mapFields (·.setIfInBounds 4 (Value.bool true)) (Obj.mapFields (·.setIfInBounds 3 Value.none) ob)).cls = .type X := (Obj.cls_mapFields _ _).trans ((Obj.cls_mapFields _ _).trans hcls)
  have kb : KeepBut [a] s₁.heap ((s₁.heap.update a (Obj.mapFields (·.setIfInBounds 3 Value.none))).update a (Obj.mapFields (·.setIfInBounds 4 (Value.bool true)))) := fun b o hb eb => by
    have : a ≠ b := fun q => hb (by simp [q])
    rw [Heap.get?_update_other _ _ this, Heap.get?_update_other _ _ this]; exact eb
  dsimp only at e2 d2 c2 kb ⊢
  generalize (s₁.heap.update a (Obj.mapFields (·.setIfInBounds 3 Value.none))).update a (Obj.mapFields (·.setIfInBounds 4 (Value.bool true))) = h2 at e2 kb ⊢
  generalize Obj.mapFields (·.setIfInBounds 4 (Value.bool true)) (Obj.mapFields (·.setIfInBounds 3 Value.none) ob) = ob2 at e2 d2 c2
  have d2' : ob2.data = .fields #[t, .none, .none, .none, .bool true, .none] := d2
  have hT2 : ({ s₁ with heap := h2 } : Shared).TypeIs (.ref a) X := ⟨ob2, e2, c2⟩
  refine wpAny_bind (hnt e2 d2' ?_)
  simp only [Bool.false_eq_true, if_false]
  unfold raisedInstance
  refine wpAny_bind (wpAny_bind (wpAny_typeOf hT2 (wpAny_bind (m := typeOf (.type X)) (wpAny_pure ?_))))
  rw [if_pos hX.metaType]
  refine wpAny_pure ?_
  unfold setFlight
  refine wpAny_bind (wpAny_bind (wpAny_field e2 d2' (x := .none) rfl ?_))
  rw [if_neg (by decide)]
  refine wpAny_pure ?_
  have hc2 : HCtx A h2 c := hc.keep fun e₁ o q e' => kb e₁ o (by simpa using fun r => hne (by rw [q, r])) e'
  exact raise_newO (s := { s₁ with heap := h2 }) ⟨ob2, e2, c2, d2'⟩ hc2 hne fun h' k x => hE h' (fun b o hb eb => k b o hb (kb b o hb eb)) x
end

end Mine
end
section
open PySem PySem.W PyProof.Rows PySem.Calls
set_option Elab.async false
set_option maxRecDepth 100000
set_option linter.unusedVariables false
namespace Mine
/-- what raises in a built-in -/
noncomputable def Raises (s : Shared) (X : String) (E : Value → Shared → Prop) : Prop := ∀ h' tk e, s.heap.get? e = none → KeepsH s.heap h' → (∃ t, ExcO h' e X t .none .none false) → E (.ref e) { s with heap := h', toks := tk }
theorem Raises.of {s : Shared} {X : String} {E : Value → Shared → Prop} (h : Raises s X E) : ∀ h' tk e, Heap.NewExc s.heap h' e X → E (.ref e) { s with heap := h', toks := tk } := fun h' tk e x => by
  obtain ⟨ob, t, a, b, c⟩ := x.there
  exact h h' tk e x.new x.keeps ⟨t, ob, a, b, c⟩
theorem Raises.up {s : Shared} {h : Heap} {tk : Nat} {X : String} {E : Value → Shared → Prop} (x : Raises s X E) (k : KeepsH s.heap h) : Raises { s with heap := h, toks := tk } X E := fun h' tk e a b c => x h' tk e (noneOf k a) (kh_tr k b) c
section
variable {prog : Program} {w : World} {A : Around} {E : Value → Shared → Prop} {s : Shared}
/-- a text and a number don't add -/
theorem add_str_int_bad {x : Str} {t u : Tok} {i : Int} {Q : Value → Shared → Prop} (hA : A.handled = none) (h : Raises s "TypeError" E) : wpAny (model prog w) A (binaryOp .Add (.str x t) (.int i u)) Q E s := by
  unfold binaryOp
  refine wpAny_holding ?_
  refine wpAny_bind (wpAny_binaryOp1_right_declines (nm := "add") (T := "str") (U := "int") (by decide) (typeIs_str s x t) (typeIs_int s i u) PyProof.Rows.noFill_str_add PySem.F.fills_int_add PySem.F.slot_int_radd ?_)
  refine call_gives PySem.F.slot_int_radd (typeIs_int s i u) PySem.F.entry_int_radd (PySem.F.args_int_radd_2 _ _) (AutoIntG4.int___radd___int_str_0 i u x t) ?_
  refine ⟨rfl, ?_⟩
  refine wpAny_bind (wpAny_typeOf (typeIs_str s x t) ?_)
  refine wpAny_bind (wpAny_of_eq PySem.seq_str_add ?_)
  refine wpAny_bind (wpAny_rule ?_)
  refine wpAny_call_entry PySem.F.slot_str_add (typeIs_str s x t) PySem.F.entry_str_add ?_ (PySem.F.args_str_add_2 _ _)
  obtain ⟨hp, g, d, tk, os⟩ := s
  unfold Builtin.«str.__add__»
  wp_walk
  exact_raiseError plainExc_TypeError hA h.of
theorem raise_made {cls msg : String} {α : Type} {Q : α → Shared → Prop} (hp : PlainExc cls) (hA : A.handled = none) (h : Raises s cls E) (hm : (msg : Str).length ≤ sizeLine) : wpAny (model prog w) A (raiseErrorMade cls msg : Sem α) Q E s := wpAny_raiseErrorMade hp hA h.of hm
/-- an empty tuple has not two items -/
theorem unpack_none {t : Addr} {items : Array Value} {targets : List (Bool × (Value → Sem Unit))} {Q : Unit → Shared → Prop} (hA : A.handled = none) (ht : IsTup s.heap t items) (h0 : items.size = 0) (h2 : targets.length = 2) (hstar : targets.findIdx? (·.1) = none) (h : Raises s "ValueError" E) : wpAny (model prog w) A (unpack (.ref t) targets) Q E s := by
  have hlt : t ≠ s.heap.objs.size := by obtain ⟨o, ho, _⟩ := ht; exact Nat.ne_of_lt (Heap.lt_size ho)
  unfold unpack
  rw [h2, hstar]
  refine wpAny_bind (wpAny_holding ?_)
  unfold unpackItems
  refine wpAny_bind ?_
  unfold notIterableAtAll
  refine wpAny_bind (wpAny_specialOf ht.typeIs slot_tuple_iter.lookup ?_)
  refine wpAny_pure ?_
  simp only [Bool.false_eq_true, if_false]
  refine wpAny_bind (wpAny_holding (iter_tuple ht ?_))
  have hit : IsTupIter (s.heap.push { cls := .type "tuple_iterator", data := .fields #[.ref t, rawInt 0] }) s.heap.objs.size t 0 := ⟨_, Heap.get?_push_size _ rfl, rfl, rfl⟩
  refine wpAny_bind (wpAny_holding ?_)
  show wpAny _ _ (pyNext (.ref s.heap.objs.size) >>= _) _ _ _
  refine wpAny_bind (next_tuple_end (i := 0) hA hit (ht.push _) (by simp [h0]) fun h₂ he₂ => ?_)
  refine wpAny_pure ?_
  rw [if_pos (by decide)]
  refine wpAny_bind (wpAny_rule ?_)
  have k2 : KeepsH s.heap h₂ := fun b o e => he₂ b o (Nat.ne_of_lt (Heap.lt_size e)) (Heap.get?_push_of_some _ e)
  exact wpAny_bind (raise_made plainExc_ValueError hA (h.up (tk := s.toks) k2) (by rw [PySem.sizeLine_eq]; decide +kernel))
/-- a tuple of one has not two items -/
theorem unpack_one {t : Addr} {items : Array Value} {targets : List (Bool × (Value → Sem Unit))} {Q : Unit → Shared → Prop} (hA : A.handled = none) (ht : IsTup s.heap t items) (h0 : items.size = 1) (h2 : targets.length = 2) (hstar : targets.findIdx? (·.1) = none) (h : Raises s "ValueError" E) : wpAny (model prog w) A (unpack (.ref t) targets) Q E s := by
  have hlt : t ≠ s.heap.objs.size := by obtain ⟨o, ho, _⟩ := ht; exact Nat.ne_of_lt (Heap.lt_size ho)
  unfold unpack
  rw [h2, hstar]
  refine wpAny_bind (wpAny_holding ?_)
  unfold unpackItems
  refine wpAny_bind ?_
  unfold notIterableAtAll
  refine wpAny_bind (wpAny_specialOf ht.typeIs slot_tuple_iter.lookup ?_)
  refine wpAny_pure ?_
  simp only [Bool.false_eq_true, if_false]
  refine wpAny_bind (wpAny_holding (iter_tuple ht ?_))
  have hit : IsTupIter (s.heap.push { cls := .type "tuple_iterator", data := .fields #[.ref t, rawInt 0] }) s.heap.objs.size t 0 := ⟨_, Heap.get?_push_size _ rfl, rfl, rfl⟩
  refine wpAny_bind (wpAny_holding ?_)
  show wpAny _ _ (pyNext (.ref s.heap.objs.size) >>= _) _ _ _
  refine wpAny_bind (next_tuple_item (i := 0) hit (ht.push _) (x := items[0]) (by simp [h0]) fun h₁ hit₁ hs₁ => ?_)
  dsimp only
  refine wpAny_bind (wpAny_holding ?_)
  show wpAny _ _ (pyNext (.ref s.heap.objs.size) >>= _) _ _ _
  have ht₁ : IsTup h₁ t items := (ht.push _).extBut hs₁.extBut hlt
  refine wpAny_bind (next_tuple_end (i := 1) hA hit₁ ht₁ (by simp [h0]) fun h₂ he₂ => ?_)
  refine wpAny_pure (wpAny_pure ?_)
  rw [if_pos (by simp)]
  refine wpAny_bind (wpAny_rule ?_)
  have k2 : KeepsH s.heap h₂ := fun b o e => he₂ b o (Nat.ne_of_lt (Heap.lt_size e)) (hs₁.extBut b o (Nat.ne_of_lt (Heap.lt_size e)) (Heap.get?_push_of_some _ e))
  refine wpAny_bind (raise_made plainExc_ValueError hA (h.up (tk := s.toks) k2) ?_)
  rw [show ([items[0]] : List Value).length = 1 from rfl, PySem.sizeLine_eq]
  decide +kernel
/-- a list of three has too many -/
theorem unpack_three {t : Addr} {items : Array Value} {targets : List (Bool × (Value → Sem Unit))} {Q : Unit → Shared → Prop} (hA : A.handled = none) (ht : s.heap.IsList t items) (h0 : items.size = 3) (h2 : targets.length = 2) (hstar : targets.findIdx? (·.1) = none) (h : Raises s "ValueError" E) : wpAny (model prog w) A (unpack (.ref t) targets) Q E s := by
  have hlt : t ≠ s.heap.objs.size := by obtain ⟨o, ho, _⟩ := ht; exact Nat.ne_of_lt (Heap.lt_size ho)
  unfold unpack
  rw [h2, hstar]
  refine wpAny_bind (wpAny_holding ?_)
  unfold unpackItems
  refine wpAny_bind ?_
  unfold notIterableAtAll
  refine wpAny_bind (wpAny_specialOf ht.typeIs slot_list_iter.lookup ?_)
  refine wpAny_pure ?_
  simp only [Bool.false_eq_true, if_false]
  refine wpAny_bind (wpAny_holding (wpAny_pyIter_list ht ?_))
  refine wpAny_bind (wpAny_holding (kun_draw hlt 2 0 _ _ ⟨_, Heap.get?_push_size _ rfl, rfl, rfl⟩ (ht.push _) (by omega) fun h₁ hit₁ hs₁ => ?_))
  have hlen : ((items.toList.drop 0).take 2).length = 2 := by simp [h0]
  rw [if_neg (by rw [hlen]; decide)]
  have hl₁ : h₁.IsList t items := (ht.push _).extBut hs₁.extBut hlt
  refine wpAny_bind (wpAny_holding (wpAny_pyNext_list_item hit₁ hl₁ (x := items[2]) (by simp [h0]) fun h₂ hit₂ hs₂ => ?_))
  rw [if_pos (by rfl)]
  refine wpAny_bind (wpAny_rule ?_)
  have k2 : KeepsH s.heap h₂ := fun b o e => hs₂.extBut b o (Nat.ne_of_lt (Heap.lt_size e)) (hs₁.extBut b o (Nat.ne_of_lt (Heap.lt_size e)) (Heap.get?_push_of_some _ e))
  exact wpAny_bind (raise_made plainExc_ValueError hA (h.up (tk := s.toks) k2) (by rw [PySem.sizeLine_eq]; decide +kernel))
theorem no_int_iter : typeLookup (.type "int") "__iter__" = pure none := by rw [typeLookup_type, builtinLookup_eq_fast]; kernel_rfl
theorem no_int_getitem : typeLookup (.type "int") "__getitem__" = pure none := by rw [typeLookup_type, builtinLookup_eq_fast]; kernel_rfl
/-- a number cannot be unpacked -/
theorem unpack_int {i : Int} {u : Tok} {targets : List (Bool × (Value → Sem Unit))} {Q : Unit → Shared → Prop} (hA : A.handled = none) (h2 : targets.length = 2) (hstar : targets.findIdx? (·.1) = none) (h : Raises s "TypeError" E) : wpAny (model prog w) A (unpack (.int i u) targets) Q E s := by
  unfold unpack
  rw [h2, hstar]
  refine wpAny_bind (wpAny_holding ?_)
  unfold unpackItems
  refine wpAny_bind ?_
  unfold notIterableAtAll
  refine wpAny_bind (wpAny_specialOf (typeIs_int s i u) no_int_iter ?_)
  simp only [Option.isSome_none, Bool.false_eq_true, if_false]
  refine wpAny_bind (wpAny_specialOf (typeIs_int s i u) no_int_getitem ?_)
  refine wpAny_pure ?_
  rw [if_pos rfl]
  refine wpAny_bind (wpAny_rule ?_)
  refine wpAny_bind (m := PySem.typeNameOf (.int i u)) (wpAny_of_eq (a := "int") ?_ ?_)
  · unfold PySem.typeNameOf shownTypeOf
    rfl
  exact wpAny_bind (raise_made plainExc_TypeError hA h (by rw [PySem.sizeLine_eq]; decide +kernel))
end

end Mine
end
section
open PySem PySem.W PyProof.Rows PySem.Calls
set_option Elab.async false
set_option maxRecDepth 100000
set_option maxHeartbeats 4000000
set_option linter.unusedVariables false
namespace Mine
theorem e_TE {w : World} : nsIn (hd.heap_39 w.params) mainGlobals (Str.ofString "TypeError") = some none := by k_is
theorem b_TE : bootBuiltins (Str.ofString "TypeError") = some (.type "TypeError") := by decide +kernel
/-- what _build_localename refuses -/
inductive Bad (v : Value) (h : Heap) : Prop
  | zero (t : Addr) (items : Array Value) (e : v = .ref t) (a : IsTup h t items) (b : items.size = 0)
  | one (t : Addr) (items : Array Value) (e : v = .ref t) (a : IsTup h t items) (b : items.size = 1)
  | three (t : Addr) (items : Array Value) (e : v = .ref t) (a : h.IsList t items) (b : items.size = 3)
  | int (i : Int) (u : Tok) (e : v = .int i u)
  | five (t : Addr) (x : Str) (i : Int) (u u' : Tok) (e : v = .ref t) (a : IsTup h t #[.str x u, .int i u']) (b : x.length ≤ 20)
theorem Bad.up {v : Value} {h h' : Heap} (k : KeepsH h h') (x : Bad v h) : Bad v h' := by
  cases x with
  | zero t items e a b => exact .zero t items e (by obtain ⟨o, q, r⟩ := a; exact ⟨o, k _ _ q, r⟩) b
  | one t items e a b => exact .one t items e (by obtain ⟨o, q, r⟩ := a; exact ⟨o, k _ _ q, r⟩) b
  | three t items e a b => exact .three t items e (by obtain ⟨o, q, r⟩ := a; exact ⟨o, k _ _ q, r⟩) b
  | int i u e => exact .int i u e
  | five t x i u u' e a b => exact .five t x i u u' e (by obtain ⟨o, q, r⟩ := a; exact ⟨o, k _ _ q, r⟩) b
noncomputable def words : Str := Str.ofString "Locale must be None, a string, or an iterable of two strings -- language code, encoding."
structure BInv (hh : Heap) (envs : List Env) (L : Addr) (h : Heap) (m : Str → Option Value) : Prop where
  sk : Slk (fsOf envs) [] hh h
  hn : h.Ns L m
  fr : FrsAt h envs
section
variable {hh h h' : Heap} {envs : List Env} {L e : Addr} {m : Str → Option Value}
theorem BInv.but {mt : List Addr} (x : BInv hh envs L h m) (hf : FrsAt hh envs) (k : KeepBut mt h h') (hm : ∀ b ∈ mt, hh.get? b = none ∧ b ≠ L) : BInv hh envs L h' m := by
  have nf : ∀ b o, hh.get? b = some o → b ∉ mt := fun b o e q => by rw [(hm b q).1] at e; cases e
  refine ⟨⟨fun b o a b' e => k b o (nf _ _ e) (x.sk.keep b o a b' e), fun b o a e => let ⟨sl, e'⟩ := x.sk.slot b o a e; ⟨sl, k b _ (nf _ _ e) e'⟩⟩, x.hn.at' fun o e => k _ o (fun q => (hm _ q).2 rfl) e, ?_⟩
  refine x.fr.up' fun b hb o e => ⟨o, k _ _ (fun q => ?_) e, rfl⟩
  obtain ⟨_, o', e', _⟩ := hf.fun.mem hb
  exact nf _ _ e' q
theorem BInv.keeps (x : BInv hh envs L h m) (hf : FrsAt hh envs) (k : KeepsH h h') : BInv hh envs L h' m := x.but (mt := []) hf (fun b o _ e => k b o e) (fun _ q => nomatch q)
theorem BInv.exc {mt : List Addr} (x : BInv hh envs L h m) (hf : FrsAt hh envs) (hL : hh.get? L = none) (s' : Slk (L :: fsOf envs) mt h h') (hm : ∀ b ∈ mt, hh.get? b = none ∧ b ≠ L) : BInv hh envs L h' m := by
  have nf : ∀ b o, hh.get? b = some o → b ∉ mt := fun b o e q => by rw [(hm b q).1] at e; cases e
  have nL : ∀ b o, hh.get? b = some o → b ≠ L := fun b o e q => by rw [q, hL] at e; cases e
  refine ⟨⟨fun b o a b' q => s'.keep b o (nf _ _ q) (by simp [nL _ _ q, b']) (x.sk.keep b o a b' q), fun b o a q => ?_⟩, s'.ns (fun q => (hm _ q).2 rfl) x.hn, ?_⟩
  · obtain ⟨sl, e1⟩ := x.sk.slot b o a q
    obtain ⟨sl', e2⟩ := s'.slot b _ (nf _ _ q) e1
    exact ⟨sl', e2⟩
  · refine x.fr.up' fun b hb o q => ?_
    obtain ⟨_, o', e', _⟩ := hf.fun.mem hb
    obtain ⟨sl, q'⟩ := s'.slot b o (nf _ _ e') q
    exact ⟨_, q', rfl⟩
theorem BInv.new (x : BInv hh envs L h m) (hn : h.get? e = none) : hh.get? e = none ∧ e ≠ L := by
  refine ⟨?_, ?_⟩
  · cases q : hh.get? e with
    | none => rfl
    | some o => obtain ⟨sl, e'⟩ := x.sk.slot e o (by simp) q; rw [e'] at hn; cases hn
  · intro q; obtain ⟨o, _, _, e', _⟩ := x.hn; rw [q, show h.get? L = some o from e'] at hn; cases hn
theorem BInv.store {m' : Str → Option Value} (x : BInv hh envs L h m) (hf : FrsAt hh envs) (hL : hh.get? L = none) (k : KeepBut [L] h h') (hn : h'.Ns L m') : BInv hh envs L h' m' := by
  have nL : ∀ b o, hh.get? b = some o → b ∉ [L] := fun b o e q => by rw [List.mem_singleton.mp q, hL] at e; cases e
  refine ⟨⟨fun b o a b' e => k b o (nL _ _ e) (x.sk.keep b o a b' e), fun b o a e => let ⟨sl, e'⟩ := x.sk.slot b o a e; ⟨sl, k b _ (nL _ _ e) e'⟩⟩, hn, ?_⟩
  refine x.fr.up' fun b hb o e => ⟨o, k _ _ ?_ e, rfl⟩
  obtain ⟨_, o', e', _⟩ := hf.fun.mem hb
  exact nL _ _ e'
end
/-- what leaves _build_localename -/
noncomputable def BOut (s : Shared) (hh : Heap) (envs : List Env) (e : Value) (s' : Shared) : Prop :=
  ∃ h tk a tb T c tw, e = .ref a ∧ s' = { s with heap := h, toks := tk } ∧ Slk (fsOf envs) [] hh h ∧ FrsAt h envs ∧ ExcT h a tb "TypeError" (.ref T) c true .none ∧ h.TupAt T [.str words tw] ∧ hh.get? a = none ∧ hh.get? tb = none ∧ hh.get? T = none ∧ T ≠ a ∧ T ≠ tb
section
variable {prog : Program} {w : World} {A : Around} {s : Shared} {h₀ : Heap}
theorem ps_isStr {x : Str} {a b : Value} (ha : KStr x a h₀) (hb : KVal .none b h₀) : PS prog w A (compareOp .Is a b) h₀ s (KBool false) := by
  obtain ⟨t, rfl⟩ := ha
  obtain rfl : b = .none := hb
  exact .mk fun h tk Q E k hQ => is_str_none (hQ _ _ _ kh_rfl rfl)
theorem ps_isInt {i : Int} {a b : Value} (ha : KInt i a h₀) (hb : KVal .none b h₀) : PS prog w A (compareOp .Is a b) h₀ s (KBool false) := by
  obtain ⟨t, rfl⟩ := ha
  obtain rfl : b = .none := hb
  exact .mk fun h tk Q E k hQ => is_int_none (hQ _ _ _ kh_rfl rfl)
theorem ps_addS {x y : Str} {a b : Value} (ha : KStr x a h₀) (hb : KStr y b h₀) (hz : x.length + y.length ≤ 1000) : PS prog w A (binaryOp .Add a b) h₀ s (KStr (x ++ y)) := by
  obtain ⟨t, rfl⟩ := ha
  obtain ⟨u, rfl⟩ := hb
  exact .mk fun h tk Q E k hQ => PyProof.Rows.add_str (fun t' tk' => hQ _ _ _ kh_rfl ⟨_, rfl⟩) (by rw [PySem.sizeLine_eq]; omega)
end
theorem bl_bad (w : World) (dp un : Nat) (gd : Option (List Code)) (envs : List Env) (s : Shared) (hh : Heap) (tk0 : Nat) (g : Heap) (v : Value) (Q E : Value → Shared → Prop)
   (kg : KeepsH g hh) (G : Gl w g) (gfs : ∀ b ∈ fsOf envs, g.get? b = none) (hfs : FrsAt hh envs) (hv : Bad v hh) (hdp : dp + 3 < recursionLimit) (hun : un + 200 < cLine)
   (hE : ∀ e s', BOut s hh envs e s' → E e s') :
   wpAny (model PySem.Challenge.rw_in0044_01.row.prog w) (AA dp un gd (some envs)) (call (.ref 52) [v]) Q E { s with heap := hh, toks := tk0 } := by
  obtain ⟨loose, mean, mg, mb, X, T⟩ := G.up kg
  k_dflt (refine' enter_g ?k3 ?k5 ?k6 ?k7 ?k8 ?k9 ?kB ?_ ?c2 ?c3 ?c4 ?c5; (case k3 => exact X); (case k5 => exact T); (case k6 => k_is); (case k7 => k_is); (case k8 => ktr_room); (case k9 => exact BindsTo.of_eq rfl); (case kB => exact locs rfl); (case c2 => exact rfl); (case c3 => exact rfl); (case c4 => exact rfl); (case c5 => decide); k_whole; intro L h₁ tk k1 gL F' eL htk)
  clear X T
  have gL : hh.get? L = none := gL
  have gkeep : ∀ {h' : Heap}, Slk (fsOf envs) [] hh h' → KeepsH g h' := fun sk b o e => sk.keep b o (by simp) (fun hm => by rw [gfs b hm] at e; cases e) (kg b o e)
  have b1 : BInv hh envs L h₁ _ := ⟨.of fun b o _ e => k1 b o e, F', hfs.up fun b o es ep e d => ⟨o, es, ep, k1 _ _ e, d⟩⟩
  have hv1 := hv.up k1
  refine wpAny_execs_cons (try_gen (fun e s' => ∃ h tk a X t m, e = .ref a ∧ s' = { s with heap := h, toks := tk } ∧ BInv hh envs L h m ∧ ExcO h a X t .none .none false ∧ (X = "TypeError" ∨ X = "ValueError") ∧ (hh.get? a = none ∧ a ≠ L)) ?out ?body)
  case out =>
    rintro e s₁ ⟨h, tk, a, X, t, m, rfl, rfl, bi, x, hX, na⟩
    obtain ⟨c1, c2, s1, s2, hc⟩ : ∃ b1 b2, subB X (.type "TypeError") = some b1 ∧ subB X (.type "ValueError") = some b2 ∧ (b1 || b2) = true := by
      rcases hX with rfl | rfl
      · exact ⟨true, false, by decide +kernel, by decide +kernel, rfl⟩
      · exact ⟨false, true, by decide +kernel, by decide +kernel, rfl⟩
    refine note1 (outer := envs) (L := L) rfl (frs_cons (by show ScopeKind.function ≠ ScopeKind.module; decide) rfl bi.hn bi.fr) rfl x fun h2 tb sk htb x2 => ?_
    have ntb := bi.new htb
    have b2 := bi.exc hfs gL sk (fun b q => by rw [List.mem_singleton.mp q]; exact na)
    refine flight (s := { s with heap := h2, toks := tk }) x2 fun h3 k3 x3 => ?_
    have b3 := b2.but hfs k3 (fun b q => by rw [List.mem_singleton.mp q]; exact ntb)
    clear sk k3 x2 b2 bi x
    have G3 : Gl w h3 := G.up (gkeep b3.sk)
    refine wpAny_handleBy_tup2 (X := X) (T1 := "TypeError") (T2 := "ValueError") (b1 := c1) (b2 := c2) (isSubtype_of_subB (by decide +kernel)) (isSubtype_of_subB (by decide +kernel)) (isSubtype_of_subB (by decide +kernel)) (isSubtype_of_subB (by decide +kernel)) (isSubtype_of_subB s1) (isSubtype_of_subB s2) ?_
    refine (PG.tuple2 (Gl.built G3 e_TE b_TE) upV (Gl.built G3 e_VE b_VE) upV).run h3 tk _ _ kh_rfl fun u h4 tk4 k4 hu => ?_
    obtain ⟨tp, v1, v2, rfl, _, htp, rfl, rfl⟩ := hu
    have x4 : ExcT h4 a tb X t .none false .none := x3.keep (fun o e => k4 _ _ e) (fun o e => k4 _ _ e)
    have b4 := b3.keeps hfs k4
    refine ⟨tp, rfl, htp, by obtain ⟨⟨ob, e1, e2, _⟩, _⟩ := x4; exact ⟨ob, e1, e2⟩, ?_⟩
    rw [if_pos hc]
    refine flight (s := { s with heap := h4, toks := tk4 }) x4 fun h5 k5 x5 => ?_
    have b5 := b4.but hfs k5 (fun b q => by rw [List.mem_singleton.mp q]; exact ntb)
    have G5 : Gl w h5 := G.up (gkeep b5.sk)
    clear b4 x4 k5 htp k4 x3 G3 b3
    refine wpAny_execs_cons (raise_from (X := "TypeError") (c := .ref a) excClass_TypeError (Call_ ?_))
    refine (Gl.built G5 e_TE b_TE).run h5 tk4 _ _ kh_rfl fun f h6 tk6 k6 hf => ?_
    subst hf
    refine callWith_type1 (spliced_more (PG.str.run h6 tk6 _ _ kh_rfl fun wv h7 tk7 k7 hw => spliced_none ?_))
    obtain ⟨tw, rfl⟩ := hw
    have k57 := kh_tr k6 k7
    have b7 := b5.keeps hfs k57
    have x7 : ExcT h7 a tb X t .none false .none := x5.keep (fun o e => k57 _ _ e) (fun o e => k57 _ _ e)
    refine wpAny_call_exc PySem.F.excCall_TypeError (fun h8 e8 hm => ?_) (by rw [PySem.sizeLine_eq]; simp)
    obtain ⟨T8, he8, hT8, hT8'⟩ := hm.there
    have b8 := b7.keeps hfs hm.keeps
    have x8 : ExcT h8 a tb X t .none false .none := x7.keep (fun o e => hm.keeps _ _ e) (fun o e => hm.keeps _ _ e)
    have ne8 := b7.new hm.new
    have nT8 := b7.new hT8
    have hTe : T8 ≠ e8 := fun q => by rw [q] at hT8'; have := he8.symm.trans hT8'; simp at this
    have hea : e8 ≠ a := fun q => by obtain ⟨⟨ob, e', _⟩, _⟩ := x7; have := hm.new; rw [q, e'] at this; cases this
    refine ⟨e8, .ref T8, rfl, ⟨_, he8, rfl, rfl⟩, ?_, by intro q; injection q with q; exact hea q.symm, fun h9 k9 x9 => ?_⟩
    · obtain ⟨⟨ob, q1, q2, q3⟩, _⟩ := x8
      exact .inr ⟨a, ob, _, rfl, rfl, q1, q3, rfl⟩
    · refine PassesOwnAt.leaving _ _ ?_
      have b9 := b8.but hfs k9 (fun b q => by rw [List.mem_singleton.mp q]; exact ne8)
      unfold leaving
      refine wpAny_bind (note1 (outer := envs) (L := L) rfl (frs_cons (by show ScopeKind.function ≠ ScopeKind.module; decide) rfl b9.hn b9.fr) rfl x9 fun h10 tb10 sk10 htb10 x10 => ?_)
      have n10 := b9.new htb10
      have b10 := b9.exc hfs gL sk10 (fun b q => by rw [List.mem_singleton.mp q]; exact ne8)
      refine flight x10 fun h11 k11 x11 => ?_
      have b11 := b10.but hfs k11 (fun b q => by rw [List.mem_singleton.mp q]; exact n10)
      have T9 := k9 T8 _ (by simpa using hTe) hT8'
      have hTb : T8 ≠ tb10 := fun q => by rw [← q, T9] at htb10; cases htb10
      have T10 := sk10.keep T8 _ (by simpa using hTe) (by
        show T8 ∉ L :: fsOf envs
        simp only [List.mem_cons, not_or]
        refine ⟨nT8.2, fun q => ?_⟩
        obtain ⟨_, o', e', _⟩ := hfs.fun.mem q
        rw [nT8.1] at e'; cases e') T9
      have T11 := k11 T8 _ (by simpa using hTb) T10
      exact hE _ _ ⟨h11, _, e8, tb10, T8, _, tw, rfl, rfl, b11.sk, b11.fr, x11, ⟨_, _, T11, rfl, rfl⟩, ne8.1, n10.1, nT8.1, hTe, hTb⟩
  case body =>
    intro E₀ hPE hPA hOut
    have rs : ∀ {X : String} {h : Heap} {tk : Nat} {m : Str → Option Value}, BInv hh envs L h m → (X = "TypeError" ∨ X = "ValueError") → Raises { s with heap := h, toks := tk } X E₀ := fun b hX h' tk' e hn k ⟨t, x⟩ => hOut _ _ ⟨h', tk', e, _, t, _, rfl, rfl, b.keeps hfs k, x, hX, b.new hn⟩
    refine wpAny_execs_cons (wpAny_Assign_stores ?_ rfl rfl)
    refine (PG.name F' rfl).run h₁ tk _ _ kh_rfl fun u h2 tk2 k2 hu => ?_
    subst hu
    have b2 := b1.keeps hfs k2
    have hv2 := hv1.up k2
    show wpAny _ _ (do standAt _; unpack _ _) _ _ _
    refine wpAny_bind (wpAny_standAt ?_)
    cases hv2 with
    | zero t items e a b => rw [e]; exact unpack_none rfl a b rfl rfl (rs b2 (.inr rfl))
    | one t items e a b => rw [e]; exact unpack_one rfl a b rfl rfl (rs b2 (.inr rfl))
    | three t items e a b => rw [e]; exact unpack_three rfl a b rfl rfl (rs b2 (.inr rfl))
    | int i u e => rw [e]; exact unpack_int rfl rfl rfl (rs b2 (.inl rfl))
    | five t x i u u' e a b =>
      rw [e]
      refine PyProof.Rows.unpack_tuple rfl a rfl rfl fun h3 k3 => ?_
      have kk3 : KeepsH h2 h3 := fun b o e => k3 b o (Nat.ne_of_lt (Heap.lt_size e)) e
      have b3 := b2.keeps hfs kk3
      refine PyProof.Rows.assignInOrder_cons (wpAny_assign_Name (wpAny_storeName_local rfl b3.hn (fun h4 hn4 hs4 => ?_) rfl))
      refine PyProof.Rows.assignInOrder_cons (wpAny_assign_Name (wpAny_storeName_local rfl hn4 (fun h5 hn5 hs5 => PyProof.Rows.assignInOrder_nil ?_) rfl))
      have b5 : BInv hh envs L h5 _ := b3.store hfs gL (fun b o hb e => hs5.extBut b o (fun q => hb (List.mem_singleton.mpr q)) (hs4.extBut b o (fun q => hb (List.mem_singleton.mpr q)) e)) hn5
      clear hn5 hs5 hn4 hs4 b3 k3 kk3
      refine wpAny_execs_cons (wpAny_If (PT.use (PT.cmp (K₂ := KVal .none) (PG.nameK b5.hn rfl ⟨u, rfl⟩ (upS (x := x))) PG.none upS fun _ _ _ _ ka kb => ps_isStr ka kb) kh_rfl fun h6 tk6 k6 => ?_))
      rw [if_neg (by decide)]
      refine wpAny_execs_nil ?_
      have b6 := b5.keeps hfs k6
      refine wpAny_execs_cons (wpAny_If (PT.use (PT.cmp (K₂ := KVal .none) (PG.nameK b6.hn rfl ⟨u', rfl⟩ (upI (i := i))) PG.none upI fun _ _ _ _ ka kb => ps_isInt ka kb) kh_rfl fun h7 tk7 k7 => ?_))
      rw [if_neg (by decide)]
      have b7 := b6.keeps hfs k7
      refine wpAny_execs_cons (wpAny_Return_some (wpAny_BinOp ?_))
      refine (PG.bin (K := KStr (x ++ Str.ofString ".")) (PG.nameK b7.hn rfl ⟨u, rfl⟩ (upS (x := x))) PG.str upS fun _ _ _ _ ka kb => ps_addS ka kb (by rw [dot_len]; omega)).run h7 tk7 _ _ kh_rfl fun a h8 tk8 k8 ha => ?_
      obtain ⟨ta, rfl⟩ := ha
      have b8 := b7.keeps hfs k8
      refine (PG.name b8.hn rfl).run h8 tk8 _ _ kh_rfl fun b h9 tk9 k9 hb => ?_
      subst hb
      exact add_str_int_bad rfl (rs (b8.keeps hfs k9) (.inl rfl))


end Mine
end
section
open PySem PySem.W PyProof.Rows PySem.Calls
set_option Elab.async false
set_option maxRecDepth 100000
set_option maxHeartbeats 4000000
set_option linter.unusedVariables false
namespace Mine
theorem refused_spec (w : World) (dp un : Nat) (gd : Option (List Code)) (envs : List Env) (s : Shared) (hh : Heap) (tk0 : Nat) (g : Heap) (v : Value) (Q E : Value → Shared → Prop)
   (kg : KeepsH g hh) (G : Gl w g) (gfs : ∀ b ∈ fsOf envs, g.get? b = none) (hfs : FrsAt hh envs) (hv : Bad v hh) (hdp : dp + 5 < recursionLimit) (hun : un + 210 < cLine)
   (hQ : ∀ u h' tk', Slk (fsOf envs) [] hh h' → KStr words u h' → Q u { s with heap := h', toks := tk' }) :
   wpAny (model PySem.Challenge.rw_in0044_01.row.prog w) (AA dp un gd (some envs)) (call (.ref 142) [v]) Q E { s with heap := hh, toks := tk0 } := by
  obtain ⟨loose, mean, mg, mb, X, T⟩ := G.up kg
  k_dflt (refine' enter_g ?k3 ?k5 ?k6 ?k7 ?k8 ?k9 ?kB ?_ ?c2 ?c3 ?c4 ?c5; (case k3 => exact X); (case k5 => exact T); (case k6 => k_is); (case k7 => k_is); (case k8 => ktr_room); (case k9 => exact BindsTo.of_eq rfl); (case kB => exact locs rfl); (case c2 => exact rfl); (case c3 => exact rfl); (case c4 => exact rfl); (case c5 => decide); k_whole; intro L h₁ tk k1 gL F' eL htk)
  clear X T
  have gL : hh.get? L = none := gL
  have gkeep : ∀ {h' : Heap}, Slk (fsOf envs) [] hh h' → KeepsH g h' := fun sk b o e => sk.keep b o (by simp) (fun hm => by rw [gfs b hm] at e; cases e) (kg b o e)
  have gLg : g.get? L = none := noneOf kg gL
  have b1 : BInv hh envs L h₁ _ := ⟨.of fun b o _ e => k1 b o e, F', hfs.up fun b o es ep e d => ⟨o, es, ep, k1 _ _ e, d⟩⟩
  have hv1 := hv.up k1
  refine wpAny_execs_cons (try_gen (fun e s' => ∃ h tk a tb T c tw m, e = .ref a ∧ s' = { s with heap := h, toks := tk } ∧ BInv hh envs L h m ∧ ExcT h a tb "TypeError" (.ref T) c true .none ∧ h.TupAt T [.str words tw] ∧ (hh.get? a = none ∧ a ≠ L) ∧ (hh.get? tb = none ∧ tb ≠ L) ∧ (hh.get? T = none ∧ T ≠ L) ∧ T ≠ a ∧ T ≠ tb) ?out ?body)
  case body =>
    intro E₀ hPE hPA hOut
    refine wpAny_execs_cons (wpAny_Return_some (Call_ ?_))
    refine (Gl.fn (G.up (gkeep b1.sk)) f_52).run h₁ tk _ _ kh_rfl fun u h2 tk2 k2 hu => ?_
    subst hu
    have b2 := b1.keeps hfs k2
    obtain ⟨o, fd, ho, hd⟩ := o_52 (G.up (gkeep b2.sk))
    refine callWith_def_at ho hd (spliced_more ((PG.name b2.hn rfl).run h2 tk2 _ _ kh_rfl fun u h3 tk3 k3 hu => spliced_none ⟨k3 _ _ ho, ?_⟩))
    subst hu
    have b3 := b2.keeps hfs k3
    have hv3 := hv1.up (kh_tr k2 k3)
    refine bl_bad w (dp + 1) (un + 3) gd _ s h3 tk3 g u _ _ (gkeep b3.sk) G ?gfs (frs_cons (by show ScopeKind.function ≠ ScopeKind.module; decide) rfl b3.hn b3.fr) hv3 (by omega) (by omega) ?hE
    case gfs =>
      intro b hb
      rcases List.mem_cons.mp hb with q | q
      · rw [q]; exact gLg
      · exact gfs b q
    case hE =>
      rintro e s' ⟨h4, tk4, a, tb, T, c, tw, rfl, rfl, sk, fr, x, hT, na, nb, nT, h5, h6⟩
      have b4 := b3.exc (mt := []) hfs gL sk (fun _ q => nomatch q)
      exact hOut _ _ ⟨h4, tk4, a, tb, T, c, tw, _, rfl, rfl, b4, x, hT, b3.new na, b3.new nb, b3.new nT, h5, h6⟩
  case out =>
    rintro e s₁ ⟨h, tk, a, tb, T, c, tw, m, rfl, rfl, bi, x, ⟨oT, nT', hT1, hT2, hT3⟩, na, nb, nT, hTa, hTb⟩
    refine note2 (outer := envs) (L := L) rfl (frs_cons (by show ScopeKind.function ≠ ScopeKind.module; decide) rfl bi.hn bi.fr) rfl x fun h2 tb2 sk htb x2 => ?_
    have ntb := bi.new htb
    have b2 := bi.exc hfs gL sk (fun b q => by rcases List.mem_cons.mp q with q | q; exact q ▸ na; rw [List.mem_singleton.mp q]; exact nb)
    have hTf : T ∉ L :: fsOf envs := by
      simp only [List.mem_cons, not_or]
      refine ⟨nT.2, fun q => ?_⟩
      obtain ⟨_, o', e', _⟩ := hfs.fun.mem q
      rw [nT.1] at e'; cases e'
    have T2 := sk.keep T _ (by simp [hTa, hTb]) hTf hT1
    have hTtb2 : T ≠ tb2 := fun q => by rw [← q, hT1] at htb; cases htb
    refine flight (s := { s with heap := h2, toks := tk }) x2 fun h3 k3 x3 => ?_
    have b3 := b2.but hfs k3 (fun b q => by rw [List.mem_singleton.mp q]; exact ntb)
    have T3 := k3 T _ (by simpa using hTtb2) T2
    have G3 : Gl w h3 := G.up (gkeep b3.sk)
    clear sk k3 x2 b2 bi x T2
    refine wpAny_handleBy_builtin_as (X := "TypeError") (T := "TypeError") (b := true) (isSubtype_of_subB (by decide +kernel)) (isSubtype_of_subB (by decide +kernel)) (isSubtype_of_subB (by decide +kernel)) ?_
    refine (Gl.built G3 e_TE b_TE).run h3 tk _ _ kh_rfl fun u h4 tk4 k4 hu => ?_
    have x4 : ExcT h4 a tb2 "TypeError" (.ref T) c true .none := x3.keep (fun o e => k4 _ _ e) (fun o e => k4 _ _ e)
    have b4 := b3.keeps hfs k4
    refine ⟨hu, by obtain ⟨⟨ob, e1, e2, _⟩, _⟩ := x4; exact ⟨ob, e1, e2⟩, ?_⟩
    rw [if_pos rfl]
    refine flight (s := { s with heap := h4, toks := tk4 }) x4 fun h5 k5 x5 => ?_
    have b5 := b4.but hfs k5 (fun b q => by rw [List.mem_singleton.mp q]; exact ntb)
    have T5 := k5 T _ (by simpa using hTtb2) (k4 _ _ T3)
    clear b4 x4 k5 k4 x3 G3 b3 T3
    refine wpAny_storeName_local rfl b5.hn (fun h6 hn6 hs6 => ?_) rfl
    have kb6 : KeepBut [L] h5 h6 := fun b o hb e => hs6.extBut b o (fun q => hb (List.mem_singleton.mpr q)) e
    have b6 : BInv hh envs L h6 _ := b5.store hfs gL kb6 hn6
    have x6 : ExcT h6 a tb2 "TypeError" (.ref T) c true .none := x5.keep (fun o e => kb6 _ _ (by simpa using na.2) e) (fun o e => kb6 _ _ (by simpa using ntb.2) e)
    have T6 := kb6 T _ (by simpa using nT.2) T5
    have G6 : Gl w h6 := G.up (gkeep b6.sk)
    clear b5 x5 T5 kb6 hs6 hn6
    refine wpAny_execs_cons (wpAny_Return_some (Call_ ?_))
    refine (Gl.built G6 e_str b_str).run h6 _ _ _ kh_rfl fun f h7 tk7 k7 hf => ?_
    subst hf
    refine callWith_type1 (spliced_more ((PG.name (b6.keeps hfs k7).hn rfl).run h7 tk7 _ _ kh_rfl fun wv h8 tk8 k8 hw => spliced_none ?_))
    subst hw
    have k68 := kh_tr k7 k8
    have b8 := b6.keeps hfs k68
    obtain ⟨⟨ob, q1, q2, q3⟩, _⟩ := x6
    refine PySem.P.str_of_exc_one PySem.F.excStr_TypeError (by show un + 3 + 2 < cLine; omega) ⟨ob, _, k68 _ _ q1, q2, q3, rfl⟩ ⟨_, _, k68 _ _ T6, hT2, hT3⟩ ?_
    refine wpAny_nameGoes rfl b8.hn rfl fun h9 m9 hn9 hs9 => ?_
    have b9 : BInv hh envs L h9 _ := b8.store hfs gL (fun b o hb e => hs9.extBut b o (fun q => hb (List.mem_singleton.mpr q)) e) hn9
    exact hQ _ _ _ b9.sk ⟨_, rfl⟩


end Mine
end
section
open PySem PySem.W PyProof.Rows PySem.Calls
set_option Elab.async false
set_option maxRecDepth 100000
set_option maxHeartbeats 4000000
set_option linter.unusedVariables false
namespace Mine
noncomputable def lackQ (xs ys : List Str) (k : Nat) : Bool := !(ys.any (· == xs.getD k Str.empty)) && (!((xs.take k).any (· == xs.getD k Str.empty)) || (decide (ys = []) || (ys.all fun y => slt y (xs.getD k Str.empty))))
noncomputable def lackRow (xs ys : List Str) : List Str := ((List.range xs.length).filter (lackQ xs ys)).map fun k => xs.getD k Str.empty
noncomputable def lackF (xs ys : List Str) : List Str := srt (lackRow xs ys)
theorem getD_at {xs : List Str} {k : Nat} (h : k < xs.length) : xs[k]? = some (xs.getD k Str.empty) := by simp [List.getElem?_eq_getElem h]
theorem max_all {ys : List Str} {M x : Str} (hM : M ∈ ys) (h : ∀ y ∈ ys, slt M y = false) : slt M x = ys.all fun y => slt y x := by
  cases e : slt M x with
  | true => exact (List.all_eq_true.mpr fun y hy => slt_of_nlt (h y hy) e).symm
  | false => exact (Bool.eq_false_iff.mpr fun q => by rw [List.all_eq_true.mp q M hM] at e; cases e).symm
theorem lacking_spec (w : World) (dp un : Nat) (gd : Option (List Code)) (fr : Option (List Env)) (s : Shared) (h₀ : Heap) (a b : Value) (xs ys : List Str) (G : Gl w h₀) (ha : KStrs xs a h₀) (hb : KStrs ys b h₀) (hx : xs.length ≤ 60) (hy : ys.length ≤ 60) (oky : SOk ys)
   (hdp : dp + 3 < recursionLimit) (hun : un + 200 < cLine) :
   PC PySem.Challenge.rw_in0044_01.row.prog w (AA dp un gd fr) (.ref 130) [a, b] h₀ s (KStrs (lackF xs ys)) := by
  refine .mk fun hh tk0 Q E k0 hQ => ?_
  obtain ⟨loose, mean, mg, mb, X, T⟩ := G.up k0
  k_dflt (refine' enter_g ?k3 ?k5 ?k6 ?k7 ?k8 ?k9 ?kB ?_ ?c2 ?c3 ?c4 ?c5; (case k3 => exact X); (case k5 => exact T); (case k6 => k_is); (case k7 => k_is); (case k8 => ktr_room); (case k9 => exact BindsTo.of_eq rfl); (case kB => exact locs rfl); (case c2 => exact rfl); (case c3 => exact rfl); (case c4 => exact rfl); (case c5 => decide); k_whole; intro L' h₁ tk kg gL F' eL htk)
  refine bodyO (by passes_own) fun Q9 E9 hE9 hQ9 => ?_
  have G1 : Gl w hh := ⟨loose, mean, mg, mb, X, T⟩
  have ha1 := upSs _ _ _ k0 ha
  have hb1 := upSs _ _ _ k0 hb
  clear X T
  refine wpAny_execs_cons (asg_pure (h₀ := h₁) PG.emptyList kh_rfl F' ?_)
  rintro v h2 h3 tk3 k2 ⟨D, rfl, hDn, hD2⟩ k3 F3
  have hLD : L' ≠ D := fun e => by obtain ⟨o, _, _, e', _⟩ := F'; rw [← e] at hDn; exact absurd (e'.symm.trans hDn) (by simp)
  have kg3 : KeepsH hh h3 := fun b o e => k3 b o (fun q => by rw [show b = L' from q] at e; exact absurd (e.symm.trans gL) (by simp)) (k2 _ _ (kg b o e))
  have hDh : hh.get? D = none := noneOf kg hDn
  have hD3 : h3.PlainList D #[] := hD2.at fun o e => k3 _ o (Ne.symm hLD) e
  clear k3 hD2 F' k2 kg hDn
  refine wpAny_execs_cons (gfor ?_ rfl rfl (by intro _; rfl) hE9)
  refine PG.use (g := h3) (K := KRange xs.length) ?src kh_rfl ?_
  case src => exact PG.range (G1.up kg3) (PG.len (c := xs.length) (G1.up kg3) (PG.nameK F3 rfl (upSs _ _ _ kg3 ha1) upSs) (fun _ h => StrsAre.length h) (by omega))
  rintro v h4 tk4 k4 ⟨r, t, u, x, rfl, hr⟩
  refine ⟨_, List.range xs.length, _, hh, [L', D], fun wr k m s' => ∃ h tk vs, s' = { s with heap := h, toks := tk } ∧ KeepsH hh h ∧ h.PlainList D (List.toArray vs) ∧ D ∉ wr ∧ (∀ b ∈ wr, hh.get? b = none) ∧ StrsAre vs ((((List.range xs.length).take k).filter (lackQ xs ys)).map fun k => xs.getD k Str.empty) ∧ m (Str.ofString "one") = some a ∧ m (Str.ofString "other") = some b ∧ m (Str.ofString "row") = some (.ref D), _, Src.range rfl hr (by omega), kh_tr kg3 k4, .head _, ?mt, F3.keeps k4, ?i0, ?is, ?step, ?done⟩
  case mt =>
    intro b hb
    rcases List.mem_cons.mp hb with rfl | hb
    · obtain ⟨o, _, _, e, _⟩ := F3.keeps k4; exact ⟨gL, o, e⟩
    · rw [List.mem_singleton.mp hb]; obtain ⟨c, e⟩ := hD3; exact ⟨hDh, _, k4 _ _ e⟩
  case i0 =>
    intro wr h tk hw kh
    refine ⟨h, tk, [], rfl, kh_tr kg3 (kh_tr k4 kh), hD3.at fun o e => kh _ _ (k4 _ _ e), fun hm => ?_, fun b hb => noneOf (kh_tr kg3 k4) (hw b hb), by simpa using StrsAre.nil, rfl, rfl, rfl⟩
    obtain ⟨c, e⟩ := hD3
    have := hw D hm; rw [k4 _ _ e] at this; cases this
  case is =>
    rintro wr k m s' h tk ⟨h0, tk0, vs, rfl, kh, hD, hDw, hw, hv, m1, m2, m3⟩ kb
    exact ⟨h, tk, vs, rfl, fun b o e => kb b o (fun hm => by rw [hw b hm] at e; cases e) (kh b o e), hD.at fun o e => kb _ o hDw e, hDw, hw, hv, m1, m2, m3⟩
  case step =>
    rintro wr k kk v m s' h5 tk5 hwr hk ⟨t, rfl⟩ ⟨h0, tk0, vs, rfl, kh, hD, hDw, hw, hv, m1, m2, m3⟩ hn hn5 hs5 hwe
    refine turnO fun T9 hT9 => ?_
    have hkk : k < xs.length ∧ kk = k := by
      have h1 := (List.getElem?_eq_some_iff.mp hk)
      obtain ⟨h1, h2⟩ := h1
      simp at h1 h2
      exact ⟨h1, h2.symm⟩
    obtain ⟨hkl, rfl⟩ := hkk
    have hsnoc := take_snoc_filter (lackQ xs ys) (fun k => xs.getD k Str.empty) hk
    have k5 : KeepsH hh h5 := fun b o e => hs5.extBut b o (fun q => by rw [show b = L' from q] at e; exact absurd (e.symm.trans gL) (by simp)) (kh b o e)
    have hD5 : h5.PlainList D (List.toArray vs) := hD.at fun o e => hs5.extBut D o (Ne.symm hLD) e
    have ha5 := upSs _ _ _ k5 ha1
    have hb5 := upSs _ _ _ k5 hb1
    have G5 := G1.up k5
    refine wpAny_execs_cons (wpAny_If ?_)
    refine PT.use (b := lackQ xs ys kk) (g := h5) ?tst kh_rfl ?_
    case tst =>
      refine PT.and (PG.notin (PG.item (PG.nameK hn5 m1 ha5 upSs) (PG.nameK hn5 rfl ⟨t, rfl⟩ upI) (getD_at hkl) (by omega)) (PG.nameK hn5 m2 hb5 upSs)) fun _ => ?q
      rw [← Bool.and_true (_ || _)]
      refine PT.and (PT.or (PG.notin (PG.item (PG.nameK hn5 m1 ha5 upSs) (PG.nameK hn5 rfl ⟨t, rfl⟩ upI) (getD_at hkl) (by omega)) (PG.takeS (PG.nameK hn5 m1 ha5 upSs) (PG.nameK hn5 rfl ⟨t, rfl⟩ upI) (by omega))) fun _ => ?q2) fun _ => PT.andN
      refine PT.or (PT.cmp (PG.nameK hn5 m2 hb5 upSs) (PG.emptyList.imp (K' := KStrs []) fun v h' _ ⟨D, e, _, c, hD⟩ => ⟨D, #[], c, e, hD, .nil⟩) upSs fun o j h' k' ho hj => ps_eqS ho hj oky (by simp [SOk]) (by ktr_units)) fun hne => ?q3
      rw [← Bool.or_false (ys.all _)]
      refine PT.or (PT.cmp (K₂ := KMax ys) (PG.item (PG.nameK hn5 m1 ha5 upSs) (PG.nameK hn5 rfl ⟨t, rfl⟩ upI) (getD_at hkl) (by omega)) (PG.callB1 (Gl.built G5 e_max b_max) (PG.nameK hn5 m2 hb5 upSs) upSs fun v h' k' kv => pc_max rfl kv ?ne) upS fun o j h' k' ho hj => ?gt) fun _ => PT.orN
      case ne => exact List.length_pos_iff.mpr (of_decide_eq_false hne)
      case gt =>
        obtain ⟨M, t', rfl, hM, hle⟩ := hj
        rw [← max_all hM hle]
        exact ps_gtS ho ⟨t', rfl⟩
    intro h6 tk6 k6
    have k06 := kh_tr k5 k6
    have hn6 := hn5.keeps k6
    have hD6 : h6.PlainList D (List.toArray vs) := hD5.at fun o e => k6 _ o e
    cases hq : lackQ xs ys kk with
    | true =>
      simp only [if_true]
      rw [hq, if_pos rfl] at hsnoc
      have hvl : vs.length ≤ 60 := by rw [hv.length, List.length_map]; exact Nat.le_trans (List.length_filter_le _ _) (Nat.le_trans (List.length_take_le' _ _) (by simpa using hx))
      refine wpAny_execs_cons (append_stmt (K := KStr (xs.getD kk Str.empty)) (vs := List.toArray vs) _ (PG.name hn6 m3) hD6 (PG.item (PG.nameK hn6 m1 (upSs _ _ _ k6 ha5) upSs) (PG.nameK hn6 rfl ⟨t, rfl⟩ upI) (getD_at hkl) (by omega)) (by rw [List.size_toArray, PySem.sizeLine_eq]; omega) ?_)
      rintro v h7 h8 tk8 k7 ⟨t7, rfl⟩ hD8 kb8
      refine wpAny_execs_nil (wpAny_execs_nil (hT9 _ _ (fun b o hb e => ?_) ((hn6.keeps k7).at' fun o e => kb8 _ o hLD e) ⟨h8, tk8, vs ++ [.str (xs.getD kk Str.empty) t7], rfl, ?_, by simpa using hD8, hDw, hw, ?_, ?_, ?_, ?_⟩))
      · simp only [List.mem_cons, List.not_mem_nil, or_false, not_or] at hb
        exact kb8 b o hb.2 (k7 _ _ (k6 _ _ e))
      · exact fun b o e => kb8 b o (fun q => by rw [q, hDh] at e; cases e) (k7 _ _ (k06 _ _ e))
      · rw [hsnoc]; exact hv.append' (.cons _ _ .nil)
      · exact m1
      · exact m2
      · exact m3
    | false =>
      simp only [Bool.false_eq_true, if_false]
      rw [hq, if_neg Bool.false_ne_true, List.append_nil] at hsnoc
      refine wpAny_execs_nil (wpAny_execs_nil (hT9 _ _ (fun b o _ e => k6 _ _ e) hn6 ⟨h6, tk6, vs, rfl, k06, hD6, hDw, hw, ?_, ?_, ?_, ?_⟩))
      · rw [hsnoc]; exact hv
      · exact m1
      · exact m2
      · exact m3
  case done =>
    rintro wr m s' hwr hn ⟨h, tk, vs, rfl, kh, hD, hDw, hw, hv, m1, m2, m3⟩
    rw [List.take_length] at hv
    obtain ⟨c, hc⟩ := hD
    have hrow : KStrs (lackRow xs ys) (.ref D) h := ⟨D, List.toArray vs, c, rfl, hc, hv⟩
    refine wpAny_execs_cons (wpAny_Return_some (PG.use (g := h) (PG.callB1 (Gl.built (G1.up kh) e_sorted b_sorted) (PG.nameK hn m3 hrow upSs) upSs fun v h' k' kv => PC.imp (K' := KStrs (lackF xs ys)) (pc_sorted kv ?_) fun _ _ _ k => k.1) kh_rfl fun v h8 tk8 k8 r8 => hQ9 _ _ (hQ v h8 tk8 (kh_tr kh k8) r8)))
    unfold lackRow
    rw [List.length_map]
    exact Nat.lt_of_le_of_lt (List.length_filter_le _ _) (by simp; omega)


end Mine
end
section
open PySem PySem.W PyProof.Rows PySem.Calls
set_option Elab.async false
set_option maxRecDepth 100000
set_option maxHeartbeats 4000000
set_option linter.unusedVariables false
namespace Mine
noncomputable def toldMissing (xs ys : List Str) : List Str := ((List.range xs.length).filter fun k => decide (((ys.count (xs.getD k Str.empty) : Nat) : Int) < (((xs.drop k).count (xs.getD k Str.empty) : Nat) : Int))).map fun k => xs.getD k Str.empty
noncomputable def toldLeft (xs ys : List Str) : List Str := ((List.range ys.length).filter fun k => decide (((xs.count (ys.getD k Str.empty) : Nat) : Int) < (((ys.take (k + 1)).count (ys.getD k Str.empty) : Nat) : Int))).map fun k => ys.getD k Str.empty
theorem cell_of {h : Heap} {c : Addr} {o : Obj} {v : Option Value} (e : h.get? c = some o) (d : o.data = .cell v) : h.IsCell c v := ⟨o, e, d⟩
theorem told_spec (w : World) (dp un : Nat) (gd : Option (List Code)) (fr : Option (List Env)) (s : Shared) (h₀ : Heap) (a b : Value) (xs ys : List Str)
   (G : Gl w h₀) (ha : KStrs xs a h₀) (hb : KStrs ys b h₀) (hx : xs.length ≤ 60) (hy : ys.length ≤ 60) (okx : SOk xs) (oky : SOk ys) (hdp : dp + 4 < recursionLimit) (hun : un + 203 < cLine) :
   PC PySem.Challenge.rw_in0044_01.row.prog w (AA dp un gd fr) (.ref 135) [a, b] h₀ s
     (KRd (.list [.tuple [.list ((lackF xs ys).map .str), .list ((lackF ys xs).map .str)], .tuple [.list ((toldMissing xs ys).reverse.map .str), .list ((toldLeft xs ys).map .str)]])) := by
  refine .mk fun hh tk0 Q E k0 hQ => ?_
  obtain ⟨loose, mean, mg, mb, X, T⟩ := G.up k0
  k_dflt (refine' enter_gc ?k3 ?k5 ?k6 ?k7 ?k8 ?k9 ?kB ?hnd ?_ ?c2 ?c3 ?c4; (case k3 => exact X); (case k5 => exact T); (case k6 => k_is); (case k7 => k_is); (case k8 => ktr_room); (case k9 => exact BindsTo.of_eq rfl); (case kB => exact rfl); (case hnd => decide); (case c2 => exact rfl); (case c3 => exact rfl); (case c4 => exact rfl); k_whole; intro L' h₁ tk g cells kg kg1 gL F' Y' hcells eL htk)
  obtain ⟨o1, o2, rfl, d1, d2⟩ := CellsAre.two Y'
  have c1 : g.IsCell (L' + 1 + 1) (some b) := cell_of (hcells _ (.head _)) d1
  have c2 : g.IsCell (L' + 1) (some a) := cell_of (hcells _ (.tail _ (.head _))) d2
  clear hcells d1 d2 
  have G1 : Gl w g := ⟨loose, mean, mg, mb, X.keeps kg, T.keeps kg⟩
  have ha1 := upSs _ _ _ (kh_tr k0 kg) ha
  have hb1 := upSs _ _ _ (kh_tr k0 kg) hb
  clear X T
  refine wpAny_execs_cons (gcomp_assign rfl rfl (by decide) rfl (by decide) rfl ?_ (by intro _; rfl))
  refine PG.use (g := g) (K := KRange xs.length) ?src kg1 ?_
  case src => exact PG.range G1 (PG.len (c := xs.length) G1 (PG.cellK c2 ha1 upSs) (fun _ h => StrsAre.length h) (by omega))
  rintro v h2 tk2 k2 ⟨r, t, u, x, rfl, hr⟩
  refine ⟨_, _, List.range xs.length, _, fun _ v (x : Str) => ∃ t, v = .str x t, (fun k => decide (((ys.count (xs.getD k Str.empty) : Nat) : Int) < (((xs.drop k).count (xs.getD k Str.empty) : Nat) : Int))), (fun k => xs.getD k Str.empty), g, fun _ _ _ _ _ h => h, fun _ _ _ _ _ h => h, kh_tr kg1 k2, ?t, ?e, Src.range rfl hr (by omega), ?k⟩
  case t =>
    refine testOk_one fun k v h g' C m hk ⟨t, hv⟩ kg' kgh hn hm => ?_
    have up := kh_tr kg' kgh
    have hkl : k < xs.length := List.mem_range.mp hk
    exact PG.gt (PG.count _ (PG.dropS (PG.cellK (isCell_up c2 up) (upSs _ _ _ up ha1) upSs) (PG.nameK hn hm ⟨t, hv⟩ upI) (by omega)) (PG.item (PG.cellK (isCell_up c2 up) (upSs _ _ _ up ha1) upSs) (PG.nameK hn hm ⟨t, hv⟩ upI) (getD_at hkl) (by omega)))
       (PG.count _ (PG.cellK (isCell_up c1 up) (upSs _ _ _ up hb1) upSs) (PG.item (PG.cellK (isCell_up c2 up) (upSs _ _ _ up ha1) upSs) (PG.nameK hn hm ⟨t, hv⟩ upI) (getD_at hkl) (by omega)))
  case e => 
    refine eltOk (fun _ k => KStr (xs.getD k Str.empty)) (fun k v h g' C m hk _ ⟨t, hv⟩ kg' kgh hn hm => ?_) (fun _ _ _ _ _ h _ => h)
    have up := kh_tr kg' kgh
    have hkl : k < xs.length := List.mem_range.mp hk
    exact PG.item (PG.cellK (isCell_up c2 up) (upSs _ _ _ up ha1) upSs) (PG.nameK hn hm ⟨t, hv⟩ upI) (getD_at hkl) (by omega)
  case k => 
    intro h3 tk3 D g3 ys3 c3 X3 hD hDn hp
    refine asg_local (F'.keeps k2) gL X3 fun h4 tk4 k4 F4 _ => ?_
    have kg4 : KeepsH g g3 := X3.gg
    have hm4 : KStrs (toldMissing xs ys) (.ref D) g3 := ⟨D, _, _, rfl, hD, paired_strs hp⟩
    have gL4 := X3.new _ gL (by obtain ⟨o, _, _, e, _⟩ := F'.keeps k2; exact ⟨o, e⟩)
    replace c1 := isCell_up c1 kg4
    replace c2 := isCell_up c2 kg4
    replace ha1 := upSs _ _ _ kg4 ha1
    replace hb1 := upSs _ _ _ kg4 hb1
    replace G1 := G1.up kg4
    have kk4 : KeepsH hh g3 := kh_tr kg kg4
    have hml : (toldMissing xs ys).length ≤ 60 := by unfold toldMissing; rw [List.length_map]; exact Nat.le_trans (List.length_filter_le _ _) (by simpa using hx)
    have F4' := F4
    clear F4 F' hp X3 hD hDn k2 hr kg kg1 gL kg4 ha hb G
    refine wpAny_execs_cons (gcomp_assign rfl rfl (by decide) rfl (by decide) rfl ?_ (by intro _; rfl))
    refine PG.use (g := g3) (K := KRange ys.length) ?src k4 ?_
    case src => exact PG.range G1 (PG.len (c := ys.length) G1 (PG.cellK c1 hb1 upSs) (fun _ h => StrsAre.length h) (by omega))
    rintro v h5 tk5 k5 ⟨r, t, u, x, rfl, hr⟩
    refine ⟨_, _, List.range ys.length, _, fun _ v (x : Str) => ∃ t, v = .str x t, (fun k => decide (((xs.count (ys.getD k Str.empty) : Nat) : Int) < (((ys.take (k + 1)).count (ys.getD k Str.empty) : Nat) : Int))), (fun k => ys.getD k Str.empty), g3, fun _ _ _ _ _ h => h, fun _ _ _ _ _ h => h, kh_tr k4 k5, ?t, ?e, Src.range rfl hr (by omega), ?k⟩
    case t =>
      refine testOk_one fun k v h g' C m hk ⟨t, hv⟩ kg' kgh hn hm => ?_
      have up := kh_tr kg' kgh
      have hkl : k < ys.length := List.mem_range.mp hk
      exact PG.gt (PG.count _ (PG.takeS (k := k + 1) (PG.cellK (isCell_up c1 up) (upSs _ _ _ up hb1) upSs) (PG.add (PG.nameK hn hm ⟨t, hv⟩ upI) PG.int) (by omega)) (PG.item (PG.cellK (isCell_up c1 up) (upSs _ _ _ up hb1) upSs) (PG.nameK hn hm ⟨t, hv⟩ upI) (getD_at hkl) (by omega)))
         (PG.count _ (PG.cellK (isCell_up c2 up) (upSs _ _ _ up ha1) upSs) (PG.item (PG.cellK (isCell_up c1 up) (upSs _ _ _ up hb1) upSs) (PG.nameK hn hm ⟨t, hv⟩ upI) (getD_at hkl) (by omega)))
    case e => 
      refine eltOk (fun _ k => KStr (ys.getD k Str.empty)) (fun k v h g' C m hk _ ⟨t, hv⟩ kg' kgh hn hm => ?_) (fun _ _ _ _ _ h _ => h)
      have up := kh_tr kg' kgh
      have hkl : k < ys.length := List.mem_range.mp hk
      exact PG.item (PG.cellK (isCell_up c1 up) (upSs _ _ _ up hb1) upSs) (PG.nameK hn hm ⟨t, hv⟩ upI) (getD_at hkl) (by omega)
    case k =>
      intro h6 tk6 D6 g6 ys6 c6 X6 hD6 hDn6 hp6
      refine asg_local (F4'.keeps k5) gL4 X6 fun h7 tk7 k7 F7 _ => ?_
      have kg7 : KeepsH g3 g6 := X6.gg
      have hl7 : KStrs (toldLeft xs ys) (.ref D6) g6 := ⟨D6, _, _, rfl, hD6, paired_strs hp6⟩
      replace c1 := isCell_up c1 kg7
      replace c2 := isCell_up c2 kg7
      replace ha1 := upSs _ _ _ kg7 ha1
      replace hb1 := upSs _ _ _ kg7 hb1
      replace G1 := G1.up kg7
      replace hm4 := upSs _ _ _ kg7 hm4
      have kk7 : KeepsH hh h7 := kh_tr kk4 (kh_tr kg7 k7)
      replace c1 := isCell_up c1 k7
      replace c2 := isCell_up c2 k7
      replace ha1 := upSs _ _ _ k7 ha1
      replace hb1 := upSs _ _ _ k7 hb1
      replace G1 := G1.up k7
      replace hm4 := upSs _ _ _ k7 hm4
      replace hl7 := upSs _ _ _ k7 hl7
      refine wpAny_execs_cons (wpAny_Return_some (PG.use (g := h7) ?x kh_rfl fun v h8 tk8 k8 r8 => hQ v h8 tk8 (kh_tr kk7 k8) r8))
      refine PG.listRd (PA.rd (PG.tupleRd (PA.rd ?a1 (PA.rd ?a2 PA.rd0))) (PA.rd (PG.tupleRd (PA.rd ?a3 (PA.rd ?a4 PA.rd0))) PA.rd0))
      case a1 => exact PG.imp (K := KStrs (lackF xs ys)) (Gl.call G1 f_130 (o_130 G1) (PA.two (PG.cellK c2 ha1 upSs) upSs (PG.cellK c1 hb1 upSs) upSs) fun vs h' k ⟨v, v', e, hv, hv'⟩ => by subst e; exact lacking_spec w (dp + 1) (un + 3) _ _ _ h' _ _ xs ys (G1.up k) hv hv' hx hy oky (by omega) (by omega)) fun _ _ _ k => KStrs.rd k
      case a2 => exact PG.imp (K := KStrs (lackF ys xs)) (Gl.call G1 f_130 (o_130 G1) (PA.two (PG.cellK c1 hb1 upSs) upSs (PG.cellK c2 ha1 upSs) upSs) fun vs h' k ⟨v, v', e, hv, hv'⟩ => by subst e; exact lacking_spec w (dp + 1) (un + 3) _ _ _ h' _ _ ys xs (G1.up k) hv hv' hy hx okx (by omega) (by omega)) fun _ _ _ k => KStrs.rd k
      case a3 => exact (PG.revS (PG.nameK F7 rfl hm4 upSs) (PG.neg PG.int) (by omega)).imp fun _ _ _ k => k.rd
      case a4 => exact (PG.nameK F7 rfl hl7 upSs).imp fun _ _ _ k => k.rd


end Mine
end
section
open PySem PySem.W PyProof.Rows PySem.Calls
set_option Elab.async false
set_option maxRecDepth 100000
set_option maxHeartbeats 4000000
set_option linter.unusedVariables false
namespace Mine
noncomputable def clipI (d : Int) : Int := if (if d < 1 then d else 1) > -1 then (if d < 1 then d else 1) else -1
noncomputable def placesF (xs : List Str) : List Int := xs.map fun x => (((srt xs).idxOf x : Nat) : Int)
noncomputable def stepsF (xs : List Str) : List Int := (List.range (xs.length - 1)).map fun k => clipI ((placesF xs).getD k 0 - (placesF xs).getD (k + 1) 0)
theorem getI_at {xs : List Int} {k : Nat} (h : k < xs.length) : xs[k]? = some (xs.getD k 0) := by simp [List.getElem?_eq_getElem h]
theorem strs_paired {vs : List Value} {xs : List Str} (h : StrsAre vs xs) : Paired (fun v (x : Str) => ∃ t, v = Value.str x t) vs xs := by
  induction h with
  | nil => exact .nil
  | cons x t _ ih => exact .cons ⟨t, rfl⟩ ih
theorem steps_spec (w : World) (dp un : Nat) (gd : Option (List Code)) (fr : Option (List Env)) (s : Shared) (h₀ : Heap) (a : Value) (xs : List Str) (G : Gl w h₀) (ha : KStrs xs a h₀) (hx : xs.length ≤ 60) (hx1 : 0 < xs.length)
   (hdp : dp + 3 < recursionLimit) (hun : un + 200 < cLine) :
   PC PySem.Challenge.rw_in0044_01.row.prog w (AA dp un gd fr) (.ref 147) [a] h₀ s (KInts (stepsF xs)) := by
  refine .mk fun hh tk0 Q E k0 hQ => ?_
  obtain ⟨loose, mean, mg, mb, X, T⟩ := G.up k0
  k_dflt (refine' enter_gc ?k3 ?k5 ?k6 ?k7 ?k8 ?k9 ?kB ?hnd ?_ ?c2 ?c3 ?c4; (case k3 => exact X); (case k5 => exact T); (case k6 => k_is); (case k7 => k_is); (case k8 => ktr_room); (case k9 => exact BindsTo.of_eq rfl); (case kB => exact rfl); (case hnd => decide); (case c2 => exact rfl); (case c3 => exact rfl); (case c4 => exact rfl); k_whole; intro L' h₁ tk g cells kg kg1 gL F' Y' hcells eL htk)
  obtain ⟨o1, o2, rfl, d1, d2⟩ := CellsAre.two Y'
  have c1 : h₁.IsCell (L' + 1 + 1) none := ⟨_, kg1 _ _ (hcells _ (.head _)), d1⟩
  have c2 : h₁.IsCell (L' + 1) none := ⟨_, kg1 _ _ (hcells _ (.tail _ (.head _))), d2⟩
  have G1 : Gl w hh := ⟨loose, mean, mg, mb, X, T⟩
  have ha1 := upSs _ _ _ k0 ha
  have n0 : hh.get? L' = none := by rw [eL]; exact Heap.get?_none_of_le (Nat.le_refl _)
  have n1 : hh.get? (L' + 1) = none := by rw [eL]; exact Heap.get?_none_of_le (Nat.le_succ _)
  have n2 : hh.get? (L' + 1 + 1) = none := by rw [eL]; exact Heap.get?_none_of_le (Nat.le_succ_of_le (Nat.le_succ _))
  have k1 : KeepsH hh h₁ := kh_tr kg kg1
  clear X T hcells d1 d2 kg kg1 gL g htk eL
  have l1 : L' + 1 ≠ L' + 1 + 1 := neN (by omega)
  have l2 : L' ≠ L' + 1 := neN (by omega)
  have l3 : L' ≠ L' + 1 + 1 := neN (by omega)
  refine wpAny_execs_cons (asg_pureC (h₀ := h₁) (K := KNew h₁ (KStrs (srt xs))) (PG.callB1 (Gl.built (G1.up k1) e_sorted b_sorted) (PG.nameK F' rfl (upSs _ _ _ k1 ha1) upSs) upSs fun v h' k' kv => PC.imp (pc_sorted kv (by omega)) fun v h k kk => ⟨kk.1, ?nn⟩) kh_rfl c2 ?_)
  case nn => obtain ⟨l, e, hl⟩ := kk.2; exact ⟨l, e, noneOf k' hl⟩
  rintro v h2 h3 tk3 k2 ⟨⟨l, vs, n, rfl, hl, hv⟩, _, e, hln⟩ k3 hc3
  cases e
  have F3 := (F'.keeps k2).at' fun o e => k3 _ o l2 e
  have c3 : h3.IsCell (L' + 1 + 1) none := by obtain ⟨o, e, d⟩ := c1; exact ⟨o, k3 _ _ (Ne.symm l1) (k2 _ _ e), d⟩
  have kh3 : KeepsH hh h3 := fun b o e => k3 b o (fun q => by rw [q, n1] at e; cases e) (k2 _ _ (k1 _ _ e))
  have hl3 : h3.get? l = some (listOf vs n) := k3 _ _ (fun q => by obtain ⟨o, e, _⟩ := c2; rw [← q, hln] at e; cases e) hl
  -- the ghost with the order in its cell
  have hlL : l ≠ L' := fun q => by obtain ⟨o, _, _, e, _⟩ := F'; rw [← show l = _ from q, hln] at e; cases e
  have hlc : l ≠ L' + 1 + 1 := fun q => by obtain ⟨o, e, _⟩ := c1; rw [← q, hln] at e; cases e
  generalize hg : hideAll h3 [L', L' + 1 + 1] = g
  have kg : KeepsH hh g := fun b o e => hg ▸ hideAll_get _ (kh3 b o e) fun hm => by
    rcases List.mem_cons.mp hm with rfl | hm
    · rw [n0] at e; cases e
    · rw [List.mem_singleton.mp hm, n2] at e; cases e
  have kg3 : KeepsH g h3 := fun b o e => of_hideAll _ (hg ▸ e)
  have gL : g.get? L' = none := hg ▸ hideAll_none _ (.head _)
  have gc : g.get? (L' + 1 + 1) = none := hg ▸ hideAll_none _ (.tail _ (.head _))
  have gl : KStrs (srt xs) (.ref l) g := ⟨l, vs, n, rfl, hg ▸ hideAll_get _ hl3 (by simp [hlL, hlc]), hv⟩
  have gc1 : g.IsCell (L' + 1) (some (.ref l)) := by obtain ⟨o, e, d⟩ := hc3; exact ⟨o, hg ▸ hideAll_get _ e (by simp), d⟩
  clear hg hl3 hc3 k3 k2 hl hln c1 c2 F' k1
  have ha3 := upSs _ _ _ kg ha1
  refine wpAny_execs_cons (gcomp_assignC rfl rfl (by decide) rfl (by decide) rfl ?_ (by intro _; rfl))
  refine PG.use (g := h3) (K := fun u h => u = a) (PG.name F3 rfl) kh_rfl ?_
  rintro v h4 tk4 k4 rfl
  obtain ⟨la, va, na, rfl, ea, hva⟩ := ha3
  refine ⟨_, _, xs, fun _ v x => ∃ t, v = .str x t, fun _ v (x : Int) => ∃ t, v = .int x t, fun _ => true, fun x => (((srt xs).idxOf x : Nat) : Int), g, fun _ _ _ _ _ h => h, fun _ _ _ _ _ h => h, kh_tr kg3 k4, testOk_nil, ?e, Src.list rfl (isLA ea) (kh_tr kg3 k4) (strs_paired hva) (by omega), ?k⟩
  case e =>
    refine eltOk (fun _ x => KInt (((srt xs).idxOf x : Nat) : Int)) (fun x v h g' C m hk _ ⟨t, hv⟩ kg' kgh hn hm => ?_) (fun _ _ _ _ _ h _ => h)
    have up := kh_tr kg' kgh
    exact PG.index _ (PG.cellK (isCell_up gc1 up) (upSs _ _ _ up gl) upSs) (PG.nameK hn hm ⟨t, hv⟩ upS) ((srt_perm xs).mem_iff.mpr hk) (by rw [(srt_perm xs).length_eq]; omega)
  case k =>
    intro h5 tk5 D5 g5 ys5 c5 X5 hD5 hDn5 hp5
    refine asg_cell (isCell_up c3 k4) gc X5 fun h6 tk6 k6 hc6 _ => ?_
    have hpl : KInts (placesF xs) (.ref D5) g5 := ⟨D5, _, _, rfl, hD5, by rw [filter_tt] at hp5; exact paired_ints hp5⟩
    have up := X5.gg
    have kk6 : KeepsH hh h6 := kh_tr kg (kh_tr up k6)
    have G6 := G1.up kk6
    have hpl6 := upIs _ _ _ k6 hpl
    have hlen : (placesF xs).length = xs.length := by simp [placesF]
    refine wpAny_execs_cons (wpAny_Return_some (gcomp_eval rfl (by decide) rfl (by decide) rfl ?_ (by intro _; rfl)))
    refine PG.use (g := h6) (K := KRange (xs.length - 1)) ?src kh_rfl ?_
    case src =>
      refine PG.range G6 (PG.imp (PG.subI (PG.len (c := xs.length) G6 (PG.cellK hc6 hpl6 upIs) (fun _ h => by rw [IntsAre.length h, hlen]) (by omega)) PG.int) fun v h' _ k => ?_)
      rwa [show ((xs.length - 1 : Nat) : Int) = (xs.length : Int) - 1 by omega]
    rintro v h7 tk7 k7 ⟨r, t, u, x, rfl, hr⟩
    refine ⟨_, _, List.range (xs.length - 1), _, fun _ v (x : Int) => ∃ t, v = .int x t, fun _ => true, fun k => clipI ((placesF xs).getD k 0 - (placesF xs).getD (k + 1) 0), h6, fun _ _ _ _ _ h => h, fun _ _ _ _ _ h => h, k7, testOk_nil, ?e, Src.range rfl hr (by omega), ?k⟩
    case e =>
      refine eltOk (fun _ k => KInt (clipI ((placesF xs).getD k 0 - (placesF xs).getD (k + 1) 0))) (fun k v h g' C m hk _ ⟨t, hv⟩ kg' kgh hn hm => ?_) (fun _ _ _ _ _ h _ => h)
      have up := kh_tr kg' kgh
      have hkl : k < xs.length - 1 := List.mem_range.mp hk
      have G7 := G6.up up
      refine PG.callB2 (Gl.built G7 e_max b_max) (PG.neg PG.int) upI (PG.callB2 (K := KInt (if (placesF xs).getD k 0 - (placesF xs).getD (k + 1) 0 < 1 then (placesF xs).getD k 0 - (placesF xs).getD (k + 1) 0 else 1)) (Gl.built G7 e_min b_min) PG.int upI (PG.subI (PG.itemI (PG.cellK (isCell_up hc6 up) (upIs _ _ _ up hpl6) upIs) (PG.nameK hn hm ⟨t, hv⟩ upI) (getI_at (by omega)) (by omega))
        (PG.itemI (k := k + 1) (PG.cellK (isCell_up hc6 up) (upIs _ _ _ up hpl6) upIs) (PG.add (PG.nameK hn hm ⟨t, hv⟩ upI) PG.int) (getI_at (by omega)) (by omega))) upI fun v v' h' k' kv kv' => pc_min2 rfl kv kv') upI fun v v' h' k' kv kv' => pc_max2 rfl kv kv'
    case k =>
      intro h8 tk8 D8 g8 ys8 c8 X8 hD8 hDn8 hp8
      exact hQ _ _ _ (kh_tr kk6 (kh_tr k7 X8.hh)) ⟨D8, _, _, rfl, X8.gh _ _ hD8, by rw [filter_tt] at hp8; exact paired_ints hp8⟩


end Mine
end
section
open PySem PySem.W PyProof.Rows PySem.Calls
set_option Elab.async false
set_option maxRecDepth 100000
set_option maxHeartbeats 4000000
set_option linter.unusedVariables false
namespace Mine
noncomputable def langs : List (Option Str) := [none, some (S "de"), some (S "de_AT"), some (S "fr"), some (S "C"), some (S "DE")]
noncomputable def encs : List (Option Str) := [none, some (S "UTF-8"), some (S "EUC"), some (S "ISO8859-1"), some (S "")]
noncomputable def pairOf (x : Int) : Option Str × Option Str := (langs.getD (x % 6).toNat none, encs.getD (x / 6 % 5).toNat none)
noncomputable def fixed : List Int := [1, 5, 6, 19, 0, 10, 7, 23, 26, 5]
noncomputable def numsOfS (ns : List Int) : List Int := (ns.drop 2).take 10 ++ fixed
noncomputable def pairsF (ns : List Int) : List (Option Str × Option Str) := (numsOfS ns).map pairOf
noncomputable def PRel (h : Heap) (v : Value) (p : Option Str × Option Str) : Prop := ∃ a, v = .ref a ∧ PairAt h a p.1 p.2
theorem upPR : Up PRel := fun h h' v p k ⟨a, e, v1, v2, h1, h2, h3⟩ => ⟨a, e, v1, v2, h1, h2, h3.elim (fun x => .inl (x.keeps k)) fun ⟨o, e, r⟩ => .inr ⟨o, k _ _ e, r⟩⟩
theorem ints_paired {vs : List Value} {xs : List Int} (h : IntsAre vs xs) : Paired (fun v (x : Int) => ∃ t, v = Value.int x t) vs xs := by
  induction h with
  | nil => exact .nil
  | cons x t _ ih => exact .cons ⟨t, rfl⟩ ih
theorem fmodN (x : Int) {j : Int} (hj : 0 < j) : x.fmod j = (((x % j).toNat : Nat) : Int) := by
  rw [Int.fmod_eq_emod_of_nonneg _ (Int.le_of_lt hj), Int.toNat_of_nonneg (Int.emod_nonneg _ (by omega))]
theorem fdivN (x : Int) {i j : Int} (hi : 0 < i) (hj : 0 < j) : (x.fdiv i).fmod j = (((x / i % j).toNat : Nat) : Int) := by
  rw [Int.fdiv_eq_ediv_of_nonneg _ (Int.le_of_lt hi), fmodN _ hj]
theorem optV_is {o : Option Str} {v : Value} (h : OptV o v) : OptIs o v := by cases o <;> exact h
theorem getO_at {xs : List (Option Str)} {k : Nat} (h : k < xs.length) : xs[k]? = some (xs.getD k none) := by simp [List.getElem?_eq_getElem h]
theorem pairs_spec (w : World) (dp un : Nat) (gd : Option (List Code)) (fr : Option (List Env)) (s : Shared) (h₀ : Heap) (a : Value) (ns : List Int) (G : Gl w h₀) (ha : KInts ns a h₀) (hx : ns.length ≤ 64)
   (hdp : dp + 3 < recursionLimit) (hun : un + 200 < cLine) :
   PC PySem.Challenge.rw_in0044_01.row.prog w (AA dp un gd fr) (.ref 97) [a] h₀ s (KList PRel (pairsF ns)) := by
  refine .mk fun hh tk0 Q E k0 hQ => ?_
  obtain ⟨loose, mean, mg, mb, X, T⟩ := G.up k0
  k_dflt (refine' enter_g ?k3 ?k5 ?k6 ?k7 ?k8 ?k9 ?kB ?_ ?c2 ?c3 ?c4 ?c5; (case k3 => exact X); (case k5 => exact T); (case k6 => k_is); (case k7 => k_is); (case k8 => ktr_room); (case k9 => exact BindsTo.of_eq rfl); (case kB => exact locs rfl); (case c2 => exact rfl); (case c3 => exact rfl); (case c4 => exact rfl); (case c5 => decide); k_whole; intro L' h₁ tk kg gL F' eL htk)
  refine bodyO (by passes_own) fun Q9 E9 hE9 hQ9 => ?_
  have G1 : Gl w hh := ⟨loose, mean, mg, mb, X, T⟩
  have ha1 := upIs _ _ _ k0 ha
  clear X T
  refine wpAny_execs_cons (asg_pure (h₀ := h₁) PG.emptyList kh_rfl F' ?_)
  rintro v h2 h3 tk3 k2 ⟨D, rfl, hDn, hD2⟩ k3 F3
  have hLD : L' ≠ D := fun e => by obtain ⟨o, _, _, e', _⟩ := F'; rw [← e] at hDn; exact absurd (e'.symm.trans hDn) (by simp)
  have kg3 : KeepsH hh h3 := fun b o e => k3 b o (fun q => by rw [show b = L' from q] at e; exact absurd (e.symm.trans gL) (by simp)) (k2 _ _ (kg b o e))
  have hDh : hh.get? D = none := noneOf kg hDn
  have hD3 : h3.PlainList D #[] := hD2.at fun o e => k3 _ o (Ne.symm hLD) e
  clear k3 hD2 F' k2 kg hDn
  refine wpAny_execs_cons (gfor ?_ rfl rfl (by intro _; rfl) hE9)
  refine PG.use (g := h3) (K := KNew h3 (KInts (numsOfS ns))) ?src kh_rfl ?_
  case src =>
    refine PG.bin (K₁ := KNew h3 (KInts ((ns.drop 2).take 10))) (K₂ := KInts fixed) (PG.slice (P := fun vs => IntsAre vs ns) (P' := fun vs => IntsAre vs ((ns.drop 2).take 10)) (PG.nameK F3 rfl (upIs _ _ _ kg3 ha1) upIs) (PP.some PG.int) (PP.some PG.int) PP.none (by simp) (fun vs h => by rw [h.length, PySem.sizeLine_eq]; omega) fun vs h => ?sl) ?lst (upNew upIs) fun o j h' k9 ho hj => (ps_addL ho.1 hj (P'' := fun vs => IntsAre vs (numsOfS ns)) (fun _ _ x y => x.append y) fun vs ws x y => ?len).imp fun v h k kk => ⟨kk.1, ?nn⟩
    case sl =>
      have := kmk_run (x := 2) (y := 12) h (by decide) (by decide)
      have e : (ns.drop 2).take (min (12 : Int).toNat ns.length - (2 : Int).toNat) = (ns.drop 2).take 10 := by
        rcases Nat.le_total 12 ns.length with hl | hl
        · rw [show min (12 : Int).toNat ns.length - (2 : Int).toNat = 10 by simp; omega]
        · rw [List.take_of_length_le, List.take_of_length_le] <;> simp <;> omega
      rw [← e]; exact this
    case lst => exact (PG.intList [(1, _), (5, _), (6, _), (19, _), (0, _), (10, _), (7, _), (23, _), (26, _), (5, _)] rfl rfl (by decide)).imp fun _ _ _ k => k.1
    case len => rw [x.length, y.length, PySem.sizeLine_eq]; simp [fixed]; omega
    case nn => obtain ⟨l, e, hl⟩ := kk.2; exact ⟨l, e, noneOf k9 hl⟩
  rintro v h4 tk4 k4 ⟨⟨ls, va, na, rfl, hls, hva⟩, _, e, hln⟩
  cases e
  have Xg := ghost_ext kg3 k4
  have hg := ghost_new (g := hh) hln hls
  have hD4 : h4.PlainList D #[] := hD3.at fun o e => k4 _ o e
  have F4 := F3.keeps k4
  generalize ghost hh h3 h4 = g at Xg hg
  have gL' : g.get? L' = none := Xg.new _ gL (by obtain ⟨o, _, _, e, _⟩ := F3; exact ⟨o, e⟩)
  have gD' : g.get? D = none := Xg.new _ hDh (by obtain ⟨c, e⟩ := hD3; exact ⟨_, e⟩)
  refine ⟨_, numsOfS ns, fun _ v (x : Int) => ∃ t, v = .int x t, g, [L', D], fun wr k m s' => ∃ h tk vs, s' = { s with heap := h, toks := tk } ∧ KeepsH g h ∧ h.PlainList D (List.toArray vs) ∧ D ∉ wr ∧ L' ∉ wr ∧ (∀ b ∈ wr, g.get? b = none) ∧
    Paired (fun v p => ∃ a, v = .ref a ∧ a ≠ L' ∧ a ≠ D ∧ a ∉ wr ∧ PairAt h a p.1 p.2) vs (((numsOfS ns).take k).map pairOf) ∧ m (Str.ofString "pairs") = some (.ref D), _, Src.list rfl (isLA hg) Xg.gh (ints_paired hva) ?len2, Xg.gh, .head _, ?mt, F4, ?i0, ?is, ?step, ?done⟩
  case len2 => simp [numsOfS, fixed]; omega
  case mt =>
    intro b hb
    rcases List.mem_cons.mp hb with rfl | hb
    · obtain ⟨o, _, _, e, _⟩ := F4; exact ⟨gL', o, e⟩
    · rw [List.mem_singleton.mp hb]; obtain ⟨c, e⟩ := hD4; exact ⟨gD', _, e⟩
  case i0 =>
    intro wr h tk hw kh
    refine ⟨h, tk, [], rfl, kh_tr Xg.gh kh, hD4.at fun o e => kh _ _ e, fun hm => ?_, fun hm => ?_, fun b hb => noneOf Xg.gh (hw b hb), by simpa using Paired.nil, rfl⟩
    · obtain ⟨c, e⟩ := hD4
      have := hw D hm; rw [e] at this; cases this
    · obtain ⟨o, _, _, e, _⟩ := F4
      have := hw L' hm; rw [show h4.get? L' = some o from e] at this; cases this
  case is =>
    rintro wr k m s' h tk ⟨h0, tk0, vs, rfl, kh, hD, hDw, hLw, hw, hv, m1⟩ kb
    refine ⟨h, tk, vs, rfl, fun b o e => kb b o (fun hm => by rw [hw b hm] at e; cases e) (kh b o e), hD.at fun o e => kb _ o hDw e, hDw, hLw, hw, pairedM (fun v p ⟨a, e, a1, a2, a3, v1, v2, p1, p2, p3⟩ => ⟨a, e, a1, a2, a3, v1, v2, p1, p2, ?_⟩) hv, m1⟩
    exact p3.elim (fun ⟨o, e, r⟩ => .inl ⟨o, kb _ _ a3 e, r⟩) fun ⟨o, e, r⟩ => .inr ⟨o, kb _ _ a3 e, r⟩
  case step =>
    rintro wr k x v m s' h5 tk5 hwr hk ⟨t, rfl⟩ ⟨h0, tk0, vs, rfl, kh, hD, hDw, hLw, hw, hv, m1⟩ hn hn5 hs5 hwe
    refine turnO fun T9 hT9 => ?_
    have hkl : k < (numsOfS ns).length := (List.getElem?_eq_some_iff.mp hk).1
    have k5 : KeepsH g h5 := fun b o e => hs5.extBut b o (fun q => by rw [show b = L' from q, gL'] at e; cases e) (kh b o e)
    have hD5 : h5.PlainList D (List.toArray vs) := hD.at fun o e => hs5.extBut D o (Ne.symm hLD) e
    have G5 := (G1.up Xg.gg).up k5
    have hb6 : (x % 6).toNat < 6 := by omega
    have hb5 : (x / 6 % 5).toNat < 5 := by omega
    have hlen : (numsOfS ns).length ≤ 20 := by simp [numsOfS, fixed]; omega
    have hvl : vs.length ≤ 20 := by rw [hv.length, List.length_map]; exact Nat.le_trans (List.length_take_le' _ _) hlen
    with_reducible refine wpAny_execs_cons ?_
    with_reducible refine asg_pure (h₀ := h5) (K := fun v h => ∃ a v1 v2, v = .ref a ∧ h5.get? a = none ∧ IsTup h a #[v1, v2] ∧ OptV (pairOf x).1 v1 ∧ OptV (pairOf x).2 v2) ?pg kh_rfl hn5 ?cont ?hy ?hp ?hs
    case hy => rfl
    case hp => rfl
    case hs => rfl
    case pg =>
      refine PG.tuple2 (K := fun v _ => OptV (pairOf x).1 v) (K' := fun v _ => OptV (pairOf x).2 v) ?g1 (fun _ _ _ _ e => e) ?g2 (fun _ _ _ _ e => e)
      case g1 => exact PG.itemP (fun _ _ _ _ _ h => h) (PG.optList (ks := langs) [(none, _), (some (S "de"), _), (some (S "de_AT"), _), (some (S "fr"), _), (some (S "C"), _), (some (S "DE"), _)] rfl rfl (by decide)) (by rw [← fmodN x (by decide : (0 : Int) < 6)]; exact PG.bin (PG.nameK hn5 rfl ⟨t, rfl⟩ upI) PG.int upI fun o j h' k ho hj => ps_mod ho hj (by decide)) (getO_at (show (x % 6).toNat < langs.length from hb6)) (by omega)
      case g2 => exact PG.itemP (fun _ _ _ _ _ h => h) (PG.optList (ks := encs) [(none, _), (some (S "UTF-8"), _), (some (S "EUC"), _), (some (S "ISO8859-1"), _), (some (S ""), _)] rfl rfl (by decide)) (by rw [← fdivN x (by decide : (0 : Int) < 6) (by decide : (0 : Int) < 5)]; exact PG.bin (PG.bin (PG.nameK hn5 rfl ⟨t, rfl⟩ upI) PG.int upI fun o j h' k ho hj => ps_fdiv ho hj (by decide) (noPyl6 _)) PG.int upI fun o j h' k ho hj => ps_mod ho hj (by decide)) (getO_at (show (x / 6 % 5).toNat < encs.length from hb5)) (by omega)
    rintro v h6 h7 tk7 k6 ⟨a, v1, v2, rfl, han, hT, hO1, hO2⟩ kb7 hn7
    have exL : ∃ o, h5.get? L' = some o := by obtain ⟨o, _, _, e, _⟩ := hn5; exact ⟨o, e⟩
    have exD : ∃ o, h5.get? D = some o := by obtain ⟨c, e⟩ := hD5; exact ⟨_, e⟩
    have haL : a ≠ L' := fun q => by obtain ⟨o, e⟩ := exL; rw [← q, han] at e; cases e
    have k57 : ∀ b o, b ≠ L' → h5.get? b = some o → h7.get? b = some o := fun b o hb e => kb7 b o hb (k6 _ _ e)
    have g7 : KeepsH g h7 := fun b o e => k57 b o (fun q => by rw [q, gL'] at e; cases e) (k5 _ _ e)
    have hD7 : h7.PlainList D (List.toArray vs) := hD5.at fun o e => k57 D o (Ne.symm hLD) e
    have G7 := (G1.up Xg.gg).up g7
    have hT7 : IsTup h7 a #[v1, v2] := by obtain ⟨o, e, r⟩ := hT; exact ⟨o, kb7 _ _ haL e, r⟩
    have n57 : ∀ b, h7.get? b = none → h5.get? b = none := fun b e => by
      cases q : h5.get? b with
      | none => rfl
      | some o =>
        by_cases hb : b = L'
        · obtain ⟨o', _, _, e', _⟩ := hn7; rw [hb, show h7.get? L' = some o' from e'] at e; cases e
        · rw [k57 b o hb q] at e; cases e
    clear kb7 hT
    with_reducible refine wpAny_execs_cons ?_
    with_reducible refine' append_stmt (K := fun v h => ∃ a, v = .ref a ∧ h5.get? a = none ∧ PairAt h a (pairOf x).1 (pairOf x).2) (vs := List.toArray vs) (D := D) ?pl ?nm hD7 ?arg ?sz ?cont2 ?he ?h1 ?hi ?hs
    case nm => exact PG.name hn7 m1
    case sz => rw [List.size_toArray, PySem.sizeLine_eq]; omega
    case he => rfl
    case h1 => rfl
    case hi => rfl
    case hs => rfl
    case arg =>
      refine PG.ifexp (c := (x.fdiv 30).fmod 2 == 1) (PT.cmp (PG.bin (K := KInt ((x.fdiv 30).fmod 2)) (PG.bin (K := KInt (x.fdiv 30)) (PG.nameK hn7 rfl ⟨t, rfl⟩ upI) PG.int upI fun o j h' k ho hj => ps_fdiv ho hj (by decide) (noPyl30 _)) PG.int upI fun o j h' k ho hj => ps_mod ho hj (by decide)) PG.int upI fun o j h' k ho hj => ps_eqI ho hj) (fun _ => ?yes) fun _ => ?no
      case yes =>
        refine PG.callT1 (Gl.built G7 e_list b_list) (PG.name hn7 rfl) upV fun v h' k e => ?_
        subst e
        refine (pc_listTup (hT7.keeps k) (by show 2 ≤ sizeLine; decide)).imp fun v h'' k' kv => ?_
        obtain ⟨⟨l, ws, n, rfl, e, hw⟩, l', e', hl'⟩ := kv
        cases e'
        refine ⟨l, rfl, n57 l (noneOf k hl'), v1, v2, optV_is hO1, optV_is hO2, .inr ?_⟩
        have : ws = #[v1, v2] := by apply Array.toList_inj.mp; exact hw
        rw [← this]; exact isLA e
      case no => exact (PG.name hn7 rfl).imp fun v h' k e => ⟨a, e, han, v1, v2, optV_is hO1, optV_is hO2, .inl (hT7.keeps k)⟩
    rintro v h8 h9 tk9 k8 ⟨a', rfl, ha', hP'⟩ hD9 kb9
    have haL' : a' ≠ L' := fun q => by obtain ⟨o, e⟩ := exL; rw [← q, ha'] at e; cases e
    have haD' : a' ≠ D := fun q => by obtain ⟨o, e⟩ := exD; rw [← q, ha'] at e; cases e
    have haw : a' ∉ wr := fun q => by obtain ⟨o, e⟩ := hwe a' q; rw [ha'] at e; cases e
    have k59 : ∀ b o, b ≠ L' → b ≠ D → h5.get? b = some o → h9.get? b = some o := fun b o hb hb' e => kb9 b o hb' (k8 _ _ (k57 b o hb e))
    have pAt : ∀ (a : Addr) (l e : Option Str) (h h' : Heap), (∀ o, h.get? a = some o → h'.get? a = some o) → PairAt h a l e → PairAt h' a l e := fun a l e h h' k ⟨v1, v2, p1, p2, p3⟩ => ⟨v1, v2, p1, p2, p3.elim (fun ⟨o, e, r⟩ => .inl ⟨o, k _ e, r⟩) fun ⟨o, e, r⟩ => .inr ⟨o, k _ e, r⟩⟩
    refine wpAny_execs_nil (hT9 _ _ (fun b o hb e => ?_) ((hn7.keeps k8).at' fun o e => kb9 _ o hLD e) ⟨h9, tk9, vs ++ [.ref a'], rfl, ?_, by simpa using hD9, hDw, hLw, hw, ?_, m1⟩)
    · simp only [List.mem_cons, List.not_mem_nil, or_false, not_or] at hb
      exact k59 b o hb.1 hb.2 e
    · exact fun b o e => k59 b o (fun q => by rw [q, gL'] at e; cases e) (fun q => by rw [q, gD'] at e; cases e) (k5 _ _ e)
    · rw [List.take_add_one, hk, List.map_append]
      refine paired_snoc (pairedM (fun v p ⟨a, e, a1, a2, a3, hp⟩ => ⟨a, e, a1, a2, a3, ?_⟩) hv) ⟨a', rfl, haL', haD', haw, pAt _ _ _ _ _ (fun o e => kb9 _ o haD' e) hP'⟩
      exact pAt _ _ _ _ _ (fun o e => k59 _ o a1 a2 (hs5.extBut _ o a1 e)) hp
  case done =>
    rintro wr m s' hwr hn ⟨h, tk, vs, rfl, kh, hD, hDw, hLw, hw, hv, m1⟩
    rw [List.take_length] at hv
    obtain ⟨c, hc⟩ := hD
    refine wpAny_execs_cons (wpAny_Return_some (PG.use (g := h) (PG.name hn m1) kh_rfl fun v h8 tk8 k8 r8 => ?_))
    subst r8
    refine hQ9 _ _ ?_
    exact hQ _ _ _ (kh_tr (kh_tr Xg.gg kh) k8) ⟨D, List.toArray vs, c, rfl, k8 _ _ hc, pairedM (fun v p ⟨a, e, _, _, _, hp⟩ => upPR _ _ _ _ k8 ⟨a, e, hp⟩) hv⟩


end Mine
end
section
open PySem PySem.W PyProof.Rows PySem.Calls
set_option Elab.async false
set_option maxRecDepth 100000
set_option maxHeartbeats 4000000
set_option linter.unusedVariables false
namespace Mine
noncomputable def stepP (sg : Str → Str → Bool) (nm : Str) (pl : List Int) (part : Str) : List Int :=
  if part = Str.ofString "many" then (match pl with | [] => [] | p :: r => (List.range ((nm.length + 1 : Int) - r.foldl min p).toNat).map fun (k : Nat) => r.foldl min p + (k : Int))
  else (pl.filter fun p => decide (p < (nm.length : Int)) && sg part (Txt.item nm p)).map fun p => p + 1
noncomputable def takenF (sg : Str → Str → Bool) (ws : List Str) (nm : Str) : Bool := (ws.foldl (stepP sg nm) [0]).contains (nm.length : Int)
theorem take_filter {α : Type} {ns : List α} {i : Nat} {x : α} (f : α → Bool) (e : ns[i]? = some x) : (ns.take (i + 1)).filter f = (ns.take i).filter f ++ (if f x then [x] else []) := by
  rw [List.take_add_one, e, List.filter_append]; simp [List.filter_cons]
theorem take_foldl {α β : Type} {ns : List α} {i : Nat} {x : α} (f : β → α → β) (b : β) (e : ns[i]? = some x) : (ns.take (i + 1)).foldl f b = f ((ns.take i).foldl f b) x := by
  rw [List.take_add_one, e, List.foldl_append]; rfl
theorem foldl_min_mem (p : Int) (r : List Int) : r.foldl min p ∈ p :: r ∧ ∀ a ∈ p :: r, r.foldl min p ≤ a := by
  induction r generalizing p with
  | nil => simp
  | cons x r ih =>
    obtain ⟨h1, h2⟩ := ih (min p x)
    rw [List.foldl_cons]
    constructor
    · rcases List.mem_cons.mp h1 with h | h
      · rw [h]; rcases Int.le_total p x with h' | h'
        · rw [Int.min_eq_left h']; simp
        · rw [Int.min_eq_right h']; simp
      · simp [h]
    · intro a ha
      have h0 := h2 _ (.head _)
      rcases List.mem_cons.mp ha with rfl | ha
      · exact Int.le_trans h0 (Int.min_le_left _ _)
      · rcases List.mem_cons.mp ha with rfl | ha
        · exact Int.le_trans h0 (Int.min_le_right _ _)
        · exact h2 _ (.tail _ ha)
theorem min_is {p M : Int} {r : List Int} (h1 : M ∈ p :: r) (h2 : ∀ a ∈ p :: r, M ≤ a) : M = r.foldl min p :=
  Int.le_antisymm (h2 _ (foldl_min_mem p r).1) ((foldl_min_mem p r).2 _ h1)
theorem stepP_in {sg : Str → Str → Bool} {nm part : Str} {pl : List Int} (h : ∀ p ∈ pl, 0 ≤ p ∧ p ≤ (nm.length : Int)) : ∀ p ∈ stepP sg nm pl part, 0 ≤ p ∧ p ≤ (nm.length : Int) := by
  unfold stepP
  split
  · cases pl with
    | nil => simp
    | cons q r =>
      intro p hp
      simp only [List.mem_map, List.mem_range] at hp
      obtain ⟨k, hk, rfl⟩ := hp
      have := h _ (foldl_min_mem q r).1
      omega
  · intro p hp
    simp only [List.mem_map, List.mem_filter, Bool.and_eq_true, decide_eq_true_eq] at hp
    obtain ⟨q, ⟨hq, h1, _⟩, rfl⟩ := hp
    have := h q hq
    omega
theorem foldP_in {sg : Str → Str → Bool} {nm : Str} : ∀ (ws : List Str) (pl : List Int), (∀ p ∈ pl, 0 ≤ p ∧ p ≤ (nm.length : Int)) → ∀ p ∈ ws.foldl (stepP sg nm) pl, 0 ≤ p ∧ p ≤ (nm.length : Int)
  | [], _, h => h
  | w :: ws, _, h => foldP_in ws _ (stepP_in h)
theorem foldP_len {sg : Str → Str → Bool} {nm : Str} (hn : nm.length ≤ 20) : ∀ (ws : List Str) (pl : List Int), (∀ p ∈ pl, 0 ≤ p ∧ p ≤ (nm.length : Int)) → pl.length ≤ 64 → (ws.foldl (stepP sg nm) pl).length ≤ 64
  | [], _, _, h => h
  | w :: ws, pl, h, hl => foldP_len hn ws _ (stepP_in h) (by
      unfold stepP
      split
      · cases pl with
        | nil => simp
        | cons q r =>
          have := h _ (foldl_min_mem q r).1
          simp only [List.length_map, List.length_range]; omega
      · rw [List.length_map]; exact Nat.le_trans (List.length_filter_le _ _) hl)
theorem any_contains (l : List Int) (a : Int) : (l.any fun x => x == a) = l.contains a := by
  rw [Bool.eq_iff_iff]; simp
theorem ints_of_fn : ∀ (vs : List Value) (f : Nat → Int), (∀ i v, vs[i]? = some v → ∃ t, v = Value.int (f i) t) → IntsAre vs ((List.range vs.length).map f)
  | [], _, _ => .nil
  | v :: vs, f, h => by
    obtain ⟨t, rfl⟩ := h 0 v rfl
    rw [List.length_cons, List.range_succ_eq_map, List.map_cons, List.map_map]
    exact .cons _ _ (ints_of_fn vs (fun i => f (i + 1)) fun i v e => h (i + 1) v e)
section
variable {prog : Program} {w : World} {A : Around} {env : Env} {h₀ : Heap} {s : Shared}
theorem pc_minI {o : Value} {p : Int} {r : List Int} (hh : A.handled = none) (ho : KInts (p :: r) o h₀) : PC prog w A (.builtin "min") [o] h₀ s (KInt (r.foldl min p)) := by
  obtain ⟨l, ws, n, rfl, e0, hi⟩ := ho
  refine .mk fun h tk Q E k hQ => ?_
  have hl : h.IsList l ws.toList.toArray := by rw [Array.toArray_toList]; exact isLA (k _ _ e0)
  generalize ws.toList = vs at hl hi
  obtain ⟨xs, e⟩ := hi.allInts.items
  rw [e] at hl
  have hlen := hi.length
  have hn : numsOf (intItems xs).toList = p :: r := by rw [← e]; rw [show vs.toArray.toList = vs from rfl, hi.numsOf]
  rw [nums_intItems] at hn
  have hsz : 0 < xs.size := by
    have := congrArg List.length hn
    simp at this; omega
  refine min_intList hh hl hsz fun v h' tk hv hk => ?_
  obtain ⟨t, rfl⟩ := intItems_at hv
  obtain ⟨h1, h2⟩ := argBest_lt (numAt xs) (xs.size - 1)
  have hM : numAt xs (argBest (fun i j => decide (numAt xs i < numAt xs j)) (xs.size - 1)) = r.foldl min p := by
    refine min_is ?_ fun a ha => ?_
    · rw [← hn, numAt_eq]; exact getD_mem (by rw [List.length_map, Array.length_toList]; omega)
    · rw [← hn] at ha
      obtain ⟨j, hj, rfl⟩ := mem_getD ha
      rw [List.length_map, Array.length_toList] at hj
      rw [← numAt_eq]; exact h2 j (by omega)
  rw [hM]
  exact hQ _ h' tk hk ⟨t, rfl⟩
noncomputable def KRange2 (a b : Int) (v : Value) (h : Heap) : Prop := ∃ r t u x, v = .ref r ∧ IsRange h r a b 1 t u x
theorem upR2 {a b : Int} : UpK (KRange2 a b) := fun _ _ _ k ⟨r, t, u, x, e, hr⟩ => ⟨r, t, u, x, e, k _ _ hr⟩
theorem pc_range2 {a b : Int} {o o' : Value} (ho : KInt a o h₀) (ho' : KInt b o' h₀) : PC prog w A (.type "range") [o, o'] h₀ s (KRange2 a b) := by
  obtain ⟨t, rfl⟩ := ho
  obtain ⟨u, rfl⟩ := ho'
  exact .mk fun h tk Q E k hQ => call_range_2 (hQ _ _ _ (fun b o e => Heap.get?_push_of_some _ e) ⟨_, _, _, _, rfl, IsRange.new ..⟩)
theorem pc_listR {a b : Int} {o : Value} (hh : A.handled = none) (ho : KRange2 a b o h₀) (ha : 0 ≤ a ∧ a ≤ b ∧ b ≤ 100) : PC prog w A (.type "list") [o] h₀ s (KNew h₀ (KInts ((List.range (b - a).toNat).map fun (k : Nat) => a + (k : Int)))) := by
  obtain ⟨r, t, u, x, rfl, hr⟩ := ho
  refine .mk fun h tk Q E k hQ => ?_
  have hn : Builtin.Range.rangeSize a b 1 = (((b - a).toNat : Nat) : Int) := by
    rw [rangeSize_one]; split <;> omega
  have hr' : IsRange h r a b 1 t u x := k _ _ hr
  refine call_list_range hh hr' (small_one (by omega) (by omega) (by omega) (by omega)) hn (by omega) fun h' tk acc' c' hk hS' hacc => hQ _ h' tk hk ⟨⟨_, acc', c', rfl, hS', ?_⟩, _, rfl, noneOf k (Heap.get?_none_of_le (Nat.le_refl _))⟩
  have h1 := ints_of_fn acc'.toList (fun k => a + (k : Int)) fun i v e => ?_
  · rw [show acc'.toList.length = (b - a).toNat by simpa using hacc.1] at h1
    exact h1
  · obtain ⟨t, ht⟩ := hacc.2 i v (by simpa using e)
    exact ⟨t, by rw [ht, Int.mul_one]⟩
theorem PT.inI {a b : Expr} {p : Pos} {i : Int} {xs : List Int} {c : Bool} (u : PG prog w A env a h₀ s (KInt i)) (v : PG prog w A env b h₀ s (KInts xs)) (hc : (xs.any (· == i)) = c) (hm : behindInMarks .In b = false := by with_unfolding_all rfl) : PT prog w A env (.Compare a [.In] [b] p) h₀ s c :=
  PT.cmp u v upI (fun o j h' k ho hj => by
    subst hc
    obtain ⟨t, rfl⟩ := ho
    obtain ⟨l, ws, n, rfl, e, hi⟩ := hj
    exact .mk fun h tk Q E k hQ => in_list_ints (vs := ws.toList) (by rw [Array.toArray_toList]; exact isLA (k _ _ e)) hi (hQ _ _ _ kh_rfl rfl)) hm
theorem PT.neI {a b : Expr} {p : Pos} {xs ys : List Int} {c : Bool} (u : PG prog w A env a h₀ s (KInts xs)) (v : PG prog w A env b h₀ s (KInts ys)) (hu : A.units + 64 < cLine) (hc : (!decide (xs = ys)) = c) (hm : behindInMarks .NotEq b = false := by with_unfolding_all rfl) : PT prog w A env (.Compare a [.NotEq] [b] p) h₀ s c :=
  PT.cmp u v upIs (fun o j h' k ho hj => by
    subst hc
    obtain ⟨l, ws, n, rfl, e, hi⟩ := ho
    obtain ⟨l', ws', n', rfl, e', hi'⟩ := hj
    exact .mk fun h tk Q E k hQ => ke_ne_ints (xs := ws.toList) (ys := ws'.toList) (by rw [Array.toArray_toList]; exact isLA (k _ _ e)) (by rw [Array.toArray_toList]; exact isLA (k _ _ e')) hi hi' hu (hQ _ _ _ kh_rfl rfl)) hm
/-- the end of a turn -/
noncomputable def TurnEndC (mt : List Addr) (h₂ : Heap) (InvN : Shared → Prop) (Q : Flow → Shared → Prop) (f : Flow) (s'' : Shared) : Prop :=
  match f with
  | .ret v => Q (.ret v) s''
  | .brk => Q .next s''
  | _ => KeepBut mt h₂ s''.heap ∧ InvN s''
/-- a for loop whose name is a cell, by an invariant -/
noncomputable def ForAtC (prog : Program) (w : World) (A : Around) (env : Env) (x : Str) (body : List Stmt) (Q : Flow → Shared → Prop) (E : Value → Shared → Prop) (xv : Value) (s : Shared) : Prop :=
  ∃ (α : Type) (xs : List α) (R : Heap → Value → α → Prop) (g : Heap) (mt : List Addr) (Inv : List Addr → Nat → Shared → Prop) (c : Addr),
    env.cells.lookup x = some c ∧ Src prog w A xv s g xs R ∧ KeepsH g s.heap ∧ c ∈ mt ∧ (∀ b ∈ mt, g.get? b = none ∧ ∃ o, s.heap.get? b = some o) ∧ (∀ wr h tk, (∀ b ∈ wr, s.heap.get? b = none) → KeepsH s.heap h → Inv wr 0 { s with heap := h, toks := tk }) ∧
    (∀ wr k (s' : Shared) h tk, Inv wr k s' → KeepBut wr s'.heap h → Inv wr k { s' with heap := h, toks := tk }) ∧ (∀ wr k (s' : Shared), Inv wr k s' → ∃ v, s'.heap.IsCell c v) ∧
    (∀ wr k a v (s' : Shared) h₂ tk₂, (∀ b ∈ wr, s.heap.get? b = none) → xs[k]? = some a → R g v a → Inv wr k s' → h₂.IsCell c (some v) → (∀ b o, b ≠ c → s'.heap.get? b = some o → h₂.get? b = some o) → (∀ b ∈ wr, ∃ o, h₂.get? b = some o) →
      wpAny (model prog w) A (execs body env) (TurnEndC mt h₂ (Inv wr (k + 1)) Q) E { s' with heap := h₂, toks := tk₂ }) ∧
    (∀ wr s', (∀ b ∈ wr, s.heap.get? b = none) → Inv wr xs.length s' → Q .next s')
theorem gforC {x : Str} {px pos : Pos} {iter : Expr} {body : List Stmt} {Q : Flow → Shared → Prop} {E : Value → Shared → Prop}
   (h : wpAny (model prog w) A (eval iter env) (ForAtC prog w A env x body Q E) E s)
   (hx : env.kindOf x = some .cell := by rfl) (hk : env.scope.kind = .function := by rfl)
   (hs : ∀ x, foldedSetIterable iter env x = pure x := by intro _; rfl)
   (hE : PassesOwn (model prog w) A env E := by passes_own) :
   wpAny (model prog w) A (exec (.For (.Name x px) iter body [] pos) env) Q E s := by
  refine wpAny_For (wpAny_mono h (fun xv s₁ h₁ => ?_) fun _ _ e => e) hs
  obtain ⟨α, xs, R, g, mt, Inv, c, hc, hsrc, kg, hLm, hmt, hI0, hIs, hIc, step, done⟩ := h₁
  refine wpAny_mono hsrc (fun it s₂ h₂ => ?_) fun _ _ e => e.elim
  obtain ⟨I, fp, wr, n, P, St, rfl, W, hsz, hst, hfp, rfl, hP, ⟨hb, tkb, rfl, khb⟩, hwr, hwe, hfg⟩ := h₂
  have hwN : ∀ b ∈ wr, s₁.heap.get? b = none := fun b hb' => (hwr b hb').1
  have hmw : ∀ b ∈ mt, b ∉ wr := fun b hb' hw => by obtain ⟨_, o, ho⟩ := hmt b hb'; rw [hwN b hw] at ho; cases ho
  have hmf : ∀ b ∈ fp, b ∉ mt := fun b hf hm => by
    rcases hfg _ hf with hw | ⟨o, ho⟩
    · exact hmw _ hm hw
    · rw [(hmt _ hm).1] at ho; cases ho
  refine codeAny_forLoop
    (fun k s' => ∃ i, St i s'.heap ∧ Inv wr i s' ∧ i ≤ xs.length ∧ k = xs.length + 1 - i) ?_ (xs.length + 1)
    ⟨0, hst, hI0 wr hb tkb hwN khb, Nat.zero_le _, rfl⟩
  rintro k s' ⟨i, hst', hJ, hi, rfl⟩
  by_cases hlt : i < xs.length
  · refine W.item i _ _ _ hlt hst' fun v h₁ tk₁ hPv hst₁ hk₁ => ?_
    obtain ⟨a, ha, hRa⟩ := hP _ _ hlt hPv
    have hJ₁ := hIs wr i s' h₁ tk₁ hJ hk₁
    obtain ⟨v0, hv0⟩ := hIc _ _ _ hJ₁
    refine wpAny_assign_Name (wpAny_storeName_cell hk hx hc hv0 fun h₂ hc₂ hs₂ => ?_)
    refine wpAny_passesOwn hE (wpAny_mono (step wr i a v _ h₂ _ hwN ha hRa hJ₁ hc₂ (fun b o hb e => hs₂.extBut b o hb e) (fun b hb' => by
      obtain ⟨o, ho⟩ := hwe _ _ hst₁ b hb'
      exact ⟨o, hs₂.extBut b o (fun q => hmw _ hLm (q ▸ hb')) ho⟩)) (fun f s'' hf => ?_) fun _ _ e => e)
    have fin : KeepBut mt h₂ s''.heap ∧ Inv wr (i + 1) s'' →
        ∃ k', k' < xs.length + 1 - i ∧ ∃ i, St i s''.heap ∧ Inv wr i s'' ∧ i ≤ xs.length ∧ k' = xs.length + 1 - i := by
      rintro ⟨kb, hI₂⟩
      refine ⟨xs.length + 1 - (i + 1), by omega, i + 1, ?_, hI₂, hlt, rfl⟩
      exact W.frame _ _ _ hst₁ fun b hb' o e => kb b o (hmf b hb') (hs₂.extBut b o (fun q => hmf b hb' (q ▸ hLm)) e)
    cases f with
    | ret v => exact hf
    | brk => exact hf
    | cont => exact fin hf
    | next => exact fin hf
  · have hin : i = xs.length := by omega
    subst hin
    refine W.done _ _ _ hst' fun h₁ tk₁ hk₁ => wpAny_execs_nil ?_
    exact done wr _ hwN (hIs wr _ s' h₁ tk₁ hJ hk₁)
end

end Mine
end
section
open PySem PySem.W PyProof.Rows PySem.Calls
set_option Elab.async false
set_option maxRecDepth 100000
set_option maxHeartbeats 4000000
set_option linter.unusedVariables false
namespace Mine
/-- tokens only grow -/
theorem wp_ge {X : Type} {post : X → Pos → Shared → Prop} {exc : Value → Pos → Shared → Prop} {T : Nat} (model : Model) (ctx : Ctx) (tree : Sem X) (pos : Pos) (sh : Shared) (hT : T ≤ sh.toks) (known : Sem.wp model ctx tree post exc pos sh) :
    Sem.wp model ctx tree (fun x p s => T ≤ s.toks ∧ post x p s) (fun v p s => T ≤ s.toks ∧ exc v p s) pos sh := by
  revert known
  induction tree generalizing pos sh with
  | pure x => exact fun h => ⟨hT, h⟩
  | raise v => exact fun h => ⟨hT, h⟩
  | unsupported | finish | yield | fork | await | register => exact id
  | rule _ k ih | «at» _ k ih | alloc _ k ih | loadIfAlive _ k ih | point _ k ih | ask k ih | os _ _ k ih | handled _ k ih | newGen _ k ih | stack k ih | thread k ih => exact ih _ _ _ hT
  | fresh k ih => exact ih _ _ _ (Nat.le_trans hT (Nat.le_succ _))
  | load a _ k ih | genState a k ih => exact fun ⟨o, ho, h⟩ => ⟨o, ho, ih _ _ _ hT h⟩
  | update a _ f k ih | choose _ _ k ih => exact fun ⟨ha, h⟩ => ⟨ha, ih _ _ _ hT h⟩
  | call c h g l k ih => exact fun ⟨r, s', hr, h⟩ => ⟨r, s', hr, ih r pos s' (Nat.le_trans hT (Returns.toks_le hr)) h⟩
  | resume g r l k ih => exact fun ⟨res, s', hw, h⟩ => ⟨res, s', hw, ih _ _ _ (Nat.le_trans hT (Wakes.toks_le hw)) h⟩
theorem wpAny_gets {α : Type} {M : Model} {A : Around} {t : Sem α} {Q : α → Shared → Prop} {E : Value → Shared → Prop} {s : Shared} (h : wpAny M A t (fun a s' => @LE.le Nat _ s.toks s'.toks → Q a s') (fun e s' => @LE.le Nat _ s.toks s'.toks → E e s') s) : wpAny M A t Q E s :=
  fun Γ p hΓ => Sem.wp_mono M Γ t (fun a _ s' q => q.2 q.1) (fun e _ s' q => q.2 q.1) p s (wp_ge (T := s.toks) M Γ t p s (Nat.le_refl _) (h Γ p hΓ))
section
variable {prog : Program} {w : World} {A : Around} {env : Env} {h₀ : Heap} {s : Shared}
theorem PT.truthyL {e : Expr} {P : List Value → Prop} {b : Bool} (x : PG prog w A env e h₀ s (KSeq P)) (hP : ∀ vs, P vs → vs.length ≤ 1000000 ∧ (!vs.isEmpty) = b) (he : ∀ whole : Sem Value, isTrue e env whole = (do let v ← whole; standAt e.pos; holding [v] (truthy v)) := by intro _; rfl) : PT prog w A env e h₀ s b :=
  .mk fun h₁ tk Q E k hQ => isTrue_plain (x.run h₁ tk _ E k fun v h' tk' k' kv => by
    obtain ⟨l, vs, n, rfl, e, hp⟩ := kv
    have := hP _ hp
    have e2 : (!vs.isEmpty) = b := by rw [← this.2]; cases vs with | mk l => cases l <;> rfl
    refine wpAny_truthy_list (isLA e) (by have := this.1; rw [Array.length_toList] at this; omega) ?_
    rw [e2]
    exact hQ _ _ k') (he _)
theorem PT.truthyS {e : Expr} {x : Str} {b : Bool} (y : PG prog w A env e h₀ s (KStr x)) (hl : x.length ≤ 1000000) (hb : ((x.length : Int) != 0) = b) (he : ∀ whole : Sem Value, isTrue e env whole = (do let v ← whole; standAt e.pos; holding [v] (truthy v)) := by intro _; rfl) : PT prog w A env e h₀ s b :=
  .mk fun h₁ tk Q E k hQ => isTrue_plain (y.run h₁ tk _ E k fun v h' tk' k' kv => by
    obtain ⟨t, rfl⟩ := kv
    refine P.truthy_str (by omega) ?_
    rw [hb]
    exact hQ _ _ k') (he _)
theorem PT.not {e : Expr} {p : Pos} {b : Bool} (x : PT prog w A env e h₀ s b) : PT prog w A env (.UnaryOp .Not e p) h₀ s (!b) :=
  .mk fun h₁ tk Q E k hQ => isTrue_not (x.run h₁ tk _ E k fun h' tk' k' => hQ h' tk' k')
/-- a sign of a text -/
theorem ps_sign {a i : Expr} {x : Str} {k : Int} {o j : Value} (ho : KStr x o h₀) (hj : KInt k j h₀) (h0 : -(x.length : Int) ≤ k) (h1 : k < (x.length : Int)) (hn : x.length ≤ 1000)
    (hs : ∀ t u, subscripted i false (.str x t) (.int k u) = operate [.str x t, .int k u] (getItem (.str x t) (.int k u)) := by intro _ _; with_unfolding_all rfl)
    (ht : ∀ t r, letTemporaryGo a (.str x t) r = pure () := by intro _ _; with_unfolding_all rfl) : PS prog w A (subscriptTail a i o j) h₀ s (KStr (Txt.item x k)) := by
  obtain ⟨t, rfl⟩ := ho
  obtain ⟨u, rfl⟩ := hj
  exact .mk fun h tk Q E kk hQ => KXi.item rfl h0 h1 (by omega) (fun _ => hQ _ _ _ kh_rfl ⟨_, rfl⟩) (hs t u) (ht t)
theorem PG.sign {a i : Expr} {p : Pos} {x : Str} {k : Int} (y : PG prog w A env a h₀ s (KStr x)) (z : PG prog w A env i h₀ s (KInt k)) (h0 : -(x.length : Int) ≤ k) (h1 : k < (x.length : Int)) (hn : x.length ≤ 1000)
    (hs : ∀ t u, subscripted i false (.str x t) (.int k u) = operate [.str x t, .int k u] (getItem (.str x t) (.int k u)) := by intro _ _; with_unfolding_all rfl)
    (ht : ∀ t r, letTemporaryGo a (.str x t) r = pure () := by intro _ _; with_unfolding_all rfl) : PG prog w A env (.Subscript a i p) h₀ s (KStr (Txt.item x k)) :=
  PG.sub y z upS fun o j h' kk ho hj => ps_sign ho hj h0 h1 hn hs ht
theorem PT.eqStr {a b : Expr} {p : Pos} {x y : Str} {c : Bool} (u : PG prog w A env a h₀ s (KStr x)) (v : PG prog w A env b h₀ s (KStr y)) (hc : (x == y) = c) (hm : behindInMarks .Eq b = false := by with_unfolding_all rfl) : PT prog w A env (.Compare a [.Eq] [b] p) h₀ s c :=
  PT.cmp u v upS (fun o j h' k ho hj => hc ▸ ps_eqStr ho hj) hm
/-- a text's own append, taken as a value -/
theorem get_appendH {dp un : Nat} {gd : Option (List Code)} {fr : Option (List Env)} {s : Shared} {Q E : Value → Shared → Prop} {l : Addr} {items : Array Value} {n : Nat} (ho : s.heap.get? l = some (listOf items n))
   (h : ∀ q h', KeepsH s.heap h' → h'.get? q = some (BObj l) → s.heap.get? q = none → Q (.ref q) { s with heap := h', toks := s.toks + 1 }) :
   wpAny (model prog w) (AA dp un gd fr) (getAttr (.ref l) (Str.ofString "append") true) Q E s := by
  show wpAny _ _ (mkText "append" >>= fun n => getAttrBy (.ref l) n true true) _ _ _
  refine wpAny_bind (wpAny_mkText ?_)
  unfold getAttrBy
  refine wpAny_holding ?_
  refine wpAny_bind (wpAny_typeOf (T := "list") ⟨_, ho, rfl⟩ ?_)
  refine wpAny_bind (wpAny_of_eq (a := some (.builtin "list.__getattribute__")) PySem.F.slot_list_getattribute.lookup ?_)
  dsimp only
  rw [if_neg (by decide)]
  unfold getAttrByItsOwn
  refine wpAny_bind (wpAny_of_eq (a := none) rfl ?_)
  refine wpAny_bind (wpAny_attempt (wpAny_holding ?_))
  refine get_append_own prog w dp un gd fr { s with toks := s.toks + 1 } _ _ l items n _ ho ?_
  intro q h' D
  have z := D.nw _ (.head _)
  exact wpAny_pure (h q h' (fun b o e => D.keep b o e (by simp [X.away])) z.1 z.2)
theorem callWith_bound {M : Model} {A : Around} {E : Value → Shared → Prop} {s : Shared} {env : Env} {pos : Pos} {q l : Addr} {first : List Value} {Q : Value → Shared → Prop} {e : Expr}
    (h : wpAny M A (spliced (backTo pos (starEach [e] env))) (fun vs s₁ => s₁.heap.get? q = some (BObj l) ∧ wpAny M A (call (.ref q) (first ++ vs)) Q E s₁) E s)
    (he : starEach [e] env = (false, eval e env) :: starEach [] env := by rfl) :
    wpAny M A (callWith pos (.ref q) first (backTo pos (starEach [e] env)) []) Q E s := by
  rw [he] at h ⊢
  exact callWith_of (P := fun h => h.get? q = some (BObj l)) (by rfl) keeps_B (evalArgs_plain h)
/-- add(e) as a statement, where add is such a value -/
theorem add_stmt {e : Expr} {x : Str} {px p pos : Pos} {D q : Addr} {vs : Array Value} {n : Nat} {m : Str → Option Value} {K : Value → Heap → Prop} {Q : Flow → Shared → Prop} {E : Value → Shared → Prop} {tk : Nat}
    (hn : h₀.Ns env.locals m) (hx : m x = some (.ref q)) (hq : h₀.get? q = some (BObj D)) (hD : h₀.get? D = some (listOf vs n)) (y : PG prog w A env e h₀ s K) (hsz : vs.size ≤ 1000)
    (h : ∀ v h' h'' tk', KeepsH h₀ h' → K v h' → (∃ n', h''.get? D = some (listOf (vs.push v) n')) → (∀ b o, b ≠ D → h'.get? b = some o → h''.get? b = some o) → Q .next { s with heap := h'', toks := tk' })
    (hk : env.scope.kind = .function := by rfl) (hl : env.scope.names.lookup x = some .local := by rfl) (hd : (x == ("__debug__" : Str)) = false := by decide)
    (he : eval (.Call (.Name x px) [e] [] p) env = (do callWith p (← eval (.Name x px) env) [] (backTo p (starEach [e] env)) (backToKw p (keywordEach [] env))) := by rfl)
    (h1 : starEach [e] env = (false, eval e env) :: starEach [] env := by rfl)
    (hi : interactive env = false := by rfl) (hs : swapsWith (.Call (.Name x px) [e] [] p) none pos.line env = pure false := by rfl) :
    wpAny (model prog w) A (exec (.Expr (.Call (.Name x px) [e] [] p) pos) env) Q E { s with heap := h₀, toks := tk } := by
  refine wpAny_Expr (Call_ ((PG.name (s := s) hn hx hk hl hd).run h₀ tk _ E kh_rfl fun u h2 tk2 k2 hu => ?_) he) hi hs
  subst hu
  refine callWith_bound (l := D) (spliced_more (y.run h2 tk2 _ E k2 fun v h3 tk3 k3 kv => spliced_none ⟨k3 _ _ (k2 _ _ hq), ?_⟩) h1) h1
  exact call_bound_append (hsz := by rw [PySem.sizeLine_eq]; omega) (k3 _ _ (k2 _ _ hq)) (k3 _ _ (k2 _ _ hD)) fun h4 e4 sb => h v h3 h4 _ (kh_tr k2 k3) kv ⟨_, e4⟩ fun b o hb e => sb.extBut b o hb e
end

end Mine
end
section
open PySem PySem.W PyProof.Rows
set_option Elab.async false
namespace Mine
set_option maxRecDepth 100000
set_option maxHeartbeats 4000000
theorem gen_eval {prog : Program} {w : World} {A : Around} {E : Value → Shared → Prop} {s : Shared} {h₀ : Heap} {L c P l : Addr} {ps items : Array Value} {m mg mb : Str → Option Value} {news : List (Addr × Obj)} {g : Obj → List (Addr × Obj)}
    {p : Program} {loose : List Str} {mean : ExcName → Option Value} {n : Nat}
    {cn : Str} {cs : Scope} {a : Addr} {ccd : Value} {cl0 : List (Str × Addr)} {elt iter : Expr} {x : Str} {px : Pos} {scope : Scope} {cl : List (Str × Addr)} {pos : Pos} {Q : Value → Shared → Prop} {Fp : Nat → Value → Prop}
    (F : Fr h₀ L s.heap m) (N : News h₀ L s.heap news) (T : Top p loose mean mg mb h₀) (C : CodeHd h₀ c P) (hcd : ccd = .ref c) (U : UpdF P (tabObj ps) news g) (ht : TriplesOk ps.toList)
    (hm : (l, listOf items n) ∈ g (tabObj ps)) (hb : AllBare s.gens)
    (hh : A.handled = none) (hco : scope.isCoroutine = false) (hclos : closureFor scope (envX cn cs L a ccd cl0) = pure cl) (hcell : ∀ y ∈ scope.names, y.2 ≠ .cell) (h0 : scope.names.lookup (".0" : Str) = some NameKind.local)
    (hx : scope.names.lookup x = some .local) (hkind : scope.kind = .function) (hroom : A.depth < recursionLimit)
    (hi : ∀ Q' : Value → Shared → Prop, Q' (.ref l) s → wpAny (model prog w) A (eval iter (envX cn cs L a ccd cl0)) Q' E s)
    (hq : ∀ (code : Value) (Cf : Addr) (A' : Around) E' i v (t : Shared) m₂, A'.handled = none → A'.depth ≤ A.depth + 1 → A'.units ≤ A.units + 8 → items[i]? = some v → t.heap.Ns Cf m₂ → m₂ x = some v →
       wpAny (model prog w) A' (eval elt (genEnv scope cl Cf code builtinsNs (envX cn cs L a ccd cl0))) (fun y s₃ => Fp i y ∧ Keeps t s₃) E' t)
    (hQ : ∀ ps' b s₅, Fr h₀ L s₅.heap m → News h₀ L s₅.heap (g (tabObj ps')) → TriplesOk ps'.toList → AllBare s₅.gens → s₅.os = s.os → (∃ K, L ≤ K ∧ (∀ q ∈ g (tabObj ps'), q.1 ≤ K) ∧
       Gen prog w A K b (passing (fun _ => true) items.size 0).length (fun j y => ∃ i, (passing (fun _ => true) items.size 0)[j]? = some i ∧ Fp i y) s₅) → Q (.ref b) s₅)
    (hs : ∀ x, genFold iter (envX cn cs L a ccd cl0) x = pure x) :
    wpAny (model prog w) A (eval (.GeneratorExp elt [⟨.Name x px, iter, [], 0⟩] scope pos) (envX cn cs L a ccd cl0)) Q E s := by
  obtain ⟨own, rest, rfl, hgr, h1, h2⟩ := U.split
  have hmP := N (P, tabObj ps) (List.mem_append_right _ (.head _))
  have hlt : ∀ q ∈ g (tabObj ps), q.1 < s.heap.objs.size := fun q hq' => by
    rw [hgr] at hq'; exact Heap.lt_size (N q hq').1
  have hLs : L < s.heap.objs.size := F.ns.lt
  have hl : s.heap.IsList l items := by rw [hgr] at hm; exact News.isList N hm
  have hlP : l ≠ P := fun e => by
    obtain ⟨o, ho, hc, _⟩ := hl
    rw [e, hmP.1] at ho; cases ho; exact absurd hc (by simp [tabObj])
  refine wpAny_GeneratorExp_walksQD hh hco hclos hcell h0 hx hkind hroom (hi _ (wpAny_pyIter_list hl ?_)) hs
  have F₂ : Fr h₀ L (s.heap.push { cls := .type "list_iterator", data := .fields #[.ref l, .int 0 0] }) m := F.keeps fun _ _ e => Heap.get?_push_of_some _ e
  have hlim := (T.nolimit).keeps F₂.keep
  refine ⟨hlim, ?_⟩
  have hP2 : (s.heap.push { cls := .type "list_iterator", data := .fields #[.ref l, .int 0 0] }).get? P = some (tabObj ps) := Heap.get?_push_of_some _ hmP.1
  have hIs : (s.heap.push { cls := .type "list_iterator", data := .fields #[.ref l, .int 0 0] }).IsCode c P ps := (C.keeps F₂.keep).code hP2 ht
  have hTb := (C.keeps F₂.keep).tab hP2
  have main : ∀ code h₃ tk₃ ps₃, Heap.ExtBut P (s.heap.push { cls := .type "list_iterator", data := .fields #[.ref l, .int 0 0] }) h₃ → h₃.get? P = some (tabObj ps₃) → TriplesOk ps₃.toList →
      (s.heap.push { cls := .type "list_iterator", data := .fields #[.ref l, .int 0 0] }).objs.size ≤ h₃.objs.size → 
      wpAny (model prog w) A (builtinsFor (envX cn cs L a ccd cl0).globals (envX cn cs L a ccd cl0).builtins) (fun bi s₄ =>
        ∃ I fp wr n₀ P St₀ pz F, (Value.ref s.heap.objs.size) = .ref I ∧ (∀ A' : Around, A'.handled = none → Walks prog w A' I fp wr n₀ P St₀) ∧ St₀ 0 s₄.heap ∧ (∀ b ∈ fp, b < s₄.heap.objs.size) ∧ s₄.heap.NoLimit ∧ cStatics ∉ wr ∧
          (∀ href : Heap, (∀ b o, s₄.heap.get? b = some o → href.get? b = some o) →
            QuietGenD prog w (genEnv scope cl s₄.heap.objs.size code bi (envX cn cs L a ccd cl0)) x [] elt (List.range s₄.heap.objs.size) wr P pz F href (A.depth + 1) (A.units + 8)) ∧
          (∀ a h₅ tk gs, gs.bare = true → s₄.heap.objs.size < a → h₅.objs.size = a + 1 → (∀ b o, s₄.heap.get? b = some o → h₅.get? b = some o) →
            WalksS prog w A.in4 a (a :: s₄.heap.objs.size :: List.range s₄.heap.objs.size) (s₄.heap.objs.size :: wr) (GenOnlyQ s₄.gens.size) (passing pz n₀ 0).length
              (fun j y => ∃ i, (passing pz n₀ 0)[j]? = some i ∧ F i y) (GenAt prog w A.in4 a s₄.gens.size s₄.heap.objs.size (List.range s₄.heap.objs.size) wr pz n₀ F) →
            GenAt prog w A.in4 a s₄.gens.size s₄.heap.objs.size (List.range s₄.heap.objs.size) wr pz n₀ F 0 { s₄ with gens := s₄.gens.push gs, toks := tk, heap := h₅ } →
            Q (.ref a) { s₄ with gens := s₄.gens.push gs, toks := tk, heap := h₅ })) E { s with heap := h₃, toks := tk₃ } := by
    intro code h₃ tk₃ ps₃ hx₃ htb₃ ht₃ hge
    have hk3 : ∀ b o, h₀.get? b = some o → h₃.get? b = some o := fun b o e => hx₃ b o (fun q => by rw [q, hmP.2.2] at e; cases e) (F₂.keep b o e)
    have F₃ : Fr h₀ L h₃ m := ⟨F₂.ns.extBut hx₃ hmP.2.1.symm, hk3, F.above⟩
    have hsp : s.heap.objs.size < h₃.objs.size := by rw [Heap.size_push] at hge; omega
    have N₃ : News h₀ L h₃ (g (tabObj ps₃)) := fun q hq' => by
      rw [hgr] at hq'
      rcases List.mem_append.mp hq' with hq' | hq'
      · have n := N q (List.mem_append_left _ hq')
        exact ⟨hx₃ _ _ (h1 q hq') (Heap.get?_push_of_some _ n.1), n.2⟩
      · rcases List.mem_cons.mp hq' with rfl | hq'
        · exact ⟨htb₃, hmP.2⟩
        · have n := N q (List.mem_append_right _ (.tail _ hq'))
          exact ⟨hx₃ _ _ (h2 q hq') (Heap.get?_push_of_some _ n.1), n.2⟩
    have hlt₃ : ∀ q ∈ g (tabObj ps₃), q.1 < s.heap.objs.size := fun q hq' => by
      rw [hgr] at hq'
      rcases List.mem_append.mp hq' with hq' | hq'
      · exact Heap.lt_size (N q (List.mem_append_left _ hq')).1
      · rcases List.mem_cons.mp hq' with rfl | hq'
        · exact Heap.lt_size hmP.1
        · exact Heap.lt_size (N q (List.mem_append_right _ (.tail _ hq'))).1
    obtain ⟨bm, ob, M⟩ := bmod_of_top T
    have M₃ := M.keeps F₃.keep
    refine wpAny_builtinsFor M₃.ns M₃.name M₃.ne M₃.obj M₃.cls M₃.dict M₃.data ?_
    have hlS : l < s.heap.objs.size := by obtain ⟨_, e, _⟩ := hl; exact Heap.lt_size e
    have hclt : cStatics < s.heap.objs.size := let ⟨_, hn, _⟩ := (T.nolimit).keeps F.keep; hn.lt
    refine ⟨s.heap.objs.size, [s.heap.objs.size, l], [s.heap.objs.size], items.size, _, _, fun _ => true, Fp, rfl, (fun A' hA => Walks.list hA _ _ (Nat.ne_of_lt hlS) items), ?_, ?_, (T.nolimit).keeps F₃.keep, ?_, ?_, ?_⟩
    · exact ⟨⟨_, hx₃ _ _ (Nat.ne_of_gt (Heap.lt_size hmP.1)) (Heap.get?_push_size _ rfl), rfl, rfl⟩, by
        obtain ⟨o, ho, r⟩ := hl; exact ⟨o, hx₃ _ _ hlP (Heap.get?_push_of_some _ ho), r⟩⟩
    · intro b hb
      show b < h₃.objs.size
      rcases List.mem_cons.mp hb with rfl | hb
      · exact hsp
      · rcases List.mem_cons.mp hb with rfl | hb
        · exact Nat.lt_trans hlS hsp
        · cases hb
    · intro hmm
      rcases List.mem_cons.mp hmm with e | hb
      · exact absurd (e ▸ hclt) (Nat.lt_irrefl _)
      · cases hb
    · intro href hhref
      exact ⟨fun A' E' i v t m₂ hA hD hU hP hn hm' hkp => wpAny_pure ⟨rfl, t.heap, t.toks, rfl, fun _ _ e => e⟩, fun A' E' i v t m₂ hA hD hU hP hp hn hm' hkp => hq code _ A' E' i v t m₂ hA hD hU hP hn hm'⟩
    · intro b h₅ tk gs hgb hag hsz₅ hk₅ W hat
      refine hQ ps₃ b _ (F₃.keeps hk₅) (fun q hq' => ⟨hk₅ _ _ (N₃ q hq').1, (N₃ q hq').2⟩) ht₃ (hb.push hgb) rfl ⟨s.heap.objs.size - 1, Nat.le_sub_one_of_lt hLs, fun q hq' => Nat.le_sub_one_of_lt (hlt₃ q hq'), _, _, _, _, W, hat, (fun i s' st => st.1.typeIs), List.mem_cons_self, ?_, ?_⟩
      · intro b' hb'
        show b' < h₅.objs.size
        rw [hsz₅]
        rcases List.mem_cons.mp hb' with rfl | hb'
        · exact Nat.lt_succ_self _
        · rcases List.mem_cons.mp hb' with rfl | hb'
          · exact Nat.lt_succ_of_lt hag
          · exact Nat.lt_succ_of_lt (Nat.lt_trans (List.mem_range.mp hb') hag)
      · intro b' hb'
        have hpos : 0 < s.heap.objs.size := Nat.lt_of_le_of_lt (Nat.zero_le _) hLs
        rcases List.mem_cons.mp hb' with rfl | hb'
        · show s.heap.objs.size - 1 < h₃.objs.size
          exact Nat.lt_of_le_of_lt (Nat.sub_le _ _) hsp
        · rcases List.mem_cons.mp hb' with rfl | hb'
          · exact Nat.sub_lt hpos Nat.one_pos
          · cases hb'
  cases hca : codeAmong pos ps.toList with
  | some cv => exact wpAny_codeAt_hit hcd hIs hca (main cv _ _ ps (Heap.ExtBut.refl _ _) hP2 ht (Nat.le_refl _))
  | none => exact wpAny_genexprCodeX hcd hIs hTb hca fun c' h₃ tk₃ hx₃ hge hlt' hcode₃ _ htab₃ _ => main _ _ _ _ hx₃ htab₃.2 (by
      have : (ps ++ #[rawInt pos.line, rawInt pos.col, Value.ref c']).toList = ps.toList ++ [rawInt pos.line, rawInt pos.col, .ref c'] := by simp
      rw [this]; exact TriplesOk_snoc _ _ _ _ ht) (Nat.le_trans hge (Nat.le_of_lt hlt'))


end Mine
end
section
open PySem PySem.W PyProof.Rows
set_option Elab.async false
namespace Mine
set_option maxRecDepth 100000
set_option maxHeartbeats 4000000
theorem rep_tail {prog : Program} {w : World} {A : Around} {E : Value → Shared → Prop} {s : Shared} {env : Env} {Q : Value → Shared → Prop} {p' q1 q2 : Pos} {a b x : Str} {u : Tok} {pl : Sem Bool}
   (h : ∀ t1 t2 tk, wpAny (model prog w) A (call (.builtin "str.replace") [.str x u, .str a t1, .str b t2]) Q E { s with toks := tk }) :
   wpAny (model prog w) A (getMethod (.str x u) "replace" pl) (fun fx s₂ => wpAny (model prog w) A (callWith p' fx.1 fx.2 (backTo p' (starEach [.Constant (.str a) 0 q1, .Constant (.str b) 0 q2] env)) []) Q E s₂) E s := by
  with_reducible refine getMethod_builtin (typeIs_str _ _ _) PySem.F.plainAttrs_str PySem.F.slot_str_replace PySem.F.type_str_replace (fun a e => by cases e) ?_
  dsimp only
  refine callWith_method1 (spliced_more (Calls.Constant_str ?_))
  refine spliced_more (Calls.Constant_str ?_)
  refine spliced_none ?_
  exact h _ _ _
theorem eval_reps {w : World} {A : Around} {E : Value → Shared → Prop} {s : Shared} {env : Env} {Q : Value → Shared → Prop} {p1 p2 p3 p4 p5 p6 p7 p8 p9 : Pos} {y : Str} {u : Tok} (x : Str)
   (he1 : ∃ pl : Env → Sem Bool, ∀ env, eval (.Call (.Attribute (.Name x p1) "replace" p2) [.Constant (.str "\\") 0 p3, .Constant (.str "\\\\") 0 p4] [] p5) env = (do
      let ov ← eval (.Name x p1) env
      standAt p2.atName
      let (f, first) ← holding [ov] (getMethod ov "replace" (pl env))
      callWith p5 f first (backTo p5 (starEach [.Constant (.str "\\") 0 p3, .Constant (.str "\\\\") 0 p4] env)) []))
   (he2 : ∃ pl : Env → Sem Bool, ∀ env, eval (.Call (.Attribute (.Call (.Attribute (.Name x p1) "replace" p2) [.Constant (.str "\\") 0 p3, .Constant (.str "\\\\") 0 p4] [] p5) "replace" p6) [.Constant (.str "-") 0 p7, .Constant (.str "\\-") 0 p8] [] p9) env = (do
      let ov ← eval (.Call (.Attribute (.Name x p1) "replace" p2) [.Constant (.str "\\") 0 p3, .Constant (.str "\\\\") 0 p4] [] p5) env
      standAt p6.atName
      let (f, first) ← holding [ov] (getMethod ov "replace" (pl env))
      callWith p9 f first (backTo p9 (starEach [.Constant (.str "-") 0 p7, .Constant (.str "\\-") 0 p8] env)) []))
   (hA : A.handled = none) (hy : y = Str.ofString "0" ∨ y = Str.ofString "9")
   (h : ∀ Q' : Value → Shared → Prop, Q' (.str y u) s → wpAny (model PySem.Challenge.rw_in0044_01.row.prog w) A (eval (.Name x p1) env) Q' E s)
   (hQ : ∀ t s', Keeps s s' → Q (.str y t) s') :
   wpAny (model PySem.Challenge.rw_in0044_01.row.prog w) A (eval (.Call (.Attribute (.Call (.Attribute (.Name x p1) "replace" p2) [.Constant (.str "\\") 0 p3, .Constant (.str "\\\\") 0 p4] [] p5) "replace" p6) [.Constant (.str "-") 0 p7, .Constant (.str "\\-") 0 p8] [] p9) env) Q E s := by
  obtain ⟨hd', dp, fr, gd, un⟩ := A
  cases hA
  obtain ⟨pl1, he1⟩ := he1
  obtain ⟨pl2, he2⟩ := he2
  refine MethodCall_ (MethodCall_ (h _ (rep_tail fun t1 t2 tk => ?_)) (he1 _)) (he2 _)
  rcases hy with rfl | rfl
  · exact x_rep2 fun t h' tk' kk => rep_tail fun t1' t2' tk2 => x_rep4 fun t'' h'' tk'' kk' => hQ _ _ ⟨h'', tk'', rfl, fun b o e => kk' b o (kk b o e)⟩
  · exact x_rep3 fun t h' tk' kk => rep_tail fun t1' t2' tk2 => x_rep5 fun t'' h'' tk'' kk' => hQ _ _ ⟨h'', tk'', rfl, fun b o e => kk' b o (kk b o e)⟩
theorem reps_are {w : World} {A' : Around} {E' : Value → Shared → Prop} {t : Shared} {m₂ : Str → Option Value} {Cf : Addr} {code : Value} {envq : Env} {tk tk' : Tok} {cl : List (Str × Addr)} {p1 p2 p3 p4 p5 p6 p7 p8 p9 : Pos} {i : Nat} {v : Value} {x : Str} {scope : Scope}
   (he1 : ∃ pl : Env → Sem Bool, ∀ env, eval (.Call (.Attribute (.Name x p1) "replace" p2) [.Constant (.str "\\") 0 p3, .Constant (.str "\\\\") 0 p4] [] p5) env = (do
      let ov ← eval (.Name x p1) env
      standAt p2.atName
      let (f, first) ← holding [ov] (getMethod ov "replace" (pl env))
      callWith p5 f first (backTo p5 (starEach [.Constant (.str "\\") 0 p3, .Constant (.str "\\\\") 0 p4] env)) []))
   (he2 : ∃ pl : Env → Sem Bool, ∀ env, eval (.Call (.Attribute (.Call (.Attribute (.Name x p1) "replace" p2) [.Constant (.str "\\") 0 p3, .Constant (.str "\\\\") 0 p4] [] p5) "replace" p6) [.Constant (.str "-") 0 p7, .Constant (.str "\\-") 0 p8] [] p9) env = (do
      let ov ← eval (.Call (.Attribute (.Name x p1) "replace" p2) [.Constant (.str "\\") 0 p3, .Constant (.str "\\\\") 0 p4] [] p5) env
      standAt p6.atName
      let (f, first) ← holding [ov] (getMethod ov "replace" (pl env))
      callWith p9 f first (backTo p9 (starEach [.Constant (.str "-") 0 p7, .Constant (.str "\\-") 0 p8] env)) []))
   (hA : A'.handled = none) (hs : scope.kind = .function) (hx : scope.names.lookup x = some .local) (hd : (x == ("__debug__" : Str)) = false) (hn : t.heap.Ns Cf m₂) (hv : m₂ x = some v) (hi : #[Value.str (Str.ofString "0") tk, Value.str (Str.ofString "9") tk'][i]? = some v) :
   wpAny (model PySem.Challenge.rw_in0044_01.row.prog w) A' (eval (.Call (.Attribute (.Call (.Attribute (.Name x p1) "replace" p2) [.Constant (.str "\\") 0 p3, .Constant (.str "\\\\") 0 p4] [] p5) "replace" p6) [.Constant (.str "-") 0 p7, .Constant (.str "\\-") 0 p8] [] p9)
     (genEnv scope cl Cf code builtinsNs envq)) (fun y s₃ => (∃ u, y = .str ([Str.ofString "0", Str.ofString "9"].getD i "") u) ∧ Keeps t s₃) E' t := by
  have : ∃ u, v = .str ([Str.ofString "0", Str.ofString "9"].getD i "") u ∧ ([Str.ofString "0", Str.ofString "9"].getD i "" = Str.ofString "0" ∨ [Str.ofString "0", Str.ofString "9"].getD i "" = Str.ofString "9") := by
    match i, hi with
    | 0, hi => cases hi; exact ⟨_, rfl, .inl rfl⟩
    | 1, hi => cases hi; exact ⟨_, rfl, .inr rfl⟩
  obtain ⟨u, rfl, hy⟩ := this
  exact eval_reps (s := t) x he1 he2 hA hy (fun Q' hQ' => ldG hn hv hQ' hs hx hd) fun t' s' hk => ⟨⟨t', rfl⟩, hk⟩
theorem join_line {prog : Program} {w : World} {A : Around} {E : Value → Shared → Prop} {s : Shared} {h₀ : Heap} {L b : Addr} {m : Str → Option Value} {news : List (Addr × Obj)} {Q : Value → Shared → Prop} {t tk tk' : Tok}
   (F : Fr h₀ L s.heap m) (N : News h₀ L s.heap news) (G : AllBare s.gens)
   (X : ∃ K, L ≤ K ∧ (∀ q ∈ news, q.1 ≤ K) ∧ Gen prog w A K b (passing (fun _ => true) (#[Value.str (Str.ofString "0") tk, Value.str (Str.ofString "9") tk'] : Array Value).size 0).length (fun j y => ∃ i, (passing (fun _ => true) (#[Value.str (Str.ofString "0") tk, Value.str (Str.ofString "9") tk'] : Array Value).size 0)[j]? = some i ∧ (∃ u, y = .str ([Str.ofString "0", Str.ofString "9"].getD i "") u)) s)
   (hQ : ∀ t' s', Fr h₀ L s'.heap m → News h₀ L s'.heap news → AllBare s'.gens → s'.os = s.os → Q (.str (Str.ofString "0-9") t') s') :
   wpAny (model prog w) A (call (.builtin "str.join") [.str (Str.ofString "-") t, .ref b]) Q E s := by
  obtain ⟨K, hLK, hK, X⟩ := X
  refine join_rowsK (tx := fun j => [Str.ofString "0", Str.ofString "9"].getD j "") F G X hLK ?_ (by show JoinOk _ ((List.range 2).map fun j => [Str.ofString "0", Str.ofString "9"].getD j "") = true; decide +kernel) (fun s' t' F' G' ho hk => ?_) (by show 2 ≤ sizeLine; decide +kernel)
  · rintro j v ⟨i, hi, u, rfl⟩
    refine ⟨u, ?_⟩
    match j, hi with
    | 0, hi => cases hi; rfl
    | 1, hi => cases hi; rfl
  · have e : Txt.join (Str.ofString "-") ((List.range (passing (fun _ => true) (#[Value.str (Str.ofString "0") tk, Value.str (Str.ofString "9") tk'] : Array Value).size 0).length).map fun j => [Str.ofString "0", Str.ofString "9"].getD j "") = Str.ofString "0-9" := by show Txt.join _ ((List.range 2).map fun j => [Str.ofString "0", Str.ofString "9"].getD j "") = _; decide +kernel
    rw [e]
    exact hQ t' s' F' (fun q hq => ⟨hk _ _ (hK q hq) (N q hq).1, (N q hq).2⟩) G' ho


end Mine
end
section
open PySem PySem.W PyProof.Rows
set_option Elab.async false
namespace Mine
set_option maxRecDepth 100000
set_option maxHeartbeats 4000000
structure TrR (s s' : Shared) (l : Addr) (ws : List Str) : Prop where
  kb : ∀ b o, b ≠ 71 → s.heap.get? b = some o → s'.heap.get? b = some o
  tab : ∃ ps, s'.heap.get? 71 = some (tabObj ps) ∧ TriplesOk ps.toList
  bare : AllBare s'.gens
  os : s'.os = s.os
  lst : ∃ vs n, s'.heap.get? l = some (listOf vs n) ∧ StrsAre vs.toList ws
  new : s.heap.get? l = none
  szl : @LE.le Nat _ s.heap.objs.size s'.heap.objs.size
theorem lam_any {M : Model} {A : Around} {E : Value → Shared → Prop} {s : Shared} {h₀ : Heap} {L a c P : Addr} {m mg mb : Str → Option Value} {cn : Str} {cs : Scope} {ccd : Value} {cl : List (Str × Addr)} {news : List (Addr × Obj)} {g : Obj → List (Addr × Obj)}
  {loose : List Str} {mean : ExcName → Option Value} {name qual : Str} {params : Arguments} {body : Expr} {scope : Scope} {ps : Array Value} {pos : Pos} {firstLine : Nat} {clos : List (Str × Addr)} {pr : Program} {Q : Value → Shared → Prop}
  (F : Fr h₀ L s.heap m) (N : News h₀ L s.heap news) (T : Top pr loose mean mg mb h₀) (C : CodeHd h₀ c P) (hcd : ccd = .ref c) (U : UpdF P (tabObj ps) news g) (ht : TriplesOk ps.toList)
  (hcl : closureFor scope (envX cn cs L a ccd cl) = pure clos)
  (h : ∀ f fd h' tk ps', Fr h₀ L h' m → News h₀ L h' ((f, ⟨.type "function", none, .func fd, #[]⟩) :: g (tabObj ps')) → TriplesOk ps'.toList → (∀ q ∈ news, q.1 < f) → Q (.ref f) { s with heap := h', toks := tk }) :
    wpAny M A (makeFunction name qual params (.expr body) scope (envX cn cs L a ccd cl) [] [] [] pos firstLine) Q E s := by
  cases hca : codeAmong pos ps.toList with
  | none =>
    refine kla_nest F N T C hcd U ht hca hcl fun f c' oc vs t ctv h' tk F' N' _ _ l1 l2 => ?_
    refine h f (kla_fn name qual params body scope clos ((mg "__name__").getD .none) (.ref c') ctv) h' tk (ps ++ #[rawInt pos.line, rawInt pos.col, .ref c']) F' (fun q hq => ?_) ?_ (fun q hq => Nat.lt_trans (l1 q hq) l2)
    · rcases List.mem_cons.mp hq with rfl | hq
      · exact N' _ (.head _)
      · exact N' _ (.tail _ (.tail _ hq))
    · have : (ps ++ #[rawInt pos.line, rawInt pos.col, Value.ref c']).toList = ps.toList ++ [rawInt pos.line, rawInt pos.col, .ref c'] := by simp
      rw [this]; exact TriplesOk_snoc _ _ _ _ ht
  | some cv =>
    obtain ⟨own, rest, rfl, hgr, h1, h2⟩ := U.split
    have hm := N (P, tabObj ps) (List.mem_append_right _ (.head _))
    have hgs := T.g.keeps F.keep
    obtain ⟨bm, ob, b1, b2, b3, b4, b5, b6⟩ := T.bmain
    have hbP : bm ≠ P := fun q => by
      have e := F.keep _ _ b3
      rw [q, hm.1] at e; cases e; cases b4
    have hbG : bm ≠ mainGlobals := fun q => by
      obtain ⟨o, es, ep, e, hd, _⟩ := T.g
      rw [q, e] at b3; cases b3; rw [hd] at b6; cases b6
    refine kla_makeFunctionHit (mg := mg) hcl rfl hgs hcd (C.keeps F.keep) hm.1 ht hca ⟨bm, ob, b1, b2, hbG, hbP, F.keep _ _ b3, b4, b5, b6⟩ fun ctv h' tk hk hsz => ?_
    have hLs : L < h'.objs.size := Nat.lt_of_lt_of_le F.ns.lt hsz
    have fresh : ∀ b, L < b → h₀.get? b = none := fun b hb => Heap.get?_none_of_le (Nat.le_trans F.above (Nat.le_of_lt hb))
    refine h h'.objs.size (kla_fn name qual params body scope clos ((mg "__name__").getD .none) cv ctv) _ tk ps ⟨(F.ns.keeps hk).push _, fun b o e => Heap.get?_push_of_some _ (hk b o (F.keep b o e)), F.above⟩ (fun q hq => ?_) ht (fun q hq => Nat.lt_of_lt_of_le (Heap.lt_size (N q hq).1) hsz)
    rcases List.mem_cons.mp hq with rfl | hq
    · exact ⟨Heap.get?_push_size _ rfl, Nat.ne_of_gt hLs, fresh _ hLs⟩
    · rw [hgr] at hq
      exact ⟨Heap.get?_push_of_some _ (hk _ _ (N q hq).1), (N q hq).2⟩
theorem tab_base {s : Shared} {g₀ : Heap} {loose : List Str} {mean : ExcName → Option Value} {mg mb : Str → Option Value} {w : World}
   (X : (hd.heap_39 w.params).In g₀) (T : Top topProg loose mean mg mb g₀) (C : CodeHd g₀ 75 71) (k0 : KeepsH g₀ s.heap) (g71 : g₀.get? 71 = none) :
   ∃ g, (hd.heap_39 w.params).In g ∧ Top topProg loose mean mg mb g ∧ CodeHd g 75 71 ∧ KeepsH g s.heap ∧ @LE.le Nat _ g.objs.size s.heap.objs.size ∧ g.get? 71 = none ∧ (∀ b o, b ≠ 71 → s.heap.get? b = some o → g.get? b = some o) ∧ g.objs.size = s.heap.objs.size := by
  have kb : ∀ b o, b ≠ 71 → s.heap.get? b = some o → (hideAll s.heap [71]).get? b = some o := fun b o hb e => hideAll_get [71] e (by simpa using hb)
  have k : ∀ b o, g₀.get? b = some o → (hideAll s.heap [71]).get? b = some o := fun b o e => kb b o (fun q => by rw [q, g71] at e; cases e) (k0 b o e)
  exact ⟨hideAll s.heap [71], X.keeps k, T.keeps k, C.keeps k, fun b o e => of_hideAll [71] e, Nat.le_of_eq (hideAll_size _ _), hideAll_none [71] (.head _), kb, hideAll_size _ _⟩


end Mine
end
section
open PySem PySem.W PyProof.Rows
set_option Elab.async false
namespace Mine
set_option maxRecDepth 100000
set_option maxHeartbeats 4000000
/-- the contract of `_translate` at one pattern -/
noncomputable def TrC (w : World) (pat : Str) (ws : List Str) : Prop := ∀ (dp un : Nat) (gd : Option (List Code)) (fr : Option (List Env)) (s : Shared) (Q E : Value → Shared → Prop)
   (loose : List Str) (mean : ExcName → Option Value) (mg mb : Str → Option Value) (t1 t2 t3 : Tok) (g₀ : Heap) (ps : Array Value)
   (_ : (hd.heap_39 w.params).In g₀) (_ : Top topProg loose mean mg mb g₀) (_ : CodeHd g₀ 75 71) (_ : KeepsH g₀ s.heap) (_ : g₀.get? 71 = none) (_ : s.heap.get? 71 = some (tabObj ps)) (_ : TriplesOk ps.toList) (_ : AllBare s.gens)
   (_ : dp + 3 < recursionLimit) (_ : un + 30 < cLine) (_ : @LT.lt Nat _ 0 t2) (_ : @LT.lt Nat _ t2 t3) (_ : @LT.lt Nat _ t3 s.toks)
   (_ : ∀ l s', TrR s s' l ws → Q (.ref l) s'),
   wpAny (model PySem.Challenge.rw_in0044_01.row.prog w) (AA dp un gd fr) (call (.ref 76) [.str pat t1, .str (Str.ofString "many") t2, .str (Str.ofString "any") t3]) Q E s
/-- the contract of `_law_sign` at one part -/
noncomputable def SignC (w : World) (p : Str) (f : Str → Bool) : Prop := ∀ (dp un : Nat) (gd : Option (List Code)) (fr : Option (List Env)) (s : Shared) (Q E : Value → Shared → Prop)
   (loose : List Str) (mean : ExcName → Option Value) (mg mb : Str → Option Value) (x : Str) (t u : Tok)
   (_ : (hd.heap_39 w.params).In s.heap) (_ : Top topProg loose mean mg mb s.heap) (_ : dp + 1 < recursionLimit) (_ : un + 8 < cLine)
   (_ : ∀ h' tk', KeepsH s.heap h' → Q (.bool (f x)) { s with heap := h', toks := tk' }),
   wpAny (model PySem.Challenge.rw_in0044_01.row.prog w) (AA dp un gd fr) (call (.ref 118) [.str p t, .str x u]) Q E s
end Mine
end
section
open PySem PySem.W PyProof.Rows PySem.Calls
set_option Elab.async false
set_option maxRecDepth 100000
set_option linter.unusedVariables false
namespace Mine
section
variable {prog : Program} {w : World} {A : Around} {s : Shared} {env : Env} {h₀ : Heap}
/-- a comprehension as a pure expression -/
theorem PG.comp {α β : Type} {elt iter : Expr} {x : Str} {px : Pos} {ifs : List Expr} {scope : Scope} {cl : List (Str × Addr)} {pos : Pos} (xs : List α) (R : Heap → Value → α → Prop) (S : Heap → Value → β → Prop) (q : α → Bool) (f : α → β) {Kit : Value → Heap → Prop}
    (hR : Up R) (hS : Up S) (it : PG prog w A env iter h₀ s Kit)
    (src : ∀ xv h tk, KeepsH h₀ h → Kit xv h → Src prog w A xv { s with heap := h, toks := tk } h xs R)
    (t : ∀ h tk, KeepsH h₀ h → TestOk prog w A env scope cl x ifs { s with heap := h, toks := tk } h xs R q)
    (e : ∀ h tk, KeepsH h₀ h → EltOk prog w A env scope cl x elt { s with heap := h, toks := tk } h xs R S q f)
    (hclos : closureFor scope env = pure cl := by rfl) (hcell : ∀ y ∈ scope.names, y.2 ≠ .cell := by decide) (hkind : scope.kind = .function := by rfl) (hnames : ∀ z ∈ scope.names, z.2 = .local → scope.names.lookup z.1 = some .local := by decide) (hx : scope.names.lookup x = some .local := by rfl)
    (hs : ∀ x, foldedSetIterable iter env x = pure x := by intro _; rfl) : PG prog w A env (.ListComp elt [⟨.Name x px, iter, ifs, 0⟩] scope pos) h₀ s (KNew h₀ (KList S ((xs.filter q).map f))) :=
  .mk fun h tk Q E k hQ => gcomp_eval hclos hcell hkind hnames hx (it.run h tk _ E k fun xv h₂ tk₂ k₂ kx =>
    ⟨α, β, xs, R, S, q, f, h₂, hR, hS, kh_rfl, t h₂ tk₂ (kh_tr k k₂), e h₂ tk₂ (kh_tr k k₂), src xv h₂ tk₂ (kh_tr k k₂) kx, fun h' tk' D g' ys c X hD hDn hp =>
      hQ (.ref D) h' tk' (kh_tr k₂ X.hh) ⟨⟨D, ys.toArray, c, rfl, X.gh _ _ hD, paired_mono (fun v b r => hS _ _ _ _ X.gh r) (by simpa using hp)⟩, D, rfl, noneOf (kh_tr k k₂) hDn⟩⟩) hs
theorem PG.list2 {e e' : Expr} {p : Pos} {K K' : Value → Heap → Prop} (x : PG prog w A env e h₀ s K) (u : UpK K) (y : PG prog w A env e' h₀ s K') (u' : UpK K') (he : starEach [e, e'] env = (false, eval e env) :: starEach [e'] env := by rfl) (he' : starEach [e'] env = (false, eval e' env) :: starEach [] env := by rfl) :
    PG prog w A env (.List [e, e'] p) h₀ s (fun v h => ∃ a v1 v2, v = .ref a ∧ h₀.get? a = Option.none ∧ h.get? a = some (listOf #[v1, v2] 0) ∧ K v1 h ∧ K' v2 h) :=
  .mk fun h tk Q E k hQ => wpAny_List ((PA.two x u y u' he he').run h tk _ E k fun vs h' tk' k' ⟨v1, v2, e1, k1, k2⟩ => by
    subst e1
    exact ⟨by show 2 ≤ sizeLine; decide, hQ _ _ _ (fun b o e => Heap.get?_push_of_some _ (k' _ _ e)) ⟨_, v1, v2, rfl, noneOf (kh_tr k k') (Heap.get?_none_of_le (Nat.le_refl _)), Heap.get?_push_size _ rfl, u _ _ _ (fun b o e => Heap.get?_push_of_some _ e) k1, u' _ _ _ (fun b o e => Heap.get?_push_of_some _ e) k2⟩⟩)
theorem PG.tup0 {p : Pos} {c : Nat} : PG prog w A env (.Tuple [] c p) h₀ s (fun v h => ∃ a, v = .ref a ∧ IsTup h a #[]) :=
  .mk fun h tk Q E k hQ => wpAny_Tuple (PA.nil.run h tk _ E k fun vs h' tk' k' e => by
    subst e
    exact ⟨by show 0 ≤ sizeLine; decide, hQ _ _ _ (fun b o e => Heap.get?_push_of_some _ (k' _ _ e)) ⟨_, rfl, ⟨_, Heap.get?_push_size _ rfl, rfl, _, rfl⟩⟩⟩)
theorem PG.tup1 {e : Expr} {p : Pos} {c : Nat} {K : Value → Heap → Prop} (x : PG prog w A env e h₀ s K) (u : UpK K) (he : starEach [e] env = (false, eval e env) :: starEach [] env := by rfl) : PG prog w A env (.Tuple [e] c p) h₀ s (fun v h => ∃ a v1, v = .ref a ∧ IsTup h a #[v1]) :=
  .mk fun h tk Q E k hQ => wpAny_Tuple ((PA.one x u he).run h tk _ E k fun vs h' tk' k' ⟨v1, e, _⟩ => by
    subst e
    exact ⟨by show 1 ≤ sizeLine; decide, hQ _ _ _ (fun b o e => Heap.get?_push_of_some _ (k' _ _ e)) ⟨_, v1, rfl, ⟨_, Heap.get?_push_size _ rfl, rfl, _, rfl⟩⟩⟩)
/-- an item of a pair -/
theorem ps_itemL {a i : Expr} {l : Addr} {vs : Array Value} {k : Nat} {t : Tok} {v : Value} (e : h₀.IsList l vs) (hk : vs.toList[k]? = some v) (hk64 : k < 1000000)
    (hs : subscripted i false (.ref l) (.int (k : Int) t) = operate [.ref l, .int (k : Int) t] (getItem (.ref l) (.int (k : Int) t)) := by with_unfolding_all rfl) : PS prog w A (subscriptTail a i (.ref l) (.int (k : Int) t)) h₀ s (fun u _ => u = v) :=
  .mk fun h tk Q E kk hQ => by
    have e' : h.IsList l vs := by obtain ⟨o, q, r⟩ := e; exact ⟨o, kk _ _ q, r⟩
    exact tail_any e'.typeIs slot_list_getitem.lookup (wpAny_getItem_list e' (by omega) (by omega) (by simpa using hk) (hQ _ _ _ kh_rfl rfl)) hs
theorem ps_itemT {a i : Expr} {l : Addr} {vs : Array Value} {k : Nat} {t : Tok} {v : Value} (e : IsTup h₀ l vs) (hk : vs[k]? = some v) (hk64 : k < 1000000)
    (hs : subscripted i false (.ref l) (.int (k : Int) t) = operate [.ref l, .int (k : Int) t] (getItem (.ref l) (.int (k : Int) t)) := by with_unfolding_all rfl) : PS prog w A (subscriptTail a i (.ref l) (.int (k : Int) t)) h₀ s (fun u _ => u = v) :=
  .mk fun h tk Q E kk hQ => by
    have e' : IsTup h l vs := e.keeps kk
    have hkl : k < vs.size := (Array.getElem?_eq_some_iff.mp hk).1
    refine tail_any e'.typeIs PySem.F.slot_tuple_getitem.lookup (PyProof.Rows.getItem_tuple e' (by omega) (by omega) (j := k) ?_ hk (hQ _ _ _ kh_rfl rfl)) hs
    unfold seqIndex?
    have h0 : ¬ ((k : Int) < 0) := by omega
    simp only [h0, if_false]
    simp
    omega
theorem PG.item0 {a : Expr} {p q : Pos} {c : Nat} {x : Option Str × Option Str} (y : PG prog w A env a h₀ s (fun v h => PRel h v x)) : PG prog w A env (.Subscript a (.Constant (.int 0) c q) p) h₀ s (fun v _ => OptIs x.1 v) :=
  PG.sub y (PG.int (i := 0)) (fun v h h' k r => upPR h h' v x k r) fun o j h' kk ho hj => by
    obtain ⟨t, rfl⟩ := hj
    obtain ⟨l, rfl, v1, v2, h1, h2, h3 | h3⟩ := ho
    · exact (ps_itemT (k := 0) h3 (v := v1) rfl (by decide)).imp fun v h' k' hv => by subst hv; exact h1
    · exact (ps_itemL (k := 0) h3 (v := v1) rfl (by decide)).imp fun v h' k' hv => by subst hv; exact h1
theorem PG.item1 {a : Expr} {p q : Pos} {c : Nat} {x : Option Str × Option Str} (y : PG prog w A env a h₀ s (fun v h => PRel h v x)) : PG prog w A env (.Subscript a (.Constant (.int 1) c q) p) h₀ s (fun v _ => OptIs x.2 v) :=
  PG.sub y (PG.int (i := 1)) (fun v h h' k r => upPR h h' v x k r) fun o j h' kk ho hj => by
    obtain ⟨t, rfl⟩ := hj
    obtain ⟨l, rfl, v1, v2, h1, h2, h3 | h3⟩ := ho
    · exact (ps_itemT (k := 1) h3 (v := v2) rfl (by decide)).imp fun v h' k' hv => by subst hv; exact h2
    · exact (ps_itemL (k := 1) h3 (v := v2) rfl (by decide)).imp fun v h' k' hv => by subst hv; exact h2
theorem ps_isNone {o : Option Str} {a b : Value} (ha : OptIs o a) (hb : KVal .none b h₀) : PS prog w A (compareOp .Is a b) h₀ s (KBool o.isNone) := by
  obtain rfl : b = .none := hb
  cases o with
  | none => obtain rfl : a = .none := ha; exact .mk fun h tk Q E k hQ => is_none_none (hQ _ _ _ kh_rfl rfl)
  | some x => obtain ⟨t, rfl⟩ := ha; exact .mk fun h tk Q E k hQ => is_str_none (hQ _ _ _ kh_rfl rfl)
/-- ''.join of no or one text -/
theorem pc_join {xs : List Str} {o v : Value} (ho : KStr Str.empty o h₀) (hv : KStrs xs v h₀) (h1 : xs.length ≤ 1) (h20 : ∀ x ∈ xs, x.length ≤ 1000) : PC prog w A (.builtin "str.join") [o, v] h₀ s (KStr (xs.headD Str.empty)) := by
  obtain ⟨t, rfl⟩ := ho
  obtain ⟨l, vs, n, rfl, e, hx⟩ := hv
  match xs, h1 with
  | [], _ =>
    have hvs : vs = (strValues []).toArray := by
      have := hx.length
      simp at this
      simpa [strValues] using this
    refine .mk fun h tk Q E k hQ => call_meets PySem.F.slot_str_join (typeIs_str _ _ _) PySem.F.entry_str_join (PySem.F.args_str_join_2 _ _) (meets_str_join_list Str.empty t l [] (by decide +kernel)) ⟨hvs ▸ isLA (k _ _ e), ?_⟩
    exact ⟨by show (_ : Nat) ≤ _; rw [PySem.sizeLine_eq]; decide +kernel, hQ _ _ _ kh_rfl ⟨_, rfl⟩⟩
  | [x], _ =>
    obtain ⟨u, hu⟩ := strs_at hx (i := 0) rfl
    have hvs : vs = (strValues [(x, u)]).toArray := by
      have h2 := hx.length
      cases vs with | mk l' =>
      match l', h2, hu with
      | [a], _, hu => simp at hu; subst hu; rfl
    refine .mk fun h tk Q E k hQ => call_meets PySem.F.slot_str_join (typeIs_str _ _ _) PySem.F.entry_str_join (PySem.F.args_str_join_2 _ _) (meets_str_join_list Str.empty t l [(x, u)] ?_) ⟨hvs ▸ isLA (k _ _ e), ?_⟩
    · have := h20 x (.head _)
      have e0 : Str.empty.length = 0 := by decide +kernel
      unfold Builtin.Str.tooLong
      have e1 : ((List.map (fun p : Str × Tok => p.1) [(x, u)]).toArray.foldl (fun n (p : Str) => n + p.length + Str.empty.length) 0) = x.length := by
        show (0 + x.length + Str.empty.length) = _
        omega
      rw [e1, PySem.sizeLine_eq]
      exact decide_eq_false (by omega)
    · exact hQ _ _ _ kh_rfl ⟨_, rfl⟩
theorem PG.join {o e : Expr} {ap p : Pos} {xs : List Str} (pl : Sem Bool) (y : PG prog w A env o h₀ s (KStr Str.empty)) (z : PG prog w A env e h₀ s (KStrs xs)) (h1x : xs.length ≤ 1) (h20 : ∀ x ∈ xs, x.length ≤ 1000)
    (he : eval (.Call (.Attribute o (Str.ofString "join") ap) [e] [] p) env = (do
      let ov ← eval o env
      standAt ap.atName
      let (f, first) ← holding [ov] (getMethod ov (Str.ofString "join") pl)
      callWith p f first (backTo p (starEach [e] env)) []) := by rfl)
    (h1 : starEach [e] env = (false, eval e env) :: starEach [] env := by rfl) : PG prog w A env (.Call (.Attribute o (Str.ofString "join") ap) [e] [] p) h₀ s (KStr (xs.headD Str.empty)) :=
  PG.meth1 pl y upS z upSs (T := "str") (fun v h' tk' k => by obtain ⟨t, rfl⟩ := k; exact typeIs_str _ _ _) (fun v h' a k e => by obtain ⟨t, rfl⟩ := k; cases e) PySem.F.plainAttrs_str PySem.F.slot_str_join PySem.F.type_str_join (fun v v₁ h' k kv kv₁ => pc_join kv kv₁ h1x h20) he h1
theorem PG.nameR {α : Type} {R : Heap → Value → α → Prop} {b : α} {x : Str} {p : Pos} {m : Str → Option Value} {v : Value} (u : Up R) (hn : h₀.Ns env.locals m) (hv : m x = some v) (r : R h₀ v b) (hk : env.scope.kind = .function := by rfl) (hl : env.scope.names.lookup x = some .local := by rfl) (hd : (x == ("__debug__" : Str)) = false := by decide) :
    PG prog w A env (.Name x p) h₀ s (fun v h => R h v b) := (PG.name hn hv hk hl hd).imp fun v h' k e => by subst e; exact u _ _ _ _ k r
theorem PG.addS {a b : Expr} {p : Pos} {x y : Str} (u : PG prog w A env a h₀ s (KStr x)) (v : PG prog w A env b h₀ s (KStr y)) (hz : x.length + y.length ≤ 1000) : PG prog w A env (.BinOp a .Add b p) h₀ s (KStr (x ++ y)) :=
  PG.bin u v upS fun _ _ _ _ ka kb => ps_addS ka kb hz
theorem ps_notNone {o : Option Str} {a b : Value} (ha : OptIs o a) (hb : KVal .none b h₀) : PS prog w A (compareOp .IsNot a b) h₀ s (KBool o.isSome) := by
  obtain rfl : b = .none := hb
  cases o with
  | none => obtain rfl : a = .none := ha; exact .mk fun h tk Q E k hQ => isnot_none_none (hQ _ _ _ kh_rfl rfl)
  | some x => obtain ⟨t, rfl⟩ := ha; exact .mk fun h tk Q E k hQ => isnot_none_ne (by intro q; cases q) (hQ _ _ _ kh_rfl rfl)
end
theorem filter_tt {α : Type} (xs : List α) : xs.filter (fun _ => true) = xs := List.filter_eq_self.mpr fun _ _ => rfl
/-- a row of `plain` -/
noncomputable def PlR (h : Heap) (v : Value) (x : Str × Option Str) : Prop := KList (fun _ v o => OptIs o v) [some x.1, x.2] v h
theorem upPl : Up PlR := fun h h' v x k r => upL (fun _ _ _ _ _ q => q) _ _ _ k r
noncomputable def plainF (p : Option Str × Option Str) : Str × Option Str := (p.1.getD (S "C"), p.2)
noncomputable def tailF (o : Option Str) : Str := (([o].filter (·.isSome)).map fun o => Str.ofString "." ++ o.getD Str.empty).headD Str.empty
theorem name_tail (p : Option Str × Option Str) : (plainF p).1 ++ tailF (plainF p).2 = nameF p.1 p.2 := by
  obtain ⟨l, e⟩ := p
  cases e with
  | none =>
    have e : tailF (plainF (l, none)).2 = tailF none := rfl
    rw [e]
    exact PySem.Str.append_right_empty (by decide +kernel)
  | some y => simp only [plainF, tailF, nameF, List.filter_cons, List.filter_nil, Option.isSome_some, if_true, List.map_cons, List.map_nil, List.headD_cons, Option.getD_some]; rw [PySem.Str.append_assoc]

end Mine
end
section
open PySem PySem.W PyProof.Rows PySem.Calls
set_option Elab.async false
set_option maxRecDepth 100000
set_option linter.unusedVariables false
namespace Mine
noncomputable def allP : List (Option Str × Option Str) := langs.flatMap fun l => encs.map fun e => (l, e)
theorem getD_mem {α : Type} {xs : List α} {d : α} (h : d ∈ xs) (k : Nat) : xs.getD k d ∈ xs := by
  by_cases q : k < xs.length
  · rw [List.getD_eq_getElem?_getD, List.getElem?_eq_getElem q]; exact List.getElem_mem q
  · rw [List.getD_eq_getElem?_getD, List.getElem?_eq_none (by omega)]; exact h
theorem pairOf_mem (x : Int) : pairOf x ∈ allP := by
  unfold allP pairOf
  rw [List.mem_flatMap]
  exact ⟨_, getD_mem (by simp [langs]) _, List.mem_map.mpr ⟨_, getD_mem (by simp [encs]) _, rfl⟩⟩
theorem pairsF_mem {ns : List Int} {p : Option Str × Option Str} (h : p ∈ pairsF ns) : p ∈ allP := by
  unfold pairsF at h
  obtain ⟨x, _, rfl⟩ := List.mem_map.mp h
  exact pairOf_mem x
theorem pairsF_len (ns : List Int) : 10 ≤ (pairsF ns).length ∧ (pairsF ns).length ≤ 20 := by
  unfold pairsF numsOfS fixed
  simp only [List.length_map, List.length_append, List.length_take, List.length_drop, List.length_cons, List.length_nil]
  omega
theorem allP_ok : ∀ p ∈ allP, (p.1.getD (S "C")).length ≤ 20 ∧ (p.2.getD (S "C")).length ≤ 20 ∧ (nameF p.1 p.2).length ≤ 20 ∧ PyData.strOk (nameF p.1 p.2) = true := by decide +kernel
theorem allP_ok2 : ∀ p ∈ allP, (p.1.getD (S "C")).length ≤ 20 ∧ (p.2.getD Str.empty).length ≤ 20 := by decide +kernel
theorem allP_ok3 : ∀ p ∈ allP, (tailF (plainF p).2).length ≤ 30 := by decide +kernel
noncomputable def namesF (ns : List Int) : List Str := (pairsF ns).map fun p => nameF p.1 p.2
theorem namesF_len (ns : List Int) : 10 ≤ (namesF ns).length ∧ (namesF ns).length ≤ 20 := by unfold namesF; rw [List.length_map]; exact pairsF_len ns
/-- the patterns asked for -/
noncomputable def askI (ns : List Int) : List Int := ns.take 2 ++ ([5, 6] : List Int).drop (ns.take 2).length
noncomputable def askedF (ns : List Int) : List Nat := (askI ns).map fun x => (x % 9).toNat
theorem askI_len (ns : List Int) : (askI ns).length = 2 := by
  unfold askI
  rw [List.length_append, List.length_drop, List.length_take]
  simp
  omega
theorem askedF_lt {ns : List Int} {k : Nat} (h : k ∈ askedF ns) : k < 9 := by
  unfold askedF at h
  obtain ⟨x, _, rfl⟩ := List.mem_map.mp h
  omega

end Mine
end
section
open PySem PySem.W PyProof.Rows PySem.Calls
set_option Elab.async false
namespace Mine
/-- a good end: all that stood stays, the generators left are bare -/
noncomputable def GoodWA (c : ClaimW) (cl : Str → Option Addr) (mean : ExcName → Option Value) (args : List WData) (s₁ : Shared) (res : Result) (s' : Shared) : Prop :=
  (∃ v d as, res = .ok (.ret v) ∧ (∀ cls, c.raises args cls = false) ∧ ReadsW c.records cl s'.heap v d as ∧ c.post args d args = true ∧
      (c.unshared = true → as.Nodup ∧ ∀ a ∈ as, s₁.heap.get? a = none)) ∧
  (∀ b o, s₁.heap.get? b = some o → s'.heap.get? b = some o) ∧ s'.os = s₁.os ∧ AllBare s'.gens
theorem kn_postG {M : Model} {A : Around} {cd : Code} {s s₁ : Shared} {cw : ClaimW} {cl : Str → Option Addr} {mean : ExcName → Option Value} {args : List WData} {tabs : List (Addr × Addr)} (hT : TabsAt tabs s₁.heap)
    (h : codeAny M A cd (fun r s' => GoodWA cw cl mean args { s₁ with heap := ghostOf s₁.heap tabs } r s' ∧ GrownAll tabs s'.heap) s) : codeAny M A cd (GoodWG cw cl mean args s₁) s := by
  refine codeAny_mono h ?_
  rintro r s' ⟨⟨⟨v, d, as, r1, r2, r3, r4, r5⟩, hk, hos, hg⟩, hgr⟩
  have kp : ∀ b o, b ∉ tabs.map (·.2) → s₁.heap.get? b = some o → s'.heap.get? b = some o := fun b o hb e => hk b o (ghost_ne e hb)
  have gr : ∀ b o, b ∈ tabs.map (·.2) → s₁.heap.get? b = some o → isCodeTable s₁.heap b ∧ o = tabObj #[] ∧ ∃ ps, s'.heap.get? b = some (tabObj ps) := by
    intro b o hb e
    obtain ⟨q, hq, rfl⟩ := List.mem_map.mp hb
    have t := hT q hq
    have e2 := t.2
    rw [e] at e2
    exact ⟨(t.1.tab t.2).isCodeTable, Option.some.inj e2, hgr.get q hq⟩
  refine ⟨.inl ⟨v, d, as, r1, r2, r3, r4, fun q => ⟨(r5 q).1, fun a ha => ?_⟩⟩, ⟨fun b o e => ?_, fun b o e => ?_⟩, hos, hg⟩
  · have hn := (r5 q).2 a ha
    cases q1 : s₁.heap.get? a with
    | none => rfl
    | some o =>
      by_cases hb : a ∈ tabs.map (·.2)
      · obtain ⟨_, _, ps, hP⟩ := gr a o hb q1
        exact absurd ha (readsW_apart hP rfl r3)
      · rw [show ({ s₁ with heap := ghostOf s₁.heap tabs } : Shared).heap.get? a = some o from ghost_ne q1 hb] at hn
        cases hn
  · by_cases hb : b ∈ tabs.map (·.2)
    · obtain ⟨ht, rfl, ps, hP⟩ := gr b o hb e
      exact .inr (.inl ⟨ht, rfl, #[], ps, rfl, by rw [Array.empty_append]; exact hP⟩)
    · exact .inl (kp b o hb e)
  · by_cases hb : b ∈ tabs.map (·.2)
    · obtain ⟨_, _, ps, hP⟩ := gr b o hb e
      exact ⟨_, hP⟩
    · exact ⟨o, kp b o hb e⟩

end Mine
end
section
open PySem PySem.W PyProof.Rows PySem.Calls
set_option Elab.async false
set_option maxRecDepth 100000
set_option linter.unusedVariables false
namespace Mine
/-- how the law begins -/
structure LawIn (w : World) (s : Shared) (g0 : Heap) (L ls : Addr) (vs : List Value) (ns : List Int) (m : Str → Option Value) (h : Heap) : Prop where
  G : Gl w g0
  C : CodeHd g0 75 71
  kg : KeepsH g0 h
  n71 : g0.get? 71 = none
  nL : g0.get? L = none
  n1 : g0.get? (L + 1) = none
  n2 : g0.get? (L + 1 + 1) = none
  n3 : g0.get? (L + 1 + 1 + 1) = none
  l71 : @LT.lt Nat _ 71 L
  hn : h.Ns L m
  sc : m (Str.ofString "script") = some (.ref ls)
  c1 : h.IsCell (L + 1) none
  c2 : h.IsCell (L + 1 + 1) none
  c3 : h.IsCell (L + 1 + 1 + 1) none
  tb : h.get? 71 = some (tabObj #[])
  li : g0.get? ls = some (listOf vs.toArray 0)
  hI : IntsAre vs ns
  len : ns.length ≤ 63
  bare : AllBare s.gens
/-- what the law must leave -/
noncomputable def LawEnd (s : Shared) (g0 : Heap) (f : Flow) (s' : Shared) : Prop := f = .ret (.bool true) ∧ KeepsH g0 s'.heap ∧ s'.os = s.os ∧ AllBare s'.gens ∧ ∃ ps, s'.heap.get? 71 = some (tabObj ps)
theorem well_list {P : Params} {h : Heap} {a : Addr} {xs : List WData} (x : Well P h (.ref a) (.list xs)) : ∃ vs : List Value, h.get? a = some { cls := .type "list", data := .seq vs.toArray } := by
  cases x with | list e _ => exact ⟨_, e⟩
theorem law_in {M : Model} {A : Around} {t : Sem Flow} {w : World} {s : Shared} {g0 h : Heap} {tk : Nat} {L ls : Addr} {vs : List Value} {ns : List Int} {m : Str → Option Value} {Q : Flow → Shared → Prop} {E : Value → Shared → Prop} {loose : List Str} {mean : ExcName → Option Value} {mg mb : Str → Option Value} {o1 o2 o3 : Obj}
   (X : (hd.heap_39 w.params).In g0) (T : Top topProg loose mean mg mb g0) (C : CodeHd g0 75 71) (F : Fr g0 L h m) (N : News g0 L h [(L + 1 + 1 + 1, o3), (L + 1 + 1, o2), (L + 1, o1), (71, tabObj #[])])
   (d1 : o1.data = .cell none) (d2 : o2.data = .cell none) (d3 : o3.data = .cell none) (l : @LT.lt Nat _ 71 L) (sc : m (Str.ofString "script") = some (.ref ls)) (li : g0.IsList ls vs.toArray) {P : Params} {h1 : Heap} (hw : Well P h1 (.ref ls) (ofPy (.list (ns.map .int)))) (kg1 : KeepsH g0 h1) (hI : IntsAre vs ns) (len : ns.length ≤ 63) (hg : s.gens = #[])
   (nL : g0.get? L = none)
   (post : ∀ f s', LawEnd s g0 f s' → Q f s')
   (main : LawIn w s g0 L ls vs ns m h → wpAny M A t (fun f s' => LawEnd s g0 f s') (fun _ _ => False) { s with heap := h, toks := tk }) :
   wpAny M A t Q E { s with heap := h, toks := tk } := by
  have n1 := N _ (.tail _ (.tail _ (.head _)))
  have n2 := N _ (.tail _ (.head _))
  have n3 := N _ (.head _)
  have n4 := N _ (.tail _ (.tail _ (.tail _ (.head _))))
  have li' : g0.get? ls = some (listOf vs.toArray 0) := by
    obtain ⟨o, e, c, n, d⟩ := li
    obtain ⟨us, e'⟩ := well_list (by simpa only [ofPy] using hw)
    have := (kg1 _ _ e).symm.trans e'
    cases this
    rw [e]
    simp at d
    rw [d.1]
  exact wpAny_mono (main ⟨⟨loose, mean, mg, mb, X, T⟩, C, F.keep, n4.2.2, nL, n1.2.2, n2.2.2, n3.2.2, l, F.ns, sc, ⟨_, n1.1, d1⟩, ⟨_, n2.1, d2⟩, ⟨_, n3.1, d3⟩, n4.1, li', hI, len, AllBare.of_eq hg⟩) post (fun _ _ e => e.elim)

end Mine
end
section
open PySem PySem.W PyProof.Rows PySem.Calls
set_option Elab.async false
set_option maxRecDepth 100000
set_option linter.unusedVariables false
namespace Mine
noncomputable abbrev hid (M : List Addr) (h : Heap) : Heap := hideAll h M
/-- the law's own state: M are the objects that still change -/
structure LS (g0 : Heap) (M : List Addr) (L : Addr) (m : Str → Option Value) (h : Heap) : Prop where
  kg : KeepsH g0 (hid M h)
  hn : h.Ns L m
  tab : ∃ ps, h.get? 71 = some (tabObj ps) ∧ TriplesOk ps.toList
  ce : ∀ b ∈ M, b ≠ L → b ≠ 71 → h.IsCell b none
  mL : L ∈ M
  mT : (71 : Addr) ∈ M
  lt : @LT.lt Nat _ 71 L
theorem hid_gh {M : List Addr} {h : Heap} : KeepsH (hid M h) h := fun _ _ e => of_hideAll _ e
theorem hid_mono {M : List Addr} {h h' : Heap} (k : KeepBut M h h') : KeepsH (hid M h) (hid M h') := fun b o e => by
  by_cases q : b ∈ M
  · rw [hideAll_none _ q] at e; cases e
  · exact hideAll_get _ (k b o q (of_hideAll _ e)) q
theorem hid_of {M : List Addr} {g h : Heap} (k : KeepsH g h) (n : ∀ b ∈ M, g.get? b = none) : KeepsH g (hid M h) := fun b o e => hideAll_get _ (k b o e) fun q => by rw [n b q] at e; cases e
section
variable {g0 : Heap} {M : List Addr} {L : Addr} {m : Str → Option Value} {h h' : Heap}
theorem LS.neT (S : LS g0 M L m h) : (71 : Addr) ≠ L := Nat.ne_of_lt S.lt
theorem LS.ex (S : LS g0 M L m h) : ∀ b ∈ M, ∃ o, h.get? b = some o ∧ ∀ vs n, o.data ≠ .seq vs n := fun b q => by
  by_cases r : b = L
  · obtain ⟨o, es, ep, e, d, _⟩ := S.hn
    exact ⟨o, r ▸ e, fun vs n q => by rw [d] at q; cases q⟩
  · by_cases r' : b = 71
    · obtain ⟨ps, t, _⟩ := S.tab
      exact ⟨_, r' ▸ t, fun _ _ q => by cases q⟩
    · obtain ⟨o, e, d⟩ := S.ce b q r r'
      exact ⟨o, e, fun _ _ q => by rw [d] at q; cases q⟩
theorem LS.seq (S : LS g0 M L m h) {l : Addr} {o : Obj} {vs : Array Value} {n : Nat} (e : h.get? l = some o) (d : o.data = .seq vs n) : (hid M h).get? l = some o := hideAll_get _ e fun q => by
  obtain ⟨o', e', d'⟩ := S.ex l q
  rw [e] at e'; cases e'
  exact d' _ _ d
theorem LS.kseq (S : LS g0 M L m h) {P : List Value → Prop} {v : Value} (k : KSeq P v h) : KSeq P v (hid M h) := by
  obtain ⟨l, vs, n, e, x, y⟩ := k
  exact ⟨l, vs, n, e, S.seq x rfl, y⟩
theorem LS.tup (S : LS g0 M L m h) {a : Addr} {vs : Array Value} (k : IsTup h a vs) : IsTup (hid M h) a vs := by
  obtain ⟨o, e, c, n, d⟩ := k
  exact ⟨o, S.seq e d, c, n, d⟩
theorem LS.lst (S : LS g0 M L m h) {a : Addr} {vs : Array Value} (k : h.IsList a vs) : (hid M h).IsList a vs := by
  obtain ⟨o, e, c, n, d⟩ := k
  exact ⟨o, S.seq e d, c, n, d⟩
theorem LS.klist (S : LS g0 M L m h) {α : Type} {R : Heap → Value → α → Prop} {as : List α} {v : Value} (hR : ∀ v a, R h v a → R (hid M h) v a) (k : KList R as v h) : KList R as v (hid M h) := by
  obtain ⟨l, vs, n, e, x, y⟩ := k
  exact ⟨l, vs, n, e, S.seq x rfl, pairedM (fun _ _ r => hR _ _ r) y⟩
theorem LS.prel (S : LS g0 M L m h) (v : Value) (p : Option Str × Option Str) (k : PRel h v p) : PRel (hid M h) v p := by
  obtain ⟨a, e, v1, v2, h1, h2, h3⟩ := k
  exact ⟨a, e, v1, v2, h1, h2, h3.elim (fun x => .inl (S.tup x)) fun x => .inr (S.lst x)⟩
/-- nothing changes -/
theorem LS.keeps (S : LS g0 M L m h) (k : KeepsH h h') : LS g0 M L m h' ∧ KeepsH (hid M h) (hid M h') := by
  have kk := hid_mono (M := M) (fun b o _ e => k b o e)
  obtain ⟨ps, t, tt⟩ := S.tab
  exact ⟨⟨kh_tr S.kg kk, S.hn.keeps k, ⟨ps, k _ _ t, tt⟩, fun b q r r' => isCell_up (S.ce b q r r') k, S.mL, S.mT, S.lt⟩, kk⟩
/-- a name is bound -/
theorem LS.loc (S : LS g0 M L m h) {m' : Str → Option Value} (k : ∀ b o, b ≠ L → h.get? b = some o → h'.get? b = some o) (hn : h'.Ns L m') : LS g0 M L m' h' ∧ KeepsH (hid M h) (hid M h') := by
  have kk := hid_mono (M := M) (h := h) (h' := h') (fun b o q e => k b o (fun r => q (r ▸ S.mL)) e)
  obtain ⟨ps, t, tt⟩ := S.tab
  refine ⟨⟨kh_tr S.kg kk, hn, ⟨ps, k _ _ S.neT t, tt⟩, fun b q r r' => ?_, S.mL, S.mT, S.lt⟩, kk⟩
  obtain ⟨o, e, d⟩ := S.ce b q r r'
  exact ⟨o, k _ _ r e, d⟩
/-- a cell is filled for good -/
theorem LS.cell {c : Addr} {v : Value} (S : LS g0 (c :: M) L m h) (k : ∀ b o, b ≠ c → h.get? b = some o → h'.get? b = some o) (hc : h'.IsCell c (some v)) (hM : c ∉ M) (hL : L ∈ M) (hT : (71 : Addr) ∈ M) : LS g0 M L m h' ∧ KeepsH (hid (c :: M) h) (hid M h') ∧ (hid M h').IsCell c (some v) := by
  have kk : KeepsH (hid (c :: M) h) (hid M h') := fun b o e => by
    by_cases q : b ∈ c :: M
    · rw [hideAll_none _ q] at e; cases e
    · simp only [List.mem_cons, not_or] at q
      exact hideAll_get _ (k b o q.1 (of_hideAll _ e)) q.2
  obtain ⟨ps, t, tt⟩ := S.tab
  have cL : L ≠ c := fun q => hM (q ▸ hL)
  have cT : (71 : Addr) ≠ c := fun q => hM (q ▸ hT)
  refine ⟨⟨kh_tr S.kg kk, S.hn.at' fun o e => k _ o cL e, ⟨ps, k _ _ cT t, tt⟩, fun b q r r' => ?_, hL, hT, S.lt⟩, kk, ?_⟩
  · obtain ⟨o, e, d⟩ := S.ce b (.tail _ q) r r'
    exact ⟨o, k _ _ (fun r => hM (r ▸ q)) e, d⟩
  · obtain ⟨o, e, d⟩ := hc
    exact ⟨o, hideAll_get _ e hM, d⟩
theorem LS.new (S : LS g0 M L m h) {g' : Heap} {hh' : Heap} (X : Ext (hid M h) h g' hh') : ∀ b ∈ M, g'.get? b = none := fun b q => by
  obtain ⟨o, e, _⟩ := S.ex b q
  exact X.new b (hideAll_none _ q) ⟨o, e⟩
end
theorem LawIn.start {w : World} {s : Shared} {g0 h : Heap} {L ls : Addr} {vs : List Value} {ns : List Int} {m : Str → Option Value} (I : LawIn w s g0 L ls vs ns m h) : LS g0 [L + 1, L + 1 + 1, L + 1 + 1 + 1, 71, L] L m h := by
  refine ⟨hid_of I.kg ?_, I.hn, ⟨_, I.tb, trivial⟩, ?_, by simp, by simp, I.l71⟩
  · intro b hb
    simp only [List.mem_cons, List.not_mem_nil, or_false] at hb
    rcases hb with rfl | rfl | rfl | rfl | rfl
    · exact I.n1
    · exact I.n2
    · exact I.n3
    · exact I.n71
    · exact I.nL
  · intro b hb r r'
    simp only [List.mem_cons, List.not_mem_nil, or_false] at hb
    rcases hb with rfl | rfl | rfl | rfl | rfl
    · exact I.c1
    · exact I.c2
    · exact I.c3
    · exact absurd rfl r'
    · exact absurd rfl r
section
variable {L : Addr} (l : @LT.lt Nat _ 71 L)
include l
theorem cM1 : (L + 1) ∉ [L + 1 + 1, L + 1 + 1 + 1, 71, L] := by
  intro q
  simp only [List.mem_cons, List.not_mem_nil, or_false] at q
  have l' : Nat.lt 71 L := l
  rcases q with q | q | q | q
  · exact neN (by omega) q
  · exact neN (by omega) q
  · exact neN (by omega) q
  · exact neN (by omega) q
theorem cM2 : (L + 1 + 1) ∉ [L + 1 + 1 + 1, 71, L] := by
  intro q
  simp only [List.mem_cons, List.not_mem_nil, or_false] at q
  rcases q with q | q | q
  · exact neN (by omega) q
  · exact neN (by omega) q
  · exact neN (by omega) q
theorem cM3 : (L + 1 + 1 + 1) ∉ [71, L] := by
  intro q
  simp only [List.mem_cons, List.not_mem_nil, or_false] at q
  rcases q with q | q
  · exact neN (by omega) q
  · exact neN (by omega) q
theorem cL : L + 1 ≠ L ∧ L + 1 + 1 ≠ L ∧ L + 1 + 1 + 1 ≠ L ∧ L + 1 ≠ 71 ∧ L + 1 + 1 ≠ 71 ∧ L + 1 + 1 + 1 ≠ 71 := ⟨neN (by omega), neN (by omega), neN (by omega), neN (by omega), neN (by omega), neN (by omega)⟩
end
/-- the law's helpers as contracts -/
theorem pc_bl (w : World) (dp un : Nat) (gd : Option (List Code)) (fr : Option (List Env)) (s : Shared) (h₀ : Heap) (a : Value) (p : Option Str × Option Str) (G : Gl w h₀) (ha : PRel h₀ a p) (hl : (p.1.getD (S "C")).length ≤ 20) (hle : (p.2.getD (S "C")).length ≤ 20) (hdp : dp + 1 < recursionLimit) (hun : un + 8 < cLine) :
   PC PySem.Challenge.rw_in0044_01.row.prog w (AA dp un gd fr) (.ref 52) [a] h₀ s (KStr (nameF p.1 p.2)) := by
  refine .mk fun hh tk0 Q E k0 hQ => ?_
  obtain ⟨loose, mean, mg, mb, X, T⟩ := G.up k0
  obtain ⟨D, rfl, x⟩ := upPR _ _ _ _ k0 ha
  exact bl_spec w dp un gd fr _ Q E loose mean mg mb p.1 p.2 D x hl hle X T hdp hun fun t' h' tk' k => hQ _ h' tk' k ⟨_, rfl⟩

end Mine
end
section
open PySem PySem.W PyProof.Rows PySem.Calls
set_option Elab.async false
set_option maxRecDepth 100000
set_option linter.unusedVariables false
namespace Mine
section
variable {prog : Program} {w : World} {A : Around} {E : Value → Shared → Prop} {env : Env}
/-- a heap and its ghost go on; the objects in mt may change -/
structure JExt (mt : List Addr) (g h g' h' : Heap) : Prop where
  gg : KeepsH g g'
  gh : KeepsH g' h'
  hh : KeepBut mt h h'
  new : ∀ b, g.get? b = none → (∃ o, h.get? b = some o) → g'.get? b = none
  ex : ∀ b ∈ mt, (∃ o, h.get? b = some o) → ∃ o, h'.get? b = some o
theorem JExt.exs {mt : List Addr} {g h g₁ h₁ : Heap} (x : JExt mt g h g₁ h₁) : ∀ b, (∃ o, h.get? b = some o) → ∃ o, h₁.get? b = some o := fun b ⟨o, e⟩ => by
  by_cases q : b ∈ mt
  · exact x.ex b q ⟨o, e⟩
  · exact ⟨o, x.hh b o q e⟩
theorem JExt.trans {mt : List Addr} {g h g₁ h₁ g₂ h₂ : Heap} (x : JExt mt g h g₁ h₁) (y : JExt mt g₁ h₁ g₂ h₂) : JExt mt g h g₂ h₂ :=
  ⟨kh_tr x.gg y.gg, y.gh, fun b o m e => y.hh b o m (x.hh b o m e), fun b n e => y.new b (x.new b n e) (x.exs b e), fun b m e => y.ex b m (x.ex b m e)⟩
/-- what an element must do -/
noncomputable def JElt (prog : Program) (w : World) (A : Around) (env : Env) (scope : Scope) (cl : List (Str × Addr)) (x : Str) (elt : Expr) (s : Shared) (g : Heap) (mt : List Addr) (J : Shared → Prop) {α β : Type} (xs : List α) (R : Heap → Value → α → Prop) (S : Heap → Value → β → Prop) (f : α → β) : Prop :=
  ∀ (a : α) (v : Value) (s' : Shared) (g' : Heap) (C : Addr) (m : Str → Option Value) (E' : Value → Shared → Prop), a ∈ xs → R g' v a → JExt mt g s.heap g' s'.heap → (∀ b ∈ mt, g'.get? b = none) → J s' → g'.get? C = none → s.heap.get? C = none → s'.heap.Ns C m → m x = some v →
    wpAny (model prog w) A (eval elt (compEnvC scope cl C env)) (fun y s₃ => ∃ g'', JExt mt g' s'.heap g'' s₃.heap ∧ J s₃ ∧ S g'' y (f a)) E' s'
theorem jcomp_block {α β : Type} {elt iter : Expr} {x : Str} {px : Pos} {scope : Scope} {cl : List (Str × Addr)} {pos : Pos} {s s₂ : Shared} {I : Addr} {fp wr mt : List Addr} {n : Nat} {P : Nat → Value → Prop}
    {St : Nat → Heap → Prop} (W : Walks prog w A I fp wr n P St) (hsz : n ≤ sizeLine) (xs : List α) (R : Heap → Value → α → Prop) (S : Heap → Value → β → Prop) (f : α → β) (g : Heap) (J : Shared → Prop)
    (hRm : Up R) (hSm : Up S) (hn : n = xs.length) (hP : ∀ j v, j < n → P j v → ∃ a, xs[j]? = some a ∧ R g v a) (kg : KeepsH g s.heap) (ks : ∃ h tk, s₂ = { s with heap := h, toks := tk } ∧ KeepsH s.heap h) (hwr : ∀ b ∈ wr, s.heap.get? b = none ∧ b < s₂.heap.objs.size)
    (hmt : ∀ b ∈ mt, g.get? b = none ∧ ∃ o, s.heap.get? b = some o) (hfg : ∀ b ∈ fp, b ∈ wr ∨ ∃ o, g.get? b = some o)
    (hJ : ∀ (s' : Shared) h tk, J s' → (∀ b o, (∃ o', s.heap.get? b = some o') → s'.heap.get? b = some o → h.get? b = some o) → J { s' with heap := h, toks := tk }) (hJ0 : J s)
    {RR : Value → Addr → Result → Shared → Prop}
    (hcell : ∀ y ∈ scope.names, y.2 ≠ .cell) (hkind : scope.kind = .function) (hx : scope.names.lookup x = some .local) (hst : St 0 s₂.heap) (hfp : ∀ b ∈ fp, b < s₂.heap.objs.size) (hwe : ∀ i h, St i h → ∀ b ∈ wr, ∃ o, h.get? b = some o)
    (he : JElt prog w A env scope cl x elt s g mt J xs R S f)
    (hRR : ∀ s' C D m g' (ys : List Value) c, JExt mt g s.heap g' s'.heap → J s' → s'.heap.Ns C m → g'.get? C = none → s.heap.get? C = none → C ≠ D → g'.get? D = some (listOf ys.toArray c) → s.heap.get? D = none → Paired (S g') ys (xs.map f) →
      RR (.ref D) C (.ok .next) s') :
    wpAny (model prog w) A (newList []) (fun acc s₃ => wpAny (model prog w) A (newFunctionEnv scope env.globals cl [] env.qual none .none (some env)) (fun cenv s₄ =>
      codeAny (model prog w) A (.compStart (.ListComp elt [⟨.Name x px, iter, [], 0⟩] scope pos) 0 (.ref I) acc { cenv with scope := relabel scope env }) (RR acc cenv.locals) s₄) E s₃) E s₂ := by
  obtain ⟨hb, tkb, rfl, khb⟩ := ks
  refine wpAny_newObj_type (wpAny_newFunctionEnv hcell (by intro y hy; simp at hy) (fun h₁ hns₁ hsb₁ => ?_) hkind)
  dsimp only at hst hfp hwr hns₁ hsb₁ ⊢
  generalize hH2 : hb.push { cls := .type "list", dict := none, data := .seq ([] : List Value).toArray } = H2 at hns₁ hsb₁ ⊢
  have hC : H2.objs.size = hb.objs.size + 1 := by rw [← hH2, Heap.size_push]
  rw [hC] at hns₁ hsb₁ ⊢
  have hDf : hb.objs.size ∉ fp := fun hm => Nat.lt_irrefl _ (hfp _ hm)
  have hCf : hb.objs.size + 1 ∉ fp := fun hm => absurd (hfp _ hm) (Nat.not_lt.mpr (Nat.le_succ _))
  have old : KeepsH hb h₁ := fun b o e => hsb₁.extBut b o (Nat.ne_of_lt (Nat.lt_succ_of_lt (Heap.lt_size e))) (Heap.get?_push_of_some _ (hH2 ▸ Heap.get?_push_of_some _ e))
  have hacc : h₁.PlainList hb.objs.size #[] := ⟨_, hsb₁.extBut _ _ (neN (by omega)) (Heap.get?_push_of_some _ (hH2 ▸ Heap.get?_push_size _ rfl))⟩
  have hst₁ : St 0 h₁ := W.frame _ _ _ hst fun b _ o e => old b o e
  have sN : ∀ {b : Addr}, hb.objs.size ≤ b → s.heap.get? b = none := fun {b} hb' => by
    cases e : s.heap.get? b with
    | none => rfl
    | some o => exact absurd (Heap.lt_size (khb _ _ e)) (Nat.not_lt.mpr hb')
  have gOf : ∀ {b : Addr}, s.heap.get? b = none → g.get? b = none := fun {b} hb' => by
    cases e : g.get? b with
    | none => rfl
    | some o => rw [kg _ _ e] at hb'; cases hb'
  have hCD : hb.objs.size ≠ hb.objs.size + 1 := Nat.ne_of_lt (Nat.lt_succ_self _)
  have priv : ∀ b ∈ hb.objs.size :: ([hb.objs.size + 1] ++ wr), s.heap.get? b = none := fun b hm => by
    rcases List.mem_cons.mp hm with rfl | hm
    · exact sN (Nat.le_refl _)
    · rcases List.mem_append.mp hm with hm | hm
      · rw [List.mem_singleton.mp hm]; exact sN (Nat.le_succ _)
      · exact (hwr b hm).1
  have mtp : ∀ b ∈ mt, b ∉ hb.objs.size :: ([hb.objs.size + 1] ++ wr) := fun b hm q => by
    obtain ⟨_, o, e⟩ := hmt b hm
    rw [priv b q] at e; cases e
  have mtf : ∀ b ∈ mt, b ∉ fp := fun b hm q => by
    rcases hfg b q with q | ⟨o, e⟩
    · exact mtp b hm (by simp [q])
    · rw [(hmt b hm).1] at e; cases e
  have loop : ∀ s₃ : Shared, s₃ = { s with heap := h₁, toks := tkb + ([] : List (Str × Value)).length } →
      codeAny (model prog w) A (.compLoop (.ListComp elt [⟨.Name x px, iter, [], 0⟩] scope pos) 0 (.ref I) (.ref hb.objs.size) (compEnvC scope cl (hb.objs.size + 1) env))
        (RR (.ref hb.objs.size) (hb.objs.size + 1)) s₃ := by
    rintro s₃ rfl
    refine gc_loop (hsz := hsz) (mt := mt) (bs := [hb.objs.size + 1]) (cenv := compEnvC scope cl (hb.objs.size + 1) env) W (fun _ => true)
      (fun vs ys s' => ∃ g', JExt mt g s.heap g' s'.heap ∧ (∀ b ∈ mt, g'.get? b = none) ∧ J s' ∧ (∀ b ∈ hb.objs.size :: ([hb.objs.size + 1] ++ wr), g'.get? b = none) ∧ Paired (S g') ys ((xs.take vs.length).map f))
      (fun h => ∃ m, h.Ns (hb.objs.size + 1) m) (fun h v => ∃ m, h.Ns (hb.objs.size + 1) m ∧ m x = some v)
      ?e1 ?e2 ?e3 ?e4 ?d1 hDf ?d2 ?mm ?jj hst₁ hacc ⟨_, hns₁⟩ ?j0 ?tt ?el ?sk ?rr
    case e1 => exact fun h h' ⟨m, hm⟩ k => ⟨m, hm.at' fun o e => k _ (.head _) o e⟩
    case e2 => exact fun h h' v ⟨m, hm, hv⟩ k => ⟨m, hm.at' fun o e => k _ (.head _) o e, hv⟩
    case e3 => exact fun h v ⟨m, hm, _⟩ => ⟨m, hm⟩
    case e4 =>
      rintro s' v Q E ⟨m, hm⟩ hQ
      refine wpAny_assign_Name (wpAny_storeName_local (lookup_relabel_local hx) hm (fun h₂ hn₂ hs₂ => ?_) (by simp [compEnvC, relabel, hkind]))
      exact hQ h₂ _ ⟨_, hn₂, by simp⟩ fun b o hb e => hs₂.extBut b o (fun q => hb (by simp [q, compEnvC])) e
    case d1 => exact fun h => hCD (List.mem_singleton.mp h)
    case d2 => exact fun b hb => by rw [List.mem_singleton.mp hb]; exact hCf
    case mm => exact fun b hm => ⟨fun q => mtp b hm (by simp [q]), fun q => mtp b hm (by simp at q; simp [q]), mtf b hm⟩
    case jj =>
      rintro vs ys s' h tk ⟨g', x1, x3, x4, x2, x5⟩ kb
      have kk : ∀ b o, (∃ o', s.heap.get? b = some o') → s'.heap.get? b = some o → h.get? b = some o := fun b o ⟨o', e'⟩ e => kb b o (fun hm => by rw [priv b hm] at e'; cases e') e
      exact ⟨g', ⟨x1.gg, fun b o e => kb b o (fun hm => by rw [x2 b hm] at e; cases e) (x1.gh b o e), fun b o m e => kk b o ⟨o, e⟩ (x1.hh b o m e), x1.new, fun b m e => let ⟨o, e'⟩ := x1.ex b m e; ⟨o, kk b o e e'⟩⟩, x3, hJ s' h tk x4 kk, x2, x5⟩
    case j0 => exact ⟨g, ⟨kh_rfl, fun b o e => old b o (khb b o (kg b o e)), fun b o _ e => old b o (khb b o e), fun _ e _ => e, fun b _ ⟨o, e⟩ => ⟨o, old b o (khb b o e)⟩⟩, fun b hm => (hmt b hm).1, hJ s _ _ hJ0 (fun b o _ e => old b o (khb b o e)), fun b hm => gOf (priv b hm), by simpa using Paired.nil⟩
    case tt =>
      rintro vs ys v s' E' hlt hPv _ _
      rw [List.forIn_nil]
      exact wpAny_pure ⟨rfl, _, _, rfl, kh_rfl⟩
    case el =>
      rintro vs ys v s' E' hlt hPv hp ⟨g', x1, x3, x4, x2, x5⟩ ⟨m, hm, hv⟩ hst' hpl
      obtain ⟨a, ha, hRa⟩ := hP _ _ hlt hPv
      refine wpAny_mono (he a v s' g' _ m E' (List.mem_of_getElem? ha) (hRm _ _ _ _ x1.gg hRa) x1 x3 x4 (x2 _ (by simp)) (sN (Nat.le_succ _)) hm hv) (fun y s₃ r => ?_) fun _ _ e => e
      obtain ⟨g'', y1, y4, y2⟩ := r
      have ex : ∀ b ∈ hb.objs.size :: ([hb.objs.size + 1] ++ wr), ∃ o, s'.heap.get? b = some o := fun b hm' => by
        rcases List.mem_cons.mp hm' with rfl | hm'
        · obtain ⟨c, hc⟩ := hpl; exact ⟨_, hc⟩
        · rcases List.mem_append.mp hm' with hm' | hm'
          · rw [List.mem_singleton.mp hm']; obtain ⟨o, _, _, e, _⟩ := hm; exact ⟨o, e⟩
          · exact hwe _ _ hst' b hm'
      refine ⟨y1.hh, g'', x1.trans y1, fun b hm' => y1.new b (x3 b hm') (x1.exs b (hmt b hm').2), y4, fun b hm' => y1.new b (x2 b hm') (ex b hm'), ?_⟩
      · rw [List.length_append, List.length_singleton]
        have : xs.take (vs.length + 1) = xs.take vs.length ++ [a] := by
          rw [List.take_succ, ha]; rfl
        rw [this, List.map_append]
        exact paired_snoc (paired_mono (fun y b hy => hSm _ _ _ _ y1.gg hy) x5) y2
    case sk => rintro vs ys v s' hp; cases hp
    case rr =>
      rintro s' ys vs ⟨m, hm⟩ ⟨c, hc⟩ hlen hPs ⟨g', x1, x3, x4, x2, x5⟩
      have hx5 : Paired (S g') ys (xs.map f) := by rwa [hlen, hn, List.take_length] at x5
      refine hRR s' _ _ m (addG g' s'.heap hb.objs.size) ys c ⟨kh_tr x1.gg (addG_gg x1.gh), addG_gh, x1.hh, fun b n e => addG_no (fun q => by obtain ⟨o, e⟩ := e; rw [q, sN (Nat.le_refl _)] at e; cases e) (x1.new b n e), x1.ex⟩ x4 hm (addG_no (Ne.symm hCD) (x2 _ (by simp))) (sN (Nat.le_succ _)) (Ne.symm hCD) (addG_at hc) (sN (Nat.le_refl _)) (paired_mono (fun y b hy => hSm _ _ _ _ (addG_gg x1.gh) hy) hx5)
  exact codeAny_compStart_list (loop _ rfl) (W.self 0 _ _ _ hst₁ (loop _ rfl))
/-- all that such a comprehension asks, at its source's value; then it is bound to a local -/
noncomputable def JCompAt (prog : Program) (w : World) (A : Around) (env : Env) (scope : Scope) (cl : List (Str × Addr)) (x y : Str) (elt : Expr) (Q : Flow → Shared → Prop) (xv : Value) (s : Shared) : Prop :=
  ∃ (α β : Type) (xs : List α) (R : Heap → Value → α → Prop) (S : Heap → Value → β → Prop) (f : α → β) (g : Heap) (J : Shared → Prop) (mL : Str → Option Value) (mt : List Addr),
    Up R ∧ Up S ∧ KeepsH g s.heap ∧ (∀ b ∈ mt, g.get? b = none ∧ ∃ o, s.heap.get? b = some o) ∧
    (∀ (s' : Shared) h tk, J s' → (∀ b o, (∃ o', s.heap.get? b = some o') → s'.heap.get? b = some o → h.get? b = some o) → J { s' with heap := h, toks := tk }) ∧ J s ∧
    (∀ s', J s' → s'.heap.Ns env.locals mL) ∧ g.get? env.locals = none ∧ Src prog w A xv s g xs R ∧ JElt prog w A env scope cl x elt s g mt J xs R S f ∧
    (∀ s' D g' (ys : List Value) c h'' tk, JExt mt g s.heap g' s'.heap → J s' → g'.get? D = some (listOf ys.toArray c) → s.heap.get? D = none → Paired (S g') ys (xs.map f) → KeepsH g' h'' → (∀ a o, a ≠ env.locals → (∃ o', s.heap.get? a = some o') → s'.heap.get? a = some o → h''.get? a = some o) →
      h''.Ns env.locals (fun z => if z = y then some (.ref D) else mL z) → Q .next { s' with heap := h'', toks := tk })
theorem jcomp_assign {elt iter : Expr} {x y : Str} {px py : Pos} {scope : Scope} {cl : List (Str × Addr)} {pos spos : Pos} {s : Shared} {Q : Flow → Shared → Prop}
    (hsw : swapsWith (.ListComp elt [⟨.Name x px, iter, [], 0⟩] scope pos) (some (.Name y py)) spos.line env = pure true)
    (hclos : closureFor scope env = pure cl) (hcell : ∀ y ∈ scope.names, y.2 ≠ .cell) (hkind : scope.kind = .function) (hnames : ∀ z ∈ scope.names, z.2 = .local → scope.names.lookup z.1 = some .local) (hx : scope.names.lookup x = some .local)
    (hy : env.kindOf y = some .local) (hp : (env.scope.kind == .class || (env.scope.kind == .module && env.locals != env.globals)) = false)
    (h : wpAny (model prog w) A (eval iter env) (JCompAt prog w A env scope cl x y elt Q) E s)
    (hs : ∀ x, foldedSetIterable iter env x = pure x := by intro _; rfl) :
    wpAny (model prog w) A (exec (.Assign [.Name y py] (.ListComp elt [⟨.Name x px, iter, [], 0⟩] scope pos) spos) env) Q E s := by
  rw [exec_Assign_Name_used _ _ _ _ hsw]
  refine wpAny_bind (wpAny_standAt (wpAny_bind ?_))
  show wpAny _ A (do let _ ← comprehension (.ListComp elt [⟨.Name x px, iter, [], 0⟩] scope pos) scope env _ (newList []) false (eval iter env) (some (assign (.Name y py) env))) _ _ s
  refine wpAny_bind (wpAny_mono (wpAny_comprehension_free (use := some (assign (.Name y py) env)) (Q := fun _ s' => Q .next s') rfl hs hclos hkind hnames
    (wpAny_mono h (fun xv s₁ h₁ => ?_) fun _ _ e => e)) (fun _ s' hq => wpAny_pure (wpAny_pure hq)) fun _ _ e => e)
  obtain ⟨α, β, xs, R, S, f, g, J, mL, mt, hRm, hSm, kg, hmt, hJ, hJ0, hns, hgL, src, he, hfin⟩ := h₁
  refine wpAny_mono src (fun it s₂ h₂ => ?_) fun _ _ e => e.elim
  obtain ⟨I, fp, wr, n, P, St, rfl, W, hsz, hst, hfp, hn, hP, ks, hwr, hwe, hfg⟩ := h₂
  refine jcomp_block (RR := fun acc C => compPost (model prog w) A E (some (assign (.Name y py) env)) (fun _ s' => Q .next s') acc C) W hsz xs R S f g J hRm hSm hn hP kg ks hwr hmt hfg hJ hJ0 hcell hkind hx hst hfp hwe he ?_
  intro s' C D m g' ys c x1 hJ' hm hC hCs hCD hD hDs hy'
  have hL : ∃ o, s₁.heap.get? env.locals = some o := by obtain ⟨o, _, _, e, _⟩ := hns _ hJ0; exact ⟨o, e⟩
  have gL := x1.new _ hgL hL
  have CL : C ≠ env.locals := fun q => by obtain ⟨o, e⟩ := hL; rw [← q, hCs] at e; cases e
  show wpAny _ A (assign (.Name y py) env (.ref D)) _ _ _
  refine wpAny_assign_Name (wpAny_storeName_local hy (hns _ hJ') (fun h₂ hn₂ hs₂ => ?_) hp)
  refine ⟨m, hm.at' fun o e => hs₂.extBut C o CL e, fun h'' hs'' => ?_⟩
  refine hfin s' D g' ys c h'' _ x1 hJ' hD hDs hy' (fun b o e => hs''.extBut b o (fun q => by rw [q, hC] at e; cases e) (hs₂.extBut b o (fun q => by rw [q, gL] at e; cases e) (x1.gh b o e))) (fun a o ha ⟨o', e'⟩ e => hs''.extBut a o (fun q => by rw [q, hCs] at e'; cases e') (hs₂.extBut a o ha e)) (hn₂.at' fun o e => hs''.extBut _ o (Ne.symm CL) e)
end

end Mine
end
section
open PySem PySem.W PyProof.Rows PySem.Calls
set_option Elab.async false
set_option linter.unusedVariables false
namespace Mine
/-- the law's state with its three cells filled -/
structure LawB (w : World) (s : Shared) (g0 : Heap) (L ls : Addr) (vs : List Value) (ns : List Int) (m : Str → Option Value) (Dn Dp Dw : Addr) (h : Heap) : Prop where
  S : LS g0 [71, L] L m h
  G : Gl w g0
  C : CodeHd g0 75 71
  sc : m (Str.ofString "script") = some (.ref ls)
  li : g0.get? ls = some (listOf vs.toArray 0)
  hI : IntsAre vs ns
  len : ns.length ≤ 63
  bare : AllBare s.gens
  cn : (hid [71, L] h).IsCell (L + 1) (some (.ref Dn))
  cp : (hid [71, L] h).IsCell (L + 1 + 1) (some (.ref Dp))
  cw : (hid [71, L] h).IsCell (L + 1 + 1 + 1) (some (.ref Dw))
  hN : KStrs (namesF ns) (.ref Dn) (hid [71, L] h)
  hP : KList PlR ((pairsF ns).map plainF) (.ref Dp) (hid [71, L] h)
  hW : KStrs (namesF ns) (.ref Dw) (hid [71, L] h)
/-- nothing but L changed -/
theorem LawB.next {w : World} {s : Shared} {g0 : Heap} {L ls : Addr} {vs : List Value} {ns : List Int} {m m' : Str → Option Value} {Dn Dp Dw : Addr} {h h' : Heap} (B : LawB w s g0 L ls vs ns m Dn Dp Dw h) (S' : LS g0 [71, L] L m' h') (q : KeepsH (hid [71, L] h) (hid [71, L] h')) (sc : m' (Str.ofString "script") = some (.ref ls)) : LawB w s g0 L ls vs ns m' Dn Dp Dw h' :=
  ⟨S', B.G, B.C, sc, B.li, B.hI, B.len, B.bare, isCell_up B.cn q, isCell_up B.cp q, isCell_up B.cw q, upSs _ _ _ q B.hN, upL upPl _ _ _ q B.hP, upSs _ _ _ q B.hW⟩
theorem LawB.keeps {w : World} {s : Shared} {g0 : Heap} {L ls : Addr} {vs : List Value} {ns : List Int} {m : Str → Option Value} {Dn Dp Dw : Addr} {h h' : Heap} (B : LawB w s g0 L ls vs ns m Dn Dp Dw h) (k : KeepsH h h') : LawB w s g0 L ls vs ns m Dn Dp Dw h' ∧ KeepsH (hid [71, L] h) (hid [71, L] h') :=
  let ⟨S', q⟩ := B.S.keeps k
  ⟨B.next S' q B.sc, q⟩
theorem LawB.loc {w : World} {s : Shared} {g0 : Heap} {L ls : Addr} {vs : List Value} {ns : List Int} {m : Str → Option Value} {Dn Dp Dw : Addr} {h h' : Heap} {x : Str} {v : Value} (B : LawB w s g0 L ls vs ns m Dn Dp Dw h) (k : ∀ b o, b ≠ L → h.get? b = some o → h'.get? b = some o) (hn : h'.Ns L (fun z => if z = x then some v else m z)) (hx : x ≠ Str.ofString "script" := by decide) : LawB w s g0 L ls vs ns (fun z => if z = x then some v else m z) Dn Dp Dw h' ∧ KeepsH (hid [71, L] h) (hid [71, L] h') :=
  let ⟨S', q⟩ := B.S.loc k hn
  ⟨B.next S' q (by simp only [if_neg (Ne.symm hx)]; exact B.sc), q⟩
theorem LawB.Gh {w : World} {s : Shared} {g0 : Heap} {L ls : Addr} {vs : List Value} {ns : List Int} {m : Str → Option Value} {Dn Dp Dw : Addr} {h : Heap} (B : LawB w s g0 L ls vs ns m Dn Dp Dw h) : Gl w (hid [71, L] h) := B.G.up B.S.kg
/-- an assignment of a pure expression to a local of the law -/
theorem LawB.asg {prog : Program} {A : Around} {env : Env} {w : World} {s₀ s : Shared} {g0 : Heap} {L ls : Addr} {vs : List Value} {ns : List Int} {m : Str → Option Value} {Dn Dp Dw : Addr} {h : Heap} {tk : Nat} {x : Str} {py pos : Pos} {e : Expr} {Q : Flow → Shared → Prop} {E : Value → Shared → Prop} {K : Value → Heap → Prop}
   (B : LawB w s₀ g0 L ls vs ns m Dn Dp Dw h) (he : PG prog w A env e h s K) (hL : env.locals = L)
   (k : ∀ v h' h'' tk', LawB w s₀ g0 L ls vs ns m Dn Dp Dw h' → KeepsH (hid [71, L] h) (hid [71, L] h') → KeepsH (hid [71, L] h') (hid [71, L] h'') → K v h' → LawB w s₀ g0 L ls vs ns (fun z => if z = x then some v else m z) Dn Dp Dw h'' → Q .next { s with heap := h'', toks := tk' })
   (hx : x ≠ Str.ofString "script" := by decide) (hy : env.kindOf x = some .local := by rfl) (hp : (env.scope.kind == .class || (env.scope.kind == .module && env.locals != env.globals)) = false := by rfl)
   (hs : swapsWith e (some (.Name x py)) pos.line env = pure false := by rfl) : wpAny (model prog w) A (exec (.Assign [.Name x py] e pos) env) Q E { s with heap := h, toks := tk } := by
  subst hL
  refine asg_pure (h₀ := h) he.shift kh_rfl B.S.hn (fun v h' h'' tk' k' kv k'' hn'' => ?_) hy hp hs
  obtain ⟨B', q'⟩ := B.keeps k'
  obtain ⟨B'', q''⟩ := B'.loc k'' hn'' hx
  exact k v h' h'' tk' B' q' q'' kv B''
theorem LS.bad {g0 : Heap} {M : List Addr} {L : Addr} {m : Str → Option Value} {h : Heap} (S : LS g0 M L m h) {v : Value} (x : Bad v h) : Bad v (hid M h) := by
  cases x with
  | zero t items e a b => exact .zero t items e (S.tup a) b
  | one t items e a b => exact .one t items e (S.tup a) b
  | three t items e a b => exact .three t items e (S.lst a) b
  | int i u e => exact .int i u e
  | five t x i u u' e a b => exact .five t x i u u' e (S.tup a) b

end Mine
end
section
open PySem PySem.W PyProof.Rows PySem.Calls
set_option Elab.async false
set_option maxRecDepth 100000
set_option linter.unusedVariables false
namespace Mine
section
variable {prog : Program} {w : World} {A : Around} {s : Shared} {env : Env} {h₀ : Heap}
theorem PT.eq {e : Expr} {b b' : Bool} (x : PT prog w A env e h₀ s b) (q : b = b') : PT prog w A env e h₀ s b' := q ▸ x
/-- a call of a def without arguments -/
theorem PG.callD0 {func : Expr} {a : Addr} {o : Obj} {fd : FuncData} {p : Pos} {K : Value → Heap → Prop} (f : PG prog w A env func h₀ s (fun u _ => u = .ref a)) (ho : h₀.get? a = some o) (hd : o.data = .func fd)
    (h : ∀ h', KeepsH h₀ h' → PC prog w A (.ref a) [] h' s K)
    (he : eval (.Call func [] [] p) env = (do callWith p (← eval func env) [] (backTo p (starEach [] env)) (backToKw p (keywordEach [] env))) := by rfl) : PG prog w A env (.Call func [] [] p) h₀ s K :=
  .mk fun h₁ tk Q E k hQ => Call_ (f.run h₁ tk _ E k fun v h₂ tk₂ k₂ kv => by
    subst kv
    exact callWith_function (o := o) (fd := fd) (PySem.evalArgs_none ⟨⟨k₂ _ _ (k _ _ ho), hd⟩, (h h₂ (kh_tr k k₂)).run h₂ tk₂ Q E kh_rfl fun v h' tk' k' kv => hQ v h' tk' (kh_tr k₂ k') kv⟩)) he
/-- [x] * 5 -/
theorem ps_rep5 {x : Str} {a b : Value} (ha : KStrs [x] a h₀) (hb : KInt 5 b h₀) : PS prog w A (binaryOp .Mult a b) h₀ s (KStrs [x, x, x, x, x]) := by
  obtain ⟨l, vs, n, rfl, e, hx⟩ := ha
  obtain ⟨u, rfl⟩ := hb
  obtain ⟨t, hvs⟩ : ∃ t, vs = #[.str x t] := by
    cases vs with | mk l' =>
    cases hx with | cons _ t h => cases h; exact ⟨t, rfl⟩
  subst hvs
  refine .mk fun h tk Q E k hQ => ?_
  have hl : h.get? l = some { cls := .type "list", dict := none, data := .seq #[.str x t] n, slots := #[] } := k _ _ e
  refine wpAny_binaryOp_repeat_ref (T := "list") (U := "int") (by decide) ⟨_, hl, rfl⟩ (fun s' => typeIs_int s' 5 u) noFill_list_mul F.fills_int_mul F.slot_int_rmul repeat_list F.slot_int_index.lookup
    (call_meets F.slot_int_rmul (typeIs_int _ 5 u) F.entry_int_rmul (F.args_int_rmul_2 _ _) (int___rmul___int_list 5 u l #[.str x t] n)
      ⟨hl, rfl, ⟨_, hl, rfl⟩, call_meets F.slot_list_mul ⟨_, hl, rfl⟩ F.entry_list_mul (F.args_list_mul_2 _ _)
        (AutoListH.list___mul___list_int_3 l #[.str x t] n 5 u (by decide) (by show ¬ 1 * Int.toNat 5 > _; decide) (by show ¬ Builtin.List.listTooLong (1 * Int.toNat 5) = true; decide +kernel))
        ⟨hl, ?_⟩⟩)
  exact hQ _ _ _ (fun b o e => Heap.get?_push_of_some _ e) ⟨_, #[.str x t, .str x t, .str x t, .str x t, .str x t], _, rfl, Heap.get?_push_size _ rfl, .cons _ _ (.cons _ _ (.cons _ _ (.cons _ _ (.cons _ _ .nil))))⟩
theorem ps_neStr {x y : Str} {a b : Value} (ha : KStr x a h₀) (hb : KStr y b h₀) : PS prog w A (compareOp .NotEq a b) h₀ s (KBool (x.cps.toList != y.cps.toList)) := by
  obtain ⟨t, rfl⟩ := ha
  obtain ⟨u, rfl⟩ := hb
  exact .mk fun h tk Q E k hQ => PySem.P.ne_str (hQ _ _ _ kh_rfl rfl)
end
theorem namesF_ok (ns : List Int) : SOk (namesF ns) := fun x hx => by
  unfold namesF at hx
  obtain ⟨p, hp, rfl⟩ := List.mem_map.mp hx
  exact (allP_ok p (pairsF_mem hp)).2.2.2
theorem words_ok : SOk [words, words, words, words, words] := fun x hx => by
  simp only [List.mem_cons, List.not_mem_nil, or_false, or_self] at hx
  subst hx
  decide +kernel

end Mine
end
section
open PySem PySem.W PyProof.Rows PySem.Calls
set_option Elab.async false
set_option maxRecDepth 100000
set_option maxHeartbeats 4000000
set_option linter.unusedVariables false
namespace Mine
section
variable {prog : Program} {w : World} {A : Around} {env : Env} {h₀ : Heap} {s : Shared}
theorem keptH (h : Heap) : KeptH (fun h' => KeepsH h h') := fun h' ob k b o e => Heap.get?_push_of_some _ (k b o e)
/-- a slice of a text -/
theorem PG.slc {e : Expr} {lo up : Option Expr} {p q : Pos} {x : Str} {a b : Option Int} {ops : Value → Value → List Value} (y : PG prog w A env e h₀ s (KStr x)) (pl : PP prog w A env lo h₀ s a) (pu : PP prog w A env up h₀ s b) (hn : x.length ≤ 1000)
    (hs : ∀ o i, subscripted (.Slice lo up Option.none q) false o i = operate (ops o i) (getItem o i) := by intro _ _; with_unfolding_all rfl) :
    PG prog w A env (.Subscript e (.Slice lo up Option.none q) p) h₀ s (KStr (Txt.slice x a b)) :=
  .mk fun h₁ tk Q E k hQ => Subscript_ (y.run h₁ tk _ E k fun o h₂ tk₂ k₂ ko => wpAny_Slice (pl.run h₂ tk₂ _ E (kh_tr k k₂) fun v1 h₃ tk₃ k₃ p1 => pu.run h₃ tk₃ _ E (kh_tr k (kh_tr k₂ k₃)) fun v2 h₄ tk₄ k₄ p2 => PP.none.run (h₀ := h₀) h₄ tk₄ _ E (kh_tr k (kh_tr k₂ (kh_tr k₃ k₄))) fun v3 h₅ tk₅ k₅ p3 => by
    obtain ⟨t, rfl⟩ := ko
    have hz : x.length ≤ sizeLine := by rw [PySem.sizeLine_eq]; omega
    have kk : KeepsH h₁ h₅ := kh_tr k₂ (kh_tr k₃ (kh_tr k₄ k₅))
    have fin : ∀ h' t' k', KeepsH h₅ h' → Q (.str (Txt.slice x a b) t') { s with heap := h', toks := k' } := fun h' t' k' kq => hQ _ _ _ (kh_tr kk kq) ⟨_, rfl⟩
    cases p3
    have main : ItemOn (model prog w) A E (.str x t) (.ref h₅.objs.size) Q { s with heap := h₅.push { cls := .type "slice", data := .fields #[v1, v2, .none] }, toks := tk₅ } := by
      cases p1 with
      | none => cases p2 with
        | none => exact SBH.sliceItem_nn (s := { s with heap := h₅, toks := tk₅ }) (keptH h₅) kh_rfl fin hz
        | int => exact SBH.sliceItem_ns (s := { s with heap := h₅, toks := tk₅ }) (keptH h₅) kh_rfl fin hz
      | int => cases p2 with
        | none => exact SBH.sliceItem_sn (s := { s with heap := h₅, toks := tk₅ }) (keptH h₅) kh_rfl fin hz
        | int => exact SBH.sliceItem_ss (s := { s with heap := h₅, toks := tk₅ }) (keptH h₅) kh_rfl fin hz
    obtain ⟨T, id, h1, h2, h3⟩ := main
    exact tail_any h2 h1 h3 (hs _ _)))
theorem pc_lenS {x : Str} {o : Value} (ho : KStr x o h₀) (hl : x.length ≤ 1000) : PC prog w A (.builtin "len") [o] h₀ s (KInt (x.length : Int)) := by
  obtain ⟨t, rfl⟩ := ho
  exact .mk fun h tk Q E k hQ => PyProof.Rows.len_str (by omega) (hQ _ _ _ kh_rfl ⟨_, rfl⟩)
theorem PG.lenS {e : Expr} {q p : Pos} {x : Str} (G : Gl w h₀) (y : PG prog w A env e h₀ s (KStr x)) (hl : x.length ≤ 1000)
    (hg : env.globals = mainGlobals := by rfl) (hbi : env.builtins = builtinsNs := by rfl) (hk : env.scope.kind = .function := by rfl) (hx : env.kindOf (Str.ofString "len") = some .globalImplicit := by rfl)
    (he : eval (.Call (.Name (Str.ofString "len") q) [e] [] p) env = (do callWith p (← eval (.Name (Str.ofString "len") q) env) [] (backTo p (starEach [e] env)) (backToKw p (keywordEach [] env))) := by rfl)
    (h1 : starEach [e] env = (false, eval e env) :: starEach [] env := by rfl) : PG prog w A env (.Call (.Name (Str.ofString "len") q) [e] [] p) h₀ s (KInt (x.length : Int)) :=
  PG.callB1 (Gl.built G e_len b_len (by decide) hg hbi hk hx (by decide)) y upS (fun v h' k kv => pc_lenS kv hl) he h1
theorem PT.lt {a b : Expr} {p : Pos} {i j : Int} {c : Bool} (y : PG prog w A env a h₀ s (KInt i)) (z : PG prog w A env b h₀ s (KInt j)) (hc : decide (i < j) = c) (hm : behindInMarks .Lt b = false := by with_unfolding_all rfl) : PT prog w A env (.Compare a [.Lt] [b] p) h₀ s c :=
  PT.cmp y z upI (fun o j h' k ho hj => by obtain ⟨t, rfl⟩ := ho; obtain ⟨u, rfl⟩ := hj; exact .mk fun h tk Q E k hQ => PySem.P.lt_int (hQ _ _ _ kh_rfl (by rw [hc]; rfl))) hm
theorem PT.ge {a b : Expr} {p : Pos} {i j : Int} {c : Bool} (y : PG prog w A env a h₀ s (KInt i)) (z : PG prog w A env b h₀ s (KInt j)) (hc : decide (i ≥ j) = c) (hm : behindInMarks .GtE b = false := by with_unfolding_all rfl) : PT prog w A env (.Compare a [.GtE] [b] p) h₀ s c :=
  PT.cmp y z upI (fun o j h' k ho hj => by obtain ⟨t, rfl⟩ := ho; obtain ⟨u, rfl⟩ := hj; exact .mk fun h tk Q E k hQ => PySem.P.ge_int (hQ _ _ _ kh_rfl (by rw [hc]; rfl))) hm
theorem PT.eqI {a b : Expr} {p : Pos} {i j : Int} {c : Bool} (y : PG prog w A env a h₀ s (KInt i)) (z : PG prog w A env b h₀ s (KInt j)) (hc : (i == j) = c) (hm : behindInMarks .Eq b = false := by with_unfolding_all rfl) : PT prog w A env (.Compare a [.Eq] [b] p) h₀ s c :=
  PT.cmp y z upI (fun o j h' k ho hj => by subst hc; obtain ⟨t, rfl⟩ := ho; obtain ⟨u, rfl⟩ := hj; exact .mk fun h tk Q E k hQ => PyProof.Rows.eq_int (hQ _ _ _ kh_rfl rfl)) hm
theorem PT.neStr {a b : Expr} {p : Pos} {x y : Str} {c : Bool} (u : PG prog w A env a h₀ s (KStr x)) (v : PG prog w A env b h₀ s (KStr y)) (hc : (x.cps.toList != y.cps.toList) = c) (hm : behindInMarks .NotEq b = false := by with_unfolding_all rfl) : PT prog w A env (.Compare a [.NotEq] [b] p) h₀ s c :=
  PT.cmp u v upS (fun o j h' k ho hj => hc ▸ ps_neStr ho hj) hm
theorem PT.gtStr {a b : Expr} {p : Pos} {x y : Str} {c : Bool} (u : PG prog w A env a h₀ s (KStr x)) (v : PG prog w A env b h₀ s (KStr y)) (hc : slt y x = c) (hm : behindInMarks .Gt b = false := by with_unfolding_all rfl) : PT prog w A env (.Compare a [.Gt] [b] p) h₀ s c :=
  PT.cmp u v upS (fun o j h' k ho hj => by subst hc; obtain ⟨t, rfl⟩ := ho; obtain ⟨u, rfl⟩ := hj; exact .mk fun h tk Q E k hQ => PySem.P.gt_str (hQ _ _ _ kh_rfl rfl)) hm
theorem PT.notinStr {a b : Expr} {p : Pos} {x y : Str} {c : Bool} (u : PG prog w A env a h₀ s (KStr x)) (v : PG prog w A env b h₀ s (KStr y)) (hc : (!(!(Builtin.Str.occurrences y x 0 y.length 1).isEmpty)) = c) (hm : behindInMarks .NotIn b = false := by with_unfolding_all rfl) : PT prog w A env (.Compare a [.NotIn] [b] p) h₀ s c :=
  PT.cmp u v upS (fun o j h' k ho hj => by subst hc; obtain ⟨t, rfl⟩ := ho; obtain ⟨u, rfl⟩ := hj; exact .mk fun h tk Q E k hQ => PySem.P.notIn_str (hQ _ _ _ kh_rfl rfl)) hm
/-- f'[{e}]' -/
theorem PG.fstr {a b e : Expr} {p q : Pos} {x y z : Str} (u : PG prog w A env a h₀ s (KStr x)) (v : PG prog w A env e h₀ s (KStr y)) (r : PG prog w A env b h₀ s (KStr z)) (hl : x.length + y.length + z.length ≤ 1000) :
    PG prog w A env (.JoinedStr [a, .FormattedValue e (-1) Option.none q, b] p) h₀ s (KStr (Str.empty ++ x ++ y ++ z)) :=
  .mk fun h tk Q E k hQ => JoinedStr_many (joinParts_cons (u.run h tk _ E k fun o h₁ tk₁ k₁ ho => by
    obtain ⟨t, rfl⟩ := ho
    have hz : (Str.empty ++ x).length + y.length + z.length ≤ 1000 := by rw [PySem.Str.length_append]; exact Nat.le_trans (by show (0 + x.length) + _ + _ ≤ _; omega) hl
    refine ⟨by rw [PySem.sizeLine_eq]; omega, joinParts_cons (FormattedValue_plain (v.run h₁ tk₁ _ E (kh_tr k k₁) fun o h₂ tk₂ k₂ ho => ?_))⟩
    obtain ⟨t, rfl⟩ := ho
    refine formatField_str (fun t' tk' => ?_) (by rw [PySem.sizeLine_eq]; omega)
    refine ⟨by rw [PySem.Str.length_append, PySem.sizeLine_eq]; omega, joinParts_cons (r.run h₂ tk' _ E (kh_tr k (kh_tr k₁ k₂)) fun o h₃ tk₃ k₃ ho => ?_)⟩
    obtain ⟨t, rfl⟩ := ho
    refine ⟨by rw [PySem.Str.length_append, PySem.Str.length_append, PySem.sizeLine_eq]; omega, joinParts_nil (hQ _ _ _ (kh_tr k₁ (kh_tr k₂ k₃)) ⟨_, rfl⟩) (by rw [PySem.Str.length_append, PySem.Str.length_append, PySem.sizeLine_eq]; omega)⟩))
end

end Mine
end
section
open PySem PySem.W PyProof.Rows PySem.Calls
set_option Elab.async false
set_option maxRecDepth 100000
set_option maxHeartbeats 4000000
set_option linter.unusedVariables false
namespace Mine
theorem f_118 {w : World} : nsIn (hd.heap_39 w.params) mainGlobals (Str.ofString "_law_sign") = some (some (.ref 118)) := by k_is
theorem o_118 {w : World} {h₀ : Heap} (G : Gl w h₀) : IsFn 118 h₀ := by obtain ⟨l, m, mg, mb, X, T⟩ := G; exact ⟨_, _, X _ _ (by k_is), rfl⟩
noncomputable abbrev tkEnv (L : Addr) : Env := envOfC (Str.ofString "_law_taken") hd.f123.val.2.2 L 123 (.ref 122)
noncomputable def tkFor : List Stmt := match hd.f123.val.2.1 with
  | [_, _, _, .For _ _ b _ _, _] => b
  | _ => []
noncomputable def tkPart : List Stmt := match tkFor with
  | [_, .For _ _ b _ _, _] => b
  | _ => []
structure MT (ts : Tok) (Tk lp : Addr) (m : Str → Option Value) : Prop where
  st : m (Str.ofString "star") = some (.str (Str.ofString "many") ts)
  tk : m (Str.ofString "taken") = some (.ref Tk)
  pa : m (Str.ofString "parts") = some (.ref lp)
theorem MT.set {ts : Tok} {Tk lp : Addr} {m : Str → Option Value} (F : MT ts Tk lp m) {y : Str} {v : Value} (hy : ([Str.ofString "star", Str.ofString "taken", Str.ofString "parts"].any (· == y)) = false := by decide) : MT ts Tk lp (fun z => if z = y then some v else m z) := by
  have ne : ∀ z ∈ [Str.ofString "star", Str.ofString "taken", Str.ofString "parts"], z ≠ y := fun z hz e => by
    have := List.any_eq_false.mp hy z hz
    simp [e] at this
  exact ⟨by rw [if_neg (ne _ (by simp))]; exact F.st, by rw [if_neg (ne _ (by simp))]; exact F.tk, by rw [if_neg (ne _ (by simp))]; exact F.pa⟩
structure PI (gI : Heap) (L c2 : Addr) (ts : Tok) (Tk lp : Addr) (wr : List Addr) (m : Str → Option Value) (pls : List Int) (h : Heap) : Prop where
  kg : KeepsH gI h
  hn : h.Ns L m
  ce : ∃ v, h.IsCell c2 v
  hp : ∃ pl, m (Str.ofString "places") = some (.ref pl) ∧ pl ∉ wr ∧ pl ≠ L ∧ pl ≠ c2 ∧ KInts pls (.ref pl) h
  mf : MT ts Tk lp m
section
variable {w : World} {dp un : Nat} {gd : Option (List Code)} {fr : Option (List Env)} {s' : Shared} {Q : Flow → Shared → Prop} {E : Value → Shared → Prop} {gI : Heap} {L Tk lp : Addr} {m : Str → Option Value} {ts : Tok} {h h' : Heap} {wr : List Addr} {pls : List Int}
theorem PI.keep {c2 : Addr} (P : PI gI L c2 ts Tk lp wr m pls h) (k : KeepsH h h') : PI gI L c2 ts Tk lp wr m pls h' :=
  ⟨kh_tr P.kg k, P.hn.keeps k, let ⟨v, c⟩ := P.ce; ⟨v, isCell_up c k⟩, let ⟨pl, a, b, c, d, e⟩ := P.hp; ⟨pl, a, b, c, d, upIs _ _ _ k e⟩, P.mf⟩
theorem pc_sign {p x : Str} {f : Str → Bool} {t u : Tok} {h₀ : Heap} (R : SignC w p f) (G : Gl w h₀) (hdp : dp + 1 < recursionLimit) (hun : un + 8 < cLine) : PC PySem.Challenge.rw_in0044_01.row.prog w (AA dp un gd fr) (.ref 118) [.str p t, .str x u] h₀ s' (KBool (f x)) :=
  .mk fun h tk Q E k hQ => by
    obtain ⟨loose, mean, mg, mb, X, T⟩ := G.up k
    exact R dp un gd fr _ Q E loose mean mg mb x t u X T hdp hun fun h' tk' k' => hQ _ h' tk' k' rfl
/-- one part against one name -/
theorem part_turn {nm part : Str} {tn tp : Tok} {tk : Nat} {sg : Str → Str → Bool} (G : Gl w gI) (hsg : part ≠ Str.ofString "many" → SignC w part (sg part)) (cn : gI.IsCell (L + 1) (some (.str nm tn))) (hnm : nm.length ≤ 20) (gL : gI.get? L = none) (gc : gI.get? (L + 1 + 1) = none) (hL2 : L + 1 + 1 ≠ L)
   (P : PI gI L (L + 1 + 1) ts Tk lp wr m pls h) (hc2 : h.IsCell (L + 1 + 1) (some (.str part tp))) (hwr : ∀ b ∈ wr, ∃ o, h.get? b = some o) (hpl : ∀ p ∈ pls, 0 ≤ p ∧ p ≤ (nm.length : Int)) (hlen : pls.length ≤ 64) (hdp : dp + 5 < recursionLimit) (hun : un + 200 < cLine)
   (hQ : ∀ m' h' tk', PI gI L (L + 1 + 1) ts Tk lp wr m' (stepP sg nm pls part) h' → (∀ b o, b ≠ L → h.get? b = some o → h'.get? b = some o) → Q .next { s' with heap := h', toks := tk' }) :
   wpAny (model PySem.Challenge.rw_in0044_01.row.prog w) ((AA dp un gd fr).deeper (tkEnv L)) (execs tkPart (tkEnv L)) Q E { s' with heap := h, toks := tk } := by
  refine wpAny_execs_cons (wpAny_If ((PT.eqStr (PG.cellK hc2 ⟨tp, rfl⟩ (upS (x := part))) (PG.nameK P.hn P.mf.st ⟨ts, rfl⟩ (upS (x := Str.ofString "many"))) rfl).run h tk _ _ kh_rfl fun h1 tk1 k1 => ?_))
  have P1 := P.keep k1
  obtain ⟨pl, mpl, _, _, _, kpl⟩ := P1.hp
  have c1 := isCell_up cn P1.kg
  have c2 := isCell_up hc2 k1
  have ex1 : ∀ b ∈ wr, ∃ o, h1.get? b = some o := fun b hb => let ⟨o, e⟩ := hwr b hb; ⟨o, k1 _ _ e⟩
  have fin : ∀ (D : Addr) (h3 : Heap) (tk3 : Nat), h1.get? D = none → KInts (stepP sg nm pls part) (.ref D) h3 → (∀ b o, b ≠ L → h1.get? b = some o → h3.get? b = some o) → h3.Ns L (fun z => if z = Str.ofString "places" then some (.ref D) else m z) → Q .next { s' with heap := h3, toks := tk3 } := by
    intro D h3 tk3 hD hk k3 hn3
    have ne : ∀ {b : Addr}, (∃ o, h1.get? b = some o) → D ≠ b := fun ⟨o, e⟩ q => by rw [← q, hD] at e; cases e
    refine hQ _ h3 tk3 ⟨fun b o e => k3 b o (fun q => by rw [q, gL] at e; cases e) (P1.kg b o e), hn3, ?_, ⟨D, rfl, fun hm => ne (ex1 _ hm) rfl, ?_, ?_, hk⟩, P1.mf.set⟩ fun b o hb e => k3 b o hb (k1 _ _ e)
    · obtain ⟨o, e, d⟩ := c2; exact ⟨_, o, k3 _ _ hL2 e, d⟩
    · obtain ⟨o, _, _, e, _⟩ := P1.hn; exact ne ⟨o, e⟩
    · obtain ⟨o, e, d⟩ := c2; exact ne ⟨o, e⟩
  by_cases hm : part = Str.ofString "many"
  · subst hm
    simp only [beq_self_eq_true, if_true]
    refine wpAny_execs_cons (asg_pure (s := { s' with heap := h1, toks := tk1 }) (h₀ := h1) (K := KNew h1 (KInts (stepP sg nm pls (Str.ofString "many")))) ?e kh_rfl P1.hn ?_)
    case e =>
      have G1 := G.up P1.kg
      cases pls with
      | nil =>
        have e : stepP sg nm [] (Str.ofString "many") = [] := if_pos rfl
        rw [e]
        exact PG.ifexp (c := false) (PT.neI (xs := []) (ys := []) (PG.nameK P1.hn mpl kpl upIs) ((PG.intList [] rfl rfl (by decide)).imp fun _ _ _ k => k.1) (by show un + 3 + 64 < cLine; omega) (by decide)) (fun q => nomatch q) fun _ => PG.intList [] rfl rfl (by decide)
      | cons p r =>
        have e : stepP sg nm (p :: r) (Str.ofString "many") = (List.range ((nm.length + 1 : Int) - r.foldl min p).toNat).map fun (k : Nat) => r.foldl min p + (k : Int) := if_pos rfl
        have hmin := hpl _ (foldl_min_mem p r).1
        rw [e]
        refine PG.ifexp (c := true) (PT.neI (xs := p :: r) (ys := []) (PG.nameK P1.hn mpl kpl upIs) ((PG.intList [] rfl rfl (by decide)).imp fun _ _ _ k => k.1) (by show un + 3 + 64 < cLine; omega) (by simp)) (fun _ => ?_) fun q => nomatch q
        refine PG.callT1 (Gl.built G1 e_list b_list) (PG.callT (K := KRange2 (r.foldl min p) ((nm.length : Int) + 1)) (Gl.built G1 e_range b_range) (PA.two (PG.callB1 (K := KInt (r.foldl min p)) (Gl.built G1 e_min b_min) (PG.nameK P1.hn mpl kpl upIs) upIs fun v h' k kv => pc_minI rfl kv) upI (PG.add (PG.lenS G1 (PG.cellK c1 ⟨tn, rfl⟩ (upS (x := nm))) (by omega)) (PG.int (i := 1))) upI) fun vs h' k ⟨v1, v2, e, k1, k2⟩ => by subst e; exact pc_range2 k1 k2) upR2 fun v h' k' kv => PC.imp (pc_listR rfl kv (by omega)) fun v h k kk => ⟨kk.1, ?nn⟩
        obtain ⟨l, e, hl⟩ := kk.2
        exact ⟨l, e, noneOf k' hl⟩
    rintro v h2 h3 tk3 k2 ⟨kv, D, rfl, hD⟩ k3 hn3
    refine wpAny_execs_nil (wpAny_execs_nil (fin D h3 tk3 hD ?_ (fun b o hb e => k3 b o hb (k2 _ _ e)) hn3))
    obtain ⟨l, vs, n, e, hl, hi⟩ := kv
    cases e
    exact ⟨D, vs, n, rfl, k3 _ _ (fun q => by obtain ⟨o, _, _, e, _⟩ := P1.hn; have q' : D = L := q; rw [← q', hD] at e; cases e) hl, hi⟩
  · have hb : (part == Str.ofString "many") = false := by simpa using hm
    rw [hb]
    simp only [Bool.false_eq_true, if_false]
    have e : stepP sg nm pls part = (pls.filter fun p => decide (p < (nm.length : Int)) && sg part (Txt.item nm p)).map fun p => p + 1 := if_neg hm
    obtain ⟨plA, ws, nP, eP, hP, hi⟩ := kpl
    cases eP
    have hpL : pl ≠ L := by obtain ⟨pl', a, _, b, _⟩ := P1.hp; rw [mpl] at a; cases a; exact b
    generalize hg : hideAll h1 [L] = g
    have gkh : KeepsH g h1 := fun b o e => of_hideAll _ (hg ▸ e)
    have gk : ∀ b o, b ≠ L → h1.get? b = some o → g.get? b = some o := fun b o hb e => hg ▸ hideAll_get _ e (by simpa using hb)
    have gIg : KeepsH gI g := fun b o e => gk b o (fun q => by rw [q, gL] at e; cases e) (P1.kg b o e)
    have ggL : g.get? L = none := hg ▸ hideAll_none _ (.head _)
    have gP := gk _ _ hpL hP
    have c1g := isCell_up cn gIg
    have c2g : g.IsCell (L + 1 + 1) (some (.str part tp)) := by obtain ⟨o, e, d⟩ := c2; exact ⟨o, gk _ _ hL2 e, d⟩
    refine wpAny_execs_cons (gcomp_assign rfl rfl (by decide) rfl (by decide) rfl ?_ (by intro _; rfl))
    refine (PG.name P1.hn mpl).run h1 tk1 _ _ kh_rfl fun v h2 tk2 k2 hv => ?_
    subst hv
    refine ⟨Int, Int, pls, fun _ v x => ∃ t, v = .int x t, fun _ v x => ∃ t, v = .int x t, (fun p => decide (p < (nm.length : Int)) && sg part (Txt.item nm p)), (fun p => p + 1), g, fun _ _ _ _ _ h => h, fun _ _ _ _ _ h => h, kh_tr gkh k2, ?t, ?e, ?s, ?k⟩
    case t =>
      refine testOk_one fun p v h g' C m hp ⟨t, hv⟩ kg' kgh hn hmx => ?_
      have up := kh_tr kg' kgh
      subst hv
      have G2 := G.up (kh_tr gIg up)
      have hp0 := (hpl p hp).1
      refine PT.and (PT.lt (PG.nameK hn hmx ⟨t, rfl⟩ (upI (i := p))) (PG.lenS G2 (PG.cellK (isCell_up c1g up) ⟨tn, rfl⟩ (upS (x := nm))) (by omega)) rfl) fun hlt => PT.eq (PT.and (b := true) (PT.plain (Gl.call G2 f_118 (o_118 G2) (PA.two (PG.cellK (isCell_up c2g up) ⟨tp, rfl⟩ (upS (x := part))) upS (PG.sign (PG.cellK (isCell_up c1g up) ⟨tn, rfl⟩ (upS (x := nm))) (PG.nameK hn hmx ⟨t, rfl⟩ (upI (i := p))) (by omega) (by simpa using hlt) (by omega)) upS) fun vs h' k ⟨v1, v2, e, k1, k2⟩ => ?_)) fun _ => PT.andN) (Bool.and_true _)
      subst e
      obtain ⟨t1, rfl⟩ := k1
      obtain ⟨t2, rfl⟩ := k2
      exact pc_sign (hsg hm) (G2.up k) (by show dp + 1 + 1 < recursionLimit; omega) (by show un + 3 + 8 < cLine; omega)
    case e =>
      refine eltOk (fun _ p => KInt (p + 1)) (fun p v h g' C m hp _ ⟨t, hv⟩ kg' kgh hn hmx => ?_) (fun _ _ _ _ _ h _ => h)
      subst hv
      exact PG.add (PG.nameK hn hmx ⟨t, rfl⟩ (upI (i := p))) (PG.int (i := 1))
    case s =>
      exact Src.list rfl (isLA gP) (kh_tr gkh k2) (ints_paired hi) (by omega)
    case k =>
      intro h' tk' D g' ys c x hD hDn hys
      refine asg_local (P1.hn.keeps k2) ggL x fun h3 tk3 k3 hn3 k3' => wpAny_execs_nil (wpAny_execs_nil (fin D h3 tk3 (noneOf k2 hDn) ?_ (fun b o hb e => k3' b o hb (k2 _ _ e)) hn3))
      rw [e]
      exact ⟨D, ys.toArray, c, rfl, k3 _ _ hD, paired_ints hys⟩
end

end Mine
end
section
open PySem PySem.W PyProof.Rows PySem.Calls
set_option Elab.async false
set_option maxRecDepth 100000
set_option maxHeartbeats 4000000
set_option linter.unusedVariables false
namespace Mine
/-- the parts of a pattern, by signs -/
noncomputable def runT (pat : List Nat) (br : Nat → Option (Str × Nat)) : Nat → Nat → List Str → Option (List Str)
  | 0, _, _ => none
  | f + 1, i, rs => match pat[i]? with
    | none => if i = pat.length then some rs else none
    | some c => if c = 42 then (if rs.getLast? = some (Str.ofString "many") then none else runT pat br f (i + 1) (rs ++ [Str.ofString "many"]))
      else if c = 63 then runT pat br f (i + 1) (rs ++ [Str.ofString "any"])
      else if c = 91 then match br i with
        | some (x, j) => if pat.length = j then runT pat br f j (rs ++ [x]) else none
        | none => none
      else if escOk c then runT pat br f (i + 1) (rs ++ [escF c]) else none
structure TW (g : Heap) (L D q : Addr) : Prop where
  gL : g.get? L = none
  gD : g.get? D = none
  gq : g.get? q = none
  g7 : g.get? 71 = none
  dL : D ≠ L
  qL : q ≠ L
  sL : (71 : Addr) ≠ L
  dq : D ≠ q
  d7 : D ≠ (71 : Addr)
  q7 : q ≠ (71 : Addr)
  ab : g.objs.size ≤ L
structure MF (D q : Addr) (pat : Str) (t1 t2 t3 : Tok) (m : Str → Option Value) : Prop where
  p : m (Str.ofString "pat") = some (.str pat t1)
  st : m (Str.ofString "STAR") = some (.str (Str.ofString "many") t2)
  qm : m (Str.ofString "QUESTION_MARK") = some (.str (Str.ofString "any") t3)
  res : m (Str.ofString "res") = some (.ref D)
  add : m (Str.ofString "add") = some (.ref q)
  n : ∃ u, m (Str.ofString "n") = some (.int (pat.length : Int) u)
theorem MF.set {D q : Addr} {pat : Str} {t1 t2 t3 : Tok} {m : Str → Option Value} (F : MF D q pat t1 t2 t3 m) {y : Str} {v : Value}
   (hy : ([Str.ofString "pat", Str.ofString "STAR", Str.ofString "QUESTION_MARK", Str.ofString "res", Str.ofString "add", Str.ofString "n"].any (· == y)) = false := by decide) : MF D q pat t1 t2 t3 (fun z => if z = y then some v else m z) := by
  have ne : ∀ z ∈ [Str.ofString "pat", Str.ofString "STAR", Str.ofString "QUESTION_MARK", Str.ofString "res", Str.ofString "add", Str.ofString "n"], z ≠ y := fun z hz e => by
    have := List.any_eq_false.mp hy z hz
    simp [e] at this
  obtain ⟨u, hu⟩ := F.n
  exact ⟨by rw [if_neg (ne _ (by simp))]; exact F.p, by rw [if_neg (ne _ (by simp))]; exact F.st, by rw [if_neg (ne _ (by simp))]; exact F.qm, by rw [if_neg (ne _ (by simp))]; exact F.res, by rw [if_neg (ne _ (by simp))]; exact F.add, u, by rw [if_neg (ne _ (by simp))]; exact hu⟩
structure TH (g : Heap) (L D q : Addr) (m : Str → Option Value) (vs ps : Array Value) (h : Heap) : Prop where
  kg : KeepsH g h
  hn : h.Ns L m
  hD : ∃ n, h.get? D = some (listOf vs n)
  hq : h.get? q = some (BObj D)
  ht : h.get? 71 = some (tabObj ps)
section
variable {g : Heap} {L D q : Addr} {m : Str → Option Value} {vs ps : Array Value} {h h' : Heap}
theorem TH.keep (T : TH g L D q m vs ps h) (k : KeepsH h h') : TH g L D q m vs ps h' := ⟨kh_tr T.kg k, T.hn.keeps k, let ⟨n, e⟩ := T.hD; ⟨n, k _ _ e⟩, k _ _ T.hq, k _ _ T.ht⟩
theorem TH.set (T : TH g L D q m vs ps h) (W : TW g L D q) (k : ∀ b o, b ≠ L → h.get? b = some o → h'.get? b = some o) {m' : Str → Option Value} (hn : h'.Ns L m') : TH g L D q m' vs ps h' :=
  ⟨fun b o e => k b o (fun q => by rw [q, W.gL] at e; cases e) (T.kg b o e), hn, let ⟨n, e⟩ := T.hD; ⟨n, k _ _ W.dL e⟩, k _ _ W.qL T.hq, k _ _ W.sL T.ht⟩
theorem TH.push (T : TH g L D q m vs ps h) (W : TW g L D q) {vs' : Array Value} (hl : ∃ n', h'.get? D = some (listOf vs' n')) (k : ∀ b o, b ≠ D → h.get? b = some o → h'.get? b = some o) : TH g L D q m vs' ps h' :=
  ⟨fun b o e => k b o (fun q => by rw [q, W.gD] at e; cases e) (T.kg b o e), T.hn.at' fun o e => k _ o (Ne.symm W.dL) e, hl, k _ _ (Ne.symm W.dq) T.hq, k _ _ (Ne.symm W.d7) T.ht⟩
end
section
variable {prog : Program} {w : World} {A : Around} {env : Env} {s : Shared} {g : Heap} {D q : Addr} {m : Str → Option Value} {vs ps : Array Value} {h : Heap}
/-- an assignment to a local that isn't one of those -/
theorem asgT {y : Str} {py pos : Pos} {e : Expr} {Q : Flow → Shared → Prop} {E : Value → Shared → Prop} {K : Value → Heap → Prop} {tk : Nat} (K' : Value → Prop) (T : TH g env.locals D q m vs ps h) (W : TW g env.locals D q)
    (x : PG prog w A env e h s K) (hK : ∀ v h, K v h → K' v)
    (hQ : ∀ v h' tk', K' v → TH g env.locals D q (fun z => if z = y then some v else m z) vs ps h' → Q .next { s with heap := h', toks := tk' })
    (hy : env.kindOf y = some .local := by rfl) (hp : (env.scope.kind == .class || (env.scope.kind == .module && env.locals != env.globals)) = false := by rfl)
    (hs : swapsWith e (some (.Name y py)) pos.line env = pure false := by rfl) : wpAny (model prog w) A (exec (.Assign [.Name y py] e pos) env) Q E { s with heap := h, toks := tk } :=
  asg_pure (s := { s with heap := h, toks := tk }) (h₀ := h) (.mk fun h₁ tk₁ Q E k hq => x.run h₁ tk₁ Q E k hq) kh_rfl T.hn (fun v h' h'' tk' k' kv k'' hn => hQ v h'' tk' (hK _ _ kv) ((T.keep k').set W k'' hn)) hy hp hs
/-- the last sign of the parts isn't the star -/
theorem pg_last {a i : Expr} {p : Pos} {l : Addr} {ws : Array Value} {n : Nat} {v : Value} (y : PG prog w A env a h s (fun u _ => u = .ref l)) (z : PG prog w A env i h s (KInt (-1))) (e : h.get? l = some (listOf ws n)) (hv : ws.toList.getLast? = some v) (hsz : ws.size ≤ 1000)
    (hs : ∀ t, subscripted i false (.ref l) (.int (-1) t) = operate [.ref l, .int (-1) t] (getItem (.ref l) (.int (-1) t)) := by intro _; with_unfolding_all rfl) : PG prog w A env (.Subscript a i p) h s (fun u _ => u = v) :=
  PG.sub y z upV fun o j h' kk ho hj => by
    subst ho
    obtain ⟨t, rfl⟩ := hj
    have hne : 0 < ws.size := by
      cases hw : ws.size with
      | zero => have : ws.toList = [] := List.length_eq_zero_iff.mp (by simpa using hw)
                rw [this] at hv; cases hv
      | succ k => omega
    refine .mk fun h₁ tk Q E k hQ => tail_any (isLA (k _ _ (kk _ _ e))).typeIs slot_list_getitem.lookup (wpAny_getItem_list_neg (isLA (k _ _ (kk _ _ e))) (by omega) (by omega) (by omega) ?_ (hQ _ _ _ kh_rfl rfl)) (hs t)
    rw [List.getLast?_eq_getElem?] at hv
    rw [← hv, ← Array.getElem?_toList]
    congr 1
    simp only [Array.length_toList]
    omega
end

end Mine
end
section
open PySem PySem.W PyProof.Rows PySem.Calls
set_option Elab.async false
set_option maxRecDepth 100000
set_option maxHeartbeats 4000000
set_option linter.unusedVariables false
namespace Mine
theorem wpAny_getsQ {α : Type} {M : Model} {A : Around} {t : Sem α} {Q : α → Shared → Prop} {E : Value → Shared → Prop} {s : Shared} (h : wpAny M A t (fun a s' => @LE.le Nat _ s.toks s'.toks → Q a s') E s) : wpAny M A t Q E s := wpAny_gets (wpAny_mono h (fun _ _ q => q) fun _ _ e _ => e)
theorem f_69 {w : World} : nsIn (hd.heap_39 w.params) mainGlobals (Str.ofString "escape") = some (some (.ref 69)) := by k_is
theorem o_69 {w : World} {h₀ : Heap} (G : Gl w h₀) : IsFn 69 h₀ := by obtain ⟨l, m, mg, mb, X, T⟩ := G; exact ⟨_, _, X _ _ (by k_is), rfl⟩
section
variable {prog : Program} {w : World} {A : Around} {env : Env} {h₀ : Heap} {s : Shared} {T0 : Nat}
/-- an expression's value and the tokens -/
structure PK (prog : Program) (w : World) (A : Around) (env : Env) (e : Expr) (h₀ : Heap) (s : Shared) (T0 : Nat) (K : Value → Heap → Prop) : Prop where
  run : ∀ (h : Heap) (tk : Nat) (Q E : Value → Shared → Prop), KeepsH h₀ h → T0 ≤ tk → (∀ v h' tk', KeepsH h h' → T0 ≤ tk' → K v h' → Q v { s with heap := h', toks := tk' }) → wpAny (model prog w) A (eval e env) Q E { s with heap := h, toks := tk }
theorem PG.pk {e : Expr} {K : Value → Heap → Prop} (x : PG prog w A env e h₀ s K) : PK prog w A env e h₀ s T0 K :=
  .mk fun h tk Q E k hT hQ => wpAny_gets (x.run h tk _ _ k fun v h' tk' k' kv => fun hle => hQ v h' tk' k' (Nat.le_trans hT hle) kv)
theorem add_stmtK {e : Expr} {x : Str} {px p pos : Pos} {D q : Addr} {vs : Array Value} {n : Nat} {m : Str → Option Value} {K : Value → Heap → Prop} {Q : Flow → Shared → Prop} {E : Value → Shared → Prop} {tk : Nat}
    (hn : h₀.Ns env.locals m) (hx : m x = some (.ref q)) (hq : h₀.get? q = some (BObj D)) (hD : h₀.get? D = some (listOf vs n)) (hT : T0 ≤ tk) (y : PK prog w A env e h₀ s T0 K) (hsz : vs.size ≤ 1000)
    (h : ∀ v h' h'' tk', KeepsH h₀ h' → T0 ≤ tk' → K v h' → (∃ n', h''.get? D = some (listOf (vs.push v) n')) → (∀ b o, b ≠ D → h'.get? b = some o → h''.get? b = some o) → Q .next { s with heap := h'', toks := tk' })
    (hk : env.scope.kind = .function := by rfl) (hl : env.scope.names.lookup x = some .local := by rfl) (hd : (x == ("__debug__" : Str)) = false := by decide)
    (he : eval (.Call (.Name x px) [e] [] p) env = (do callWith p (← eval (.Name x px) env) [] (backTo p (starEach [e] env)) (backToKw p (keywordEach [] env))) := by rfl)
    (h1 : starEach [e] env = (false, eval e env) :: starEach [] env := by rfl)
    (hi : interactive env = false := by rfl) (hs : swapsWith (.Call (.Name x px) [e] [] p) none pos.line env = pure false := by rfl) :
    wpAny (model prog w) A (exec (.Expr (.Call (.Name x px) [e] [] p) pos) env) Q E { s with heap := h₀, toks := tk } := by
  refine wpAny_Expr (Call_ ((PG.pk (T0 := T0) (PG.name (s := s) hn hx hk hl hd)).run h₀ tk _ E kh_rfl hT fun u h2 tk2 k2 hT2 hu => ?_) he) hi hs
  subst hu
  refine callWith_bound (l := D) (spliced_more (y.run h2 tk2 _ E k2 hT2 fun v h3 tk3 k3 hT3 kv => spliced_none ⟨k3 _ _ (k2 _ _ hq), ?_⟩) h1) h1
  exact call_bound_append (hsz := by rw [PySem.sizeLine_eq]; omega) (k3 _ _ (k2 _ _ hq)) (k3 _ _ (k2 _ _ hD)) fun h4 e4 sb => h v h3 h4 _ (kh_tr k2 k3) hT3 kv ⟨_, e4⟩ fun b o hb e => sb.extBut b o hb e
theorem pk_esc {dp un : Nat} {gd : Option (List Code)} {fr : Option (List Env)} {e : Expr} {q p : Pos} {c : Nat} (G : Gl w h₀) (hc : escOk c = true) (hdp : dp + 1 < recursionLimit) (hun : un + 8 < cLine)
    (y : PG PySem.Challenge.rw_in0044_01.row.prog w (AA dp un gd fr) env e h₀ s (KStr ⟨#[c]⟩))
    (hg : env.globals = mainGlobals := by rfl) (hk : env.scope.kind = .function := by rfl) (hx : env.kindOf (Str.ofString "escape") = some .globalImplicit := by rfl)
    (he : eval (.Call (.Name (Str.ofString "escape") q) [e] [] p) env = (do callWith p (← eval (.Name (Str.ofString "escape") q) env) [] (backTo p (starEach [e] env)) (backToKw p (keywordEach [] env))) := by rfl)
    (h1 : starEach [e] env = (false, eval e env) :: starEach [] env := by rfl) :
    PK PySem.Challenge.rw_in0044_01.row.prog w (AA dp un gd fr) env (.Call (.Name (Str.ofString "escape") q) [e] [] p) h₀ s T0 (fun v _ => ∃ t, v = .str (escF c) t ∧ T0 ≤ t) :=
  .mk fun h₁ tk Q E k hT hQ => by
    obtain ⟨o, fd, e1, e2⟩ := o_69 G
    refine Call_ ((PG.pk (T0 := T0) (Gl.fn G f_69 hg hk hx (by decide))).run h₁ tk _ E k hT fun v h₂ tk₂ k₂ hT2 kv => ?_) he
    subst kv
    refine callWith_def_at (k₂ _ _ (k _ _ e1)) e2 (spliced_more ((PG.pk (T0 := T0) y).run h₂ tk₂ _ E (kh_tr k k₂) hT2 fun v h₃ tk₃ k₃ hT3 kv => spliced_none ⟨k₃ _ _ (k₂ _ _ (k _ _ e1)), ?_⟩) h1) h1
    obtain ⟨t, rfl⟩ := kv
    obtain ⟨loose, mean, mg, mb, X, T⟩ := G.up (kh_tr k (kh_tr k₂ k₃))
    exact esc_spec w dp un gd fr _ Q E loose mean mg mb c hc t X T hdp hun .mk fun t' h' tk' a b kk => hQ _ h' tk' (kh_tr k₂ (kh_tr k₃ kk)) (Nat.le_trans hT3 (Nat.le_trans a (Nat.le_of_lt b))) ⟨t', rfl, Nat.le_trans hT3 a⟩
end
theorem item_sg {x : Str} {i c : Nat} (h : x.cps.toList[i]? = some c) : Txt.item x (i : Int) = ⟨#[c]⟩ := by
  have hl : i < x.cps.toList.length := (List.getElem?_eq_some_iff.mp h).1
  rw [PySem.W.item_meets ⟨by omega, by simpa [Str.length] using hl⟩]
  have : x.cps[i]? = some c := by simpa using h
  simp [Array.getD_eq_getD_getElem?, this]
theorem sg_eq (c k : Nat) (y : Str) (hy : y = ⟨#[k]⟩) : ((⟨#[c]⟩ : Str) == y) = (c == k) := by
  subst hy
  rw [Bool.eq_iff_iff]
  simp
structure TI (g : Heap) (L D q : Addr) (pat : Str) (t1 t2 t3 : Tok) (T0 : Nat) (os : OsState) (i : Nat) (rs : List Str) (m : Str → Option Value) (s : Shared) : Prop where
  th : ∃ vs ps, TH g L D q m vs ps s.heap ∧ StrsAre vs.toList rs ∧ TriplesOk ps.toList ∧ (i < pat.length → ∀ x t, vs.toList.getLast? = some (.str x t) → x ≠ Str.ofString "many" → t ≠ 0 ∧ t ≠ t2)
  mf : MF D q pat t1 t2 t3 m
  it : ∃ u, m (Str.ofString "i") = some (.int (i : Int) u)
  len : rs.length ≤ i
  bare : AllBare s.gens
  os : s.os = os
  tk : @LE.le Nat _ T0 s.toks
section
variable {prog : Program} {w : World} {A : Around} {env : Env} {s : Shared} {h : Heap}
/-- not res or res[-1] is not STAR -/
theorem pt_star {r r' i st : Expr} {p1 p2 p3 p4 : Pos} {D : Addr} {vs : Array Value} {n : Nat} {y : Str} {t2 : Tok} (yr : PG prog w A env r h s (fun u _ => u = .ref D)) (yr' : PG prog w A env r' h s (fun u _ => u = .ref D)) (yi : PG prog w A env i h s (KInt (-1))) (ys : PG prog w A env st h s (fun u _ => u = .str y t2))
    (hD : h.get? D = some (listOf vs n)) (hlast : ∀ v, vs.toList.getLast? = some v → ∃ x t, v = .str x t ∧ (x == y) = false ∧ t ≠ 0 ∧ t ≠ t2) (h2 : t2 ≠ 0) (hsz : vs.size ≤ 1000)
    (hs : ∀ t, subscripted i false (.ref D) (.int (-1) t) = operate [.ref D, .int (-1) t] (getItem (.ref D) (.int (-1) t)) := by intro _; with_unfolding_all rfl) (hm : behindInMarks .IsNot st = false := by with_unfolding_all rfl)
    (he : ∀ whole : Sem Value, isTrue r env whole = (do let v ← whole; standAt r.pos; holding [v] (truthy v)) := by intro _; rfl) :
    PT prog w A env (.BoolOp .Or [.UnaryOp .Not r p1, .Compare (.Subscript r' i p2) [.IsNot] [st] p3] p4) h s true := by
  have y1 : PT prog w A env (.UnaryOp .Not r p1) h s (!!vs.toList.isEmpty) := PT.not (PT.truthyL (P := fun l => l = vs.toList) (yr.val ⟨D, vs, n, rfl, hD, rfl⟩ upQ) (fun l e => by subst e; exact ⟨by simp; omega, rfl⟩) he)
  cases hv : vs.toList.getLast? with
  | none =>
    have e : vs.toList = [] := List.getLast?_eq_none_iff.mp hv
    rw [e] at y1
    exact PT.or (b := true) y1 fun q => nomatch q
  | some v =>
    obtain ⟨x, t, rfl, hxy, ht, ht2⟩ := hlast v hv
    have e : vs.toList.isEmpty = false := by
      cases q : vs.toList with
      | nil => rw [q] at hv; cases hv
      | cons a l => rfl
    rw [e] at y1
    exact PT.or (b := true) y1 fun _ => PT.or (a := true) (b := false) (PT.cmp (c := true) (pg_last yr' yi hD hv hsz hs) ys upV (fun o j h' kk ho hj => by
      subst ho; subst hj
      exact .mk fun h tk Q E k hQ => isnot_str_ne hxy ht h2 ht2 (hQ _ _ _ kh_rfl rfl)) hm) fun q => nomatch q
end
/-- one step of it -/
theorem runT_step {pat : List Nat} {br : Nat → Option (Str × Nat)} {f i c : Nat} {rs ws : List Str} (hr : runT pat br (f + 1) i rs = some ws) (hc : pat[i]? = some c) :
    (c = 42 ∧ rs.getLast? ≠ some (Str.ofString "many") ∧ runT pat br f (i + 1) (rs ++ [Str.ofString "many"]) = some ws) ∨ (c = 63 ∧ runT pat br f (i + 1) (rs ++ [Str.ofString "any"]) = some ws) ∨
    (c = 91 ∧ ∃ x j, br i = some (x, j) ∧ pat.length = j ∧ runT pat br f j (rs ++ [x]) = some ws) ∨ (c ≠ 42 ∧ c ≠ 63 ∧ c ≠ 91 ∧ escOk c = true ∧ runT pat br f (i + 1) (rs ++ [escF c]) = some ws) := by
  unfold runT at hr
  rw [hc] at hr
  dsimp only at hr
  by_cases h1 : c = 42
  · rw [if_pos h1] at hr
    by_cases h : rs.getLast? = some (Str.ofString "many")
    · rw [if_pos h] at hr; cases hr
    · rw [if_neg h] at hr; exact .inl ⟨h1, h, hr⟩
  rw [if_neg h1] at hr
  by_cases h2 : c = 63
  · rw [if_pos h2] at hr; exact .inr (.inl ⟨h2, hr⟩)
  rw [if_neg h2] at hr
  by_cases h3 : c = 91
  · rw [if_pos h3] at hr
    cases hb : br i with
    | none => rw [hb] at hr; cases hr
    | some xj =>
      obtain ⟨x, j⟩ := xj
      rw [hb] at hr
      dsimp only at hr
      by_cases hj : pat.length = j
      · rw [if_pos hj] at hr; exact .inr (.inr (.inl ⟨h3, x, j, rfl, hj, hr⟩))
      · rw [if_neg hj] at hr; cases hr
  rw [if_neg h3] at hr
  by_cases h4 : escOk c = true
  · rw [if_pos h4] at hr; exact .inr (.inr (.inr ⟨h1, h2, h3, h4, hr⟩))
  · rw [if_neg h4] at hr; cases hr
theorem runT_end {pat : List Nat} {br : Nat → Option (Str × Nat)} {f i : Nat} {rs ws : List Str} (hr : runT pat br (f + 1) i rs = some ws) (hc : pat[i]? = none) : i = pat.length ∧ rs = ws := by
  unfold runT at hr
  rw [hc] at hr
  by_cases e : i = pat.length
  · simp only [e, if_true, Option.some.injEq] at hr
    exact ⟨e, hr⟩
  · simp only [e, if_false] at hr
    cases hr
theorem ifT {p q : Prop} {b : Bool} (hb : b = true) (h : p) : if b = true then p else q := by rw [if_pos hb]; exact h
theorem ifF {p q : Prop} {b : Bool} (hb : b = false) (h : q) : if b = true then p else q := by rw [if_neg (by rw [hb]; exact Bool.false_ne_true)]; exact h

end Mine
end
section
open PySem PySem.W PyProof.Rows PySem.Calls
set_option Elab.async false
set_option maxRecDepth 100000
set_option maxHeartbeats 4000000
set_option linter.unusedVariables false
namespace Mine
/-- the state of the outer loop -/
structure OI (gO : Heap) (L Tk : Addr) (ts : Tok) (lp : Addr) (m : Str → Option Value) (tv : List Str) (h : Heap) : Prop where
  kg : KeepsH gO h
  hn : h.Ns L m
  cn : ∃ v, h.IsCell (L + 1) v
  cp : ∃ v, h.IsCell (L + 1 + 1) v
  hT : KStrs tv (.ref Tk) h
  mf : MT ts Tk lp m
section
variable {w : World} {dp un : Nat} {gd : Option (List Code)} {fr : Option (List Env)} {s' : Shared} {Q : Flow → Shared → Prop} {E : Value → Shared → Prop} {gO gI : Heap} {L Tk lp : Addr} {m : Str → Option Value} {ts : Tok} {h h' : Heap} {wr : List Addr} {pls : List Int} {tv : List Str}
theorem OI.but (P : OI gO L Tk ts lp m tv h) {h0 : Heap} {m0 : Str → Option Value} {tv0 : List Str} (P0 : OI gO L Tk ts lp m0 tv0 h0) (hw : ∀ b ∈ wr, h0.get? b = none) (k : KeepBut wr h h') : OI gO L Tk ts lp m tv h' := by
  have nw : ∀ {b : Addr} {o : Obj}, h0.get? b = some o → b ∉ wr := fun e hb => by rw [hw _ hb] at e; cases e
  obtain ⟨o0, _, _, e0, _⟩ := P0.hn
  obtain ⟨v1, o1, e1, d1⟩ := P.cn
  obtain ⟨_, _, f1, _⟩ := P0.cn
  obtain ⟨v2, o2, e2, d2⟩ := P.cp
  obtain ⟨_, _, f2, _⟩ := P0.cp
  obtain ⟨l, ws, n, q0, e3, hs⟩ := P.hT
  cases q0
  obtain ⟨_, _, _, q, f3, _⟩ := P0.hT
  cases q
  exact ⟨fun b o e => k b o (nw (P0.kg b o e)) (P.kg b o e), P.hn.at' fun o e => k _ o (nw e0) e, ⟨v1, o1, k _ _ (nw f1) e1, d1⟩, ⟨v2, o2, k _ _ (nw f2) e2, d2⟩, ⟨_, ws, n, rfl, k _ _ (nw f3) e3, hs⟩, P.mf⟩
theorem PI.but {c2 : Addr} (P : PI gI L c2 ts Tk lp wr m pls h) {h0 : Heap} {m0 : Str → Option Value} {pls0 : List Int} {wr0 : List Addr} (P0 : PI gI L c2 ts Tk lp wr0 m0 pls0 h0) (hw : ∀ b ∈ wr, h0.get? b = none) (k : KeepBut wr h h') : PI gI L c2 ts Tk lp wr m pls h' := by
  have nw : ∀ {b : Addr} {o : Obj}, h0.get? b = some o → b ∉ wr := fun e hb => by rw [hw _ hb] at e; cases e
  obtain ⟨o0, _, _, e0, _⟩ := P0.hn
  obtain ⟨v1, o1, e1, d1⟩ := P.ce
  obtain ⟨_, _, f1, _⟩ := P0.ce
  obtain ⟨pl, a, b, c, d, l, ws, n, q, e3, hs⟩ := P.hp
  cases q
  exact ⟨fun b o e => k b o (nw (P0.kg b o e)) (P.kg b o e), P.hn.at' fun o e => k _ o (nw e0) e, ⟨v1, o1, k _ _ (nw f1) e1, d1⟩, ⟨_, a, b, c, d, _, ws, n, rfl, k _ _ b e3, hs⟩, P.mf⟩
/-- all parts against one name -/
theorem parts_loop {px py pos : Pos} {vsp : Array Value} {np : Nat} {ws : List Str} {nm : Str} {tn : Tok} {tk : Nat} {sg : Str → Str → Bool} (hE : PassesOwn (model PySem.Challenge.rw_in0044_01.row.prog w) ((AA dp un gd fr).deeper (tkEnv L)) (tkEnv L) E)
   (G : Gl w gI) (hsg : ∀ x ∈ ws, x ≠ Str.ofString "many" → SignC w x (sg x)) (hlp : gI.get? lp = some (listOf vsp np)) (hws : StrsAre vsp.toList ws) (hw1 : ws.length ≤ 1000) (cn : gI.IsCell (L + 1) (some (.str nm tn))) (hnm : nm.length ≤ 20) (gL : gI.get? L = none) (gc : gI.get? (L + 1 + 1) = none) (hL2 : L + 1 + 1 ≠ L)
   (P : PI gI L (L + 1 + 1) ts Tk lp [] m [0] h) (hdp : dp + 5 < recursionLimit) (hun : un + 200 < cLine)
   (hQ : ∀ m' h' tk', PI gI L (L + 1 + 1) ts Tk lp [] m' (ws.foldl (stepP sg nm) [0]) h' → Q .next { s' with heap := h', toks := tk' }) :
   wpAny (model PySem.Challenge.rw_in0044_01.row.prog w) ((AA dp un gd fr).deeper (tkEnv L)) (exec (.For (.Name (Str.ofString "part") px) (.Name (Str.ofString "parts") py) tkPart [] pos) (tkEnv L)) Q E { s' with heap := h, toks := tk } := by
  refine gforC (hE := hE) ((PG.name P.hn P.mf.pa).run h tk _ _ kh_rfl fun v h1 tk1 k1 hv => ?_)
  subst hv
  have P1 := P.keep k1
  obtain ⟨oL, _, _, eL, _⟩ := id P1.hn
  obtain ⟨_, oc, ec, _⟩ := id P1.ce
  have weak : ∀ {wr : List Addr} {m : Str → Option Value} {pls h}, PI gI L (L + 1 + 1) ts Tk lp wr m pls h → PI gI L (L + 1 + 1) ts Tk lp [] m pls h := fun P => ⟨P.kg, P.hn, P.ce, let ⟨pl, a, _, c, d, e⟩ := P.hp; ⟨pl, a, List.not_mem_nil, c, d, e⟩, P.mf⟩
  refine ⟨Str, ws, fun _ v x => ∃ t, v = .str x t, gI, [L, L + 1 + 1], fun wr k s'' => (∀ b ∈ wr, h1.get? b = none) ∧ (∃ h tk, s'' = { s' with heap := h, toks := tk }) ∧ ∃ m, PI gI L (L + 1 + 1) ts Tk lp wr m ((ws.take k).foldl (stepP sg nm) [0]) s''.heap, L + 1 + 1, rfl, Src.list rfl (isLA hlp) P1.kg (strs_paired hws) hw1, P1.kg, .tail _ (.head _), fun b hb => ?_, fun wr h tk hw k => ?_, fun wr k s'' h tk I kb => ?_, fun wr k s'' I => ?_, ?_, fun wr s'' hw I => ?_⟩
  · rcases List.mem_cons.mp hb with rfl | hb
    · exact ⟨gL, oL, eL⟩
    · rw [List.mem_singleton.mp hb]; exact ⟨gc, oc, ec⟩
  · refine ⟨hw, ⟨h, tk, rfl⟩, m, ?_⟩
    have P2 := P1.keep k
    obtain ⟨pl, a, _, c, d, e⟩ := P2.hp
    refine ⟨P2.kg, P2.hn, P2.ce, ⟨pl, a, fun hm => ?_, c, d, e⟩, P2.mf⟩
    obtain ⟨pl1, a1, _, _, _, l, ws1, n1, q1, e1, _⟩ := P1.hp
    cases q1
    rw [a] at a1; cases a1
    have e1' : h1.get? pl = some (listOf ws1 n1) := e1
    rw [hw _ hm] at e1'; cases e1'
  · obtain ⟨hw, ⟨h2, tk2, rfl⟩, m2, P2⟩ := I
    exact ⟨hw, ⟨h, tk, rfl⟩, m2, P2.but P1 hw kb⟩
  · obtain ⟨_, _, _, P2⟩ := I; exact P2.ce
  · rintro wr k part v _ h2 tk2 hw hp ⟨tp, rfl⟩ ⟨_, ⟨h3, tk3, rfl⟩, m3, P3⟩ hc2 kc hwe
    have hmem := List.mem_of_getElem? hp
    have P4 : PI gI L (L + 1 + 1) ts Tk lp wr m3 ((ws.take k).foldl (stepP sg nm) [0]) h2 := by
      obtain ⟨pl, a, b, c, d, l, ws1, n1, q1, e1, hi1⟩ := P3.hp
      cases q1
      exact ⟨fun b o e => kc b o (fun q => by rw [q, gc] at e; cases e) (P3.kg b o e), P3.hn.at' fun o e => kc _ o (Ne.symm hL2) e, ⟨_, hc2⟩, ⟨_, a, b, c, d, _, ws1, n1, rfl, kc _ _ d e1, hi1⟩, P3.mf⟩
    refine part_turn G (hsg part hmem) cn hnm gL gc hL2 P4 hc2 hwe (foldP_in _ _ (by intro p hp; rw [List.mem_singleton.mp hp]; omega)) (foldP_len hnm _ _ (by intro p hp; rw [List.mem_singleton.mp hp]; omega) (by simp)) hdp hun fun m' h' tk' P5 k5 => ?_
    refine ⟨fun b o hb e => k5 b o (fun q => hb (by simp [q])) e, hw, ⟨h', tk', rfl⟩, m', ?_⟩
    rw [take_foldl _ _ hp]
    exact P5
  · obtain ⟨_, ⟨h2, tk2, rfl⟩, m2, P2⟩ := I
    rw [List.take_length] at P2
    exact hQ m2 h2 tk2 (weak P2)
end

end Mine
end
section
open PySem PySem.W PyProof.Rows PySem.Calls
set_option Elab.async false
set_option maxRecDepth 100000
set_option maxHeartbeats 4000000
set_option linter.unusedVariables false
namespace Mine
section
variable {w : World} {dp un : Nat} {gd : Option (List Code)} {fr : Option (List Env)} {s' : Shared} {Q : Flow → Shared → Prop} {E : Value → Shared → Prop} {gO gI : Heap} {L Tk lp ln : Addr} {m : Str → Option Value} {ts : Tok} {h h' : Heap} {tv : List Str}
/-- one name against all parts -/
theorem name_turn {vsp : Array Value} {np : Nat} {ws : List Str} {nm : Str} {tn : Tok} {tk : Nat} {sg : Str → Str → Bool} (hE : PassesOwn (model PySem.Challenge.rw_in0044_01.row.prog w) ((AA dp un gd fr).deeper (tkEnv L)) (tkEnv L) E)
   (G : Gl w gO) (hsg : ∀ x ∈ ws, x ≠ Str.ofString "many" → SignC w x (sg x)) (hlp : gO.get? lp = some (listOf vsp np)) (hws : StrsAre vsp.toList ws) (hw1 : ws.length ≤ 1000) (hnm : nm.length ≤ 20) (gL : gO.get? L = none) (gc : gO.get? (L + 1 + 1) = none) (gT : gO.get? Tk = none) (hL1 : L + 1 ≠ L) (hL2 : L + 1 + 1 ≠ L) (hL3 : L + 1 ≠ L + 1 + 1) (hT0 : Tk ≠ L) (hT1 : Tk ≠ L + 1) (hT2 : Tk ≠ L + 1 + 1)
   (P : OI gO L Tk ts lp m tv h) (hcn : h.IsCell (L + 1) (some (.str nm tn))) (htv : tv.length ≤ 1000) (hdp : dp + 5 < recursionLimit) (hun : un + 200 < cLine)
   (hQ : ∀ m' h' tk', OI gO L Tk ts lp m' (tv ++ (if takenF sg ws nm then [nm] else [])) h' → KeepBut [L, L + 1 + 1, Tk] h h' → Q .next { s' with heap := h', toks := tk' }) :
   wpAny (model PySem.Challenge.rw_in0044_01.row.prog w) ((AA dp un gd fr).deeper (tkEnv L)) (execs tkFor (tkEnv L)) Q E { s' with heap := h, toks := tk } := by
  refine wpAny_execs_cons (asg_pure (s := { s' with heap := h, toks := tk }) (h₀ := h) (K := KNew h (KInts [0])) (PG.intList [(0, _)] rfl rfl (by decide)) kh_rfl P.hn ?_)
  rintro v h1 h2 tk2 k1 ⟨⟨pl, ws0, n0, rfl, e0, hi0⟩, _, q0, hn0⟩ k2 hn2
  cases q0
  have ne : ∀ {b : Addr}, (∃ o, h.get? b = some o) → pl ≠ b := fun ⟨o, e⟩ q => by rw [← q, hn0] at e; cases e
  have hpL : pl ≠ L := by obtain ⟨o, _, _, e, _⟩ := P.hn; exact ne ⟨o, e⟩
  have hpc : pl ≠ L + 1 + 1 := by obtain ⟨_, o, e, _⟩ := P.cp; exact ne ⟨o, e⟩
  have k02 : ∀ b o, b ≠ L → h.get? b = some o → h2.get? b = some o := fun b o hb e => k2 b o hb (k1 _ _ e)
  have kP2 : KInts [0] (.ref pl) h2 := ⟨pl, ws0, n0, rfl, k2 _ _ hpL e0, hi0⟩
  have cn2 : h2.IsCell (L + 1) (some (.str nm tn)) := by obtain ⟨o, e, d⟩ := hcn; exact ⟨o, k02 _ _ hL1 e, d⟩
  have cp2 : ∃ v, h2.IsCell (L + 1 + 1) v := by obtain ⟨v, o, e, d⟩ := P.cp; exact ⟨v, o, k02 _ _ hL2 e, d⟩
  generalize hg : hideAll h2 [L, L + 1 + 1] = gI
  have gkh : KeepsH gI h2 := fun b o e => of_hideAll _ (hg ▸ e)
  have gk : ∀ b o, b ≠ L → b ≠ L + 1 + 1 → h2.get? b = some o → gI.get? b = some o := fun b o hb hb' e => hg ▸ hideAll_get _ e (by simp [hb, hb'])
  have gOI : KeepsH gO gI := fun b o e => gk b o (fun q => by rw [q, gL] at e; cases e) (fun q => by rw [q, gc] at e; cases e) (k02 b o (fun q => by rw [q, gL] at e; cases e) (P.kg b o e))
  have cnI : gI.IsCell (L + 1) (some (.str nm tn)) := by obtain ⟨o, e, d⟩ := cn2; exact ⟨o, gk _ _ hL1 hL3 e, d⟩
  obtain ⟨lT, wsT, nT, qT, eT, hsT⟩ := P.hT
  cases qT
  have eTI : gI.get? Tk = some (listOf wsT nT) := gk _ _ hT0 hT2 (k02 _ _ hT0 eT)
  have GI := G.up gOI
  refine wpAny_execs_cons (parts_loop hE GI hsg (gOI _ _ hlp) hws hw1 cnI hnm (hg ▸ hideAll_none _ (.head _)) (hg ▸ hideAll_none _ (.tail _ (.head _))) hL2 ⟨gkh, hn2, cp2, ⟨pl, rfl, List.not_mem_nil, hpL, hpc, kP2⟩, P.mf.set⟩ hdp hun fun m3 h3 tk3 P3 => ?_)
  obtain ⟨pl3, mpl, _, _, _, kpl⟩ := P3.hp
  have hkeep : ∀ {h4 : Heap}, KeepsH h3 h4 → KeepBut [L, L + 1 + 1, Tk] h h4 := fun k b o hb e => by
    simp only [List.mem_cons, List.not_mem_nil, or_false, not_or] at hb
    exact k _ _ (P3.kg _ _ (gk b o hb.1 hb.2.1 (k02 b o hb.1 e)))
  refine wpAny_execs_cons (wpAny_If ((PT.inI (PG.lenS (GI.up P3.kg) (PG.cellK (isCell_up cnI P3.kg) ⟨tn, rfl⟩ (upS (x := nm))) (by omega)) (PG.nameK P3.hn mpl kpl upIs) (c := takenF sg ws nm) (any_contains _ _)).run h3 tk3 _ _ kh_rfl fun h4 tk4 k4 => ?_))
  have P4 := P3.keep k4
  have e4 : h4.get? Tk = some (listOf wsT nT) := P4.kg _ _ eTI
  cases htk : takenF sg ws nm with
  | false =>
    simp only [Bool.false_eq_true, if_false]
    refine wpAny_execs_nil (wpAny_execs_nil (hQ m3 h4 tk4 ⟨kh_tr gOI P4.kg, P4.hn, ⟨_, isCell_up cnI P4.kg⟩, P4.ce, ?_, P4.mf⟩ (hkeep k4)))
    rw [htk, if_neg Bool.false_ne_true, List.append_nil]
    exact ⟨Tk, wsT, nT, rfl, e4, hsT⟩
  | true =>
    simp only [if_true]
    have hwl : wsT.size ≤ 1000 := by have := hsT.length; simp only [Array.length_toList] at this; omega
    refine wpAny_execs_cons (append_stmt _ (PG.name P4.hn P4.mf.tk) ⟨nT, e4⟩ (PG.cellK (isCell_up cnI P4.kg) ⟨tn, rfl⟩ (upS (x := nm))) (by rw [PySem.sizeLine_eq]; omega) fun v h5 h6 tk6 k5 hv ⟨n6, e6⟩ k6 => ?_)
    obtain ⟨t6, rfl⟩ := hv
    have P5 := P4.keep k5
    refine wpAny_execs_nil (wpAny_execs_nil (hQ m3 h6 tk6 ⟨fun b o e => k6 b o (fun q => by rw [q, gT] at e; cases e) (P5.kg _ _ (gOI _ _ e)), P5.hn.at' fun o e => k6 _ o (Ne.symm hT0) e, ?_, ?_, ?_, P5.mf⟩ fun b o hb e => k6 b o (fun q => hb (by simp [q])) (hkeep (kh_tr k4 k5) b o hb e)))
    · obtain ⟨o, e, d⟩ := isCell_up cnI P5.kg; exact ⟨_, o, k6 _ _ (Ne.symm hT1) e, d⟩
    · obtain ⟨v, o, e, d⟩ := P5.ce; exact ⟨v, o, k6 _ _ (Ne.symm hT2) e, d⟩
    · rw [htk, if_pos rfl]
      exact ⟨Tk, _, n6, rfl, e6, by rw [Array.toList_push]; exact strsAre_snoc hsT nm t6⟩
/-- all names -/
theorem names_loop {px py pos : Pos} {vsp vn : Array Value} {np nn : Nat} {ws ns : List Str} {tk : Nat} {sg : Str → Str → Bool} (hE : PassesOwn (model PySem.Challenge.rw_in0044_01.row.prog w) ((AA dp un gd fr).deeper (tkEnv L)) (tkEnv L) E)
   (G : Gl w gO) (hsg : ∀ x ∈ ws, x ≠ Str.ofString "many" → SignC w x (sg x)) (hlp : gO.get? lp = some (listOf vsp np)) (hws : StrsAre vsp.toList ws) (hw1 : ws.length ≤ 1000) (hln : gO.get? ln = some (listOf vn nn)) (hns : StrsAre vn.toList ns) (hn64 : ns.length ≤ 64) (hnm : ∀ x ∈ ns, x.length ≤ 20)
   (gL : gO.get? L = none) (gn : gO.get? (L + 1) = none) (gc : gO.get? (L + 1 + 1) = none) (gT : gO.get? Tk = none) (hL1 : L + 1 ≠ L) (hL2 : L + 1 + 1 ≠ L) (hL3 : L + 1 ≠ L + 1 + 1) (hT0 : Tk ≠ L) (hT1 : Tk ≠ L + 1) (hT2 : Tk ≠ L + 1 + 1)
   (P : OI gO L Tk ts lp m [] h) (hm : m (Str.ofString "names") = some (.ref ln)) (hdp : dp + 5 < recursionLimit) (hun : un + 200 < cLine)
   (hQ : ∀ m' h' tk', OI gO L Tk ts lp m' (ns.filter (takenF sg ws)) h' → Q .next { s' with heap := h', toks := tk' }) :
   wpAny (model PySem.Challenge.rw_in0044_01.row.prog w) ((AA dp un gd fr).deeper (tkEnv L)) (exec (.For (.Name (Str.ofString "name") px) (.Name (Str.ofString "names") py) tkFor [] pos) (tkEnv L)) Q E { s' with heap := h, toks := tk } := by
  refine gforC (hE := hE) ((PG.name P.hn hm).run h tk _ _ kh_rfl fun v h1 tk1 k1 hv => ?_)
  subst hv
  have P1 : OI gO L Tk ts lp m [] h1 := P.but (wr := []) P (fun b hb => nomatch hb) fun b o _ e => k1 b o e
  obtain ⟨oL, _, _, eL, _⟩ := id P1.hn
  obtain ⟨_, oc, ec, _⟩ := id P1.cn
  obtain ⟨_, op, ep, _⟩ := id P1.cp
  obtain ⟨_, wT, nT, qT, eT, _⟩ := id P1.hT
  cases qT
  refine ⟨Str, ns, fun _ v x => ∃ t, v = .str x t, gO, [L + 1, L, L + 1 + 1, Tk], fun wr k s'' => (∃ h tk, s'' = { s' with heap := h, toks := tk }) ∧ (∀ b ∈ wr, h1.get? b = none) ∧ ∃ m, OI gO L Tk ts lp m ((ns.take k).filter (takenF sg ws)) s''.heap, L + 1, rfl, Src.list rfl (isLA hln) P1.kg (strs_paired hns) (by omega), P1.kg, .head _, fun b hb => ?_, fun wr h tk hw k => ?_, fun wr k s'' h tk I kb => ?_, fun wr k s'' I => ?_, ?_, fun wr s'' hw I => ?_⟩
  · simp only [List.mem_cons, List.not_mem_nil, or_false] at hb
    rcases hb with rfl | rfl | rfl | rfl
    · exact ⟨gn, oc, ec⟩
    · exact ⟨gL, oL, eL⟩
    · exact ⟨gc, op, ep⟩
    · exact ⟨gT, _, eT⟩
  · exact ⟨⟨h, tk, rfl⟩, hw, m, P1.but P1 hw fun b o _ e => k b o e⟩
  · obtain ⟨⟨h2, tk2, rfl⟩, hw, m2, P2⟩ := I
    exact ⟨⟨h, tk, rfl⟩, hw, m2, P2.but P1 hw kb⟩
  · obtain ⟨_, _, _, P2⟩ := I; exact P2.cn
  · rintro wr k nm v _ h2 tk2 hw hp ⟨tn, rfl⟩ ⟨⟨h3, tk3, rfl⟩, _, m3, P3⟩ hc2 kc _
    have P4 : OI gO L Tk ts lp m3 ((ns.take k).filter (takenF sg ws)) h2 := by
      obtain ⟨l, wT, nT, qT, eT, hsT⟩ := P3.hT
      cases qT
      obtain ⟨v, o, e, d⟩ := P3.cp
      exact ⟨fun b o e => kc b o (fun q => by rw [q, gn] at e; cases e) (P3.kg b o e), P3.hn.at' fun o e => kc _ o (Ne.symm hL1) e, ⟨_, hc2⟩, ⟨v, o, kc _ _ (Ne.symm hL3) e, d⟩, ⟨_, wT, nT, rfl, kc _ _ hT1 eT, hsT⟩, P3.mf⟩
    refine name_turn hE G hsg hlp hws hw1 (hnm nm (List.mem_of_getElem? hp)) gL gc gT hL1 hL2 hL3 hT0 hT1 hT2 P4 hc2 (by have := List.length_filter_le (takenF sg ws) (ns.take k); have := List.length_take_le' k ns; omega) hdp hun fun m' h' tk' P5 k5 => ?_
    refine ⟨fun b o hb e => k5 b o (fun q => hb (by simp only [List.mem_cons, List.not_mem_nil, or_false] at q ⊢; exact .inr q)) e, ⟨h', tk', rfl⟩, hw, m', ?_⟩
    rw [take_filter _ hp]
    exact P5
  · obtain ⟨⟨h2, tk2, rfl⟩, _, m2, P2⟩ := I
    rw [List.take_length] at P2
    exact hQ m2 h2 tk2 P2
end

end Mine
end
section
open PySem PySem.W PyProof.Rows PySem.Calls
set_option Elab.async false
set_option maxRecDepth 100000
set_option maxHeartbeats 4000000
set_option linter.unusedVariables false
namespace Mine
theorem f_76 {w : World} : nsIn (hd.heap_39 w.params) mainGlobals (Str.ofString "_translate") = some (some (.ref 76)) := by k_is
theorem o_76 {w : World} {h₀ : Heap} (G : Gl w h₀) : IsFn 76 h₀ := by obtain ⟨l, m, mg, mb, X, T⟩ := G; exact ⟨_, _, X _ _ (by k_is), rfl⟩
theorem taken_spec (w : World) (dp un : Nat) (gd : Option (List Code)) (fr : Option (List Env)) (s : Shared) (Q E : Value → Shared → Prop)
   (loose : List Str) (mean : ExcName → Option Value) (mg mb : Str → Option Value) (t1 : Tok) (g₀ : Heap) (ps : Array Value) (pat : Str) (ws : List Str) (ln : Addr) (vn : Array Value) (nn : Nat) (ns : List Str)
   (X₀ : (hd.heap_39 w.params).In g₀) (T₀ : Top topProg loose mean mg mb g₀) (C₀ : CodeHd g₀ 75 71) (k₀ : KeepsH g₀ s.heap) (g71₀ : g₀.get? 71 = none) (h71 : s.heap.get? 71 = some (tabObj ps)) (hT : TriplesOk ps.toList) (hB : AllBare s.gens)
   (hdp : dp + 5 < recursionLimit) (hun : un + 200 < cLine) (R : TrC w pat ws)
   (hln : s.heap.get? ln = some (listOf vn nn)) (hns : StrsAre vn.toList ns)
   (sg : Str → Str → Bool) (hsg : ∀ x ∈ ws, x ≠ Str.ofString "many" → SignC w x (sg x)) (hn64 : ns.length ≤ 64) (hlen : ∀ x ∈ ns, x.length ≤ 20) (hws1 : ws.length ≤ 1000)
   (hret : ∀ l s', TrR s s' l (ns.filter (takenF sg ws)) → Q (.ref l) s') :
   wpAny (model PySem.Challenge.rw_in0044_01.row.prog w) (AA dp un gd fr) (call (.ref 123) [.str pat t1, .ref ln]) Q E s := by
  obtain ⟨g, X, T, C, k0, hsz, g71, kg, hgs⟩ := tab_base X₀ T₀ C₀ k₀ g71₀
  clear X₀ T₀ C₀ k₀ g71₀
  have G : Gl w g := ⟨loose, mean, mg, mb, X, T⟩
  k_dflt (refine' enter_cells2 (led := []) ?k3 ?k5 ?ka ?kb ?kc ?k6 ?k7 ?k8 ?k9 ?kB ?hnd ?_ ?c2 ?c3 ?c4; (case k3 => exact X); (case k5 => exact T); (case ka => exact k0); (case kb => exact hsz); (case kc => exact (fun q hq => nomatch hq)); (case k6 => k_is); (case k7 => k_is); (case k8 => ktr_room); (case k9 => exact BindsTo.of_eq rfl); (case kB => exact rfl); (case hnd => decide); (case c2 => exact rfl); (case c3 => exact rfl); (case c4 => exact rfl); k_whole; intro L h1 tk1 cells F1 N1 Y eL kk htk')
  have htk : @LE.le Nat _ (s.toks + 1) tk1 := htk'.2 ⟨_, .head _, rfl⟩
  obtain ⟨o1, o2, rfl, d1, d2⟩ := CellsAre.two Y
  have e1 := (N1 _ (.head _)).1
  have e2 := (N1 _ (.tail _ (.head _))).1
  have sN : ∀ b, s.heap.objs.size ≤ b → s.heap.get? b = none := fun b hb => Heap.get?_none_of_le hb
  have sL : s.heap.get? L = none := sN _ (Nat.le_of_eq eL.symm)
  have sL1 : s.heap.get? (L + 1) = none := sN _ (by rw [← eL]; exact Nat.le_succ _)
  have sL2 : s.heap.get? (L + 1 + 1) = none := sN _ (by rw [← eL]; exact Nat.le_succ_of_le (Nat.le_succ _))
  have hL1 : L + 1 ≠ L := neN (by omega)
  have hL2 : L + 1 + 1 ≠ L := neN (by omega)
  have hL3 : L + 1 ≠ L + 1 + 1 := neN (by omega)
  have lt : ∀ {b c : Addr} {o : Obj}, s.heap.get? b = some o → s.heap.get? c = none → b ≠ c := fun e n q => by rw [q, n] at e; cases e
  have hn1 := F1.ns
  clear N1 htk' F1 hsz
  -- star = 'many'
  refine wpAny_execs_cons (wpAny_Assign_Name (wpAny_Constant_str ?_))
  show wpAny _ _ (storeName _ _ _) _ _ _
  refine wpAny_storeName_local rfl hn1 (fun h2 hn2 hs2 => ?_) rfl
  have k2 : ∀ b o, b ≠ L → h1.get? b = some o → h2.get? b = some o := fun b o hb e => hs2.extBut b o hb e
  have sk2 : KeepsH s.heap h2 := fun b o e => k2 b o (lt e sL) (kk _ _ e)
  have e12 := k2 _ _ hL2 e1
  have e22 := k2 _ _ hL1 e2
  clear e1 e2 hs2 k2 hn1
  -- parts = _translate(pattern, star, 'any')
  refine wpAny_execs_cons (wpAny_Assign_Name (Call_ ((PG.pk (T0 := tk1 + 1) (Gl.fn (G.up (kh_tr k0 sk2)) f_76)).run h2 _ _ _ kh_rfl (Nat.le_succ _) fun v h3 tk3 k3 le3 hv => ?_)))
  subst hv
  obtain ⟨o76, fd76, e76, d76⟩ := o_76 (G.up (kh_tr k0 (kh_tr sk2 k3)))
  refine callWith_def_at e76 d76 (spliced_more ((PG.pk (T0 := tk1 + 1) (PG.name (hn2.keeps k3) rfl)).run h3 tk3 _ _ kh_rfl le3 fun v h4 tk4 k4 le4 hv => ?_))
  subst hv
  refine spliced_more ((PG.pk (T0 := tk1 + 1) (PG.name ((hn2.keeps k3).keeps k4) rfl)).run h4 tk4 _ _ kh_rfl le4 fun v h5 tk5 k5 le5 hv => ?_)
  subst hv
  refine spliced_more (wpAny_Constant_str (spliced_none ⟨k5 _ _ (k4 _ _ e76), ?_⟩))
  have hn5 := ((hn2.keeps k3).keeps k4).keeps k5
  have k25 := kh_tr k3 (kh_tr k4 k5)
  have sk5 := kh_tr sk2 k25
  have e15 := k25 _ _ e12
  have e25 := k25 _ _ e22
  clear e76 d76 k25 k5 k4 k3 e12 e22 hn2 sk2 le3 le4
  refine R _ _ _ _ _ _ _ loose mean mg mb t1 tk1 _ g ps X T C (kh_tr k0 sk5) g71 (sk5 _ _ h71) hT hB (by show dp + 1 + 3 < recursionLimit; omega) (by show un + 3 + 30 < cLine; omega) (Nat.lt_of_lt_of_le (Nat.succ_pos _) htk) (Nat.lt_of_lt_of_le (Nat.lt_succ_self _) le5) (Nat.lt_succ_self _) fun lp s6 r => ?_
  show wpAny _ _ (storeName _ _ _) _ _ _
  have l71 := lt h71 sL
  have hn6 := hn5.at' fun o e => r.kb _ o (Ne.symm l71) e
  refine wpAny_storeName_local rfl hn6 (fun h7 hn7 hs7 => ?_) rfl
  obtain ⟨psp, htab, hTp⟩ := r.tab
  obtain ⟨vsp, np, hlp, hws⟩ := r.lst
  have nlp : ∀ {b : Addr} {o : Obj}, h5.get? b = some o → lp ≠ b := fun e q => by have := r.new; rw [q] at this; exact absurd (e.symm.trans this) (by simp)
  have hlpL : lp ≠ L := by obtain ⟨o, _, _, e, _⟩ := hn5; exact nlp e
  have k57 : ∀ b o, b ≠ 71 → b ≠ L → h5.get? b = some o → h7.get? b = some o := fun b o h1 h2 e => hs7.extBut b o h2 (r.kb b o h1 e)
  have e17 := k57 _ _ (Ne.symm (lt h71 sL2)) hL2 e15
  have e27 := k57 _ _ (Ne.symm (lt h71 sL1)) hL1 e25
  have htab7 := hs7.extBut _ _ l71 htab
  have hlp7 := hs7.extBut _ _ hlpL hlp
  have sk7 : ∀ b o, b ≠ 71 → s.heap.get? b = some o → h7.get? b = some o := fun b o hb e => k57 b o hb (lt e sL) (sk5 _ _ e)
  have hlp1 : lp ≠ L + 1 := nlp e25
  have hlp2 : lp ≠ L + 1 + 1 := nlp e15
  clear hs7 k57 hn6 hlp htab e15 e25 hn5 sk5
  -- taken = []
  refine wpAny_execs_cons (asg_pure (s := { s6 with heap := h7, toks := s6.toks + 1 }) (h₀ := h7) PG.emptyList kh_rfl hn7 ?_)
  rintro v h8 h9 tk9 k8 ⟨Tk, rfl, hTn, c8, hT8⟩ k9 hn9
  have nT : ∀ {b : Addr} {o : Obj}, h7.get? b = some o → Tk ≠ b := fun e q => by rw [← q, hTn] at e; cases e
  have hT0 : Tk ≠ L := by obtain ⟨o, _, _, e, _⟩ := hn7; exact nT e
  have k79 : ∀ b o, b ≠ L → h7.get? b = some o → h9.get? b = some o := fun b o hb e => k9 b o hb (k8 _ _ e)
  have hl71 : ln ≠ 71 := fun e => by rw [e, h71] at hln; cases hln
  generalize hg : hideAll h9 [L, L + 1, L + 1 + 1, Tk] = gO
  have gkh : KeepsH gO h9 := fun b o e => of_hideAll _ (hg ▸ e)
  have gk : ∀ b o, b ≠ L → b ≠ L + 1 → b ≠ L + 1 + 1 → b ≠ Tk → h9.get? b = some o → gO.get? b = some o := fun b o a1 a2 a3 a4 e => hg ▸ hideAll_get _ e (by simp [a1, a2, a3, a4])
  have sO : ∀ b o, b ≠ 71 → s.heap.get? b = some o → gO.get? b = some o := fun b o hb e => gk b o (lt e sL) (lt e sL1) (lt e sL2) (Ne.symm (nT (sk7 b o hb e))) (k79 b o (lt e sL) (sk7 b o hb e))
  have tO : gO.get? 71 = some (tabObj psp) := gk _ _ l71 (lt h71 sL1) (lt h71 sL2) (Ne.symm (nT htab7)) (k79 _ _ l71 htab7)
  have gO' : KeepsH g gO := fun b o e => sO b o (fun q => by rw [q, g71] at e; cases e) (k0 b o e)
  have hlpO : gO.get? lp = some (listOf vsp np) := gk _ _ hlpL hlp1 hlp2 (Ne.symm (nT hlp7)) (k79 _ _ hlpL hlp7)
  have hn0 : ∀ b ∈ [L, L + 1, L + 1 + 1, Tk], gO.get? b = none := fun b hb => hg ▸ hideAll_none _ hb
  refine wpAny_execs_cons (names_loop (s' := s6) (tk := tk9) (by passes_own) (G.up gO') hsg hlpO hws hws1 (sO _ _ hl71 hln) hns hn64 hlen (hn0 _ (by simp)) (hn0 _ (by simp)) (hn0 _ (by simp)) (hn0 _ (by simp)) hL1 hL2 hL3 hT0 (nT e27) (nT e17)
    ⟨gkh, hn9, ⟨_, o2, k79 _ _ hL1 e27, d2⟩, ⟨_, o1, k79 _ _ hL2 e17, d1⟩, ⟨Tk, #[], c8, rfl, k9 _ _ hT0 hT8, .nil⟩, ⟨rfl, rfl, rfl⟩⟩ rfl hdp hun fun m' h' tk' P => ?_)
  refine wpAny_execs_cons (wpAny_Return_some ((PG.name P.hn P.mf.tk).run h' tk' _ _ kh_rfl fun v h10 tk10 k10 hv => ?_))
  subst hv
  obtain ⟨lT, wT, nT', qT, eT, hsT⟩ := P.hT
  cases qT
  refine hret Tk _ ⟨fun b o hb e => k10 _ _ (P.kg _ _ (sO b o hb e)), ⟨psp, k10 _ _ (P.kg _ _ tO), hTp⟩, r.bare, r.os, ⟨wT, nT', k10 _ _ eT, hsT⟩, ?_, ?_⟩
  · cases e : s.heap.get? Tk with
    | none => rfl
    | some o =>
      exact absurd rfl (nT (sk7 Tk o (nT htab7) e))
  · obtain ⟨o, _, _, e, _⟩ := P.hn
    rw [← eL]
    exact Nat.le_of_lt (Heap.lt_size (k10 _ _ e))

end Mine
end
section
open PySem PySem.W PyProof.Rows PySem.Calls
set_option Elab.async false
set_option maxRecDepth 100000
set_option maxHeartbeats 4000000
set_option linter.unusedVariables false
namespace Mine
section
variable {prog : Program} {w : World} {A : Around} {env : Env} {h₀ : Heap} {s : Shared}
theorem if_ret {test e : Expr} {rest : List Stmt} {p q : Pos} {b : Bool} {K : Value → Heap → Prop} {Q : Flow → Shared → Prop} {E : Value → Shared → Prop} {tk : Nat} (x : PT prog w A env test h₀ s b) (y : b = true → PG prog w A env e h₀ s K)
    (hQ : b = true → ∀ v h' tk', KeepsH h₀ h' → K v h' → Q (.ret v) { s with heap := h', toks := tk' }) (hN : b = false → ∀ h' tk', KeepsH h₀ h' → wpAny (model prog w) A (execs rest env) Q E { s with heap := h', toks := tk' }) :
    wpAny (model prog w) A (execs (.If test [.Return (some e) p] [] q :: rest) env) Q E { s with heap := h₀, toks := tk } :=
  wpAny_execs_cons (wpAny_If (x.run h₀ tk _ E kh_rfl fun h₁ tk₁ k₁ => by
    cases b with
    | true => exact wpAny_execs_cons (wpAny_Return_some ((y rfl).run h₁ tk₁ _ E k₁ fun v h₂ tk₂ k₂ kv => hQ rfl v h₂ tk₂ (kh_tr k₁ k₂) kv))
    | false => exact wpAny_execs_nil (hN rfl h₁ tk₁ k₁)))
theorem PG.andV {e e' : Expr} {p : Pos} {a b : Bool} (x : PG prog w A env e h₀ s (KBool a)) (y : PG prog w A env e' h₀ s (KBool b)) : PG prog w A env (.BoolOp .And [e, e'] p) h₀ s (KBool (a && b)) :=
  .mk fun h tk Q E k hQ => BoolOp_and (x.run h tk _ E k fun v h2 tk2 k2 kv => by
    obtain rfl : v = .bool a := kv
    refine wpAny_truthy_bool ?_
    cases a with
    | true => exact BoolOp_one (y.run h2 tk2 _ E (kh_tr k k2) fun v' h3 tk3 k3 kv' => hQ v' h3 tk3 (kh_tr k2 k3) (kv'.trans (by simp)))
    | false => exact hQ _ _ _ k2 rfl)
theorem PG.orV {e e' : Expr} {p : Pos} {a b : Bool} (x : PG prog w A env e h₀ s (KBool a)) (y : PG prog w A env e' h₀ s (KBool b)) : PG prog w A env (.BoolOp .Or [e, e'] p) h₀ s (KBool (a || b)) :=
  .mk fun h tk Q E k hQ => BoolOp_or (x.run h tk _ E k fun v h2 tk2 k2 kv => by
    obtain rfl : v = .bool a := kv
    refine wpAny_truthy_bool ?_
    cases a with
    | false => exact BoolOp_one (y.run h2 tk2 _ E (kh_tr k k2) fun v' h3 tk3 k3 kv' => hQ v' h3 tk3 (kh_tr k2 k3) (kv'.trans (by simp)))
    | true => exact hQ _ _ _ k2 rfl)
theorem PG.eqOpt {a b : Expr} {p : Pos} {e : Option Str} {y : Str} (u : PG prog w A env a h₀ s (fun v _ => OptIs e v)) (v : PG prog w A env b h₀ s (KStr y)) (hm : behindInMarks .Eq b = false := by with_unfolding_all rfl) : PG prog w A env (.Compare a [.Eq] [b] p) h₀ s (KBool (e == some y)) :=
  PG.cmp u v (fun _ _ _ _ q => q) (fun o j h' k ho hj => by
    obtain ⟨t, rfl⟩ := hj
    cases e with
    | none => obtain rfl : o = .none := ho; exact .mk fun h tk Q E k hQ => PySem.EqNone.eq_none_str (hQ _ _ _ kh_rfl rfl)
    | some x => obtain ⟨t', rfl⟩ := ho; exact (ps_eqStr ⟨t', rfl⟩ ⟨t, rfl⟩).imp fun _ _ _ q => q.trans (by simp)) hm
theorem PG.eqS {a b : Expr} {p : Pos} {x y : Str} (u : PG prog w A env a h₀ s (KStr x)) (v : PG prog w A env b h₀ s (KStr y)) (hm : behindInMarks .Eq b = false := by with_unfolding_all rfl) : PG prog w A env (.Compare a [.Eq] [b] p) h₀ s (KBool (x == y)) :=
  PG.cmp u v upS (fun o j h' k ho hj => ps_eqStr ho hj) hm
theorem PG.eqI {a b : Expr} {p : Pos} {i j : Int} (u : PG prog w A env a h₀ s (KInt i)) (v : PG prog w A env b h₀ s (KInt j)) (hm : behindInMarks .Eq b = false := by with_unfolding_all rfl) : PG prog w A env (.Compare a [.Eq] [b] p) h₀ s (KBool (i == j)) :=
  PG.cmp u v upI (fun o j h' k ho hj => ps_eqI ho hj) hm
theorem PG.eqB {a b : Expr} {p : Pos} {i j : Bool} (u : PG prog w A env a h₀ s (KBool i)) (v : PG prog w A env b h₀ s (KBool j)) (hm : behindInMarks .Eq b = false := by with_unfolding_all rfl) : PG prog w A env (.Compare a [.Eq] [b] p) h₀ s (KBool (i == j)) :=
  PG.cmp u v (fun _ _ _ _ q => q) (fun o j h' k ho hj => by
    obtain rfl := ho
    obtain rfl := hj
    exact .mk fun h tk Q E k hQ => PyProof.Rows.eq_bool (hQ _ _ _ kh_rfl rfl)) hm
theorem strs_of_reads {h : Heap} : ∀ {ks : List Str} {vs : List Value} {as : List Addr}, ReadsAll h vs (ks.map PyData.str) as → StrsAre vs ks
  | [], _, _, r => by cases r; exact .nil
  | k :: ks, _, _, r => by
    cases r with
    | cons a b =>
      cases a
      exact .cons _ _ (strs_of_reads b)
theorem PG.inTupO {a b : Expr} {p : Pos} {e : Option Str} {ys : List Str} {K : Value → Heap → Prop} (u : PG prog w A env a h₀ s K) (uk : UpK K) (hK : ∀ v h, K v h → OptIs e v) (v : PG prog w A env b h₀ s (KRd (.tuple (ys.map .str))))
    (hm : behindInMarks .In b = false := by with_unfolding_all rfl) : PG prog w A env (.Compare a [.In] [b] p) h₀ s (KBool (ys.any fun y => some y == e)) :=
  PG.cmp u v uk (fun o j h' k ho hj => by
    obtain ⟨as, r⟩ := hj
    refine .mk fun h tk Q E k hQ => ?_
    cases r with
    | tuple e1 e2 e3 e4 =>
      have ht : IsTup h _ _ := ⟨_, k _ _ e1, e2, _, e3⟩
      have hi := strs_of_reads e4
      have ho' := hK _ _ ho
      cases e with
      | none => obtain rfl : o = .none := ho'; exact none_in_tuple ht hi (hQ _ _ _ kh_rfl (by show Value.bool _ = Value.bool _; simp))
      | some x => obtain ⟨t, rfl⟩ := ho'; exact in_tuple_strs ht hi (hQ _ _ _ kh_rfl (by show Value.bool _ = Value.bool _; simp))) hm
theorem PA.strsRd {pos : Pos} : ∀ (l : List (Str × Pos)), PA prog w A env pos (l.map fun x => .Constant (.str x.1) 0 x.2) h₀ s (KA (l.map fun x => PyData.str x.1))
  | [] => PA.rd0
  | x :: l => PA.rd (PG.str.imp fun v h k kv => by obtain ⟨t, rfl⟩ := kv; exact ⟨_, .str _ t⟩) (PA.strsRd l) rfl
theorem PG.strTup {p : Pos} {es : List Expr} {ks : List Str} (l : List (Str × Pos)) (he : es = l.map fun x => .Constant (.str x.1) 0 x.2) (hk : ks = l.map (·.1)) (hl : ks.length ≤ 1000) : PG prog w A env (.Tuple es 0 p) h₀ s (KRd (.tuple (ks.map .str))) := by
  subst he hk
  rw [List.map_map]
  exact PG.tupleRd (PA.strsRd l) (by rw [List.length_map, PySem.sizeLine_eq]; simpa using Nat.le_trans hl (by omega))
end
noncomputable def BR (_ : Heap) (v : Value) (b : Bool) : Prop := v = .bool b
theorem means_spec (w : World) (dp un : Nat) (gd : Option (List Code)) (fr : Option (List Env)) (s : Shared) (Q E : Value → Shared → Prop)
   (loose : List Str) (mean : ExcName → Option Value) (mg mb : Str → Option Value) (k : Nat) (hk : k < 9) (x : Str) (e : Option Str) (ev : Value) (he : OptIs e ev) (t t0 : Tok)
   (X : (hd.heap_39 w.params).In s.heap) (T : Top topProg loose mean mg mb s.heap) 
   (hdp : dp + 1 < recursionLimit) (hun : un + 8 < cLine)
   (hret : ∀ h' tk', KeepsH s.heap h' → Q (.bool (meansF k x e)) { s with heap := h', toks := tk' }) :
   wpAny (model PySem.Challenge.rw_in0044_01.row.prog w) (AA dp un gd fr) (call (.ref 111) [.int k t0, .str x t, ev]) Q E s := by
  k_dflt (refine' enter_g ?k3 ?k5 ?k6 ?k7 ?k8 ?k9 ?kB ?_ ?c2 ?c3 ?c4 ?c5; (case k3 => exact X); (case k5 => exact T); (case k6 => k_is); (case k7 => k_is); (case k8 => ktr_room); (case k9 => exact BindsTo.of_eq rfl); (case kB => exact locs rfl); (case c2 => exact rfl); (case c3 => exact rfl); (case c4 => exact rfl); (case c5 => decide); k_whole; intro L h₁ tk1 K1 gL hn eL htk)
  clear X T gL eL htk
  have fin : ∀ {b : Bool} {v : Value} {h' : Heap} {tk' : Nat}, KeepsH h₁ h' → KBool b v h' → b = meansF k x e → Q v { s with heap := h', toks := tk' } := fun kk kv e => by
    obtain rfl := kv
    rw [e]
    exact hret _ _ (kh_tr K1 kk)
  refine if_ret (b := decide ((k : Int) < 3)) (PT.lt (PG.nameK hn rfl ⟨t0, rfl⟩ (upI (i := (k : Int)))) PG.int rfl) (fun hb => PG.itemP (R := BR) (as := [x == S "C", [S "de", S "de_AT"].any fun y => some y == some x, (x == S "de") && e.isSome]) (x := meansF k x e) (fun _ _ _ _ _ q => q)
    ((PG.listP (R := BR) (as := [x == S "C", [S "de", S "de_AT"].any fun y => some y == some x, (x == S "de") && e.isSome]) (fun _ _ _ _ _ q => q) (PA.pcons (fun _ _ _ _ _ q => q) (PG.eqS (PG.nameK hn rfl ⟨t, rfl⟩ (upS (x := x))) PG.str) (PA.pcons (fun _ _ _ _ _ q => q) (PG.inTupO (e := some x) (PG.nameK hn rfl ⟨t, rfl⟩ (upS (x := x))) upS (fun v h q => q) (PG.strTup [(_, _), (_, _)] rfl rfl (by decide))) (PA.pcons (fun _ _ _ _ _ q => q) (PG.andV (PG.eqS (PG.nameK hn rfl ⟨t, rfl⟩ (upS (x := x))) PG.str) (PG.cmp (PG.nameK hn rfl (K := fun v _ => OptIs e v) he (fun _ _ _ _ q => q)) PG.none (fun _ _ _ _ q => q) fun o j h' k ho hj => ps_notNone ho hj)) PA.pnil)))).imp fun _ _ _ k => k.1)
    (PG.nameK hn rfl ⟨t0, rfl⟩ (upI (i := (k : Int)))) ?g1 (by omega)) (fun hb v h' tk' kk kv => fin kk kv rfl) fun hb h2 tk2 k2 => ?_
  case g1 =>
    obtain rfl | rfl | rfl : k = 0 ∨ k = 1 ∨ k = 2 := by have := of_decide_eq_true hb; omega
    · rfl
    · show some _ = some _
      congr 1
    · rfl
  have hk3 : ¬ k < 3 := fun q => by have := of_decide_eq_false hb; omega
  have hn2 := hn.keeps k2
  refine if_ret (b := (((k : Int) == 3) || ((k : Int) == 5))) (PT.eq (PT.or (PT.eqI (PG.nameK hn2 rfl ⟨t0, rfl⟩ (upI (i := (k : Int)))) PG.int rfl) fun _ => PT.or (PT.eqI (PG.nameK hn2 rfl ⟨t0, rfl⟩ (upI (i := (k : Int)))) PG.int rfl) fun _ => PT.orN) (by simp)) (fun hb => PG.eqB (PG.eqOpt (PG.nameK hn2 rfl (K := fun v _ => OptIs e v) he (fun _ _ _ _ q => q)) PG.str) (PG.eqI (PG.nameK hn2 rfl ⟨t0, rfl⟩ (upI (i := (k : Int)))) PG.int)) (fun hb v h' tk' kk kv => fin (kh_tr k2 kk) kv ?g2) fun hb h3 tk3 k3 => ?_
  case g2 =>
    obtain rfl | rfl : k = 3 ∨ k = 5 := by
      rcases Bool.or_eq_true_iff.mp hb with q | q
      · exact .inl (by have := eq_of_beq q; omega)
      · exact .inr (by have := eq_of_beq q; omega)
    · show (_ == true) = _
      rw [beq_true]; rfl
    · show (_ == false) = _
      rw [beq_false]; rfl
  have hn3 := hn2.keeps k3
  have k13 := kh_tr k2 k3
  refine if_ret (b := ((k : Int) == 4)) (PT.eqI (PG.nameK hn3 rfl ⟨t0, rfl⟩ (upI (i := (k : Int)))) PG.int rfl) (fun hb => PG.eqS (PG.nameK hn3 rfl ⟨t, rfl⟩ (upS (x := x))) PG.str) (fun hb v h' tk' kk kv => fin (kh_tr k13 kk) kv ?g3) fun hb4 h4 tk4 k4 => ?_
  case g3 =>
    obtain rfl : k = 4 := by have := eq_of_beq hb; omega
    rfl
  have hn4 := hn3.keeps k4
  have k14 := kh_tr k13 k4
  refine if_ret (b := ((k : Int) == 6)) (PT.eqI (PG.nameK hn4 rfl ⟨t0, rfl⟩ (upI (i := (k : Int)))) PG.int rfl) (fun hb => PG.orV (PG.andV (PG.inTupO (e := some x) (PG.nameK hn4 rfl ⟨t, rfl⟩ (upS (x := x))) upS (fun v h q => q) (PG.strTup [(_, _), (_, _), (_, _)] rfl rfl (by decide))) (PG.cmp (PG.nameK hn4 rfl (K := fun v _ => OptIs e v) he (fun _ _ _ _ q => q)) PG.none (fun _ _ _ _ q => q) fun o j h' k ho hj => ps_isNone ho hj)) (PG.andV (PG.eqS (PG.nameK hn4 rfl ⟨t, rfl⟩ (upS (x := x))) PG.str) (PG.eqOpt (PG.nameK hn4 rfl (K := fun v _ => OptIs e v) he (fun _ _ _ _ q => q)) PG.str))) (fun hb v h' tk' kk kv => fin (kh_tr k14 kk) kv ?g4) fun hb6 h5 tk5 k5 => ?_
  case g4 =>
    obtain rfl : k = 6 := by have := eq_of_beq hb; omega
    rfl
  have hn5 := hn4.keeps k5
  have k15 := kh_tr k14 k5
  refine if_ret (b := ((k : Int) == 8)) (PT.eqI (PG.nameK hn5 rfl ⟨t0, rfl⟩ (upI (i := (k : Int)))) PG.int rfl) (fun hb => PG.eqS (PG.nameK hn5 rfl ⟨t, rfl⟩ (upS (x := x))) PG.str) (fun hb v h' tk' kk kv => fin (kh_tr k15 kk) kv ?g5) fun hb8 h6 tk6 k6 => ?_
  case g5 =>
    obtain rfl : k = 8 := by have := eq_of_beq hb; omega
    rfl
  have hn6 := hn5.keeps k6
  refine wpAny_execs_cons (wpAny_Return_some ((PG.inTupO (e := e) (PG.nameK hn6 rfl (K := fun v _ => OptIs e v) he (fun _ _ _ _ q => q)) (fun _ _ _ _ q => q) (fun v h q => q) (PG.strTup [(_, _), (_, _)] rfl rfl (by decide))).run h6 tk6 _ _ kh_rfl fun v h7 tk7 k7 kv => fin (kh_tr k15 (kh_tr k6 k7)) kv ?g6))
  case g6 =>
    obtain rfl : k = 7 := by
      have e3 : ¬ ((k : Int) = 3) ∧ ¬ ((k : Int) = 5) := by simpa using hb
      have e4 : ¬ ((k : Int) = 4) := by simpa using hb4
      have e6 : ¬ ((k : Int) = 6) := by simpa using hb6
      have e8 : ¬ ((k : Int) = 8) := by simpa using hb8
      omega
    cases e with
    | none => rfl
    | some y => rfl

end Mine
end
section
open PySem PySem.W PyProof.Rows PySem.Calls
set_option Elab.async false
set_option maxRecDepth 100000
set_option maxHeartbeats 4000000
set_option linter.unusedVariables false
namespace Mine
noncomputable def pats : List Str := [Str.ofString "C*", Str.ofString "de*", Str.ofString "de.*", Str.ofString "*.UTF-8", Str.ofString "*_??*", Str.ofString "*[!8]", Str.ofString "??", Str.ofString "*-[0-9]", Str.ofString "fr*"]
theorem PA.strs {prog : Program} {w : World} {A : Around} {env : Env} {h₀ : Heap} {s : Shared} {pos : Pos} : ∀ (l : List (Str × Pos)), PA prog w A env pos (l.map fun x => .Constant (.str x.1) 0 x.2) h₀ s (fun vs _ => Paired (fun v (x : Str) => ∃ t, v = Value.str x t) vs (l.map (·.1)))
  | [] => PA.pnil (R := fun _ v (x : Str) => ∃ t, v = .str x t)
  | _ :: l => PA.pcons (R := fun _ v (x : Str) => ∃ t, v = .str x t) (fun _ _ _ _ _ h => h) PG.str (PA.strs l)
theorem PG.strList {prog : Program} {w : World} {A : Around} {env : Env} {h₀ : Heap} {s : Shared} {p : Pos} {es : List Expr} {ks : List Str} (l : List (Str × Pos)) (he : es = l.map fun x => .Constant (.str x.1) 0 x.2) (hk : ks = l.map (·.1)) (hl : ks.length ≤ 1000) : PG prog w A env (.List es p) h₀ s (KNew h₀ (KStrs ks)) := by
  subst he hk
  exact (PG.listP (R := fun _ v (x : Str) => ∃ t, v = .str x t) (fun _ _ _ _ _ h => h) (PA.strs l) (by rw [PySem.sizeLine_eq]; omega)).imp fun _ _ _ k => ⟨by obtain ⟨⟨l, vs, n, e, q, r⟩, _⟩ := k; exact ⟨l, vs, n, e, q, paired_strs r⟩, k.2⟩
theorem patterns_spec (w : World) (dp un : Nat) (gd : Option (List Code)) (fr : Option (List Env)) (s : Shared) (h₀ : Heap) (G : Gl w h₀) (hdp : dp + 3 < recursionLimit) (hun : un + 200 < cLine) :
   PC PySem.Challenge.rw_in0044_01.row.prog w (AA dp un gd fr) (.ref 104) [] h₀ s (KStrs pats) := by
  refine .mk fun hh tk0 Q E k0 hQ => ?_
  obtain ⟨loose, mean, mg, mb, X, T⟩ := G.up k0
  k_dflt (refine' enter_g ?k3 ?k5 ?k6 ?k7 ?k8 ?k9 ?kB ?_ ?c2 ?c3 ?c4 ?c5; (case k3 => exact X); (case k5 => exact T); (case k6 => k_is); (case k7 => k_is); (case k8 => ktr_room); (case k9 => exact BindsTo.of_eq rfl); (case kB => exact locs rfl); (case c2 => exact rfl); (case c3 => exact rfl); (case c4 => exact rfl); (case c5 => decide); k_whole; intro L' h₁ tk kg gL F' eL htk)
  with_reducible refine wpAny_execs_cons ?_
  refine wpAny_Return_some (PG.use (g := h₁) (K := KNew h₁ (KStrs pats)) ?l kh_rfl fun v h' tk' k' r => hQ v h' tk' (kh_tr kg k') r.1)
  case l => exact PG.strList [(_, _), (_, _), (_, _), (_, _), (_, _), (_, _), (_, _), (_, _), (_, _)] rfl rfl (by decide)


end Mine
end
section
open PySem PySem.W PyProof.Rows PySem.Calls
set_option Elab.async false
set_option maxRecDepth 100000
set_option linter.unusedVariables false
namespace Mine
/-- what _translate makes of the nine patterns -/
noncomputable def partsOf : List (List Str) := [[Str.ofString "C", Str.ofString "many"], [Str.ofString "d", Str.ofString "e", Str.ofString "many"], [Str.ofString "d", Str.ofString "e", Str.ofString "\\.", Str.ofString "many"],
  [Str.ofString "many", Str.ofString "\\.", Str.ofString "U", Str.ofString "T", Str.ofString "F", Str.ofString "\\-", Str.ofString "8"], [Str.ofString "many", Str.ofString "_", Str.ofString "any", Str.ofString "any", Str.ofString "many"],
  [Str.ofString "many", Str.ofString "[^8]"], [Str.ofString "any", Str.ofString "any"], [Str.ofString "many", Str.ofString "\\-", Str.ofString "[0-9]"], [Str.ofString "f", Str.ofString "r", Str.ofString "many"]]
/-- what a part says of a sign -/
noncomputable def sgF (p x : Str) : Bool :=
  if p = Str.ofString "any" then true
  else if p = Str.ofString "[^8]" then ((!(Builtin.Str.occurrences (Str.ofString "8") x 0 (Str.ofString "8").length 1).isEmpty) != true)
  else if p = Str.ofString "[0-9]" then (!decide (x.cps.toList < (Str.ofString "0").cps.toList) && !decide ((Str.ofString "9").cps.toList < x.cps.toList))
  else (Txt.item p (-1) == x)
theorem taken_means : ∀ k, k < 9 → ∀ p ∈ allP, takenF sgF (partsOf.getD k []) (nameF p.1 p.2) = meansF k (p.1.getD (S "C")) p.2 := by decide +kernel

end Mine
end
section
open PySem PySem.W PyProof.Rows PySem.Calls
set_option Elab.async false
set_option maxRecDepth 100000
set_option maxHeartbeats 4000000
set_option linter.unusedVariables false
namespace Mine
section
variable {prog : Program} {w : World} {A : Around} {env : Env} {h₀ : Heap} {s : Shared}
theorem PG.inS {a b : Expr} {p : Pos} {x y : Str} (u : PG prog w A env a h₀ s (KStr x)) (v : PG prog w A env b h₀ s (KStr y)) (hm : behindInMarks .In b = false := by with_unfolding_all rfl) : PG prog w A env (.Compare a [.In] [b] p) h₀ s (KBool (!(Builtin.Str.occurrences y x 0 y.length 1).isEmpty)) :=
  PG.cmp u v upS (fun o j h' k ho hj => by obtain ⟨t, rfl⟩ := ho; obtain ⟨u, rfl⟩ := hj; exact .mk fun h tk Q E k hQ => PySem.P.in_str (hQ _ _ _ kh_rfl rfl)) hm
theorem PG.neB {a b : Expr} {p : Pos} {i j : Bool} (u : PG prog w A env a h₀ s (KBool i)) (v : PG prog w A env b h₀ s (KBool j)) (hm : behindInMarks .NotEq b = false := by with_unfolding_all rfl) : PG prog w A env (.Compare a [.NotEq] [b] p) h₀ s (KBool (i != j)) :=
  PG.cmp u v (fun _ _ _ _ q => q) (fun o j h' k ho hj => by
    obtain rfl := ho
    obtain rfl := hj
    exact .mk fun h tk Q E k hQ => PyProof.Rows.ne_bool (hQ _ _ _ kh_rfl rfl)) hm
theorem PG.chain2 {a b c : Expr} {p : Pos} {x y z : Str} (u : PG prog w A env a h₀ s (KStr x)) (v : PG prog w A env b h₀ s (KStr y)) (r : PG prog w A env c h₀ s (KStr z)) (hm : lastMarks [CmpOp.LtE, CmpOp.LtE] [b, c] = false := by with_unfolding_all rfl) :
    PG prog w A env (.Compare a [.LtE, .LtE] [b, c] p) h₀ s (KBool (!decide (y.cps.toList < x.cps.toList) && !decide (z.cps.toList < y.cps.toList))) :=
  .mk fun h tk Q E k hQ => Compare_chain (u.run h tk _ E k fun o h1 tk1 k1 ho => by
    obtain ⟨t, rfl⟩ := ho
    refine chain_link (v.run h1 tk1 _ E (kh_tr k k1) fun o' h2 tk2 k2 ho' => ?_)
    obtain ⟨t', rfl⟩ := ho'
    refine PySem.P.le_str (wpAny_truthy_bool ?_)
    cases hd : decide (y.cps.toList < x.cps.toList) with
    | true =>
      simp only [Bool.not_true, Bool.false_eq_true, if_false]
      exact hQ _ _ _ (kh_tr k1 k2) (by rw [hd]; rfl)
    | false =>
      simp only [Bool.not_false, if_true]
      refine chain_last (r.run h2 tk2 _ E (kh_tr k (kh_tr k1 k2)) fun o'' h3 tk3 k3 ho'' => ?_)
      obtain ⟨t'', rfl⟩ := ho''
      exact PySem.P.le_str (hQ _ _ _ (kh_tr k1 (kh_tr k2 k3)) (by rw [hd]; rfl))) hm
end
theorem str_beq_cps (x y : Str) : (x == y) = !(x.cps.toList != y.cps.toList) := by
  rw [Bool.eq_iff_iff]
  simp only [beq_iff_eq, Bool.not_eq_true', bne_eq_false_iff_eq]
  exact ⟨fun q => by rw [q], fun q => by cases x; cases y; simpa using q⟩
theorem sign_spec (w : World) {p : Str} (h20 : p.length ≤ 20) (h1 : 1 ≤ p.length) (h : p = Str.ofString "any" ∨ p = Str.ofString "[^8]" ∨ p = Str.ofString "[0-9]" ∨ ((p == Str.ofString "any") = false ∧ (Txt.item p 0 == Str.ofString "[") = false ∧ p ≠ Str.ofString "[^8]" ∧ p ≠ Str.ofString "[0-9]")) : SignC w p (sgF p) := by
  intro dp un gd fr s Q E loose mean mg mb x t u X T hdp hun hret
  k_dflt (refine' enter_g ?k3 ?k5 ?k6 ?k7 ?k8 ?k9 ?kB ?_ ?c2 ?c3 ?c4 ?c5; (case k3 => exact X); (case k5 => exact T); (case k6 => k_is); (case k7 => k_is); (case k8 => ktr_room); (case k9 => exact BindsTo.of_eq rfl); (case kB => exact locs rfl); (case c2 => exact rfl); (case c3 => exact rfl); (case c4 => exact rfl); (case c5 => decide); k_whole; intro L h₁ tk1 K1 gL hn eL htk)
  clear X T eL htk
  refine bodyO (by passes_own) fun Q9 E9 hE9 hQ9 => ?_
  have fin : ∀ {b : Bool} {v : Value} {h' : Heap} {tk' : Nat}, KeepsH s.heap h' → KBool b v h' → b = sgF p x → Q9 (.ret v) { s with heap := h', toks := tk' } := fun kk kv e => by
    obtain rfl := kv
    rw [e]
    exact hQ9 _ _ (hret _ _ kk)
  have hne := str_beq_cps (Txt.item p 0) (Str.ofString "[")
  refine if_ret (b := (p == Str.ofString "any") || !(Txt.item p 0 == Str.ofString "[")) (PT.eq (PT.or (PT.eqStr (PG.nameK hn rfl ⟨t, rfl⟩ (upS (x := p))) PG.str rfl) fun _ => PT.or (PT.neStr (PG.sign (k := 0) (PG.nameK hn rfl ⟨t, rfl⟩ (upS (x := p))) PG.int (by omega) (by omega) (by omega)) PG.str rfl) fun _ => PT.orN) (by rw [hne]; simp))
    (fun hb => PG.orV (PG.eqS (PG.nameK hn rfl ⟨t, rfl⟩ (upS (x := p))) PG.str) (PG.eqS (PG.sign (k := -1) (PG.nameK hn rfl ⟨t, rfl⟩ (upS (x := p))) (PG.neg (PG.int (i := 1))) (by omega) (by omega) (by omega)) (PG.nameK hn rfl ⟨u, rfl⟩ (upS (x := x))))) (fun hb v h' tk' kk kv => fin (kh_tr K1 kk) kv ?g1) fun hb h2 tk2 k2 => ?_
  case g1 =>
    rcases h with rfl | rfl | rfl | ⟨a, b, c, d⟩
    · rw [beq_self_eq_true, Bool.true_or]; exact (if_pos rfl).symm
    · exact absurd hb (by decide)
    · exact absurd hb (by decide)
    · rw [a, Bool.false_or]
      unfold sgF
      rw [if_neg (by simpa using a), if_neg c, if_neg d]
  have hn2 := hn.keeps k2
  have K2 := kh_tr K1 k2
  have set : ∀ {h3 h4 : Heap}, KeepsH h2 h3 → (∀ b o, b ≠ L → h3.get? b = some o → h4.get? b = some o) → KeepsH s.heap h4 := fun k3 k4 b o e => k4 b o (fun q => by rw [q, gL] at e; cases e) (k3 _ _ (K2 _ _ e))
  clear hn k2 K1 hne
  rcases h with rfl | rfl | rfl | ⟨a, b, _, _⟩
  · exact absurd hb (by decide)
  · refine wpAny_execs_cons (asg_pure (s := { s with heap := h2, toks := tk2 }) (h₀ := h2) (K := KStr (Str.ofString "8")) (PG.ifexp (c := true) (PT.eqStr (PG.sign (k := 1) (PG.nameK hn2 rfl ⟨t, rfl⟩ (upS (x := Str.ofString "[^8]"))) PG.int (by decide) (by decide) (by decide)) PG.str (by decide)) (fun _ => (PG.slc (PG.nameK (x := Str.ofString "part") hn2 rfl ⟨t, rfl⟩ (upS (x := Str.ofString "[^8]"))) (PP.some (PG.int (i := 2))) (PP.some (PG.neg (PG.int (i := 1)))) (by decide)).imp fun v h k hv => ?e1) fun q => nomatch q) kh_rfl hn2 ?_)
    case e1 => rw [← show Txt.slice (Str.ofString "[^8]") (some 2) (some (-1)) = Str.ofString "8" by decide]; exact hv
    rintro v h3 h4 tk4 k3 ⟨t4, rfl⟩ k4 hn4
    refine wpAny_execs_cons (asg_pure (s := { s with heap := h4, toks := tk4 }) (h₀ := h4) (K := KBool (!(Builtin.Str.occurrences (Str.ofString "8") x 0 (Str.ofString "8").length 1).isEmpty)) (PG.ifexp (c := false) (PT.eqStr (x := Txt.slice (Str.ofString "8") (some 1) (some 2)) (PG.slc (PG.nameK (x := Str.ofString "rest") hn4 rfl ⟨t4, rfl⟩ (upS (x := Str.ofString "8"))) (PP.some (PG.int (i := 1))) (PP.some (PG.int (i := 2))) (by decide)) PG.str (by decide)) (fun q => nomatch q) fun _ => PG.inS (PG.nameK hn4 rfl ⟨u, rfl⟩ (upS (x := x))) (PG.nameK hn4 rfl ⟨t4, rfl⟩ (upS (x := Str.ofString "8")))) kh_rfl hn4 ?_)
    rintro v h5 h6 tk6 k5 kv k6 hn6
    obtain rfl := kv
    refine wpAny_execs_cons (wpAny_Return_some ((PG.neB (i := !(Builtin.Str.occurrences (Str.ofString "8") x 0 (Str.ofString "8").length 1).isEmpty) (j := Txt.item (Str.ofString "[^8]") 1 == Str.ofString "^") (PG.nameK hn6 rfl rfl (fun _ _ _ _ q => q)) (PG.eqS (PG.sign (x := Str.ofString "[^8]") (k := 1) (PG.nameK hn6 rfl ⟨t, rfl⟩ upS) PG.int (by decide) (by decide) (by decide)) PG.str)).run h6 tk6 _ _ kh_rfl fun v h7 tk7 k7 kv => fin (kh_tr (fun b o e => k6 b o (fun q => by have q' : b = L := q; rw [q', gL] at e; cases e) (k5 _ _ (set k3 k4 b o e))) k7) kv ?_))
    unfold sgF
    rw [if_neg (by decide), if_pos rfl, show (Txt.item (Str.ofString "[^8]") 1 == Str.ofString "^") = true by decide]
  · refine wpAny_execs_cons (asg_pure (s := { s with heap := h2, toks := tk2 }) (h₀ := h2) (K := KStr (Str.ofString "0-9")) (PG.ifexp (c := false) (PT.eqStr (PG.sign (k := 1) (PG.nameK hn2 rfl ⟨t, rfl⟩ (upS (x := Str.ofString "[0-9]"))) PG.int (by decide) (by decide) (by decide)) PG.str (by decide)) (fun q => nomatch q) fun _ => (PG.slc (PG.nameK (x := Str.ofString "part") hn2 rfl ⟨t, rfl⟩ (upS (x := Str.ofString "[0-9]"))) (PP.some (PG.int (i := 1))) (PP.some (PG.neg (PG.int (i := 1)))) (by decide)).imp fun v h k hv => ?e2) kh_rfl hn2 ?_)
    case e2 => rw [← show Txt.slice (Str.ofString "[0-9]") (some 1) (some (-1)) = Str.ofString "0-9" by decide]; exact hv
    rintro v h3 h4 tk4 k3 ⟨t4, rfl⟩ k4 hn4
    refine wpAny_execs_cons (asg_pure (s := { s with heap := h4, toks := tk4 }) (h₀ := h4) (K := KBool (!decide (x.cps.toList < (Str.ofString "0").cps.toList) && !decide ((Str.ofString "9").cps.toList < x.cps.toList))) (PG.ifexp (c := true) (PT.eqStr (x := Txt.slice (Str.ofString "0-9") (some 1) (some 2)) (PG.slc (PG.nameK (x := Str.ofString "rest") hn4 rfl ⟨t4, rfl⟩ (upS (x := Str.ofString "0-9"))) (PP.some (PG.int (i := 1))) (PP.some (PG.int (i := 2))) (by decide)) PG.str (by decide)) (fun _ => PG.chain2 (x := Str.ofString "0") (y := x) (z := Str.ofString "9") (PG.sign (x := Str.ofString "0-9") (k := 0) (PG.nameK hn4 rfl ⟨t4, rfl⟩ upS) PG.int (by decide) (by decide) (by decide)) (PG.nameK hn4 rfl ⟨u, rfl⟩ upS) (PG.sign (x := Str.ofString "0-9") (k := 2) (PG.nameK hn4 rfl ⟨t4, rfl⟩ upS) PG.int (by decide) (by decide) (by decide))) fun q => nomatch q) kh_rfl hn4 ?_)
    rintro v h5 h6 tk6 k5 kv k6 hn6
    obtain rfl := kv
    refine wpAny_execs_cons (wpAny_Return_some ((PG.neB (i := (!decide (x.cps.toList < (Str.ofString "0").cps.toList) && !decide ((Str.ofString "9").cps.toList < x.cps.toList))) (j := Txt.item (Str.ofString "[0-9]") 1 == Str.ofString "^") (PG.nameK hn6 rfl rfl (fun _ _ _ _ q => q)) (PG.eqS (PG.sign (x := Str.ofString "[0-9]") (k := 1) (PG.nameK hn6 rfl ⟨t, rfl⟩ upS) PG.int (by decide) (by decide) (by decide)) PG.str)).run h6 tk6 _ _ kh_rfl fun v h7 tk7 k7 kv => fin (kh_tr (fun b o e => k6 b o (fun q => by have q' : b = L := q; rw [q', gL] at e; cases e) (k5 _ _ (set k3 k4 b o e))) k7) kv ?_))
    unfold sgF
    rw [if_neg (by decide), if_neg (by decide), if_pos rfl, show (Txt.item (Str.ofString "[0-9]") 1 == Str.ofString "^") = false by decide]
    exact Bool.bne_false _
  · rw [a, b] at hb; cases hb

end Mine
end
section
open PySem PySem.W PyProof.Rows PySem.Calls
set_option Elab.async false
set_option maxRecDepth 100000
set_option maxHeartbeats 4000000
set_option linter.unusedVariables false
namespace Mine
/-- what stands in the turn of a bracket -/
noncomputable def brBody : List Stmt := match hd.f76.val.2.1 with
  | [_, _, _, .While _ [_, _, .If _ _ [.If _ _ [.If _ b _ _] _] _] _ _, _, _] => b
  | _ => []
noncomputable def brRest : List Stmt := brBody.drop 4
noncomputable abbrev trEnv (L : Addr) : Env := envOf (Str.ofString "_translate") hd.f76.val.2.2 L 76 (.ref 75)
noncomputable def cpAt (pat : Str) (k : Nat) (c : Nat) : Prop := pat.cps.toList[k]? = some c
section
variable {w : World} {dp un : Nat} {gd : Option (List Code)} {fr : Option (List Env)} {s' : Shared} {Q : Flow → Shared → Prop} {E : Value → Shared → Prop} {g : Heap} {L D q : Addr} {m : Str → Option Value} {vs ps : Array Value} {pat : Str} {t1 t2 t3 : Tok}
theorem PG.at {env : Env} {A : Around} {h : Heap} {a i : Expr} {p : Pos} {x : Str} {k c : Nat} (hc : cpAt x k c) (y : PG PySem.Challenge.rw_in0044_01.row.prog w A env a h s' (KStr x)) (z : PG PySem.Challenge.rw_in0044_01.row.prog w A env i h s' (KInt (k : Int))) (hn : x.length ≤ 1000)
    (hs : ∀ t u, subscripted i false (.str x t) (.int (k : Int) u) = operate [.str x t, .int (k : Int) u] (getItem (.str x t) (.int (k : Int) u)) := by intro _ _; with_unfolding_all rfl)
    (ht : ∀ t r, letTemporaryGo a (.str x t) r = pure () := by intro _ _; with_unfolding_all rfl) : PG PySem.Challenge.rw_in0044_01.row.prog w A env (.Subscript a i p) h s' (KStr ⟨#[c]⟩) := by
  have hlt : k < x.length := by have := (List.getElem?_eq_some_iff.mp hc).1; simpa [Str.length] using this
  rw [← item_sg hc]
  exact PG.sign y z (by omega) (by omega) hn hs ht
theorem cpAt.lt {k c : Nat} (e : cpAt pat k c) : k < pat.length := by have := (List.getElem?_eq_some_iff.mp e).1; simpa [Str.length] using this
theorem pt_jEq {A : Around} {h : Heap} {k c d k1 : Nat} {y : Str} {p1 p2 p3 p4 p5 p6 p7 p8 p9 : Pos} (T : TH g L D q m vs ps h) (F : MF D q pat t1 t2 t3 m) (hj : ∃ u, m (Str.ofString "j") = some (.int (k : Int) u)) (hc : cpAt pat k c) (hl : pat.length ≤ 1000) (hy : y = ⟨#[d]⟩) :
    PT PySem.Challenge.rw_in0044_01.row.prog w A (trEnv L) (.BoolOp .And [.Compare (.Name (Str.ofString "j") p1) [.Lt] [.Name (Str.ofString "n") p2] p3, .Compare (.Subscript (.Name (Str.ofString "pat") p4) (.Name (Str.ofString "j") p5) p6) [.Eq] [.Constant (.str y) k1 p7] p8] p9) h s' (c == d) := by
  obtain ⟨uj, hj⟩ := hj
  obtain ⟨un, hn⟩ := F.n
  have := hc.lt
  exact PT.eq (PT.and (a := true) (PT.lt (PG.nameK T.hn hj ⟨uj, rfl⟩ (upI (i := (k : Int)))) (PG.nameK T.hn hn ⟨un, rfl⟩ (upI (i := (pat.length : Int)))) (decide_eq_true (by omega))) fun _ => PT.and (b := true) (PT.eqStr (PG.at hc (PG.nameK T.hn F.p ⟨t1, rfl⟩ (upS (x := pat))) (PG.nameK T.hn hj ⟨uj, rfl⟩ (upI (i := (k : Int)))) hl) PG.str (sg_eq c d y hy)) fun _ => PT.andN) (by simp)
theorem pt_jNe {A : Around} {h : Heap} {k c d k1 : Nat} {y : Str} {p1 p2 p3 p4 p5 p6 p7 p8 p9 : Pos} (T : TH g L D q m vs ps h) (F : MF D q pat t1 t2 t3 m) (hj : ∃ u, m (Str.ofString "j") = some (.int (k : Int) u)) (hc : cpAt pat k c) (hl : pat.length ≤ 1000) (hy : y = ⟨#[d]⟩) :
    PT PySem.Challenge.rw_in0044_01.row.prog w A (trEnv L) (.BoolOp .And [.Compare (.Name (Str.ofString "j") p1) [.Lt] [.Name (Str.ofString "n") p2] p3, .Compare (.Subscript (.Name (Str.ofString "pat") p4) (.Name (Str.ofString "j") p5) p6) [.NotEq] [.Constant (.str y) k1 p7] p8] p9) h s' (c != d) := by
  obtain ⟨uj, hj⟩ := hj
  obtain ⟨un, hn⟩ := F.n
  have := hc.lt
  exact PT.eq (PT.and (a := true) (PT.lt (PG.nameK T.hn hj ⟨uj, rfl⟩ (upI (i := (k : Int)))) (PG.nameK T.hn hn ⟨un, rfl⟩ (upI (i := (pat.length : Int)))) (decide_eq_true (by omega))) fun _ => PT.and (b := true) (PT.neStr (PG.at hc (PG.nameK T.hn F.p ⟨t1, rfl⟩ (upS (x := pat))) (PG.nameK T.hn hj ⟨uj, rfl⟩ (upI (i := (k : Int)))) hl) PG.str (c := c != d) (by subst hy; rw [Bool.eq_iff_iff]; simp)) fun _ => PT.andN) (by simp)
theorem br_pre {h : Heap} {tk i0 c0 j1 jE : Nat} {ti : Tok} (hE : PassesOwn (model PySem.Challenge.rw_in0044_01.row.prog w) ((AA dp un gd fr).deeper (trEnv L)) (trEnv L) E) (W : TW g L D q) (T : TH g L D q m vs ps h) (F : MF D q pat t1 t2 t3 m) (hi : m (Str.ofString "i") = some (.int (i0 : Int) ti)) (hl : pat.length ≤ 1000)
    (h0 : cpAt pat i0 c0) (hj1 : j1 = if c0 = 33 then i0 + 1 else i0) (h1 : ∀ k, j1 ≤ k → k < jE → ∃ c, cpAt pat k c ∧ c ≠ 93) (hle : j1 < jE) (h2 : cpAt pat jE 93)
    (hQ : ∀ m' h' tk', TH g L D q m' vs ps h' → MF D q pat t1 t2 t3 m' → (∃ u, m' (Str.ofString "i") = some (.int (i0 : Int) u)) → (∃ u, m' (Str.ofString "j") = some (.int (jE : Int) u)) →
       wpAny (model PySem.Challenge.rw_in0044_01.row.prog w) ((AA dp un gd fr).deeper (trEnv L)) (execs brRest (trEnv L)) Q E { s' with heap := h', toks := tk' }) :
    wpAny (model PySem.Challenge.rw_in0044_01.row.prog w) ((AA dp un gd fr).deeper (trEnv L)) (execs brBody (trEnv L)) Q E { s' with heap := h, toks := tk } := by
  obtain ⟨un', hn'⟩ := F.n
  have hnl : ∀ k c, cpAt pat k c → k < pat.length := fun k c e => by have := (List.getElem?_eq_some_iff.mp e).1; simpa [Str.length] using this
  refine wpAny_execs_cons (asgT (fun v => ∃ t, v = .int (i0 : Int) t) T W (PG.nameK T.hn hi ⟨ti, rfl⟩ (upI (i := (i0 : Int)))) (fun v h hv => hv) ?_)
  rintro v h2 tk2 ⟨tj, rfl⟩ T2
  have F2 := F.set (y := Str.ofString "j") (v := .int (i0 : Int) tj)
  have hi0 := hnl _ _ h0
  obtain ⟨c1, hc1, hc1n⟩ := h1 j1 (Nat.le_refl _) hle
  have first : wpAny (model PySem.Challenge.rw_in0044_01.row.prog w) ((AA dp un gd fr).deeper (trEnv L)) (execs (brBody.drop 1) (trEnv L)) Q E { s' with heap := h2, toks := tk2 } := by
    refine wpAny_execs_cons (wpAny_If ((pt_jEq T2 F2 ⟨tj, rfl⟩ h0 hl (d := 33) rfl).run h2 tk2 _ _ kh_rfl fun h3 tk3 k3 => ?_))
    have T3 := T2.keep k3
    have second : ∀ {m : Str → Option Value} {h tk}, TH g L D q m vs ps h → MF D q pat t1 t2 t3 m → (∃ u, m (Str.ofString "i") = some (.int (i0 : Int) u)) → (∃ u, m (Str.ofString "j") = some (.int (j1 : Int) u)) →
        wpAny (model PySem.Challenge.rw_in0044_01.row.prog w) ((AA dp un gd fr).deeper (trEnv L)) (execs (brBody.drop 2) (trEnv L)) Q E { s' with heap := h, toks := tk } := by
      intro m h tk T F hi hj
      refine wpAny_execs_cons (wpAny_If ((pt_jEq T F hj hc1 hl (d := 93) rfl).run h tk _ _ kh_rfl fun h4 tk4 k4 => ?_))
      rw [show (c1 == 93) = false by simpa using hc1n]
      simp only [Bool.false_eq_true, if_false]
      refine wpAny_execs_nil (wpAny_execs_cons (gwhileO (fun n s'' => ∃ (k : Nat) (m : Str → Option Value) (h : Heap) (tk : Nat), s'' = { s' with heap := h, toks := tk } ∧ TH g L D q m vs ps h ∧ MF D q pat t1 t2 t3 m ∧ (∃ u, m (Str.ofString "i") = some (.int (i0 : Int) u)) ∧ (∃ u, m (Str.ofString "j") = some (.int (k : Int) u)) ∧ j1 ≤ k ∧ k ≤ jE ∧ n = jE - k) ?turn (jE - j1)
        ⟨j1, m, h4, tk4, rfl, T.keep k4, F, hi, hj, Nat.le_refl _, Nat.le_of_lt hle, rfl⟩ hE))
      rintro n _ ⟨k, m, h, tk, rfl, T, F, hi, hj, l1, l2, rfl⟩ Q9 N9 E9 hE9 hnext9 _ _ hN9
      rcases Nat.lt_or_eq_of_le l2 with l2 | rfl
      · obtain ⟨c, hc, hcn⟩ := h1 k l1 l2
        refine (pt_jNe T F hj hc hl (d := 93) rfl).run h tk _ _ kh_rfl fun h5 tk5 k5 => ?_
        rw [show (c != 93) = true by simpa using hcn]
        simp only [if_true]
        have T5 := T.keep k5
        obtain ⟨uj, hj⟩ := hj
        refine wpAny_execs_cons (asgT (fun v => ∃ t, v = .int ((k + 1 : Nat) : Int) t) T5 W (PG.add (PG.nameK T5.hn hj ⟨uj, rfl⟩ (upI (i := (k : Int)))) (PG.int (i := 1))) (fun v h hv => hv) ?_)
        rintro v h6 tk6 ⟨t6, rfl⟩ T6
        exact wpAny_execs_nil (hnext9 (jE - (k + 1)) _ (by omega) ⟨k + 1, _, h6, tk6, rfl, T6, F.set, hi, ⟨t6, rfl⟩, by omega, by omega, rfl⟩)
      · refine (pt_jNe T F hj h2 hl (d := 93) rfl).run h tk _ _ kh_rfl fun h5 tk5 k5 => ?_
        simp only [bne_self_eq_false, Bool.false_eq_true, if_false]
        exact hN9 _ (hQ m h5 tk5 (T.keep k5) F hi hj)
    by_cases hc33 : c0 = 33
    · subst hc33
      rw [if_pos rfl] at hj1
      subst hj1
      simp only [beq_self_eq_true, if_true]
      refine wpAny_execs_cons (asgT (fun v => ∃ t, v = .int ((i0 + 1 : Nat) : Int) t) T3 W (PG.add (PG.nameK T3.hn rfl ⟨tj, rfl⟩ (upI (i := (i0 : Int)))) (PG.int (i := 1))) (fun v h hv => hv) ?_)
      rintro v h4 tk4 ⟨t4, rfl⟩ T4
      exact wpAny_execs_nil (second T4 F2.set ⟨ti, hi⟩ ⟨t4, rfl⟩)
    · rw [if_neg hc33] at hj1
      subst hj1
      rw [show (c0 == 33) = false by simpa using hc33]
      simp only [Bool.false_eq_true, if_false]
      exact wpAny_execs_nil (second T3 F2 ⟨ti, hi⟩ ⟨tj, rfl⟩)
  exact first
end

end Mine
end
section
open PySem PySem.W PyProof.Rows PySem.Calls
set_option Elab.async false
set_option maxRecDepth 100000
set_option maxHeartbeats 4000000
set_option linter.unusedVariables false
namespace Mine
theorem f_twin {w : World} : nsIn (hd.heap_39 w.params) mainGlobals (Str.ofString "_twin_re_1") = some (some (.ref 57)) := by k_is
noncomputable def brElse : List Stmt := match brRest with
  | [.If _ _ b _] => b
  | _ => []
noncomputable def brSub : List Stmt := brElse.drop 2
noncomputable def brFin : List Stmt := brElse.drop 3
section
variable {w : World} {dp un : Nat} {gd : Option (List Code)} {fr : Option (List Env)} {s' : Shared} {Q : Flow → Shared → Prop} {E : Value → Shared → Prop} {g : Heap} {L D q : Addr} {m : Str → Option Value} {vs ps : Array Value} {pat : Str} {t1 t2 t3 : Tok} {loose : List Str} {mean : ExcName → Option Value} {mg mb : Str → Option Value}
/-- stuff = _twin_re_1.sub(lambda …, stuff) -/
theorem br_sub {h : Heap} {tk : Nat} {x : Str} (X : (hd.heap_39 w.params).In g) (To : Top topProg loose mean mg mb g) (C : CodeHd g 75 71) (hT : TriplesOk ps.toList) (W : TW g L D q) (T : TH g L D q m vs ps h) (hx : ∃ t, m (Str.ofString "stuff") = some (.str x t))
    (hsub : ∀ (s : Shared) (Q E : Value → Shared → Prop) (a : Addr) (d : Option Addr) (fd : FuncData) (sl : Array (Option Value)) (t : Tok), (hd.heap_39 w.params).In s.heap → s.heap.get? a = some ⟨.type "function", d, .func fd, sl⟩ → XS s Q x →
      wpAny (model PySem.Challenge.rw_in0044_01.row.prog w) ((AA dp un gd fr).deeper (trEnv L)) (call (.builtin "re.Pattern.sub") [.ref 57, .ref a, .str x t]) Q E s)
    (hQ : ∀ h' tk' ps' t, TH g L D q (fun z => if z = Str.ofString "stuff" then some (.str x t) else m z) vs ps' h' → TriplesOk ps'.toList →
       wpAny (model PySem.Challenge.rw_in0044_01.row.prog w) ((AA dp un gd fr).deeper (trEnv L)) (execs brFin (trEnv L)) Q E { s' with heap := h', toks := tk' }) :
    wpAny (model PySem.Challenge.rw_in0044_01.row.prog w) ((AA dp un gd fr).deeper (trEnv L)) (execs brSub (trEnv L)) Q E { s' with heap := h, toks := tk } := by
  obtain ⟨tx, hx⟩ := hx
  have G : Gl w g := ⟨loose, mean, mg, mb, X, To⟩
  refine wpAny_execs_cons (wpAny_Assign_Name (MethodCall_ ((Gl.fn (G.up T.kg) f_twin).run h tk _ _ kh_rfl fun v h1 tk1 k1 hv => ?_)))
  subst hv
  have T1 := T.keep k1
  obtain ⟨nD, hD⟩ := T1.hD
  refine get_sub (s := { s' with heap := h1, toks := tk1 }) (X.keeps T1.kg) (callWith_method1 (spliced_more (kla_eval rfl ?_)))
  refine lam_any (s := { s' with heap := h1, toks := tk1 }) (news := [(71, tabObj ps), (D, listOf vs nD), (q, BObj D)]) (g := fun o => [(71, o), (D, listOf vs nD), (q, BObj D)]) ⟨T1.hn, T1.kg, W.ab⟩ ?_ To C rfl (.head ?_) hT rfl ?_
  · intro p hp
    rcases List.mem_cons.mp hp with rfl | hp
    · exact ⟨T1.ht, W.sL, W.g7⟩
    · rcases List.mem_cons.mp hp with rfl | hp
      · exact ⟨hD, W.dL, W.gD⟩
      · rw [List.mem_singleton.mp hp]; exact ⟨T1.hq, W.qL, W.gq⟩
  · intro p hp
    rcases List.mem_cons.mp hp with rfl | hp
    · exact W.d7
    · rw [List.mem_singleton.mp hp]; exact W.q7
  · intro f fd h2 tk2 ps' F2 N2 hT2 _
    have T2 : TH g L D q m vs ps' h2 := ⟨F2.keep, F2.ns, ⟨nD, (N2 _ (.tail _ (.tail _ (.head _)))).1⟩, (N2 _ (.tail _ (.tail _ (.tail _ (.head _))))).1, (N2 _ (.tail _ (.head _))).1⟩
    have hf := (N2 _ (.head _)).1
    refine spliced_more ((PG.name T2.hn hx).run h2 tk2 _ _ kh_rfl fun v h3 tk3 k3 hv => spliced_none ?_)
    subst hv
    have T3 := T2.keep k3
    refine hsub _ _ _ f _ fd _ tx (X.keeps T3.kg) (k3 _ _ hf) fun t h4 tk4 k4 => ?_
    have T4 := T3.keep k4
    exact wpAny_storeName_local rfl T4.hn (fun h5 hn5 hs5 => hQ h5 _ ps' t (T4.set W (fun b o hb e => hs5.extBut b o hb e) hn5) hT2) rfl
end

end Mine
end
section
open PySem PySem.W PyProof.Rows PySem.Calls
set_option Elab.async false
set_option maxRecDepth 100000
set_option maxHeartbeats 4000000
set_option linter.unusedVariables false
namespace Mine
section
variable {w : World} {dp un : Nat} {gd : Option (List Code)} {fr : Option (List Env)} {s' : Shared} {Q : Flow → Shared → Prop} {E : Value → Shared → Prop} {g : Heap} {L D q : Addr} {m : Str → Option Value} {vs ps : Array Value} {pat : Str} {t1 t2 t3 : Tok}
noncomputable def BrEnd (g : Heap) (L D q : Addr) (vs : Array Value) (pat : Str) (t1 t2 t3 : Tok) (s' : Shared) (Q : Flow → Shared → Prop) (jE : Nat) (r : Str) (ps : Array Value) : Prop :=
  ∀ m' h' tk' t, TH g L D q m' (vs.push (.str r t)) ps h' → MF D q pat t1 t2 t3 m' → (∃ u, m' (Str.ofString "i") = some (.int ((jE + 1 : Nat) : Int) u)) → Q .next { s' with heap := h', toks := tk' }
theorem PT.inTup {A : Around} {env : Env} {h : Heap} {a b : Expr} {p : Pos} {x : Str} {xs : List PyData} {c : Bool} (u : PG PySem.Challenge.rw_in0044_01.row.prog w A env a h s' (KStr x)) (v : PG PySem.Challenge.rw_in0044_01.row.prog w A env b h s' (KRd (.tuple xs))) (hxs : PyData.canLayAll0 xs = true) (hd : (PyData.str x).canLay0 = true) (hu : A.units + 1 < cLine)
    (hc : (xs.any fun y => PyData.eqv y (.str x)) = c) (hm : behindInMarks .In b = false := by with_unfolding_all rfl) : PT PySem.Challenge.rw_in0044_01.row.prog w A env (.Compare a [.In] [b] p) h s' c :=
  PT.cmp u v upS (fun o j h' k ho hj => by
    obtain ⟨t, rfl⟩ := ho
    obtain ⟨as, r⟩ := hj
    subst hc
    refine .mk fun h tk Q E k hQ => SeqAt.in_tuple_reads (PyProof.Rows.Reads.keeps k r) (.str x t) hxs hd ?_ (hQ _ _ _ kh_rfl rfl)
    have : (PyData.str x).depth = 0 := rfl
    rw [this, Nat.min_zero]; omega) hm
theorem br_fin8 {h : Heap} {tk jE : Nat} (W : TW g L D q) (T : TH g L D q m vs ps h) (F : MF D q pat t1 t2 t3 m) (hx : ∃ t, m (Str.ofString "stuff") = some (.str (Str.ofString "!8") t)) (hj : ∃ u, m (Str.ofString "j") = some (.int (jE : Int) u)) (hv : vs.size ≤ 1000)
    (hQ : BrEnd g L D q vs pat t1 t2 t3 s' Q jE (Str.ofString "[^8]") ps) :
    wpAny (model PySem.Challenge.rw_in0044_01.row.prog w) ((AA dp un gd fr).deeper (trEnv L)) (execs brFin (trEnv L)) Q E { s' with heap := h, toks := tk } := by
  obtain ⟨uj, hj⟩ := hj
  refine wpAny_execs_cons (asgT (fun v => ∃ t, v = .int ((jE + 1 : Nat) : Int) t) T W (PG.add (PG.nameK T.hn hj ⟨uj, rfl⟩ (upI (i := (jE : Int)))) (PG.int (i := 1))) (fun v h hv => hv) ?_)
  rintro v h1 tk1 ⟨ui, rfl⟩ T1
  have F1 := F.set (y := Str.ofString "i") (v := .int ((jE + 1 : Nat) : Int) ui)
  obtain ⟨tx, hx'⟩ := hx
  have hx : (fun z => if z = Str.ofString "i" then some (Value.int ((jE + 1 : Nat) : Int) ui) else m z) (Str.ofString "stuff") = some (.str _ tx) := hx'
  refine wpAny_execs_cons (wpAny_If ((PT.not (PT.truthyS (b := true) (PG.nameK T1.hn hx ⟨tx, rfl⟩ (upS (x := Str.ofString "!8"))) (by decide) (by decide))).run h1 tk1 _ _ kh_rfl fun h2 tk2 k2 => ?_))
  simp only [Bool.not_true, Bool.false_eq_true, if_false]
  have T2 := T1.keep k2
  refine wpAny_execs_cons (wpAny_If ((PT.eqStr (PG.nameK T2.hn hx ⟨tx, rfl⟩ (upS (x := Str.ofString "!8"))) PG.str (c := false) (by decide)).run h2 tk2 _ _ kh_rfl fun h3 tk3 k3 => ?_))
  simp only [Bool.false_eq_true, if_false]
  have T3 := T2.keep k3
  refine wpAny_execs_cons (wpAny_If ((PT.eqStr (PG.sign (k := 0) (PG.nameK T3.hn hx ⟨tx, rfl⟩ (upS (x := Str.ofString "!8"))) PG.int (by decide) (by decide) (by decide)) PG.str (c := true) (by decide)).run h3 tk3 _ _ kh_rfl fun h4 tk4 k4 => ?_))
  simp only [if_true]
  have T4 := T3.keep k4
  refine wpAny_execs_cons (asgT (fun v => ∃ t, v = .str (Str.ofString "^8") t) T4 W (PG.addS (x := Str.ofString "^") (y := Txt.slice (Str.ofString "!8") (some 1) none) PG.str (PG.slc (PG.nameK T4.hn hx ⟨tx, rfl⟩ (upS (x := Str.ofString "!8"))) (PP.some PG.int) PP.none (by decide)) (by decide)) (fun v h hv => by rw [← show Str.ofString "^" ++ Txt.slice (Str.ofString "!8") (some 1) none = Str.ofString "^8" by decide]; exact hv) ?_)
  rintro v h5 tk5 ⟨t5, rfl⟩ T5
  have F5 := F1.set (y := Str.ofString "stuff") (v := .str (Str.ofString "^8") t5)
  obtain ⟨nD, hD⟩ := T5.hD
  refine wpAny_execs_nil (wpAny_execs_cons (add_stmt T5.hn F5.add T5.hq hD (PG.fstr PG.str (PG.nameK T5.hn rfl ⟨t5, rfl⟩ (upS (x := Str.ofString "^8"))) PG.str (by decide)) hv fun v h6 h7 tk7 k6 hv hD7 k7 => ?_))
  obtain ⟨t, rfl⟩ := hv
  exact wpAny_execs_nil (wpAny_execs_nil (wpAny_execs_nil (hQ _ h7 _ t ((T5.keep k6).push W hD7 k7) F5 ⟨ui, rfl⟩)))
theorem br_fin09 {h : Heap} {tk jE : Nat} (hun : un + 30 < cLine) (W : TW g L D q) (T : TH g L D q m vs ps h) (F : MF D q pat t1 t2 t3 m) (hx : ∃ t, m (Str.ofString "stuff") = some (.str (Str.ofString "0-9") t)) (hj : ∃ u, m (Str.ofString "j") = some (.int (jE : Int) u)) (hv : vs.size ≤ 1000)
    (hQ : BrEnd g L D q vs pat t1 t2 t3 s' Q jE (Str.ofString "[0-9]") ps) :
    wpAny (model PySem.Challenge.rw_in0044_01.row.prog w) ((AA dp un gd fr).deeper (trEnv L)) (execs brFin (trEnv L)) Q E { s' with heap := h, toks := tk } := by
  obtain ⟨uj, hj⟩ := hj
  refine wpAny_execs_cons (asgT (fun v => ∃ t, v = .int ((jE + 1 : Nat) : Int) t) T W (PG.add (PG.nameK T.hn hj ⟨uj, rfl⟩ (upI (i := (jE : Int)))) (PG.int (i := 1))) (fun v h hv => hv) ?_)
  rintro v h1 tk1 ⟨ui, rfl⟩ T1
  have F1 := F.set (y := Str.ofString "i") (v := .int ((jE + 1 : Nat) : Int) ui)
  obtain ⟨tx, hx'⟩ := hx
  have hx : (fun z => if z = Str.ofString "i" then some (Value.int ((jE + 1 : Nat) : Int) ui) else m z) (Str.ofString "stuff") = some (.str _ tx) := hx'
  refine wpAny_execs_cons (wpAny_If ((PT.not (PT.truthyS (b := true) (PG.nameK T1.hn hx ⟨tx, rfl⟩ (upS (x := Str.ofString "0-9"))) (by decide) (by decide))).run h1 tk1 _ _ kh_rfl fun h2 tk2 k2 => ?_))
  simp only [Bool.not_true, Bool.false_eq_true, if_false]
  have T2 := T1.keep k2
  refine wpAny_execs_cons (wpAny_If ((PT.eqStr (PG.nameK T2.hn hx ⟨tx, rfl⟩ (upS (x := Str.ofString "0-9"))) PG.str (c := false) (by decide)).run h2 tk2 _ _ kh_rfl fun h3 tk3 k3 => ?_))
  simp only [Bool.false_eq_true, if_false]
  have T3 := T2.keep k3
  refine wpAny_execs_cons (wpAny_If ((PT.eqStr (PG.sign (k := 0) (PG.nameK T3.hn hx ⟨tx, rfl⟩ (upS (x := Str.ofString "0-9"))) PG.int (by decide) (by decide) (by decide)) PG.str (c := false) (by decide)).run h3 tk3 _ _ kh_rfl fun h4 tk4 k4 => ?_))
  simp only [Bool.false_eq_true, if_false]
  have T4 := T3.keep k4
  refine wpAny_execs_cons (wpAny_If ((PT.inTup (x := Str.ofString "0") (c := false) (PG.sign (k := 0) (PG.nameK T4.hn hx ⟨tx, rfl⟩ (upS (x := Str.ofString "0-9"))) PG.int (by decide) (by decide) (by decide)) (PG.tupleRd (PA.rd (d := .str (Str.ofString "^")) (PG.str.imp fun v h k kv => by obtain ⟨t, rfl⟩ := kv; exact ⟨_, .str _ t⟩) (PA.rd (d := .str (Str.ofString "[")) (PG.str.imp fun v h k kv => by obtain ⟨t, rfl⟩ := kv; exact ⟨_, .str _ t⟩) PA.rd0))) (by kernel_rfl) (by kernel_rfl) (by show un + 3 + 1 < cLine; omega) (by decide)).run h4 tk4 _ _ kh_rfl fun h5 tk5 k5 => ?_))
  simp only [Bool.false_eq_true, if_false]
  have T5 := T4.keep k5
  obtain ⟨nD, hD⟩ := T5.hD
  refine wpAny_execs_nil (wpAny_execs_nil (wpAny_execs_cons (add_stmt T5.hn F1.add T5.hq hD (PG.fstr PG.str (PG.nameK T5.hn hx ⟨tx, rfl⟩ (upS (x := Str.ofString "0-9"))) PG.str (by decide)) hv fun v h6 h7 tk7 k6 hv hD7 k7 => ?_)))
  obtain ⟨t, rfl⟩ := hv
  exact wpAny_execs_nil (wpAny_execs_nil (wpAny_execs_nil (hQ _ h7 _ t ((T5.keep k6).push W hD7 k7) F1 ⟨ui, rfl⟩)))
end

end Mine
end
section
open PySem PySem.W PyProof.Rows PySem.Calls
set_option Elab.async false
set_option maxRecDepth 100000
set_option maxHeartbeats 4000000
set_option linter.unusedVariables false
namespace Mine
/-- what the turn of a bracket gives -/
noncomputable def BrOk (w : World) (pat : Str) (br : Nat → Option (Str × Nat)) : Prop := ∀ (dp un : Nat) (gd : Option (List Code)) (fr : Option (List Env)) (s' : Shared) (Q : Flow → Shared → Prop) (E : Value → Shared → Prop) (g : Heap) (L D q : Addr) (m : Str → Option Value) (vs ps : Array Value) (t1 t2 t3 : Tok)
  (loose : List Str) (mean : ExcName → Option Value) (mg mb : Str → Option Value) (h : Heap) (tk i j : Nat) (x : Str) (ti : Tok)
  (_ : br i = some (x, j)) (_ : (hd.heap_39 w.params).In g) (_ : Top topProg loose mean mg mb g) (_ : CodeHd g 75 71) (_ : TriplesOk ps.toList) (_ : AllBare s'.gens) (_ : TW g L D q) (_ : TH g L D q m vs ps h) (_ : MF D q pat t1 t2 t3 m) (_ : m (Str.ofString "i") = some (.int ((i + 1 : Nat) : Int) ti))
  (_ : vs.size ≤ 1000) (_ : dp + 3 < recursionLimit) (_ : un + 30 < cLine) (_ : PassesOwn (model PySem.Challenge.rw_in0044_01.row.prog w) ((AA dp un gd fr).deeper (trEnv L)) (trEnv L) E)
  (_ : ∀ m' s'' t ps', TH g L D q m' (vs.push (.str x t)) ps' s''.heap → MF D q pat t1 t2 t3 m' → (∃ u, m' (Str.ofString "i") = some (.int (j : Int) u)) → TriplesOk ps'.toList → AllBare s''.gens → s''.os = s'.os → Q .next s''),
  wpAny (model PySem.Challenge.rw_in0044_01.row.prog w) ((AA dp un gd fr).deeper (trEnv L)) (execs brBody (trEnv L)) Q E { s' with heap := h, toks := tk }
section
variable {w : World}
theorem PG.repS {A : Around} {env : Env} {h : Heap} {s' : Shared} {o a b : Expr} {ap p : Pos} {x y z r : Str} (pl : Sem Bool) (u : PG PySem.Challenge.rw_in0044_01.row.prog w A env o h s' (KStr x)) (v : PG PySem.Challenge.rw_in0044_01.row.prog w A env a h s' (KStr y)) (v' : PG PySem.Challenge.rw_in0044_01.row.prog w A env b h s' (KStr z))
    (hr : ∀ (s : Shared) (Q E : Value → Shared → Prop) (t1 t2 t3 : Tok), XS s Q r → wpAny (model PySem.Challenge.rw_in0044_01.row.prog w) A (call (.builtin "str.replace") [.str x t1, .str y t2, .str z t3]) Q E s)
    (he : eval (.Call (.Attribute o (Str.ofString "replace") ap) [a, b] [] p) env = (do
      let ov ← eval o env
      standAt ap.atName
      let (f, first) ← holding [ov] (getMethod ov (Str.ofString "replace") pl)
      callWith p f first (backTo p (starEach [a, b] env)) []) := by rfl)
    (h1 : starEach [a, b] env = (false, eval a env) :: starEach [b] env := by rfl) (h2 : starEach [b] env = (false, eval b env) :: starEach [] env := by rfl) : PG PySem.Challenge.rw_in0044_01.row.prog w A env (.Call (.Attribute o (Str.ofString "replace") ap) [a, b] [] p) h s' (KStr r) :=
  PG.meth (pl := pl) u upS (PA.two v upS v' upS h1 h2) (T := "str") (fun v h' tk' k => by obtain ⟨t, rfl⟩ := k; exact typeIs_str _ _ _) (fun v h' a k e => by obtain ⟨t, rfl⟩ := k; cases e) PySem.F.plainAttrs_str PySem.F.slot_str_replace PySem.F.type_str_replace
    (fun v vs h' k kv ⟨v1, v2, e, k1, k2⟩ => by
      subst e
      obtain ⟨t, rfl⟩ := kv
      obtain ⟨t1, rfl⟩ := k1
      obtain ⟨t2, rfl⟩ := k2
      exact .mk fun h tk Q E kk hQ => hr _ _ _ _ _ _ fun t' h'' tk' k'' => hQ _ h'' tk' k'' ⟨t', rfl⟩) he h1 (by rw [h2]; rfl)
noncomputable def br8 : Nat → Option (Str × Nat) := fun i => if i = 1 then some (Str.ofString "[^8]", 5) else none
theorem brOk8 : BrOk w (Str.ofString "*[!8]") br8 := by
  intro dp un gd fr s' Q E g L D q m vs ps t1 t2 t3 loose mean mg mb h tk i j x ti hbr X To C hT hB W T F hi hv hdp hun hE hQ
  unfold br8 at hbr
  split at hbr
  case isFalse => cases hbr
  case isTrue hi1 =>
  subst hi1
  cases hbr
  refine br_pre (i0 := 2) (c0 := 33) (j1 := 3) (jE := 4) hE W T F hi (by decide) (by unfold cpAt; decide) rfl (fun k a b => (show k = 3 by omega) ▸ ⟨56, by unfold cpAt; decide, by decide⟩) (by omega) (by unfold cpAt; decide) ?_
  intro m1 h1 tk1 T1 F1 ⟨ui, hi⟩ ⟨uj, hj⟩
  obtain ⟨un', hn⟩ := F1.n
  refine wpAny_execs_cons (wpAny_If ((PT.ge (c := false) (PG.nameK T1.hn hj ⟨uj, rfl⟩ (upI (i := ((4 : Nat) : Int)))) (PG.nameK T1.hn hn ⟨un', rfl⟩ (upI (i := ((Str.ofString "*[!8]").length : Int)))) (by decide)).run h1 tk1 _ _ kh_rfl fun h2 tk2 k2 => ?_))
  simp only [Bool.false_eq_true, if_false]
  have T2 := T1.keep k2
  refine wpAny_execs_cons (asgT (fun v => ∃ t, v = .str (Str.ofString "!8") t) T2 W (PG.slc (PG.nameK T2.hn F1.p ⟨t1, rfl⟩ (upS (x := Str.ofString "*[!8]"))) (PP.some (PG.nameK T2.hn hi ⟨ui, rfl⟩ (upI (i := ((2 : Nat) : Int))))) (PP.some (PG.nameK T2.hn hj ⟨uj, rfl⟩ (upI (i := ((4 : Nat) : Int))))) (by decide)) (fun v h hv => by rw [← show Txt.slice (Str.ofString "*[!8]") (some ((2 : Nat) : Int)) (some ((4 : Nat) : Int)) = Str.ofString "!8" by decide]; exact hv) ?_)
  rintro v h3 tk3 ⟨t3', rfl⟩ T3
  have F3 := F1.set (y := Str.ofString "stuff") (v := .str (Str.ofString "!8") t3')
  refine wpAny_execs_cons (wpAny_If ((PT.notinStr (c := true) PG.str (PG.nameK T3.hn rfl ⟨t3', rfl⟩ (upS (x := Str.ofString "!8"))) (by decide +kernel)).run h3 tk3 _ _ kh_rfl fun h4 tk4 k4 => ?_))
  simp only [if_true]
  have T4 := T3.keep k4
  refine wpAny_execs_cons (asgT (fun v => ∃ t, v = .str (Str.ofString "!8") t) T4 W (PG.repS (x := Str.ofString "!8") (y := Str.ofString "\\") (z := Str.ofString "\\\\") (r := Str.ofString "!8") _ (PG.nameK T4.hn rfl ⟨t3', rfl⟩ upS) PG.str PG.str fun s Q E t1 t2 t3 R => x_rep1 R) (fun v h hv => hv) ?_)
  rintro v h5 tk5 ⟨t5, rfl⟩ T5
  have F5 := F3.set (y := Str.ofString "stuff") (v := .str (Str.ofString "!8") t5)
  refine wpAny_execs_nil (br_sub (x := Str.ofString "!8") X To C hT W T5 ⟨t5, rfl⟩ (fun s Q E a d fd sl t X h R => x_sub1 X a d fd sl h (by show un + 3 + 10 < cLine; omega) R) fun h6 tk6 ps6 t6 T6 hT6 => ?_)
  refine br_fin8 (jE := 4) W T6 F5.set ⟨t6, rfl⟩ ⟨uj, hj⟩ hv fun m' h' tk' t T' F' hi' => ?_
  exact wpAny_execs_nil (hQ m' _ t ps6 T' F' hi' hT6 hB rfl)
end

end Mine
end
section
open PySem PySem.W PyProof.Rows PySem.Calls
set_option Elab.async false
set_option maxRecDepth 100000
set_option maxHeartbeats 4000000
set_option linter.unusedVariables false
namespace Mine
structure CW (g : Heap) (L D q Ca : Addr) : Prop where
  gC : g.get? Ca = none
  cL : Ca ≠ L
  cD : Ca ≠ D
  cq : Ca ≠ q
  c7 : Ca ≠ (71 : Addr)
structure T9 (g : Heap) (L D q Ca : Addr) (m : Str → Option Value) (vs ps : Array Value) (cs : List Str) (h : Heap) : Prop where
  th : TH g L D q m vs ps h
  hC : ∃ ws n, h.get? Ca = some (listOf ws n) ∧ StrsAre ws.toList cs
section
variable {w : World} {dp un : Nat} {gd : Option (List Code)} {fr : Option (List Env)} {s' : Shared} {Q : Flow → Shared → Prop} {E : Value → Shared → Prop} {g : Heap} {L D q Ca : Addr} {m : Str → Option Value} {vs ps : Array Value} {pat : Str} {t1 t2 t3 : Tok} {cs : List Str} {h h' : Heap}
theorem T9.keep (T : T9 g L D q Ca m vs ps cs h) (k : KeepsH h h') : T9 g L D q Ca m vs ps cs h' := ⟨T.th.keep k, let ⟨a, b, c, d⟩ := T.hC; ⟨a, b, k _ _ c, d⟩⟩
theorem T9.set (T : T9 g L D q Ca m vs ps cs h) (W : TW g L D q) (CW : CW g L D q Ca) (k : ∀ b o, b ≠ L → h.get? b = some o → h'.get? b = some o) {m' : Str → Option Value} (hn : h'.Ns L m') : T9 g L D q Ca m' vs ps cs h' := ⟨T.th.set W k hn, let ⟨a, b, c, d⟩ := T.hC; ⟨a, b, k _ _ CW.cL c, d⟩⟩
theorem T9.push (T : T9 g L D q Ca m vs ps cs h) (CW : CW g L D q Ca) {cs' : List Str} (hc : ∃ ws n, h'.get? Ca = some (listOf ws n) ∧ StrsAre ws.toList cs') (k : ∀ b o, b ≠ Ca → h.get? b = some o → h'.get? b = some o) : T9 g L D q Ca m vs ps cs' h' :=
  ⟨⟨fun b o e => k b o (fun q => by rw [q, CW.gC] at e; cases e) (T.th.kg b o e), T.th.hn.at' fun o e => k _ o (Ne.symm CW.cL) e, let ⟨n, e⟩ := T.th.hD; ⟨n, k _ _ (Ne.symm CW.cD) e⟩, k _ _ (Ne.symm CW.cq) T.th.hq, k _ _ (Ne.symm CW.c7) T.th.ht⟩, hc⟩
/-- an assignment to a local, with the chunks -/
theorem asg9 {y : Str} {py pos : Pos} {e : Expr} {K : Value → Heap → Prop} {tk : Nat} (K' : Value → Prop) (T : T9 g L D q Ca m vs ps cs h) (W : TW g L D q) (CW : CW g L D q Ca)
    (x : PG PySem.Challenge.rw_in0044_01.row.prog w ((AA dp un gd fr).deeper (trEnv L)) (trEnv L) e h s' K) (hK : ∀ v h, K v h → K' v)
    (hQ : ∀ v h' tk', K' v → T9 g L D q Ca (fun z => if z = y then some v else m z) vs ps cs h' → Q .next { s' with heap := h', toks := tk' })
    (hy : (trEnv L).kindOf y = some .local := by rfl) (hs : swapsWith e (some (.Name y py)) pos.line (trEnv L) = pure false := by rfl) : wpAny (model PySem.Challenge.rw_in0044_01.row.prog w) ((AA dp un gd fr).deeper (trEnv L)) (exec (.Assign [.Name y py] e pos) (trEnv L)) Q E { s' with heap := h, toks := tk } :=
  asg_pure (s := { s' with heap := h, toks := tk }) (h₀ := h) (.mk fun h₁ tk₁ Q E k hq => x.run h₁ tk₁ Q E k hq) kh_rfl T.th.hn (fun v h' h'' tk' k' kv k'' hn => hQ v h'' tk' (hK _ _ kv) ((T.keep k').set W CW k'' hn)) hy rfl hs
/-- chunks.append(e) -/
theorem app9 {r e : Expr} {ap p pos : Pos} {x : Str} {K : Value → Heap → Prop} {tk : Nat} (pl : Sem Bool) (T : T9 g L D q Ca m vs ps cs h) (CW : CW g L D q Ca) (hl : cs.length ≤ 1000)
    (hr : PG PySem.Challenge.rw_in0044_01.row.prog w ((AA dp un gd fr).deeper (trEnv L)) (trEnv L) r h s' (fun u _ => u = .ref Ca)) (y : PG PySem.Challenge.rw_in0044_01.row.prog w ((AA dp un gd fr).deeper (trEnv L)) (trEnv L) e h s' K) (hK : ∀ v h, K v h → ∃ t, v = .str x t)
    (hQ : ∀ h' tk', T9 g L D q Ca m vs ps (cs ++ [x]) h' → Q .next { s' with heap := h', toks := tk' })
    (he : eval (.Call (.Attribute r (Str.ofString "append") ap) [e] [] p) (trEnv L) = (do
      let ov ← eval r (trEnv L)
      standAt ap.atName
      let (f, first) ← holding [ov] (getMethod ov (Str.ofString "append") pl)
      callWith p f first (backTo p (starEach [e] (trEnv L))) []) := by rfl)
    (h1 : starEach [e] (trEnv L) = (false, eval e (trEnv L)) :: starEach [] (trEnv L) := by rfl)
    (hs : swapsWith (.Call (.Attribute r (Str.ofString "append") ap) [e] [] p) none pos.line (trEnv L) = pure false := by rfl) :
    wpAny (model PySem.Challenge.rw_in0044_01.row.prog w) ((AA dp un gd fr).deeper (trEnv L)) (exec (.Expr (.Call (.Attribute r (Str.ofString "append") ap) [e] [] p) pos) (trEnv L)) Q E { s' with heap := h, toks := tk } := by
  obtain ⟨ws, n, hC, hw⟩ := T.hC
  have hwl : ws.size ≤ 1000 := by have := hw.length; simp only [Array.length_toList] at this; omega
  refine append_stmt pl hr ⟨n, hC⟩ y (by rw [PySem.sizeLine_eq]; omega) (fun v h1 h2 tk2 k1 kv ⟨n2, hc2⟩ k2 => ?_) he h1 rfl hs
  obtain ⟨t, rfl⟩ := hK _ _ kv
  exact hQ h2 tk2 ((T.keep k1).push CW ⟨_, n2, hc2, by rw [Array.toList_push]; exact strsAre_snoc hw x t⟩ k2)
end
theorem src_down {prog : Program} {w : World} {A : Around} {s : Shared} {g : Heap} {r : Addr} {t u v0 : Tok} (hh : A.handled = none) (hr : IsRange s.heap r 1 0 (-1) t u v0) : Src prog w A (.ref r) s g [1] (fun _ v (k : Nat) => ∃ t, v = .int (k : Int) t) := by
  have hsz : Builtin.Range.rangeSize 1 0 (-1) = ((1 : Nat) : Int) := by decide +kernel
  refine wpAny_pyIter_range hr (by decide +kernel) ?_
  rw [hsz]
  refine ⟨_, _, _, _, _, _, rfl, Walks.range hh _ 1 (-1) 1, by rw [PySem.sizeLine_eq]; omega, ?_, ?_, by simp, ?_, ⟨_, _, rfl, fun b o e => Heap.get?_push_of_some _ e⟩, ?_, ?_, ?_⟩
  · show (s.heap.push _).get? _ = _
    rw [Heap.get?_push_size _ rfl]; simp
  · intro b hb
    show b < (s.heap.push _).objs.size
    rw [Heap.size_push, List.mem_singleton.mp hb]; exact Nat.lt_succ_self _
  · rintro j v hj ⟨t', rfl⟩
    obtain rfl : j = 0 := by omega
    exact ⟨1, rfl, t', by simp⟩
  · intro b hb
    rw [List.mem_singleton.mp hb]
    exact ⟨Heap.get?_none_of_le (Nat.le_refl _), by show _ < (s.heap.push _).objs.size; rw [Heap.size_push]; exact Nat.lt_succ_self _⟩
  · intro i h e b hb
    rw [List.mem_singleton.mp hb]; exact ⟨_, e⟩
  · exact fun b hb => .inl hb

end Mine
end
section
open PySem PySem.W PyProof.Rows PySem.Calls
set_option Elab.async false
set_option maxRecDepth 100000
set_option maxHeartbeats 4000000
set_option linter.unusedVariables false
namespace Mine
section
variable {w : World}
noncomputable abbrev pat9 : Str := Str.ofString "*-[0-9]"
noncomputable def br09 : Nat → Option (Str × Nat) := fun i => if i = 2 then some (Str.ofString "[0-9]", 7) else none
theorem PG.find9 {A : Around} {env : Env} {h : Heap} {s' : Shared} {o a b c : Expr} {ap p : Pos} {i r : Int} (pl : Sem Bool) (u : PG PySem.Challenge.rw_in0044_01.row.prog w A env o h s' (KStr pat9)) (v : PG PySem.Challenge.rw_in0044_01.row.prog w A env a h s' (KStr (Str.ofString "-"))) (v' : PG PySem.Challenge.rw_in0044_01.row.prog w A env b h s' (KInt i)) (v'' : PG PySem.Challenge.rw_in0044_01.row.prog w A env c h s' (KInt 6))
    (hr : i = 4 ∧ r = 4 ∨ i = 7 ∧ r = -1)
    (he : eval (.Call (.Attribute o (Str.ofString "find") ap) [a, b, c] [] p) env = (do
      let ov ← eval o env
      standAt ap.atName
      let (f, first) ← holding [ov] (getMethod ov (Str.ofString "find") pl)
      callWith p f first (backTo p (starEach [a, b, c] env)) []) := by rfl)
    (h1 : starEach [a, b, c] env = (false, eval a env) :: starEach [b, c] env := by rfl) (h2 : starEach [b, c] env = (false, eval b env) :: starEach [c] env := by rfl) (h3 : starEach [c] env = (false, eval c env) :: starEach [] env := by rfl) : PG PySem.Challenge.rw_in0044_01.row.prog w A env (.Call (.Attribute o (Str.ofString "find") ap) [a, b, c] [] p) h s' (KInt r) :=
  PG.meth (pl := pl) u upS (PA.cons v upS (PA.two v' upI v'' upI h2 h3) h1) (T := "str") (fun v h' tk' k => by obtain ⟨t, rfl⟩ := k; exact typeIs_str _ _ _) (fun v h' a k e => by obtain ⟨t, rfl⟩ := k; cases e) PySem.F.plainAttrs_str PySem.F.slot_str_find PySem.F.type_str_find
    (fun v vs h' k kv ⟨v1, vs', e, k1, v2, v3, e', k2, k3⟩ => by
      subst e
      subst e'
      obtain ⟨t, rfl⟩ := kv
      obtain ⟨t1, rfl⟩ := k1
      obtain ⟨t2, rfl⟩ := k2
      obtain ⟨t3, rfl⟩ := k3
      rcases hr with ⟨rfl, rfl⟩ | ⟨rfl, rfl⟩
      · exact .mk fun h tk Q E kk hQ => find_1 (hQ _ _ _ kh_rfl ⟨_, rfl⟩)
      · exact .mk fun h tk Q E kk hQ => find_2 (hQ _ _ _ kh_rfl ⟨_, rfl⟩)) he h1 (by rw [h2, h3]; rfl)
noncomputable def br9Body : List Stmt := match brElse with
  | [_, .If _ _ b _, _, _, _] => b
  | _ => []
variable {dp un : Nat} {gd : Option (List Code)} {fr : Option (List Env)} {s' : Shared} {Q : Flow → Shared → Prop} {E : Value → Shared → Prop} {g : Heap} {L D q : Addr} {m : Str → Option Value} {vs ps : Array Value} {t1 t2 t3 : Tok} {h : Heap}
/-- the chunks of 0-9 -/
theorem br9_chunks {tk : Nat} (hE : PassesOwn (model PySem.Challenge.rw_in0044_01.row.prog w) ((AA dp un gd fr).deeper (trEnv L)) (trEnv L) E) (W : TW g L D q) (T : TH g L D q m vs ps h) (F : MF D q pat9 t1 t2 t3 m)
    (hi : ∃ u, m (Str.ofString "i") = some (.int ((3 : Nat) : Int) u)) (hj : ∃ u, m (Str.ofString "j") = some (.int ((6 : Nat) : Int) u))
    (hQ : ∀ m' h' tk' Ca, CW g L D q Ca → T9 g L D q Ca m' vs ps [Str.ofString "0"] h' → MF D q pat9 t1 t2 t3 m' → m' (Str.ofString "chunks") = some (.ref Ca) → (∃ u, m' (Str.ofString "i") = some (.int ((5 : Nat) : Int) u)) → (∃ u, m' (Str.ofString "j") = some (.int ((6 : Nat) : Int) u)) →
      wpAny (model PySem.Challenge.rw_in0044_01.row.prog w) ((AA dp un gd fr).deeper (trEnv L)) (execs (br9Body.drop 3) (trEnv L)) Q E { s' with heap := h', toks := tk' }) :
    wpAny (model PySem.Challenge.rw_in0044_01.row.prog w) ((AA dp un gd fr).deeper (trEnv L)) (execs br9Body (trEnv L)) Q E { s' with heap := h, toks := tk } := by
  obtain ⟨ui, hi⟩ := hi
  obtain ⟨uj, hj⟩ := hj
  refine wpAny_execs_cons (asg_pure (s := { s' with heap := h, toks := tk }) (h₀ := h) PG.emptyList kh_rfl T.hn ?_)
  rintro v h1 h2 tk2 k1 ⟨Ca, rfl, hCn, c, hC⟩ k2 hn2
  have nC : ∀ {b : Addr} {o : Obj}, h.get? b = some o → Ca ≠ b := fun e q => by rw [← q, hCn] at e; cases e
  have CW1 : CW g L D q Ca := by
    refine ⟨noneOf T.kg hCn, ?_, ?_, nC T.hq, nC T.ht⟩
    · obtain ⟨o, _, _, e, _⟩ := T.hn; exact nC e
    · obtain ⟨n, e⟩ := T.hD; exact nC e
  have T2 : T9 g L D q Ca _ vs ps [] h2 := ⟨(T.keep k1).set W k2 hn2, #[], c, k2 _ _ CW1.cL hC, .nil⟩
  have F2 := F.set (y := Str.ofString "chunks") (v := .ref Ca)
  clear k1 k2 hn2 hC hCn nC
  refine wpAny_execs_cons (asg9 (fun v => ∃ t, v = .int ((4 : Nat) : Int) t) T2 W CW1 (PG.ifexp (c := false) (PT.eqStr (x := ⟨#[48]⟩) (PG.at (k := 3) (c := 48) (by unfold cpAt; decide) (PG.nameK T2.th.hn F2.p ⟨t1, rfl⟩ (upS (x := pat9))) (PG.nameK T2.th.hn hi ⟨ui, rfl⟩ (upI (i := ((3 : Nat) : Int)))) (by decide)) PG.str (by decide)) (fun q => nomatch q) (fun _ => PG.add (PG.nameK T2.th.hn hi ⟨ui, rfl⟩ (upI (i := ((3 : Nat) : Int)))) (PG.int (i := 1)))) (fun v h hv => hv) ?_)
  rintro v h3 tk3 ⟨uk, rfl⟩ T3
  have F3 := F2.set (y := Str.ofString "k") (v := .int ((4 : Nat) : Int) uk)
  refine wpAny_execs_cons (gwhileO (fun n s'' => ∃ (m : Str → Option Value) (h : Heap) (tk : Nat) (cs : List Str) (i k : Nat), s'' = { s' with heap := h, toks := tk } ∧ T9 g L D q Ca m vs ps cs h ∧ MF D q pat9 t1 t2 t3 m ∧ m (Str.ofString "chunks") = some (.ref Ca) ∧ (∃ u, m (Str.ofString "i") = some (.int (i : Int) u)) ∧ (∃ u, m (Str.ofString "j") = some (.int ((6 : Nat) : Int) u)) ∧ (∃ u, m (Str.ofString "k") = some (.int (k : Int) u)) ∧
    (n = 1 ∧ i = 3 ∧ k = 4 ∧ cs = [] ∨ n = 0 ∧ i = 5 ∧ k = 7 ∧ cs = [Str.ofString "0"])) ?turn 1 ⟨_, h3, tk3, [], 3, 4, rfl, T3, F3, rfl, ⟨ui, hi⟩, ⟨uj, hj⟩, ⟨uk, rfl⟩, .inl ⟨rfl, rfl, rfl, rfl⟩⟩ hE)
  rintro n _ ⟨m, h, tk, cs, i, k, rfl, T, F, hch, ⟨ui, hi⟩, ⟨uj, hj⟩, ⟨uk, hk⟩, hcase⟩ Q9 N9 E9 hE9 hnext9 hbrk9 _ _
  refine (PT.plain (PG.bool (b := true))).run h tk _ _ kh_rfl fun h4 tk4 k4 => ?_
  simp only [if_true]
  have T4 := T.keep k4
  rcases hcase with ⟨rfl, rfl, rfl, rfl⟩ | ⟨rfl, rfl, rfl, rfl⟩
  · refine wpAny_execs_cons (asg9 (fun v => ∃ t, v = .int ((4 : Nat) : Int) t) T4 W CW1 (PG.find9 (i := 4) (r := 4) _ (PG.nameK T4.th.hn F.p ⟨t1, rfl⟩ upS) PG.str (PG.nameK T4.th.hn hk ⟨uk, rfl⟩ upI) (PG.nameK T4.th.hn hj ⟨uj, rfl⟩ upI) (.inl ⟨rfl, rfl⟩)) (fun v h hv => hv) ?_)
    rintro v h5 tk5 ⟨u5, rfl⟩ T5
    have F5 := F.set (y := Str.ofString "k") (v := .int ((4 : Nat) : Int) u5)
    refine wpAny_execs_cons (wpAny_If ((PT.lt (c := false) (PG.nameK T5.th.hn rfl ⟨u5, rfl⟩ (upI (i := ((4 : Nat) : Int)))) (PG.int (i := 0)) (by decide)).run h5 tk5 _ _ kh_rfl fun h6 tk6 k6 => ?_))
    simp only [Bool.false_eq_true, if_false]
    have T6 := T5.keep k6
    refine wpAny_execs_nil (wpAny_execs_cons (app9 (x := Str.ofString "0") _ T6 CW1 (by decide) (PG.name T6.th.hn hch) (PG.slc (PG.nameK T6.th.hn F5.p ⟨t1, rfl⟩ (upS (x := pat9))) (PP.some (PG.nameK T6.th.hn hi ⟨ui, rfl⟩ (upI (i := ((3 : Nat) : Int))))) (PP.some (PG.nameK T6.th.hn rfl ⟨u5, rfl⟩ (upI (i := ((4 : Nat) : Int))))) (by decide)) (fun v h hv => by rw [← show Txt.slice pat9 (some ((3 : Nat) : Int)) (some ((4 : Nat) : Int)) = Str.ofString "0" by decide]; exact hv) fun h7 tk7 T7 => ?_))
    refine wpAny_execs_cons (asg9 (fun v => ∃ t, v = .int ((5 : Nat) : Int) t) T7 W CW1 (PG.add (PG.nameK T7.th.hn rfl ⟨u5, rfl⟩ (upI (i := ((4 : Nat) : Int)))) (PG.int (i := 1))) (fun v h hv => hv) ?_)
    rintro v h8 tk8 ⟨u8, rfl⟩ T8
    have F8 := F5.set (y := Str.ofString "i") (v := .int ((5 : Nat) : Int) u8)
    refine wpAny_execs_cons (asg9 (fun v => ∃ t, v = .int ((7 : Nat) : Int) t) T8 W CW1 (PG.add (PG.nameK T8.th.hn rfl ⟨u5, rfl⟩ (upI (i := ((4 : Nat) : Int)))) (PG.int (i := 3))) (fun v h hv => hv) ?_)
    rintro v h9 tk9 ⟨u9, rfl⟩ T9
    exact wpAny_execs_nil (hnext9 0 _ (by omega) ⟨_, h9, tk9, _, 5, 7, rfl, T9, F8.set, hch, ⟨u8, rfl⟩, ⟨uj, hj⟩, ⟨u9, rfl⟩, .inr ⟨rfl, rfl, rfl, rfl⟩⟩)
  · refine wpAny_execs_cons (asg9 (fun v => ∃ t, v = .int (-1) t) T4 W CW1 (PG.find9 (i := 7) (r := -1) _ (PG.nameK T4.th.hn F.p ⟨t1, rfl⟩ upS) PG.str (PG.nameK T4.th.hn hk ⟨uk, rfl⟩ upI) (PG.nameK T4.th.hn hj ⟨uj, rfl⟩ upI) (.inr ⟨rfl, rfl⟩)) (fun v h hv => hv) ?_)
    rintro v h5 tk5 ⟨u5, rfl⟩ T5
    refine wpAny_execs_cons (wpAny_If ((PT.lt (c := true) (PG.nameK T5.th.hn rfl ⟨u5, rfl⟩ (upI (i := -1))) (PG.int (i := 0)) (by decide)).run h5 tk5 _ _ kh_rfl fun h6 tk6 k6 => ?_))
    simp only [if_true]
    have T6 := T5.keep k6
    refine wpAny_execs_cons (wpAny_Break ?_)
    exact hbrk9 _ (hQ _ h6 tk6 Ca CW1 T6 F.set hch ⟨ui, hi⟩ ⟨uj, hj⟩)
end

end Mine
end
section
open PySem PySem.W PyProof.Rows PySem.Calls
set_option Elab.async false
set_option maxRecDepth 100000
set_option maxHeartbeats 4000000
set_option linter.unusedVariables false
namespace Mine
section
variable {w : World} {dp un : Nat} {loose : List Str} {mean : ExcName → Option Value} {mg mb : Str → Option Value} {gd : Option (List Code)} {fr : Option (List Env)} {s' : Shared} {Q : Flow → Shared → Prop} {E : Value → Shared → Prop} {g : Heap} {L D q Ca : Addr} {m : Str → Option Value} {vs ps : Array Value} {t1 t2 t3 : Tok} {h h' h₀ : Heap} {cs : List Str}
theorem T9.but {wr : List Addr} {m₀ : Str → Option Value} (T : T9 g L D q Ca m vs ps cs h) (T0 : T9 g L D q Ca m₀ vs ps cs h₀) (hw : ∀ b ∈ wr, h₀.get? b = none) (k : KeepBut wr h h') : T9 g L D q Ca m vs ps cs h' := by
  have nw : ∀ {b : Addr} {o : Obj}, h₀.get? b = some o → b ∉ wr := fun e hb => by rw [hw _ hb] at e; cases e
  obtain ⟨ws0, n0, c0, _⟩ := T0.hC
  obtain ⟨ws, n, c1, hw1⟩ := T.hC
  obtain ⟨o, _, _, eL, _⟩ := T0.th.hn
  obtain ⟨nD0, d0⟩ := T0.th.hD
  obtain ⟨nD, d1⟩ := T.th.hD
  exact ⟨⟨fun b o e => k b o (nw (T0.th.kg b o e)) (T.th.kg b o e), T.th.hn.at' fun o e => k _ o (nw eL) e, ⟨nD, k _ _ (nw d0) d1⟩, k _ _ (nw T0.th.hq) T.th.hq, k _ _ (nw T0.th.ht) T.th.ht⟩, ws, n, k _ _ (nw c0) c1, hw1⟩
theorem PG.range3 {env : Env} {A : Around} {a b c : Expr} {p1 p : Pos} {i j k : Int} (G : Gl w h₀) (x : PG PySem.Challenge.rw_in0044_01.row.prog w A env a h₀ s' (KInt i)) (y : PG PySem.Challenge.rw_in0044_01.row.prog w A env b h₀ s' (KInt j)) (z : PG PySem.Challenge.rw_in0044_01.row.prog w A env c h₀ s' (KInt k)) (hk0 : k ≠ 0) (hp : Builtin.divisionGoesByPylong (j - i) k = false)
    (hg : env.globals = mainGlobals := by rfl) (hbi : env.builtins = builtinsNs := by rfl) (hk : env.scope.kind = .function := by rfl) (hx : env.kindOf (Str.ofString "range") = some .globalImplicit := by rfl)
    (he : eval (.Call (.Name (Str.ofString "range") p1) [a, b, c] [] p) env = (do callWith p (← eval (.Name (Str.ofString "range") p1) env) [] (backTo p (starEach [a, b, c] env)) (backToKw p (keywordEach [] env))) := by rfl)
    (h1 : starEach [a, b, c] env = (false, eval a env) :: starEach [b, c] env := by rfl) (h2 : starEach [b, c] env = (false, eval b env) :: starEach [c] env := by rfl) (h3 : starEach [c] env = (false, eval c env) :: starEach [] env := by rfl) :
    PG PySem.Challenge.rw_in0044_01.row.prog w A env (.Call (.Name (Str.ofString "range") p1) [a, b, c] [] p) h₀ s' (fun v h => ∃ r t u x, v = .ref r ∧ IsRange h r i j k t u x) :=
  PG.callT (Gl.built G e_range b_range (by decide) hg hbi hk hx (by decide)) (PA.cons x upI (PA.two y upI z upI h2 h3) h1)
    (fun vs h' kk ⟨v1, vs', e, k1, v2, v3, e', k2, k3⟩ => by
      subst e
      subst e'
      obtain ⟨t1, rfl⟩ := k1
      obtain ⟨t2, rfl⟩ := k2
      obtain ⟨t3, rfl⟩ := k3
      exact .mk fun h tk Q E kq hQ => call_range_3 hk0 (hQ _ _ _ (fun b o e => Heap.get?_push_of_some _ e) ⟨_, _, _, _, rfl, IsRange.new ..⟩) (.inl hp)) he h1 (by rw [h2, h3]; rfl)
theorem br9_rest {tk : Nat} (X : (hd.heap_39 w.params).In g) (To : Top topProg loose mean mg mb g) (C : CodeHd g 75 71) (hT : TriplesOk ps.toList) (hB : AllBare s'.gens) (hE : PassesOwn (model PySem.Challenge.rw_in0044_01.row.prog w) ((AA dp un gd fr).deeper (trEnv L)) (trEnv L) E) (hdp : dp + 3 < recursionLimit) (hun : un + 30 < cLine)
    (W : TW g L D q) (CW1 : CW g L D q Ca) (T : T9 g L D q Ca m vs ps [Str.ofString "0"] h) (F : MF D q pat9 t1 t2 t3 m) (hch : m (Str.ofString "chunks") = some (.ref Ca))
    (hi : ∃ u, m (Str.ofString "i") = some (.int ((5 : Nat) : Int) u)) (hj : ∃ u, m (Str.ofString "j") = some (.int ((6 : Nat) : Int) u))
    (hQ : ∀ m' s'' ps', TH g L D q m' vs ps' s''.heap → TriplesOk ps'.toList → AllBare s''.gens → s''.os = s'.os → MF D q pat9 t1 t2 t3 m' → (∃ u, m' (Str.ofString "stuff") = some (.str (Str.ofString "0-9") u)) → (∃ u, m' (Str.ofString "j") = some (.int ((6 : Nat) : Int) u)) → Q .next s'') :
    wpAny (model PySem.Challenge.rw_in0044_01.row.prog w) ((AA dp un gd fr).deeper (trEnv L)) (execs (br9Body.drop 3) (trEnv L)) Q E { s' with heap := h, toks := tk } := by
  obtain ⟨ui, hi⟩ := hi
  obtain ⟨uj, hj⟩ := hj
  have G : Gl w g := ⟨loose, mean, mg, mb, X, To⟩
  refine wpAny_execs_cons (asg9 (fun v => ∃ t, v = .str (Str.ofString "9") t) T W CW1 (PG.slc (PG.nameK T.th.hn F.p ⟨t1, rfl⟩ (upS (x := pat9))) (PP.some (PG.nameK T.th.hn hi ⟨ui, rfl⟩ (upI (i := ((5 : Nat) : Int))))) (PP.some (PG.nameK T.th.hn hj ⟨uj, rfl⟩ (upI (i := ((6 : Nat) : Int))))) (by decide)) (fun v h hv => by rw [← show Txt.slice pat9 (some ((5 : Nat) : Int)) (some ((6 : Nat) : Int)) = Str.ofString "9" by decide]; exact hv) ?_)
  rintro v h1 tk1 ⟨u1, rfl⟩ T1
  have F1 := F.set (y := Str.ofString "chunk") (v := .str (Str.ofString "9") u1)
  refine wpAny_execs_cons (wpAny_If ((PT.truthyS (b := true) (PG.nameK T1.th.hn rfl ⟨u1, rfl⟩ (upS (x := Str.ofString "9"))) (by decide) (by decide)).run h1 tk1 _ _ kh_rfl fun h2 tk2 k2 => ?_))
  simp only [if_true]
  have T2 := T1.keep k2
  refine wpAny_execs_cons (app9 (x := Str.ofString "9") _ T2 CW1 (by decide) (PG.name T2.th.hn hch) (PG.nameK T2.th.hn rfl ⟨u1, rfl⟩ (upS (x := Str.ofString "9"))) (fun v h hv => hv) fun h3 tk3 T3 => ?_)
  refine wpAny_execs_nil ?_
  have hch3 : (fun z => if z = Str.ofString "chunk" then some (Value.str (Str.ofString "9") u1) else m z) (Str.ofString "chunks") = some (.ref Ca) := hch
  have hj3 : (fun z => if z = Str.ofString "chunk" then some (Value.str (Str.ofString "9") u1) else m z) (Str.ofString "j") = some (.int ((6 : Nat) : Int) uj) := hj
  generalize (fun z => if z = Str.ofString "chunk" then some (Value.str (Str.ofString "9") u1) else m z) = m3 at T3 F1 hch3 hj3
  clear T T1 T2 F hi hj hch k2
  have kc : ∀ {m : Str → Option Value} {h}, T9 g L D q Ca m vs ps ([Str.ofString "0"] ++ [Str.ofString "9"]) h → KStrs [Str.ofString "0", Str.ofString "9"] (.ref Ca) h := fun T => by obtain ⟨ws, nC, hC, hws⟩ := T.hC; exact ⟨Ca, ws, nC, rfl, hC, hws⟩
  refine wpAny_execs_cons (gfor ((PG.range3 (i := 1) (j := 0) (k := -1) (G.up T3.th.kg) (PG.subI (i := ((2 : Nat) : Int)) (j := 1) (PG.len (c := 2) (G.up T3.th.kg) (PG.nameK T3.th.hn hch3 (kc T3) upSs) (fun vs h => h.length) (by decide)) PG.int) PG.int (PG.neg (PG.int (i := 1))) (by decide) (by decide +kernel)).run h3 tk3 _ _ kh_rfl fun v h4 tk4 k4 hv => ?_))
  obtain ⟨r, ta, tb, tc, rfl, hr⟩ := hv
  have T4 := T3.keep k4
  obtain ⟨oL, _, _, eL, _⟩ := id T4.th.hn
  refine ⟨Nat, [1], _, g, [L], fun wr k m s'' => (∀ b ∈ wr, h4.get? b = none) ∧ (∃ h tk, s'' = { s' with heap := h, toks := tk }) ∧ T9 g L D q Ca m vs ps ([Str.ofString "0"] ++ [Str.ofString "9"]) s''.heap ∧ MF D q pat9 t1 t2 t3 m ∧ m (Str.ofString "chunks") = some (.ref Ca) ∧ (∃ u, m (Str.ofString "j") = some (.int ((6 : Nat) : Int) u)), m3, src_down rfl hr, T4.th.kg, List.mem_singleton.mpr rfl, fun b hb => ?_, T4.th.hn, fun wr h tk hw k => ⟨hw, ⟨h, tk, rfl⟩, T4.keep k, F1, hch3, ⟨uj, hj3⟩⟩, fun wr k m s'' h tk I kb => ?_, ?_, fun wr m s'' hw hn I => ?_⟩
  · rw [List.mem_singleton.mp hb]; exact ⟨W.gL, oL, eL⟩
  · obtain ⟨hw, ⟨h', tk', rfl⟩, T, F, hch, hj⟩ := I
    exact ⟨hw, ⟨h, tk, rfl⟩, T.but T4 hw kb, F, hch, hj⟩
  · rintro wr k a v m _ h5 tk5 hw ha ⟨t, rfl⟩ ⟨_, ⟨h, tk, rfl⟩, T, F, hch, hj⟩ hn hn5 hs5 _
    obtain rfl : a = 1 := by
      cases k with
      | zero => simpa using ha.symm
      | succ k => simp at ha
    have T5 := T.set W CW1 (fun b o hb e => hs5.extBut b o hb e) hn5
    have F5 := F.set (y := Str.ofString "k") (v := .int ((1 : Nat) : Int) t)
    have hk5 : (fun z => if z = Str.ofString "k" then some (Value.int ((1 : Nat) : Int) t) else m z) (Str.ofString "k") = some (.int ((1 : Nat) : Int) t) := rfl
    have hch5 : (fun z => if z = Str.ofString "k" then some (Value.int ((1 : Nat) : Int) t) else m z) (Str.ofString "chunks") = some (.ref Ca) := hch
    have hj5 : ∃ u, (fun z => if z = Str.ofString "k" then some (Value.int ((1 : Nat) : Int) t) else m z) (Str.ofString "j") = some (.int ((6 : Nat) : Int) u) := hj
    generalize (fun z => if z = Str.ofString "k" then some (Value.int ((1 : Nat) : Int) t) else m z) = m5 at T5 F5 hk5 hch5 hj5
    refine wpAny_execs_cons (wpAny_If ((PT.gtStr (c := false) (x := Str.ofString "0") (y := Str.ofString "9") (PG.sign (x := Str.ofString "0") (k := -1) (PG.item (xs := [Str.ofString "0", Str.ofString "9"]) (k := 0) (PG.nameK T5.th.hn hch5 (kc T5) upSs) (PG.subI (i := ((1 : Nat) : Int)) (j := 1) (PG.nameK T5.th.hn hk5 ⟨t, rfl⟩ upI) PG.int) rfl (by decide)) (PG.neg (PG.int (i := 1))) (by decide) (by decide) (by decide))
      (PG.sign (x := Str.ofString "9") (k := 0) (PG.item (xs := [Str.ofString "0", Str.ofString "9"]) (k := 1) (PG.nameK T5.th.hn hch5 (kc T5) upSs) (PG.nameK T5.th.hn hk5 ⟨t, rfl⟩ upI) rfl (by decide)) PG.int (by decide) (by decide) (by decide)) (by decide)).run h5 tk5 _ _ kh_rfl fun h6 tk6 k6 => ?_))
    simp only [Bool.false_eq_true, if_false]
    have T6 := T5.keep k6
    exact wpAny_execs_nil (wpAny_execs_nil ⟨fun b o _ e => k6 b o e, _, T6.th.hn, hw, ⟨h6, tk6, rfl⟩, T6, F5, hch5, hj5⟩)
  · obtain ⟨hw, ⟨h5, tk5, rfl⟩, T5, F5, hch5, hj5⟩ := I
    refine wpAny_execs_cons (wpAny_Assign_Name (MethodCall_ ((PG.str (x := Str.ofString "-")).run h5 tk5 _ _ kh_rfl fun v h6 tk6 k6 hv => ?_)))
    obtain ⟨tm, rfl⟩ := hv
    have T6 := T5.keep k6
    refine getMethod_builtin (T := "str") (typeIs_str _ _ _) PySem.F.plainAttrs_str PySem.F.slot_str_join PySem.F.type_str_join (fun a e => by cases e) (callWith_method1 (spliced_more ?_))
    obtain ⟨ws, nC, hC, hws⟩ := T6.hC
    obtain ⟨nD, hD⟩ := T6.th.hD
    obtain ⟨tk0, tk9, rfl⟩ : ∃ tk0 tk9, ws = #[.str (Str.ofString "0") tk0, .str (Str.ofString "9") tk9] := by
      cases ws with | mk l =>
      cases hws with | cons _ t0 hws => cases hws with | cons _ t9 hws => cases hws; exact ⟨t0, t9, rfl⟩
    have hs6 : ({ s' with heap := h6, toks := tk6 } : Shared).heap = h6 := rfl
    refine gen_eval (s := { s' with heap := h6, toks := tk6 }) (news := [(71, tabObj ps), (Ca, listOf #[.str (Str.ofString "0") tk0, .str (Str.ofString "9") tk9] nC), (D, listOf vs nD), (q, BObj D)]) (g := fun o => [(71, o), (Ca, listOf #[.str (Str.ofString "0") tk0, .str (Str.ofString "9") tk9] nC), (D, listOf vs nD), (q, BObj D)])
      (Fp := fun i y => ∃ u, y = .str ([Str.ofString "0", Str.ofString "9"].getD i "") u) (h₀ := g) (m := m) ⟨T6.th.hn, T6.th.kg, W.ab⟩ ?_ To C rfl (.head ?_) hT (.tail _ (.head _)) hB rfl rfl rfl (by decide) rfl rfl rfl (by simp only [Around.deeper]; omega) ?_
      (fun code Cf A' E' i v t m₂ hA hD hU hi hn hv => reps_are ⟨_, fun _ => rfl⟩ ⟨_, fun _ => rfl⟩ hA rfl rfl (by decide) hn hv hi) ?_ (by intro _; rfl)
    · intro p hp
      rcases List.mem_cons.mp hp with rfl | hp
      · exact ⟨T6.th.ht, W.sL, W.g7⟩
      · rcases List.mem_cons.mp hp with rfl | hp
        · exact ⟨hC, CW1.cL, CW1.gC⟩
        · rcases List.mem_cons.mp hp with rfl | hp
          · exact ⟨hD, W.dL, W.gD⟩
          · rw [List.mem_singleton.mp hp]; exact ⟨T6.th.hq, W.qL, W.gq⟩
    · intro p hp
      rcases List.mem_cons.mp hp with rfl | hp
      · exact CW1.c7
      · rcases List.mem_cons.mp hp with rfl | hp
        · exact W.d7
        · rw [List.mem_singleton.mp hp]; exact W.q7
    · intro Q' hQ'
      exact ldG T6.th.hn hch5 hQ' rfl rfl (by decide)
    · intro ps' b s7 F7 N7 hT7 hB7 ho7 X7
      refine spliced_none (join_line F7 N7 hB7 X7 fun t' s8 F8 N8 hB8 ho8 => ?_)
      show wpAny _ _ (storeName _ _ _) _ _ _
      refine wpAny_storeName_local rfl F8.ns (fun h9 hn9 hs9 => ?_) rfl
      have T8 : TH g L D q m vs ps' s8.heap := ⟨F8.keep, F8.ns, ⟨nD, (N8 _ (.tail _ (.tail _ (.head _)))).1⟩, (N8 _ (.tail _ (.tail _ (.tail _ (.head _))))).1, (N8 _ (.head _)).1⟩
      exact wpAny_execs_nil (hQ _ { s8 with heap := h9, toks := s8.toks + 1 } ps' (T8.set W (fun b o hb e => hs9.extBut b o hb e) hn9) hT7 hB8 (ho8.trans ho7) (F5.set (y := Str.ofString "stuff") (v := .str (Str.ofString "0-9") t')) ⟨t', rfl⟩ hj5)
end

end Mine
end
section
open PySem PySem.W PyProof.Rows PySem.Calls
set_option Elab.async false
set_option maxRecDepth 100000
set_option maxHeartbeats 4000000
set_option linter.unusedVariables false
namespace Mine
theorem tr_spec (w : World) (pat : Str) (ws : List Str) (f : Nat) (br : Nat → Option (Str × Nat)) (hbr : BrOk w pat br) (hr : runT pat.cps.toList br f 0 [] = some ws) (hl : pat.length ≤ 1000) : TrC w pat ws := by
  intro dp un gd fr s Q E loose mean mg mb t1 t2 t3 g₀ ps X₀ T₀ C₀ k₀ g71₀ h71 hT hB hdp hun k1 k2 k3 hret
  obtain ⟨g, X, T, C, k0, hsz, g71, kg, hgs⟩ := tab_base X₀ T₀ C₀ k₀ g71₀
  clear X₀ T₀ C₀ k₀ g71₀
  have G : Gl w g := ⟨loose, mean, mg, mb, X, T⟩
  have X' := X.keeps k0
  have T' := T.keeps k0
  k_dflt (refine' enter_g ?k3 ?k5 ?k6 ?k7 ?k8 ?k9 ?kB ?_ ?c2 ?c3 ?c4 ?c5; (case k3 => exact X'); (case k5 => exact T'); (case k6 => k_is); (case k7 => k_is); (case k8 => ktr_room); (case k9 => exact BindsTo.of_eq rfl); (case kB => exact locs rfl); (case c2 => exact rfl); (case c3 => exact rfl); (case c4 => exact rfl); (case c5 => decide); k_whole; intro L h₁ tk K1 gL F' eL htk)
  clear X' T'
  refine wpAny_execs_cons (wpAny_getsQ (asg_pure (h₀ := h₁) PG.emptyList kh_rfl F' ?_))
  rintro v h2 h3 tk3 k2' ⟨D, rfl, hDn, c, hD2⟩ k3' F3 le3
  have kgL : g.get? L = none := by rw [eL, ← hgs]; exact Heap.get?_none_of_le (Nat.le_refl _)
  have lt7 : ∀ {b : Addr} {o : Obj}, s.heap.get? b = some o → b ≠ L := fun e q => by rw [q, gL] at e; cases e
  have hLD : D ≠ L := fun e => by obtain ⟨o, _, _, e', _⟩ := F'; rw [e] at hDn; exact absurd (e'.symm.trans hDn) (by simp)
  have kg3 : KeepsH g h3 := fun b o e => k3' b o (lt7 (k0 b o e)) (k2' _ _ (K1 b o (k0 b o e)))
  have h73 : h3.get? 71 = some (tabObj ps) := k3' _ _ (lt7 h71) (k2' _ _ (K1 _ _ h71))
  have hD3 := k3' _ _ hLD hD2
  have hDs : s.heap.get? D = none := noneOf K1 hDn
  have hD7 : D ≠ 71 := fun e => by rw [e, h71] at hDs; cases hDs
  clear hD2 k3' k2' F' K1
  refine wpAny_execs_cons (wpAny_getsQ (wpAny_Assign_Name (Attribute_name ((PG.name F3 rfl).run h3 tk3 _ _ kh_rfl fun v h4 tk4 k4 hv => ?_))))
  subst hv
  refine get_appendH (s := { s with heap := h4, toks := tk4 }) (k4 _ _ hD3) fun q h5 k5 hq5 hqn => ?_
  show wpAny _ _ (storeName _ _ _) _ _ _
  have hn5 := F3.keeps (kh_tr k4 k5)
  have kn5 : KeepsH h3 h5 := kh_tr k4 k5
  have hqL : q ≠ L := fun e => by obtain ⟨o, _, _, e', _⟩ := F3.keeps k4; rw [e] at hqn; exact absurd (e'.symm.trans hqn) (by simp)
  have hqn3 : h3.get? q = none := noneOf k4 hqn
  have hqD : D ≠ q := fun e => by rw [← e, hD3] at hqn3; cases hqn3
  have hq7 : q ≠ 71 := fun e => by rw [e, h73] at hqn3; cases hqn3
  refine wpAny_storeName_local rfl hn5 (fun h6 hn6 hs6 le4 => ?_) rfl
  have W : TW g L D q := ⟨kgL, noneOf k0 hDs, noneOf kg3 hqn3, g71, hLD, hqL, lt7 h71, hqD, hD7, hq7, by rw [eL, ← hgs]; exact Nat.le_refl _⟩
  have k36 : ∀ b o, b ≠ L → h3.get? b = some o → h6.get? b = some o := fun b o hb e => hs6.extBut b o hb (kn5 _ _ e)
  have TH6 : TH g L D q _ #[] ps h6 := ⟨fun b o e => k36 b o (fun q => by rw [q, kgL] at e; cases e) (kg3 b o e), hn6, ⟨c, k36 _ _ hLD hD3⟩, hs6.extBut _ _ hqL hq5, k36 _ _ (lt7 h71) h73⟩
  clear k36 hs6 hn6 hqn3 hqn hq5 k5 k4 hn5 kn5 F3 hD3 h73 kg3 hDs hDn
  refine wpAny_execs_cons (wpAny_getsQ (Assign_Tuple_swapped ((PG.tuple2 PG.int upI (PG.lenS (G.up TH6.kg) (PG.nameK TH6.hn rfl ⟨t1, rfl⟩ (upS (x := pat))) hl) upI).run h6 _ _ _ kh_rfl fun v h7 tk7 k7 hv => ?_)))
  obtain ⟨a, v1, v2, rfl, an, ht7, ⟨u1, rfl⟩, ⟨u2, rfl⟩⟩ := hv
  have T7 := TH6.keep k7
  clear TH6
  refine unpackItems_tuple (items := #[.int 0 u1, .int (pat.length : Int) u2]) rfl ht7 fun h8 hx8 => ?_
  have k8 : KeepsH h7 h8 := fun b o e => hx8 b o (Nat.ne_of_lt (Heap.lt_size e)) e
  have T8 := T7.keep k8
  clear T7 ht7 hx8 k8 k7 an
  refine wpAny_bind (bindName_ (wpAny_storeName_local rfl T8.hn (fun h9 hn9 hs9 => wpAny_bind (bindName_ (wpAny_storeName_local rfl hn9 (fun h10 hn10 hs10 => ?_) rfl))) rfl))
  have T9 := T8.set W (fun b o hb e => hs9.extBut b o hb e) hn9
  have T10 := T9.set W (fun b o hb e => hs10.extBut b o hb e) hn10
  clear T8 T9 hn9 hn10 hs9 hs10
  refine wpAny_pure fun le7 => ?_
  have le10 : @LE.le Nat _ s.toks (tk7 + 1 + 1) := Nat.le_trans htk (Nat.le_trans le3 (Nat.le_trans (Nat.le_trans le4 (Nat.le_refl _)) le7))
  clear le3 le4 le7 htk
  refine wpAny_execs_cons (gwhileO (fun n s' => ∃ i rs m, TI g L D q pat t1 t2 t3 s.toks s.os i rs m s' ∧ runT pat.cps.toList br n i rs = some ws) ?turn f
    ⟨0, [], _, ⟨⟨#[], ps, T10, .nil, hT, fun _ x t e => nomatch e⟩, ⟨rfl, rfl, rfl, rfl, rfl, u2, rfl⟩, ⟨u1, rfl⟩, Nat.le_refl _, hB, rfl, le10⟩, hr⟩ (by passes_own))
  clear T10 le10 hr hT hB kgL
  rintro n s' ⟨i, rs, m, I, hr⟩ Q9 N9 E9 hE9 hnext9 _ _ hN9
  obtain ⟨vs, ps', TH, hrs, hT, hlast⟩ := I.th
  obtain ⟨ui, hi⟩ := I.it
  obtain ⟨un', hn'⟩ := I.mf.n
  refine wpAny_getsQ ((PT.lt (i := (i : Int)) (j := (pat.length : Int)) (PG.nameK TH.hn hi ⟨ui, rfl⟩ upI) (PG.nameK TH.hn hn' ⟨un', rfl⟩ upI) rfl).run s'.heap s'.toks _ _ kh_rfl fun h1 tk1 kk1 => fun le1 => ?_)
  have T1 := TH.keep kk1
  have hge := I.tk
  have hbare := I.bare
  have hos := I.os
  have hmf := I.mf
  have hlen := I.len
  have lz1 : @LE.le Nat _ s.toks tk1 := Nat.le_trans hge le1
  clear I TH kk1 le1 hge
  obtain ⟨n, rfl⟩ : ∃ n', n = n' + 1 := by
    cases n with
    | zero => cases hr
    | succ n' => exact ⟨n', rfl⟩
  by_cases hin : i < pat.length
  · rw [decide_eq_true (by omega : (i : Int) < (pat.length : Int))]
    simp only [if_true]
    obtain ⟨c, hc⟩ : ∃ c, pat.cps.toList[i]? = some c := ⟨_, List.getElem?_eq_getElem (by simpa [Str.length] using hin)⟩
    have hsg := item_sg hc
    refine wpAny_execs_cons (wpAny_getsQ (asgT (fun v => ∃ t, v = .str ⟨#[c]⟩ t) T1 W (PG.sign (PG.nameK T1.hn hmf.p ⟨t1, rfl⟩ (upS (x := pat))) (PG.nameK T1.hn hi ⟨ui, rfl⟩ (upI (i := (i : Int)))) (by omega) (by omega) hl) (fun v h hv => hsg ▸ hv) ?_))
    rintro v h2 tk2 ⟨tc, rfl⟩ T2 le2
    have hmf2 := hmf.set (y := Str.ofString "c") (v := .str ⟨#[c]⟩ tc)
    refine wpAny_execs_cons (wpAny_getsQ (asgT (fun v => ∃ t, v = .int ((i + 1 : Nat) : Int) t) T2 W (PG.add (PG.nameK T2.hn hi ⟨ui, rfl⟩ (upI (i := (i : Int)))) (PG.int (i := 1))) (fun v h hv => hv) ?_))
    rintro v h3 tk3 ⟨ti, rfl⟩ T3 le3
    have hmf3 := hmf2.set (y := Str.ofString "i") (v := .int ((i + 1 : Nat) : Int) ti)
    have lz3 : @LE.le Nat _ s.toks tk3 := Nat.le_trans lz1 (Nat.le_trans le2 le3)
    clear T1 T2 hmf hmf2 lz1 le2 le3
    have fin : ∀ (x : Str) (t : Tok) (h5 : Heap) (tk5 : Nat), TH g L D q (fun z => if z = Str.ofString "i" then some (.int ((i + 1 : Nat) : Int) ti) else if z = Str.ofString "c" then some (.str ⟨#[c]⟩ tc) else m z) (vs.push (.str x t)) ps' h5 → (x ≠ Str.ofString "many" → t ≠ 0 ∧ t ≠ t2) → @LE.le Nat _ s.toks tk5 → runT pat.cps.toList br n (i + 1) (rs ++ [x]) = some ws →
        Q9 .next { s' with heap := h5, toks := tk5 } := fun x t h5 tk5 T5 hx lz hr =>
      hnext9 n _ (Nat.lt_succ_self n) ⟨i + 1, rs ++ [x], _, ⟨⟨_, ps', T5, by rw [Array.toList_push]; exact strsAre_snoc hrs x t, hT, fun _ y u hl hy => by
        rw [Array.toList_push, List.getLast?_append] at hl
        simp only [List.getLast?_singleton, Option.some_or, Option.some.injEq, Value.str.injEq] at hl
        obtain ⟨rfl, rfl⟩ := hl
        exact hx hy⟩, hmf3, ⟨ti, rfl⟩, by simpa using hlen, hbare, hos, lz⟩, hr⟩
    have hvl : vs.size ≤ 1000 := by have := hrs.length; simp only [Array.length_toList] at this; omega
    have hstep := runT_step hr hc
    clear hr
    refine wpAny_execs_cons (wpAny_If (wpAny_getsQ ((PT.eqStr (PG.nameK T3.hn rfl ⟨tc, rfl⟩ (upS (x := ⟨#[c]⟩))) PG.str (sg_eq c 42 _ rfl)).run h3 tk3 _ _ kh_rfl fun h4 tk4 k4 => fun le4 => ?_)))
    have T4 := T3.keep k4
    have lz4 : @LE.le Nat _ s.toks tk4 := Nat.le_trans lz3 le4
    clear T3 lz3 k4 le4
    rcases hstep with ⟨rfl, hl42, hr⟩ | ⟨rfl, hr⟩ | ⟨rfl, x, j, hb, hj, hr⟩ | ⟨hc42, hc63, hc91, hok, hr⟩
    · refine ifT rfl ?_
      obtain ⟨nD, hD⟩ := T4.hD
      refine wpAny_execs_cons (wpAny_If (wpAny_getsQ ((pt_star (PG.name T4.hn hmf3.res) (PG.name T4.hn hmf3.res) (PG.neg (PG.int (i := 1))) (PG.name T4.hn hmf3.st) hD (fun v hv => ?hlast) (Nat.ne_of_gt k1) hvl).run h4 tk4 _ _ kh_rfl fun h5 tk5 k5 => fun le5 => ?_)))
      case hlast =>
        obtain ⟨y, hy, he⟩ : ∃ y, rs.getLast? = some y ∧ ∃ t, v = .str y t := by
          rw [List.getLast?_eq_getElem?] at hv
          have hlen := hrs.length
          obtain ⟨y, hy⟩ : ∃ y, rs[vs.toList.length - 1]? = some y := ⟨_, List.getElem?_eq_getElem (by have := (List.getElem?_eq_some_iff.mp hv).1; omega)⟩
          obtain ⟨t, ht⟩ := hrs.at hy
          rw [hv] at ht
          exact ⟨y, by rw [List.getLast?_eq_getElem?, ← hlen]; exact hy, t, by simpa using ht⟩
        obtain ⟨t, rfl⟩ := he
        have hne : y ≠ Str.ofString "many" := fun q => hl42 (q ▸ hy)
        exact ⟨y, t, rfl, by simpa using hne, hlast hin y t hv hne⟩
      have T5 := T4.keep k5
      have lz5 : @LE.le Nat _ s.toks tk5 := Nat.le_trans lz4 le5
      obtain ⟨nD5, hD5⟩ := T5.hD
      refine wpAny_execs_cons (add_stmtK T5.hn hmf3.add T5.hq hD5 lz5 (PG.pk (PG.name T5.hn hmf3.st)) hvl fun v h6 h7 tk7 k6 lz6 hv hD7 k7 => ?_)
      subst hv
      exact wpAny_execs_nil (wpAny_execs_nil (wpAny_execs_nil (fin _ _ _ _ ((T5.keep k6).push W hD7 k7) (fun q => absurd rfl q) lz6 hr)))
    · refine ifF rfl ?_
      refine wpAny_execs_cons (wpAny_If (wpAny_getsQ ((PT.eqStr (PG.nameK T4.hn rfl ⟨tc, rfl⟩ (upS (x := ⟨#[63]⟩))) PG.str (sg_eq 63 63 _ rfl)).run h4 tk4 _ _ kh_rfl fun h5 tk5 k5 => fun le5 => ?_)))
      have T5 := T4.keep k5
      have lz5 : @LE.le Nat _ s.toks tk5 := Nat.le_trans lz4 le5
      clear T4 lz4 k5 le5
      refine ifT rfl ?_
      obtain ⟨nD5, hD5⟩ := T5.hD
      refine wpAny_execs_cons (add_stmtK T5.hn hmf3.add T5.hq hD5 lz5 (PG.pk (PG.name T5.hn hmf3.qm)) hvl fun v h6 h7 tk7 k6 lz6 hv hD7 k7 => ?_)
      subst hv
      exact wpAny_execs_nil (wpAny_execs_nil (wpAny_execs_nil (fin _ _ _ _ ((T5.keep k6).push W hD7 k7) (fun _ => ⟨Nat.ne_of_gt (Nat.lt_trans k1 k2), Nat.ne_of_gt k2⟩) lz6 hr)))
    · refine ifF rfl ?_
      refine wpAny_execs_cons (wpAny_If (wpAny_getsQ ((PT.eqStr (PG.nameK T4.hn rfl ⟨tc, rfl⟩ (upS (x := ⟨#[91]⟩))) PG.str (sg_eq 91 63 _ rfl)).run h4 tk4 _ _ kh_rfl fun h5 tk5 k5 => fun le5 => ?_)))
      have T5 := T4.keep k5
      have lz5 : @LE.le Nat _ s.toks tk5 := Nat.le_trans lz4 le5
      clear T4 lz4 k5 le5
      refine ifF rfl ?_
      refine wpAny_execs_cons (wpAny_If (wpAny_getsQ ((PT.eqStr (PG.nameK T5.hn rfl ⟨tc, rfl⟩ (upS (x := ⟨#[91]⟩))) PG.str (sg_eq 91 91 _ rfl)).run h5 tk5 _ _ kh_rfl fun h6 tk6 k6 => fun le6 => ?_)))
      have T6 := T5.keep k6
      have lz6 : @LE.le Nat _ s.toks tk6 := Nat.le_trans lz5 le6
      clear T5 lz5 k6 le6
      refine ifT rfl ?_
      have hpl : pat.length = j := by simpa [Str.length] using hj
      refine wpAny_getsQ (hbr dp un gd fr s' _ _ g L D q _ vs ps' t1 t2 t3 loose mean mg mb h6 tk6 i j x ti hb X T C hT hbare W T6 hmf3 rfl hvl hdp hun hE9 fun m' s'' t ps'' T7 F7 hi7 hT7 hB7 ho7 => fun le7 => ?_)
      exact wpAny_execs_nil (wpAny_execs_nil (wpAny_execs_nil (hnext9 n _ (Nat.lt_succ_self n) ⟨j, rs ++ [x], m', ⟨⟨_, ps'', T7, by rw [Array.toList_push]; exact strsAre_snoc hrs x t, hT7, fun hlt => absurd hlt (by omega)⟩, F7, hi7, by simp only [List.length_append, List.length_singleton]; omega, hB7, ho7.trans hos, Nat.le_trans lz6 le7⟩, hr⟩)))
    · refine ifF (by simpa using hc42) ?_
      refine wpAny_execs_cons (wpAny_If (wpAny_getsQ ((PT.eqStr (PG.nameK T4.hn rfl ⟨tc, rfl⟩ (upS (x := ⟨#[c]⟩))) PG.str (sg_eq c 63 _ rfl)).run h4 tk4 _ _ kh_rfl fun h5 tk5 k5 => fun le5 => ?_)))
      have T5 := T4.keep k5
      have lz5 : @LE.le Nat _ s.toks tk5 := Nat.le_trans lz4 le5
      clear T4 lz4 k5 le5
      refine ifF (by simpa using hc63) ?_
      refine wpAny_execs_cons (wpAny_If (wpAny_getsQ ((PT.eqStr (PG.nameK T5.hn rfl ⟨tc, rfl⟩ (upS (x := ⟨#[c]⟩))) PG.str (sg_eq c 91 _ rfl)).run h5 tk5 _ _ kh_rfl fun h6 tk6 k6 => fun le6 => ?_)))
      have T6 := T5.keep k6
      have lz6 : @LE.le Nat _ s.toks tk6 := Nat.le_trans lz5 le6
      clear T5 lz5 k6 le6
      refine ifF (by simpa using hc91) ?_
      obtain ⟨nD6, hD6⟩ := T6.hD
      refine wpAny_execs_cons (add_stmtK T6.hn hmf3.add T6.hq hD6 lz6 (pk_esc (G.up T6.kg) hok (by simp only; omega) (by simp only; omega) (PG.nameK T6.hn rfl ⟨tc, rfl⟩ (upS (x := ⟨#[c]⟩)))) hvl fun v h7 h8 tk8 k7 lz8 hv hD8 k8 => ?_)
      obtain ⟨t, rfl, ht⟩ := hv
      exact wpAny_execs_nil (wpAny_execs_nil (wpAny_execs_nil (wpAny_execs_nil (fin _ _ _ _ ((T6.keep k7).push W hD8 k8) (fun _ => ⟨Nat.ne_of_gt (Nat.lt_of_lt_of_le (Nat.lt_trans (Nat.lt_trans k1 k2) k3) ht), Nat.ne_of_gt (Nat.lt_of_lt_of_le (Nat.lt_trans k2 k3) ht)⟩) lz8 hr))))
  · rw [decide_eq_false (by omega : ¬ (i : Int) < (pat.length : Int))]
    simp only [Bool.false_eq_true, if_false]
    have hnone : pat.cps.toList[i]? = none := List.getElem?_eq_none (by simpa [Str.length] using hin)
    have hcase : i = pat.length ∧ rs = ws := let ⟨a, b⟩ := runT_end hr hnone; ⟨by simpa [Str.length] using a, b⟩
    obtain ⟨rfl, rfl⟩ := hcase
    refine hN9 _ ?_
    refine wpAny_execs_cons (wpAny_Assert_holds ((PT.eqI (PG.nameK T1.hn hi ⟨ui, rfl⟩ (upI (i := (pat.length : Int)))) (PG.nameK T1.hn hn' ⟨un', rfl⟩ (upI (i := (pat.length : Int)))) (beq_self_eq_true _)).run h1 tk1 _ _ kh_rfl fun h2 tk2 kk2 => ⟨rfl, ?_⟩))
    have T2 := T1.keep kk2
    refine wpAny_execs_cons (wpAny_Return_some ((PG.name T2.hn hmf.res).run h2 tk2 _ _ kh_rfl fun v h3 tk3 kk3 hv => ?_))
    subst hv
    have T3 := T2.keep kk3
    obtain ⟨nD, hD⟩ := T3.hD
    refine hret D _ ⟨fun b o hb e => T3.kg b o (kg b o hb e), ⟨ps', T3.ht, hT⟩, hbare, hos, ⟨vs, nD, hD, hrs⟩, ?_, ?_⟩
    · cases e : s.heap.get? D with
      | none => rfl
      | some o => have := kg D o hD7 e; rw [W.gD] at this; cases this
    · obtain ⟨o, _, _, e, _⟩ := T3.hn
      rw [← eL]
      exact Nat.le_of_lt (Heap.lt_size e)

end Mine
end
section
open PySem PySem.W PyProof.Rows PySem.Calls
set_option Elab.async false
set_option maxRecDepth 100000
set_option maxHeartbeats 4000000
set_option linter.unusedVariables false
namespace Mine
theorem brOk09 {w : World} : BrOk w pat9 br09 := by
  intro dp un gd fr s' Q E g L D q m vs ps t1 t2 t3 loose mean mg mb h tk i j x ti hbr X To C hT hB W T F hi hv hdp hun hE hQ
  unfold br09 at hbr
  split at hbr
  case isFalse => cases hbr
  case isTrue hi1 =>
  subst hi1
  cases hbr
  refine br_pre (i0 := 3) (c0 := 48) (j1 := 3) (jE := 6) hE W T F hi (by decide) (by unfold cpAt; decide) rfl (fun k a b => ?_) (by omega) (by unfold cpAt; decide) ?_
  · obtain rfl | rfl | rfl : k = 3 ∨ k = 4 ∨ k = 5 := by omega
    · exact ⟨48, by unfold cpAt; decide, by decide⟩
    · exact ⟨45, by unfold cpAt; decide, by decide⟩
    · exact ⟨57, by unfold cpAt; decide, by decide⟩
  intro m1 h1 tk1 T1 F1 ⟨ui, hi⟩ ⟨uj, hj⟩
  obtain ⟨un', hn⟩ := F1.n
  refine wpAny_execs_cons (wpAny_If ((PT.ge (c := false) (PG.nameK T1.hn hj ⟨uj, rfl⟩ (upI (i := ((6 : Nat) : Int)))) (PG.nameK T1.hn hn ⟨un', rfl⟩ (upI (i := (pat9.length : Int)))) (by decide)).run h1 tk1 _ _ kh_rfl fun h2 tk2 k2 => ?_))
  simp only [Bool.false_eq_true, if_false]
  have T2 := T1.keep k2
  refine wpAny_execs_cons (asgT (fun v => ∃ t, v = .str (Str.ofString "0-9") t) T2 W (PG.slc (PG.nameK T2.hn F1.p ⟨t1, rfl⟩ (upS (x := pat9))) (PP.some (PG.nameK T2.hn hi ⟨ui, rfl⟩ (upI (i := ((3 : Nat) : Int))))) (PP.some (PG.nameK T2.hn hj ⟨uj, rfl⟩ (upI (i := ((6 : Nat) : Int))))) (by decide)) (fun v h hv => by rw [← show Txt.slice pat9 (some ((3 : Nat) : Int)) (some ((6 : Nat) : Int)) = Str.ofString "0-9" by decide]; exact hv) ?_)
  rintro v h3 tk3 ⟨t3', rfl⟩ T3
  have F3 := F1.set (y := Str.ofString "stuff") (v := .str (Str.ofString "0-9") t3')
  refine wpAny_execs_cons (wpAny_If ((PT.notinStr (c := false) PG.str (PG.nameK T3.hn rfl ⟨t3', rfl⟩ (upS (x := Str.ofString "0-9"))) (by decide +kernel)).run h3 tk3 _ _ kh_rfl fun h4 tk4 k4 => ?_))
  simp only [Bool.false_eq_true, if_false]
  have T4 := T3.keep k4
  have hi4 : ∃ u, (fun z => if z = Str.ofString "stuff" then some (Value.str (Str.ofString "0-9") t3') else m1 z) (Str.ofString "i") = some (.int ((3 : Nat) : Int) u) := ⟨ui, hi⟩
  have hj4 : ∃ u, (fun z => if z = Str.ofString "stuff" then some (Value.str (Str.ofString "0-9") t3') else m1 z) (Str.ofString "j") = some (.int ((6 : Nat) : Int) u) := ⟨uj, hj⟩
  generalize (fun z => if z = Str.ofString "stuff" then some (Value.str (Str.ofString "0-9") t3') else m1 z) = m4 at T4 F3 hi4 hj4
  refine br9_chunks hE W T4 F3 hi4 hj4 fun m5 h5 tk5 Ca CW5 T5 F5 hch5 hi5 hj5 => ?_
  refine br9_rest X To C hT hB hE hdp hun W CW5 T5 F5 hch5 hi5 hj5 fun m6 s6 ps6 T6 hT6 hB6 ho6 F6 hst6 hj6 => ?_
  refine br_sub (s' := s6) (x := Str.ofString "0-9") X To C hT6 W T6 hst6 (fun s Q E a d fd sl t X h R => x_sub2 X a d fd sl h (by show un + 3 + 10 < cLine; omega) R) fun h7 tk7 ps7 t7 T7 hT7 => ?_
  obtain ⟨uj6, hj6⟩ := hj6
  refine br_fin09 (jE := 6) hun W T7 F6.set ⟨t7, rfl⟩ ⟨uj6, hj6⟩ hv fun m' h' tk' t T' F' hi' => ?_
  exact wpAny_execs_nil (hQ m' _ t ps7 T' F' hi' hT7 hB6 ho6)
noncomputable def br0 : Nat → Option (Str × Nat) := fun _ => none
theorem brOk0 {w : World} {pat : Str} : BrOk w pat br0 := by
  intro dp un gd fr s' Q E g L D q m vs ps t1 t2 t3 loose mean mg mb h tk i j x ti hbr
  cases hbr

end Mine
end
section
open PySem PySem.W PyProof.Rows PySem.Calls
set_option Elab.async false
set_option maxRecDepth 100000
set_option maxHeartbeats 4000000
set_option linter.unusedVariables false
namespace Mine
theorem trc (w : World) : ∀ k, k < 9 → TrC w (pats.getD k Str.empty) (partsOf.getD k [])
  | 0, _ => tr_spec w _ _ 20 br0 brOk0 (by decide +kernel) (by decide +kernel)
  | 1, _ => tr_spec w _ _ 20 br0 brOk0 (by decide +kernel) (by decide +kernel)
  | 2, _ => tr_spec w _ _ 20 br0 brOk0 (by decide +kernel) (by decide +kernel)
  | 3, _ => tr_spec w _ _ 20 br0 brOk0 (by decide +kernel) (by decide +kernel)
  | 4, _ => tr_spec w _ _ 20 br0 brOk0 (by decide +kernel) (by decide +kernel)
  | 5, _ => tr_spec w _ _ 20 br8 brOk8 (by decide +kernel) (by decide +kernel)
  | 6, _ => tr_spec w _ _ 20 br0 brOk0 (by decide +kernel) (by decide +kernel)
  | 7, _ => tr_spec w _ _ 20 br09 brOk09 (by decide +kernel) (by decide +kernel)
  | 8, _ => tr_spec w _ _ 20 br0 brOk0 (by decide +kernel) (by decide +kernel)
  | _ + 9, h => absurd h (by omega)
theorem parts_len : ∀ k, k < 9 → (partsOf.getD k []).length ≤ 1000 := by decide +kernel
theorem parts_all : ∀ k, k < 9 → ∀ p ∈ partsOf.getD k [], p.length ≤ 20 ∧ 1 ≤ p.length ∧ (p = Str.ofString "any" ∨ p = Str.ofString "[^8]" ∨ p = Str.ofString "[0-9]" ∨ ((p == Str.ofString "any") = false ∧ (Txt.item p 0 == Str.ofString "[") = false ∧ p ≠ Str.ofString "[^8]" ∧ p ≠ Str.ofString "[0-9]")) := by decide +kernel
/-- _law_taken at one of the nine patterns -/
theorem taken_k (w : World) (dp un : Nat) (gd : Option (List Code)) (fr : Option (List Env)) (s : Shared) (Q E : Value → Shared → Prop)
   (loose : List Str) (mean : ExcName → Option Value) (mg mb : Str → Option Value) (t1 : Tok) (g₀ : Heap) (ps : Array Value) (k : Nat) (hk : k < 9) (ln : Addr) (vn : Array Value) (nn : Nat) (ns : List Int)
   (X₀ : (hd.heap_39 w.params).In g₀) (T₀ : Top topProg loose mean mg mb g₀) (C₀ : CodeHd g₀ 75 71) (k₀ : KeepsH g₀ s.heap) (g71₀ : g₀.get? 71 = none) (h71 : s.heap.get? 71 = some (tabObj ps)) (hT : TriplesOk ps.toList) (hB : AllBare s.gens)
   (hdp : dp + 5 < recursionLimit) (hun : un + 200 < cLine) (hln : s.heap.get? ln = some (listOf vn nn)) (hns : StrsAre vn.toList (namesF ns))
   (hret : ∀ l s', TrR s s' l ((namesF ns).filter (takenF sgF (partsOf.getD k []))) → Q (.ref l) s') :
   wpAny (model PySem.Challenge.rw_in0044_01.row.prog w) (AA dp un gd fr) (call (.ref 123) [.str (pats.getD k Str.empty) t1, .ref ln]) Q E s :=
  taken_spec w dp un gd fr s Q E loose mean mg mb t1 g₀ ps _ _ ln vn nn (namesF ns) X₀ T₀ C₀ k₀ g71₀ h71 hT hB hdp hun (trc w k hk) hln hns sgF (fun x hx _ => have := parts_all k hk x hx; sign_spec w this.1 this.2.1 this.2.2)
    (by have := namesF_len ns; omega) (fun x hx => by unfold namesF at hx; obtain ⟨p, hp, rfl⟩ := List.mem_map.mp hx; exact (allP_ok p (pairsF_mem hp)).2.2.1) (parts_len k hk) hret


end Mine
end
section
open PySem PySem.W PyProof.Rows PySem.Calls
set_option Elab.async false
set_option linter.unusedVariables false
namespace Mine
/-- how often the one's text stands in the ordered difference -/
noncomputable def cntF (X Y : List Str) (z : Str) : Nat := if Y.contains z then 0 else if Y.all (fun y => slt y z) then X.count z else min 1 (X.count z)
theorem cntF_zero {X Y : List Str} {z : Str} (h : X.count z = 0) : cntF X Y z = 0 := by
  unfold cntF; rw [h]; simp
theorem cntF_congr {X X' Y Y' : List Str} {z : Str} (h : X.count z = X'.count z) (hc : Y.contains z = Y'.contains z) (ha : Y.all (fun y => slt y z) = Y'.all (fun y => slt y z)) : cntF X Y z = cntF X' Y' z := by
  unfold cntF; rw [h, hc, ha]
theorem drop_gt {e : Str} : ∀ {X : List Str}, Asc (e :: X) → ∀ z ∈ X.dropWhile (· == e), slt e z = true
  | [], _, z, hz => by simp at hz
  | x :: X, h, z, hz => by
    have h1 := List.pairwise_cons.mp h
    have h2 := List.pairwise_cons.mp h1.2
    by_cases q : x = e
    · subst q
      rw [List.dropWhile_cons_of_pos (by simp)] at hz
      exact drop_gt h1.2 z hz
    · rw [List.dropWhile_cons_of_neg (by simpa using q)] at hz
      have hx : slt e x = true := by
        cases c : slt e x with
        | true => rfl
        | false => exact absurd (slt_tri (h1.1 x (.head _)) c) q
      rcases List.mem_cons.mp hz with rfl | hz
      · exact hx
      · exact slt_of_lt_n hx (h2.1 z hz)
theorem drop_count {e z : Str} (hz : z ≠ e) : ∀ X : List Str, (X.dropWhile (· == e)).count z = X.count z
  | [] => rfl
  | x :: X => by
    by_cases q : x = e
    · subst q
      rw [List.dropWhile_cons_of_pos (by simp), drop_count hz X, List.count_cons_of_ne (Ne.symm hz)]
    · rw [List.dropWhile_cons_of_neg (by simpa using q)]
theorem drop_count0 {e : Str} {X : List Str} (h : Asc (e :: X)) : (X.dropWhile (· == e)).count e = 0 :=
  List.count_eq_zero.mpr fun hm => by have := drop_gt h e hm; rw [slt_irrefl] at this; cases this
theorem drop_contains {a z : Str} (hz : slt a z = true) : ∀ Y : List Str, (Y.dropWhile (· == a)).contains z = Y.contains z
  | [] => rfl
  | y :: Y => by
    by_cases q : y = a
    · subst q
      have : z ≠ y := fun e => by rw [e, slt_irrefl] at hz; cases hz
      rw [List.dropWhile_cons_of_pos (by simp), drop_contains hz Y, List.contains_cons, (beq_eq_false_iff_ne).mpr this, Bool.false_or]
    · rw [List.dropWhile_cons_of_neg (by simpa using q)]
theorem drop_all {a z : Str} (hz : slt a z = true) : ∀ Y : List Str, (Y.dropWhile (· == a)).all (fun y => slt y z) = Y.all (fun y => slt y z)
  | [] => rfl
  | y :: Y => by
    by_cases q : y = a
    · subst q
      rw [List.dropWhile_cons_of_pos (by simp), drop_all hz Y, List.all_cons, hz, Bool.true_and]
    · rw [List.dropWhile_cons_of_neg (by simpa using q)]
theorem cons_drop {a z : Str} (hz : slt a z = true) (Y : List Str) : (a :: Y).contains z = (Y.dropWhile (· == a)).contains z ∧ (a :: Y).all (fun y => slt y z) = (Y.dropWhile (· == a)).all (fun y => slt y z) := by
  have : z ≠ a := fun e => by rw [e, slt_irrefl] at hz; cases hz
  rw [drop_contains hz, drop_all hz, List.contains_cons, (beq_eq_false_iff_ne).mpr this, Bool.false_or, List.all_cons, hz, Bool.true_and]
  exact ⟨rfl, rfl⟩
theorem asc_sub {l r : List Str} (h : l.Sublist r) (k : Asc r) : Asc l := List.Pairwise.sublist h k
theorem asc_drop {e : Str} {X : List Str} (h : Asc (e :: X)) : Asc (X.dropWhile (· == e)) := asc_sub (List.dropWhile_suffix _).sublist (List.pairwise_cons.mp h).2

end Mine
end
section
open PySem PySem.W PyProof.Rows PySem.Calls
set_option Elab.async false
set_option linter.unusedVariables false
namespace Mine
theorem sldGo_swap : ∀ (n : Nat) (X Y m u : List Str), sldGo n X Y m u = ((sldGo n Y X u m).2, (sldGo n Y X u m).1)
  | 0, X, Y, m, u => by unfold sldGo; rfl
  | n + 1, [], [], m, u => by unfold sldGo; rfl
  | n + 1, [], _ :: _, m, u => by unfold sldGo; rfl
  | n + 1, _ :: _, [], m, u => by unfold sldGo; rfl
  | n + 1, e :: X, a :: Y, m, u => by
    unfold sldGo
    by_cases h : slt e a = true
    · rw [if_pos h, if_neg (by rw [slt_asymm h]; simp), if_pos h]
      exact sldGo_swap n _ _ _ _
    · by_cases k : slt a e = true
      · rw [if_neg h, if_pos k, if_pos k]
        exact sldGo_swap n _ _ _ _
      · rw [if_neg h, if_neg k, if_neg k, if_neg h]
        exact sldGo_swap n _ _ _ _
theorem sldGo_fst : ∀ (n : Nat) (X Y m u : List Str), Asc X → Asc Y → X.length + Y.length ≤ n → ∃ r, (sldGo n X Y m u).1 = m ++ r ∧ r.Sublist X ∧ ∀ z, r.count z = cntF X Y z
  | n, [], Y, m, u, hX, hY, hn => ⟨[], by rw [sldGo_done (.inl rfl)], .slnil, fun z => (cntF_zero rfl).symm⟩
  | n, e :: X, [], m, u, hX, hY, hn => ⟨e :: X, by rw [sldGo_done (.inr rfl)], List.Sublist.refl _, fun z => by unfold cntF; simp⟩
  | 0, e :: X, a :: Y, m, u, hX, hY, hn => by simp at hn
  | n + 1, e :: X, a :: Y, m, u, hX, hY, hn => by
    have lX := (List.dropWhile_suffix (l := X) (· == e)).length_le
    have lY := (List.dropWhile_suffix (l := Y) (· == a)).length_le
    simp only [List.length_cons] at hn
    have pX := List.pairwise_cons.mp hX
    have pY := List.pairwise_cons.mp hY
    unfold sldGo
    by_cases h : slt e a = true
    · rw [if_pos h]
      obtain ⟨r, h1, h2, h3⟩ := sldGo_fst n (X.dropWhile (· == e)) (a :: Y) (m ++ [e]) u (asc_drop hX) hY (by simp only [List.length_cons]; omega)
      refine ⟨e :: r, by rw [h1, List.append_assoc]; rfl, .cons_cons _ (h2.trans (List.dropWhile_suffix _).sublist), fun z => ?_⟩
      by_cases q : z = e
      · subst q
        have c0 := drop_count0 hX
        have hc : (a :: Y).contains z = false := by
          refine Bool.eq_false_iff.mpr fun hm => ?_
          rcases List.mem_cons.mp (List.contains_iff_mem.mp hm) with rfl | hm
          · rw [slt_irrefl] at h; cases h
          · have := slt_of_lt_n h (pY.1 z hm); rw [slt_irrefl] at this; cases this
        have ha : (a :: Y).all (fun y => slt y z) = false := by rw [List.all_cons, slt_asymm h, Bool.false_and]
        rw [List.count_cons_self, h3 z, cntF_zero c0]
        unfold cntF
        rw [hc, ha, List.count_cons_self]
        simp only [Bool.false_eq_true, if_false]
        omega
      · rw [List.count_cons_of_ne (Ne.symm q), h3 z]
        exact cntF_congr (by rw [drop_count q, List.count_cons_of_ne (Ne.symm q)]) rfl rfl
    · rw [if_neg h]
      have h' : slt e a = false := by simpa using h
      by_cases k : slt a e = true
      · rw [if_pos k]
        obtain ⟨r, h1, h2, h3⟩ := sldGo_fst n (e :: X) (Y.dropWhile (· == a)) m (u ++ [a]) hX (asc_drop hY) (by simp only [List.length_cons]; omega)
        refine ⟨r, h1, h2, fun z => ?_⟩
        rw [h3 z]
        by_cases c0 : (e :: X).count z = 0
        · rw [cntF_zero c0, cntF_zero c0]
        · have hm : z ∈ e :: X := List.count_pos_iff.mp (Nat.pos_of_ne_zero c0)
          have hz : slt a z = true := by
            rcases List.mem_cons.mp hm with rfl | hm
            · exact k
            · exact slt_of_lt_n k (pX.1 z hm)
          have := cons_drop hz Y
          exact cntF_congr rfl this.1.symm this.2.symm
      · rw [if_neg k]
        have k' : slt a e = false := by simpa using k
        obtain rfl : e = a := slt_tri h' k'
        obtain ⟨r, h1, h2, h3⟩ := sldGo_fst n (X.dropWhile (· == e)) (Y.dropWhile (· == e)) m u (asc_drop hX) (asc_drop hY) (by omega)
        refine ⟨r, h1, (h2.trans (List.dropWhile_suffix _).sublist).trans (List.sublist_cons_self _ _), fun z => ?_⟩
        rw [h3 z]
        by_cases q : z = e
        · subst q
          rw [cntF_zero (drop_count0 hX)]
          unfold cntF
          rw [List.contains_cons, beq_self_eq_true, Bool.true_or, if_pos rfl]
        · by_cases c0 : (X.dropWhile (· == e)).count z = 0
          · rw [cntF_zero c0, cntF_zero (by rw [List.count_cons_of_ne (Ne.symm q), ← drop_count q, c0])]
          · have hz := drop_gt hX z (List.count_pos_iff.mp (Nat.pos_of_ne_zero c0))
            have := cons_drop hz Y
            exact cntF_congr (by rw [drop_count q, List.count_cons_of_ne (Ne.symm q)]) this.1.symm this.2.symm
theorem lackRow_snoc (xs ys : List Str) (x : Str) : lackRow (xs ++ [x]) ys = lackRow xs ys ++ (if (!(ys.any (· == x)) && (!(xs.any (· == x)) || (decide (ys = []) || (ys.all fun y => slt y x)))) then [x] else []) := by
  have get : ∀ k, k < xs.length → (xs ++ [x]).getD k Str.empty = xs.getD k Str.empty := fun k hk => by
    rw [List.getD_eq_getElem?_getD, List.getElem?_append_left hk, ← List.getD_eq_getElem?_getD]
  have getL : (xs ++ [x]).getD xs.length Str.empty = x := by simp [List.getD_eq_getElem?_getD]
  have tk : ∀ k, k ≤ xs.length → (xs ++ [x]).take k = xs.take k := fun k hk => List.take_append_of_le_length hk
  unfold lackRow
  rw [List.length_append, List.length_singleton, List.range_succ, List.filter_append, List.map_append]
  congr 1
  · rw [List.filter_congr (q := lackQ xs ys) fun k hk => by
      have hk := List.mem_range.mp hk
      unfold lackQ
      rw [get k hk, tk k (Nat.le_of_lt hk)]]
    exact List.map_congr_left fun k hk => get k (List.mem_range.mp (List.mem_filter.mp hk).1)
  · have e : lackQ (xs ++ [x]) ys xs.length = (!(ys.any (· == x)) && (!(xs.any (· == x)) || (decide (ys = []) || (ys.all fun y => slt y x)))) := by
      unfold lackQ
      rw [getL, tk _ (Nat.le_refl _), List.take_length]
    rw [List.filter_cons, e]
    split
    · rw [List.filter_nil, List.map_cons, getL]; rfl
    · rfl
theorem anyContains (ys : List Str) (x : Str) : ys.any (· == x) = ys.contains x := by
  induction ys with
  | nil => rfl
  | cons y ys ih => rw [List.any_cons, List.contains_cons, ih]; congr 1; exact Bool.beq_comm
theorem lackRow_countR (ys : List Str) (z : Str) : ∀ l : List Str, (lackRow l.reverse ys).count z = cntF l.reverse ys z
  | [] => by rw [List.reverse_nil, cntF_zero rfl]; rfl
  | x :: l => by
    have ih := lackRow_countR ys z l
    rw [List.reverse_cons, lackRow_snoc, List.count_append, ih]
    generalize l.reverse = xs
    by_cases q : z = x
    · subst q
      rw [anyContains, anyContains]
      unfold cntF
      cases hc : ys.contains z with
      | true => simp
      | false =>
        have hall : (decide (ys = []) || (ys.all fun y => slt y z)) = ys.all fun y => slt y z := by
          cases ys with
          | nil => rfl
          | cons y ys => simp
        rw [hall]
        cases ha : (ys.all fun y => slt y z) with
        | true => simp [List.count_append]
        | false =>
          simp only [Bool.not_false, Bool.true_and, Bool.or_false, Bool.false_eq_true, if_false, List.count_append, List.count_singleton_self]
          cases hx : xs.contains z with
          | true =>
            have := List.count_pos_iff.mpr (List.contains_iff_mem.mp hx)
            simp
            omega
          | false =>
            have : xs.count z = 0 := List.count_eq_zero.mpr fun hm => by rw [List.contains_iff_mem.mpr hm] at hx; cases hx
            simp [this]
    · have e1 : (if (!(ys.any (· == x)) && (!(xs.any (· == x)) || (decide (ys = []) || (ys.all fun y => slt y x)))) then [x] else ([] : List Str)).count z = 0 := by
        split
        · exact List.count_eq_zero.mpr fun hm => q (List.mem_singleton.mp hm)
        · rfl
      rw [e1]
      have e2 : (xs ++ [x]).count z = xs.count z := by
        rw [List.count_append, List.count_eq_zero.mpr fun hm => q (List.mem_singleton.mp hm)]; rfl
      exact (cntF_congr e2 rfl rfl).symm
theorem lackRow_count (xs ys : List Str) (z : Str) : (lackRow xs ys).count z = cntF xs ys z := by
  have := lackRow_countR ys z xs.reverse
  rwa [List.reverse_reverse] at this
theorem cntF_srt (xs ys : List Str) (z : Str) : cntF (srt xs) (srt ys) z = cntF xs ys z := by
  refine cntF_congr ((srt_perm xs).count_eq z) ?_ ?_
  · exact Bool.eq_iff_iff.mpr (by rw [List.contains_iff_mem, List.contains_iff_mem]; exact (srt_perm ys).mem_iff)
  · exact (srt_perm ys).all_eq
theorem sld_fst (xs ys : List Str) : (sldF (srt xs) (srt ys)).1 = lackF xs ys := by
  obtain ⟨r, h1, h2, h3⟩ := sldGo_fst ((srt xs).length + (srt ys).length) (srt xs) (srt ys) [] [] (srt_asc xs) (srt_asc ys) (Nat.le_refl _)
  unfold sldF lackF
  rw [h1, List.nil_append]
  refine asc_unique _ _ (asc_sub h2 (srt_asc xs)) (srt_asc _) (List.Perm.trans (List.perm_iff_count.mpr fun z => ?_) (srt_perm _).symm)
  rw [h3 z, cntF_srt, lackRow_count]
theorem sld_law (xs ys : List Str) : sldF (srt xs) (srt ys) = (lackF xs ys, lackF ys xs) := by
  have h1 := sld_fst xs ys
  have h2 := sld_fst ys xs
  have e : sldF (srt xs) (srt ys) = ((sldF (srt ys) (srt xs)).2, (sldF (srt ys) (srt xs)).1) := by
    unfold sldF
    rw [sldGo_swap, Nat.add_comm]
  refine Prod.ext h1 ?_
  rw [e]
  exact h2
/-- what the other difference leaves -/
noncomputable def less (c : Str → Nat) (y : Str) : Str → Nat := fun z => if z = y then c z - 1 else c z
noncomputable def more (c : Str → Nat) (y : Str) : Str → Nat := fun z => if z = y then c z + 1 else c z
noncomputable def leftF : (Str → Nat) → List Str → List Str
  | _, [] => []
  | c, y :: ys => if c y = 0 then y :: leftF c ys else leftF (less c y) ys
theorem leftF_erase (x : Str) : ∀ (ys : List Str) (c : Str → Nat), (leftF c ys).erase x = leftF (more c x) ys
  | [], c => rfl
  | y :: ys, c => by
    unfold leftF
    by_cases h : c y = 0
    · rw [if_pos h]
      by_cases q : x = y
      · subst q
        have e1 : more c x x ≠ 0 := by simp [more]
        have e2 : less (more c x) x = c := by
          funext z
          unfold less more
          by_cases e : z = x <;> simp [e]
        rw [if_neg e1, e2, List.erase_cons_head]
      · have e1 : more c x y = 0 := by simp [more, Ne.symm q, h]
        rw [if_pos e1, List.erase_cons_tail (by simpa using Ne.symm q), leftF_erase x ys c]
    · rw [if_neg h]
      have e1 : more c x y ≠ 0 := by unfold more; split <;> omega
      have e2 : less (more c x) y = more (less c y) x := by
        funext z
        unfold less more
        by_cases e : z = y
        · subst e
          by_cases e' : z = x <;> simp [e'] <;> (try subst e') <;> omega
        · simp [e]
      rw [if_neg e1, e2, leftF_erase x ys (less c y)]
theorem leftF_count (z : Str) : ∀ (ys : List Str) (c : Str → Nat), (leftF c ys).count z = ys.count z - c z
  | [], c => by simp [leftF]
  | y :: ys, c => by
    unfold leftF
    by_cases h : c y = 0
    · rw [if_pos h, List.count_cons, List.count_cons, leftF_count z ys c]
      by_cases q : y = z
      · subst q; simp [h]
      · simp [q]
    · rw [if_neg h, leftF_count z ys (less c y), List.count_cons]
      unfold less
      by_cases q : y = z
      · subst q; simp; omega
      · simp [q, Ne.symm q]
theorem leftF_zero (ys : List Str) : leftF (fun z => ([] : List Str).count z) ys = ys := by
  induction ys with
  | nil => rfl
  | cons y ys ih => unfold leftF; rw [if_pos (by simp), ih]
theorem range_succ_map {β : Type} (n : Nat) (q : Nat → Bool) (f : Nat → β) : ((List.range (n + 1)).filter q).map f = (if q 0 then [f 0] else []) ++ (((List.range n).filter fun k => q (k + 1)).map fun k => f (k + 1)) := by
  rw [List.range_succ_eq_map, List.filter_cons, List.filter_map]
  split
  · rw [List.map_cons, List.map_map]; rfl
  · rw [List.map_map]; rfl
theorem left_eq : ∀ (ys : List Str) (c : Str → Nat), ((List.range ys.length).filter fun k => decide (c (ys.getD k Str.empty) < (ys.take (k + 1)).count (ys.getD k Str.empty))).map (fun k => ys.getD k Str.empty) = leftF c ys
  | [], c => rfl
  | y :: ys, c => by
    rw [List.length_cons, range_succ_map]
    simp only [List.getD_cons_zero, List.getD_cons_succ, List.take_succ_cons, List.take_zero, List.count_cons_self, List.count_nil, List.count_cons]
    unfold leftF
    by_cases h : c y = 0
    · rw [if_pos h, h, ← left_eq ys c]
      simp only [Nat.lt_add_one, Nat.zero_add, decide_true, if_true, List.singleton_append]
      congr 2
      refine List.filter_congr fun k hk => ?_
      have hk := List.mem_range.mp hk
      by_cases q : y = ys.getD k Str.empty
      · have hp : 0 < (ys.take (k + 1)).count (ys.getD k Str.empty) := List.count_pos_iff.mpr (by
          rw [List.getD_eq_getElem?_getD, List.getElem?_eq_getElem hk]
          exact List.mem_take_iff_getElem.mpr ⟨k, by omega, rfl⟩)
        rw [← q] at hp ⊢
        rw [h]
        simp [hp]
      · have : (y == ys.getD k Str.empty) = false := by simpa using q
        rw [this]
        rfl
    · rw [if_neg h, ← left_eq ys (less c y)]
      have : (decide (c y < 0 + 1)) = false := by simp; omega
      simp only [this, Bool.false_eq_true, if_false, List.nil_append]
      congr 1
      refine List.filter_congr fun k hk => ?_
      unfold less
      by_cases q : ys.getD k Str.empty = y
      · rw [if_pos q, q, beq_self_eq_true, if_pos rfl]
        refine decide_eq_decide.mpr ?_
        omega
      · have : (y == ys.getD k Str.empty) = false := by simpa using Ne.symm q
        rw [if_neg q, this]
        rfl
theorem toldLeft_eq (xs ys : List Str) : toldLeft xs ys = leftF (fun z => xs.count z) ys := by
  rw [← left_eq]
  unfold toldLeft
  simp only [Int.ofNat_lt]
theorem toldMissing_cons (x : Str) (xs ys : List Str) : toldMissing (x :: xs) ys = (if ys.count x ≤ xs.count x then [x] else []) ++ toldMissing xs ys := by
  unfold toldMissing
  rw [List.length_cons, range_succ_map]
  simp only [List.getD_cons_zero, List.getD_cons_succ, List.drop_succ_cons, List.drop_zero, List.count_cons_self]
  congr 1
  by_cases h : ys.count x ≤ xs.count x
  · rw [if_pos h, if_pos (by simp; omega)]
  · rw [if_neg h, if_neg (by simp; omega)]
theorem unordGo_snoc (x : Str) : ∀ (r ys ms : List Str), unordGo (r ++ [x]) ys ms = unordGo [x] (unordGo r ys ms).2 (unordGo r ys ms).1
  | [], ys, ms => rfl
  | y :: r, ys, ms => by
    rw [List.cons_append]
    show unordGo (y :: (r ++ [x])) ys ms = _
    rw [show unordGo (y :: (r ++ [x])) ys ms = if ys.contains y then unordGo (r ++ [x]) (ys.eraseIdx (ys.idxOf y)) ms else unordGo (r ++ [x]) ys (ms ++ [y]) from rfl,
      show unordGo (y :: r) ys ms = if ys.contains y then unordGo r (ys.eraseIdx (ys.idxOf y)) ms else unordGo r ys (ms ++ [y]) from rfl]
    split
    · exact unordGo_snoc x r _ _
    · exact unordGo_snoc x r _ _
theorem unord_law : ∀ (xs ys : List Str), unordF xs ys = ((toldMissing xs ys).reverse, toldLeft xs ys)
  | [], ys => by rw [toldLeft_eq, leftF_zero]; rfl
  | x :: xs, ys => by
    have ih := unord_law xs ys
    unfold unordF at ih ⊢
    rw [List.reverse_cons, unordGo_snoc, ih, toldMissing_cons, toldLeft_eq, toldLeft_eq]
    show (if (leftF (fun z => xs.count z) ys).contains x then ((toldMissing xs ys).reverse, (leftF (fun z => xs.count z) ys).eraseIdx ((leftF (fun z => xs.count z) ys).idxOf x)) else ((toldMissing xs ys).reverse ++ [x], leftF (fun z => xs.count z) ys)) = _
    have hc := leftF_count x ys (fun z => xs.count z)
    have e1 : more (fun z => xs.count z) x = fun z => (x :: xs).count z := by
      funext z
      unfold more
      rw [List.count_cons]
      by_cases e : z = x
      · subst e; simp
      · simp [e, Ne.symm e]
    have er := leftF_erase x ys (fun z => xs.count z)
    rw [e1] at er
    rw [← er]
    by_cases h : ys.count x ≤ xs.count x
    · have c0 : x ∉ leftF (fun z => xs.count z) ys := List.count_eq_zero.mp (by rw [hc]; exact Nat.sub_eq_zero_of_le h)
      rw [if_neg (by rw [List.contains_iff_mem]; exact c0), if_pos h, List.erase_of_not_mem c0, List.reverse_append]
      rfl
    · have c0 : x ∈ leftF (fun z => xs.count z) ys := List.count_pos_iff.mp (by rw [hc]; exact Nat.sub_pos_of_lt (Nat.lt_of_not_le h))
      rw [if_pos (List.contains_iff_mem.mpr c0), if_neg h, List.nil_append, List.erase_eq_eraseIdx_of_idxOf rfl]
/-- the steps -/
theorem idx_ne {z x : Str} {l : List Str} (h : z ≠ x) : (z :: l).idxOf x = l.idxOf x + 1 := by
  rw [List.idxOf_cons, (beq_eq_false_iff_ne).mpr h]; rfl
theorem idx_lt : ∀ {l : List Str} {x y : Str}, Asc l → x ∈ l → y ∈ l → slt x y = true → l.idxOf x < l.idxOf y
  | z :: l, x, y, hl, hx, hy, h => by
    have p := List.pairwise_cons.mp hl
    have nxy : x ≠ y := fun e => by rw [e, slt_irrefl] at h; cases h
    by_cases q : z = x
    · subst q
      rw [List.idxOf_cons_self, idx_ne nxy]
      exact Nat.succ_pos _
    · have hx' : x ∈ l := by rcases List.mem_cons.mp hx with e | e; · exact absurd e.symm q
                             · exact e
      by_cases q' : z = y
      · subst q'
        have := p.1 x hx'
        rw [h] at this; cases this
      · have hy' : y ∈ l := by rcases List.mem_cons.mp hy with e | e; · exact absurd e.symm q'
                               · exact e
        rw [idx_ne q, idx_ne q']
        exact Nat.succ_lt_succ (idx_lt p.2 hx' hy' h)
theorem coll_clip {xs : List Str} {x y : Str} (hx : x ∈ xs) (hy : y ∈ xs) : PyProof.Rows.b2i (slt y x) - PyProof.Rows.b2i (slt x y) = clipI ((((srt xs).idxOf x : Nat) : Int) - (((srt xs).idxOf y : Nat) : Int)) := by
  have hx' := (srt_perm xs).mem_iff.mpr hx
  have hy' := (srt_perm xs).mem_iff.mpr hy
  unfold clipI
  cases h : slt x y with
  | true =>
    have := idx_lt (srt_asc xs) hx' hy' h
    rw [slt_asymm h]
    show (0 : Int) - 1 = _
    split <;> split at * <;> omega
  | false =>
    cases k : slt y x with
    | true =>
      have := idx_lt (srt_asc xs) hy' hx' k
      show (1 : Int) - 0 = _
      split <;> split at * <;> omega
    | false =>
      obtain rfl := slt_tri h k
      show (0 : Int) - 0 = _
      split <;> split at * <;> omega
noncomputable def collF (xs : List Str) : List Int := (List.range (xs.length - 1)).map fun k => PyProof.Rows.b2i (slt (xs.getD (k + 1) Str.empty) (xs.getD k Str.empty)) - PyProof.Rows.b2i (slt (xs.getD k Str.empty) (xs.getD (k + 1) Str.empty))
theorem coll_steps (xs : List Str) : collF xs = stepsF xs := by
  unfold collF stepsF placesF
  refine List.map_congr_left fun k hk => ?_
  have hk := List.mem_range.mp hk
  have get : ∀ j, j < xs.length → xs.getD j Str.empty ∈ xs ∧ (xs.map fun x => (((srt xs).idxOf x : Nat) : Int)).getD j 0 = (((srt xs).idxOf (xs.getD j Str.empty) : Nat) : Int) := fun j hj => by
    constructor
    · rw [List.getD_eq_getElem?_getD, List.getElem?_eq_getElem hj]; exact List.getElem_mem hj
    · simp [List.getD_eq_getElem?_getD, List.getElem?_eq_getElem hj]
  obtain ⟨m1, e1⟩ := get k (by omega)
  obtain ⟨m2, e2⟩ := get (k + 1) (by omega)
  rw [e1, e2]
  exact coll_clip m1 m2
/-- what is told of a pattern -/
theorem range_filter {α β : Type} (d : α) (q : α → Bool) (f : α → β) : ∀ ps : List α, ((List.range ps.length).filter fun j => q (ps.getD j d)).map (fun j => f (ps.getD j d)) = (ps.filter q).map f
  | [] => rfl
  | p :: ps => by
    rw [List.length_cons, range_succ_map]
    simp only [List.getD_cons_zero, List.getD_cons_succ]
    rw [range_filter d q f ps, List.filter_cons]
    split <;> simp
noncomputable def toldF (ns : List Int) (n : Nat) : List Str := (namesF ns).filter (takenF sgF (partsOf.getD n []))
theorem told_means (ns : List Int) {n : Nat} (hn : n < 9) : ((pairsF ns).filter fun p => meansF n (p.1.getD (S "C")) p.2).map (fun p => nameF p.1 p.2) = toldF ns n := by
  unfold toldF namesF
  rw [List.filter_map]
  congr 1
  exact List.filter_congr fun p hp => (taken_means n hn p (pairsF_mem hp)).symm

end Mine
end
section
open PySem PySem.W PyProof.Rows PySem.Calls
set_option Elab.async false
set_option linter.unusedVariables false
namespace Mine
/-- a name is bound and the table may have grown -/
theorem LS.loc71 {g0 : Heap} {L : Addr} {m m' : Str → Option Value} {h h' : Heap} (S : LS g0 [71, L] L m h) (k : ∀ b o, b ≠ L → b ≠ 71 → h.get? b = some o → h'.get? b = some o) (t : ∃ ps, h'.get? 71 = some (tabObj ps) ∧ TriplesOk ps.toList) (hn : h'.Ns L m') : LS g0 [71, L] L m' h' ∧ KeepsH (hid [71, L] h) (hid [71, L] h') := by
  have kk := hid_mono (M := [71, L]) (h := h) (h' := h') (fun b o q e => k b o (fun r => q (by simp [r])) (fun r => q (by simp [r])) e)
  refine ⟨⟨kh_tr S.kg kk, hn, t, fun b q r r' => ?_, S.mL, S.mT, S.lt⟩, kk⟩
  simp only [List.mem_cons, List.not_mem_nil, or_false] at q
  rcases q with q | q
  · exact absurd q r'
  · exact absurd q r
theorem LawB.loc71 {w : World} {s s' : Shared} {g0 : Heap} {L ls : Addr} {vs : List Value} {ns : List Int} {m : Str → Option Value} {Dn Dp Dw : Addr} {h h' : Heap} {x : Str} {v : Value} (B : LawB w s g0 L ls vs ns m Dn Dp Dw h) (k : ∀ b o, b ≠ L → b ≠ 71 → h.get? b = some o → h'.get? b = some o)
    (t : ∃ ps, h'.get? 71 = some (tabObj ps) ∧ TriplesOk ps.toList) (hn : h'.Ns L (fun z => if z = x then some v else m z)) (hb : AllBare s'.gens) (hx : x ≠ Str.ofString "script" := by decide) : LawB w s' g0 L ls vs ns (fun z => if z = x then some v else m z) Dn Dp Dw h' ∧ KeepsH (hid [71, L] h) (hid [71, L] h') :=
  let ⟨S', q⟩ := B.S.loc71 k t hn
  ⟨⟨S', B.G, B.C, by simp only [if_neg (Ne.symm hx)]; exact B.sc, B.li, B.hI, B.len, hb, isCell_up B.cn q, isCell_up B.cp q, isCell_up B.cw q, upSs _ _ _ q B.hN, upL upPl _ _ _ q B.hP, upSs _ _ _ q B.hW⟩, q⟩

end Mine
end
section
open PySem PySem.W PyProof.Rows PySem.Calls
set_option Elab.async false
set_option maxRecDepth 100000
set_option linter.unusedVariables false
namespace Mine
section
variable {prog : Program} {w : World} {A : Around} {E : Value → Shared → Prop} {env : Env}
/-- the frame of a comprehension whose one name is a cell -/
theorem newCompEnv {M : Model} {s : Shared} {scope : Scope} {cl : List (Str × Addr)} {x : Str} {Q : Env → Shared → Prop} (hcf : ∀ n, cellsFrom n scope.names cl = (x, n) :: cl) (hpc : ∀ h, pushCells h scope.names = h.push { cls := .type "cell", data := .cell none })
    (h : Q (newEnv scope s.heap.objs.size env.globals ((x, s.heap.objs.size + 1) :: cl) env.qual none .none (some env) builtinsNs) { s with heap := (s.heap.push { cls := .type "dict", data := .dict #[] }).push { cls := .type "cell", data := .cell none } }) :
    wpAny M A (newFunctionEnv scope env.globals cl [] env.qual none .none (some env)) Q E s := by
  simp only [newFunctionEnv, Option.isSome_some, if_true]
  refine wpAny_bind (wpAny_alloc ?_)
  refine wpAny_bind (wpAny_layCells _ (fun name kind cells => by cases hkc : kind == NameKind.cell <;> simp [hkc]) _ _ _ _ ?_)
  rw [show ({ s with heap := s.heap.push { cls := .type "dict", data := .dict #[] } } : Shared).heap.objs.size = s.heap.objs.size + 1 from Heap.size_push .., hcf, hpc]
  rw [List.forIn_nil]
  exact wpAny_bind (wpAny_pure (wpAny_pure h))
/-- what the test and the element of such a comprehension must do -/
noncomputable def TestOkC (prog : Program) (w : World) (A : Around) (env : Env) (scope : Scope) (cl : List (Str × Addr)) (x : Str) (ifs : List Expr) (s : Shared) (g : Heap) {α : Type} (xs : List α) (R : Heap → Value → α → Prop) (q : α → Bool) : Prop :=
  ∀ (a : α) (v : Value) (h : Heap) (tk : Nat) (g' : Heap) (C : Addr) (E' : Value → Shared → Prop), a ∈ xs → R g' v a → Ext g s.heap g' h → g'.get? C = none → g'.get? (C + 1) = none → (∃ m, h.Ns C m) → h.IsCell (C + 1) (some v) →
    wpAny (model prog w) A (forIn ifs true fun c r => if r = true then do let ok ← isTrue c (compEnvC scope ((x, C + 1) :: cl) C env) (eval c (compEnvC scope ((x, C + 1) :: cl) C env)); pure (ForInStep.yield ok) else pure (ForInStep.yield r))
      (fun ok s₃ => ok = q a ∧ Keeps { s with heap := h, toks := tk } s₃) E' { s with heap := h, toks := tk }
noncomputable def EltOkC (prog : Program) (w : World) (A : Around) (env : Env) (scope : Scope) (cl : List (Str × Addr)) (x : Str) (elt : Expr) (s : Shared) (g : Heap) {α β : Type} (xs : List α) (R : Heap → Value → α → Prop) (S : Heap → Value → β → Prop) (q : α → Bool) (f : α → β) : Prop :=
  ∀ (a : α) (v : Value) (h : Heap) (tk : Nat) (g' : Heap) (C : Addr) (E' : Value → Shared → Prop), a ∈ xs → q a = true → R g' v a → Ext g s.heap g' h → g'.get? C = none → g'.get? (C + 1) = none → (∃ m, h.Ns C m) → h.IsCell (C + 1) (some v) →
    wpAny (model prog w) A (eval elt (compEnvC scope ((x, C + 1) :: cl) C env)) (fun y s₃ => ∃ h' tk' g'', s₃ = { s with heap := h', toks := tk' } ∧ Ext g' h g'' h' ∧ S g'' y (f a)) E' { s with heap := h, toks := tk }
theorem ccomp_block {α β : Type} {elt iter : Expr} {x : Str} {px : Pos} {ifs : List Expr} {scope : Scope} {cl : List (Str × Addr)} {pos : Pos} {s s₂ : Shared} {I : Addr} {fp wr : List Addr} {n : Nat} {P : Nat → Value → Prop}
    {St : Nat → Heap → Prop} (W : Walks prog w A I fp wr n P St) (hsz : n ≤ sizeLine) (xs : List α) (R : Heap → Value → α → Prop) (S : Heap → Value → β → Prop) (q : α → Bool) (f : α → β) (g : Heap)
    (hRm : Up R) (hSm : Up S) (hn : n = xs.length) (hP : ∀ j v, j < n → P j v → ∃ a, xs[j]? = some a ∧ R g v a) (kg : KeepsH g s.heap) (ks : ∃ h tk, s₂ = { s with heap := h, toks := tk } ∧ KeepsH s.heap h) (hwr : ∀ b ∈ wr, s.heap.get? b = none ∧ b < s₂.heap.objs.size)
    {RR : Value → Addr → Result → Shared → Prop}
    (hcf : ∀ n, cellsFrom n scope.names cl = (x, n) :: cl) (hpc : ∀ h, pushCells h scope.names = h.push { cls := .type "cell", data := .cell none }) (hkind : scope.kind = .function) (hx : ∀ C, (compEnvC scope ((x, C + 1) :: cl) C env).kindOf x = some .cell) (hst : St 0 s₂.heap) (hfp : ∀ b ∈ fp, b < s₂.heap.objs.size) (hwe : ∀ i h, St i h → ∀ b ∈ wr, ∃ o, h.get? b = some o)
    (ht : TestOkC prog w A env scope cl x ifs s g xs R q) (he : EltOkC prog w A env scope cl x elt s g xs R S q f)
    (hRR : ∀ h' tk C D m g' (ys : List Value) c, Ext g s.heap g' h' → h'.Ns C m → g'.get? C = none → s.heap.get? C = none → C ≠ D → g'.get? D = some (listOf ys.toArray c) → s.heap.get? D = none → Paired (S g') ys ((xs.filter q).map f) →
      RR (.ref D) C (.ok .next) { s with heap := h', toks := tk }) :
    wpAny (model prog w) A (newList []) (fun acc s₃ => wpAny (model prog w) A (newFunctionEnv scope env.globals cl [] env.qual none .none (some env)) (fun cenv s₄ =>
      codeAny (model prog w) A (.compStart (.ListComp elt [⟨.Name x px, iter, ifs, 0⟩] scope pos) 0 (.ref I) acc { cenv with scope := relabel scope env }) (RR acc cenv.locals) s₄) E s₃) E s₂ := by
  obtain ⟨hb, tkb, rfl, khb⟩ := ks
  refine wpAny_newObj_type (newCompEnv hcf hpc ?_)
  dsimp only at hst hfp hwr ⊢
  generalize hH2 : hb.push { cls := .type "list", dict := none, data := .seq ([] : List Value).toArray } = H2
  have hC : H2.objs.size = hb.objs.size + 1 := by rw [← hH2, Heap.size_push]
  rw [hC]
  generalize hH3 : H2.push { cls := .type "dict", data := .dict #[] } = H3
  have hC3 : H3.objs.size = hb.objs.size + 1 + 1 := by rw [← hH3, Heap.size_push, hC]
  generalize hH4 : H3.push { cls := .type "cell", data := .cell none } = h₁
  have hns₁ : h₁.Ns (hb.objs.size + 1) (fun _ => none) := by
    have := (Heap.Ns.new H2 (.type "dict")).push { cls := .type "cell", data := .cell none }
    rw [hH3, hH4, hC] at this
    exact this
  have hce₁ : h₁.IsCell (hb.objs.size + 1 + 1) none := ⟨_, by rw [← hC3, ← hH4]; exact Heap.get?_push_size _ rfl, rfl⟩
  have hDf : hb.objs.size ∉ fp := fun hm => Nat.lt_irrefl _ (hfp _ hm)
  have hCf : hb.objs.size + 1 ∉ fp := fun hm => absurd (hfp _ hm) (Nat.not_lt.mpr (Nat.le_succ _))
  have hCf2 : hb.objs.size + 1 + 1 ∉ fp := fun hm => absurd (hfp _ hm) (Nat.not_lt.mpr (Nat.le_trans (Nat.le_succ _) (Nat.le_succ _)))
  have old : KeepsH hb h₁ := fun b o e => hH4 ▸ Heap.get?_push_of_some _ (hH3 ▸ Heap.get?_push_of_some _ (hH2 ▸ Heap.get?_push_of_some _ e))
  have hacc : h₁.PlainList hb.objs.size #[] := ⟨_, hH4 ▸ Heap.get?_push_of_some _ (hH3 ▸ Heap.get?_push_of_some _ (hH2 ▸ Heap.get?_push_size _ rfl))⟩
  have hst₁ : St 0 h₁ := W.frame _ _ _ hst fun b _ o e => old b o e
  have sN : ∀ {b : Addr}, hb.objs.size ≤ b → s.heap.get? b = none := fun {b} hb' => by
    cases e : s.heap.get? b with
    | none => rfl
    | some o => exact absurd (Heap.lt_size (khb _ _ e)) (Nat.not_lt.mpr hb')
  have gOf : ∀ {b : Addr}, s.heap.get? b = none → g.get? b = none := fun {b} hb' => by
    cases e : g.get? b with
    | none => rfl
    | some o => rw [kg _ _ e] at hb'; cases hb'
  have hCD : hb.objs.size ≠ hb.objs.size + 1 := Nat.ne_of_lt (Nat.lt_succ_self _)
  have priv : ∀ b ∈ hb.objs.size :: ([hb.objs.size + 1, hb.objs.size + 1 + 1] ++ wr), s.heap.get? b = none := fun b hm => by
    rcases List.mem_cons.mp hm with rfl | hm
    · exact sN (Nat.le_refl _)
    · rcases List.mem_append.mp hm with hm | hm
      · rcases List.mem_cons.mp hm with rfl | hm
        · exact sN (Nat.le_succ _)
        · rw [List.mem_singleton.mp hm]; exact sN (Nat.le_trans (Nat.le_succ _) (Nat.le_succ _))
      · exact (hwr b hm).1
  have loop : ∀ s₃ : Shared, s₃ = { s with heap := h₁, toks := tkb } →
      codeAny (model prog w) A (.compLoop (.ListComp elt [⟨.Name x px, iter, ifs, 0⟩] scope pos) 0 (.ref I) (.ref hb.objs.size) (compEnvC scope ((x, hb.objs.size + 1 + 1) :: cl) (hb.objs.size + 1) env))
        (RR (.ref hb.objs.size) (hb.objs.size + 1)) s₃ := by
    rintro s₃ rfl
    refine gc_loop (s := { s with heap := h₁, toks := tkb }) (hsz := hsz) (mt := []) (bs := [hb.objs.size + 1, hb.objs.size + 1 + 1]) (cenv := compEnvC scope ((x, hb.objs.size + 1 + 1) :: cl) (hb.objs.size + 1) env) W (fun j => (xs[j]?).any q)
      (fun vs ys s' => ∃ h tk g', s' = { s with heap := h, toks := tk } ∧ Ext g s.heap g' h ∧ (∀ b ∈ hb.objs.size :: ([hb.objs.size + 1, hb.objs.size + 1 + 1] ++ wr), g'.get? b = none) ∧ Paired (S g') ys (((xs.take vs.length).filter q).map f))
      (fun h => (∃ m, h.Ns (hb.objs.size + 1) m) ∧ ∃ v, h.IsCell (hb.objs.size + 1 + 1) v) (fun h v => (∃ m, h.Ns (hb.objs.size + 1) m) ∧ h.IsCell (hb.objs.size + 1 + 1) (some v))
      ?e1 ?e2 ?e3 ?e4 ?d1 hDf ?d2 (fun b hb => nomatch hb) ?jj hst₁ hacc ?eo ?j0 ?tt ?el ?sk ?rr
    case eo => exact ⟨⟨_, hns₁⟩, none, hce₁⟩
    case e1 => exact fun h h' ⟨⟨m, hm⟩, v, o, e, d⟩ k => ⟨⟨m, hm.at' fun o e => k _ (.head _) o e⟩, v, o, k _ (.tail _ (.head _)) o e, d⟩
    case e2 => exact fun h h' v ⟨⟨m, hm⟩, o, e, d⟩ k => ⟨⟨m, hm.at' fun o e => k _ (.head _) o e⟩, o, k _ (.tail _ (.head _)) o e, d⟩
    case e3 => exact fun h v ⟨hm, hv⟩ => ⟨hm, _, hv⟩
    case e4 =>
      rintro s' v Q E ⟨⟨m, hm⟩, v0, hv0⟩ hQ
      refine wpAny_assign_Name (wpAny_storeName_cell (by simp [compEnvC, relabel, hkind]) (hx _) (c := hb.objs.size + 1 + 1) (by simp [compEnvC]) hv0 fun h₂ hc₂ hs₂ => ?_)
      exact hQ h₂ _ ⟨⟨m, hm.sameBut hs₂ (Nat.ne_of_lt (Nat.lt_succ_self _))⟩, hc₂⟩ fun b o hb e => hs₂.extBut b o (fun q => hb (by simp [q])) e
    case d1 => exact fun h => by rcases List.mem_cons.mp h with q | q
                                 · exact hCD q
                                 · exact absurd (List.mem_singleton.mp q) (neN (by omega))
    case d2 => exact fun b hb => by rcases List.mem_cons.mp hb with rfl | hb
                                    · exact hCf
                                    · rw [List.mem_singleton.mp hb]; exact hCf2
    case jj =>
      rintro vs ys s' h tk ⟨h0, tk0, g', rfl, x1, x2, x5⟩ kb
      dsimp only at kb
      exact ⟨h, tk, g', rfl, ⟨x1.gg, x1.but kb x2, fun b o e => kb b o (fun hm => by rw [priv b hm] at e; cases e) (x1.hh b o e), x1.new⟩, x2, x5⟩
    case j0 => exact ⟨h₁, _, g, rfl, ⟨kh_rfl, fun b o e => old b o (khb b o (kg b o e)), fun b o e => old b o (khb b o e), fun _ e _ => e⟩, fun b hm => gOf (priv b hm), by simpa using Paired.nil⟩
    case tt =>
      rintro vs ys v s' E' hlt hPv ⟨h, tk, g', rfl, x1, x2, x5⟩ ⟨⟨m, hm⟩, hv⟩
      obtain ⟨a, ha, hRa⟩ := hP _ _ hlt hPv
      refine wpAny_mono (ht a v h tk g' _ E' (List.mem_of_getElem? ha) (hRm _ _ _ _ x1.gg hRa) x1 (x2 _ (by simp)) (x2 _ (by simp)) ⟨m, hm⟩ hv) (fun ok s₃ r => ⟨?_, r.2⟩) fun _ _ e => e
      rw [r.1, ha]; rfl
    case el =>
      rintro vs ys v s' E' hlt hPv hp ⟨h, tk, g', rfl, x1, x2, x5⟩ ⟨⟨m, hm⟩, hv⟩ hst' hpl
      obtain ⟨a, ha, hRa⟩ := hP _ _ hlt hPv
      have hq : q a = true := by simpa [ha] using hp
      refine wpAny_mono (he a v h tk g' _ E' (List.mem_of_getElem? ha) hq (hRm _ _ _ _ x1.gg hRa) x1 (x2 _ (by simp)) (x2 _ (by simp)) ⟨m, hm⟩ hv) (fun y s₃ r => ?_) fun _ _ e => e
      obtain ⟨h', tk', g'', rfl, y1, y2⟩ := r
      refine ⟨fun b o _ e => y1.hh b o e, h', tk', g'', rfl, x1.trans y1, fun b hm' => y1.new b (x2 b hm') ?_, ?_⟩
      · rcases List.mem_cons.mp hm' with rfl | hm'
        · obtain ⟨c, hc⟩ := hpl; exact ⟨_, hc⟩
        · rcases List.mem_append.mp hm' with hm' | hm'
          · rcases List.mem_cons.mp hm' with rfl | hm'
            · obtain ⟨o, _, _, e, _⟩ := hm; exact ⟨o, e⟩
            · rw [List.mem_singleton.mp hm']; obtain ⟨o, e, _⟩ := hv; exact ⟨o, e⟩
          · exact hwe _ _ hst' b hm'
      · rw [List.length_append, List.length_singleton, take_snoc_filter q f ha, if_pos hq]
        exact paired_snoc (paired_mono (fun y b hy => hSm _ _ _ _ y1.gg hy) x5) y2
    case sk =>
      rintro vs ys v s' hp ⟨h, tk, g', rfl, x1, x2, x5⟩
      refine ⟨h, tk, g', rfl, x1, x2, ?_⟩
      rw [List.length_append, List.length_singleton]
      cases ha : xs[vs.length]? with
      | none => rw [List.take_of_length_le (by have := List.getElem?_eq_none_iff.mp ha; omega)]; rwa [List.take_of_length_le (by have := List.getElem?_eq_none_iff.mp ha; omega)] at x5
      | some a =>
        have hq : q a = false := by simpa [ha] using hp
        rw [take_snoc_filter q f ha, hq]; simpa using x5
    case rr =>
      rintro s' ys vs ⟨⟨m, hm⟩, _⟩ ⟨c, hc⟩ hlen hPs ⟨h, tk, g', rfl, x1, x2, x5⟩
      dsimp only at hc hm
      have hx5 : Paired (S g') ys ((xs.filter q).map f) := by rwa [hlen, hn, List.take_length] at x5
      refine hRR h tk _ _ m (addG g' h hb.objs.size) ys c (x1.add (sN (Nat.le_refl _))) hm (addG_no (Ne.symm hCD) (x2 _ (by simp))) (sN (Nat.le_succ _)) (Ne.symm hCD) (addG_at hc) (sN (Nat.le_refl _)) (paired_mono (fun y b hy => hSm _ _ _ _ (addG_gg x1.gh) hy) hx5)
  exact codeAny_compStart_list (loop _ rfl) (W.self 0 _ _ _ hst₁ (loop _ rfl))
/-- all that such a comprehension asks, at its source's value -/
noncomputable def CompAtC (prog : Program) (w : World) (A : Around) (env : Env) (scope : Scope) (cl : List (Str × Addr)) (x : Str) (ifs : List Expr) (elt : Expr) (K : Addr → Heap → Nat → Heap → Shared → Prop) (xv : Value) (s : Shared) : Prop :=
  ∃ (α β : Type) (xs : List α) (R : Heap → Value → α → Prop) (S : Heap → Value → β → Prop) (q : α → Bool) (f : α → β) (g : Heap), Up R ∧ Up S ∧ KeepsH g s.heap ∧ TestOkC prog w A env scope cl x ifs s g xs R q ∧ EltOkC prog w A env scope cl x elt s g xs R S q f ∧ Src prog w A xv s g xs R ∧
    ∀ h' tk D g' (ys : List Value) c, Ext g s.heap g' h' → g'.get? D = some (listOf ys.toArray c) → s.heap.get? D = none → Paired (S g') ys ((xs.filter q).map f) → K D h' tk g' s
theorem ccomp_assign {elt iter : Expr} {x y : Str} {px py : Pos} {ifs : List Expr} {scope : Scope} {cl : List (Str × Addr)} {pos spos : Pos} {s : Shared} {Q : Flow → Shared → Prop}
    (hsw : swapsWith (.ListComp elt [⟨.Name x px, iter, ifs, 0⟩] scope pos) (some (.Name y py)) spos.line env = pure true)
    (hclos : closureFor scope env = pure cl) (hcf : ∀ n, cellsFrom n scope.names cl = (x, n) :: cl) (hpc : ∀ h, pushCells h scope.names = h.push { cls := .type "cell", data := .cell none }) (hkind : scope.kind = .function) (hnames : ∀ z ∈ scope.names, z.2 = .local → scope.names.lookup z.1 = some .local) (hx : ∀ C, (compEnvC scope ((x, C + 1) :: cl) C env).kindOf x = some .cell)
    (h : wpAny (model prog w) A (eval iter env) (CompAtC prog w A env scope cl x ifs elt (AsgEnd prog w A env y py Q E)) E s)
    (hs : ∀ x, foldedSetIterable iter env x = pure x := by intro _; rfl) :
    wpAny (model prog w) A (exec (.Assign [.Name y py] (.ListComp elt [⟨.Name x px, iter, ifs, 0⟩] scope pos) spos) env) Q E s := by
  rw [exec_Assign_Name_used _ _ _ _ hsw]
  refine wpAny_bind (wpAny_standAt (wpAny_bind ?_))
  show wpAny _ A (do let _ ← comprehension (.ListComp elt [⟨.Name x px, iter, ifs, 0⟩] scope pos) scope env _ (newList []) false (eval iter env) (some (assign (.Name y py) env))) _ _ s
  refine wpAny_bind (wpAny_mono (wpAny_comprehension_free (use := some (assign (.Name y py) env)) (Q := fun _ s' => Q .next s') rfl hs hclos hkind hnames
    (wpAny_mono h (fun xv s₁ h₁ => ?_) fun _ _ e => e)) (fun _ s' hq => wpAny_pure (wpAny_pure hq)) fun _ _ e => e)
  obtain ⟨α, β, xs, R, S, q, f, g, hRm, hSm, kg, ht, he, hsrc, hasg⟩ := h₁
  refine wpAny_mono hsrc (fun it s₂ h₂ => ?_) fun _ _ e => e.elim
  obtain ⟨I, fp, wr, n, P, St, rfl, W, hsz, hst, hfp, hn, hP, ks, hwr, hwe, _⟩ := h₂
  refine ccomp_block (RR := fun acc C => compPost (model prog w) A E (some (assign (.Name y py) env)) (fun _ s' => Q .next s') acc C) W hsz xs R S q f g hRm hSm hn hP kg ks hwr hcf hpc hkind hx hst hfp hwe ht he ?_
  intro h' tk C D m g' ys c x1 hm hC hCs hCD hD hDs hy
  show wpAny _ A (assign (.Name y py) env (.ref D)) _ _ _
  refine wpAny_mono (hasg h' tk D g' ys c x1 hD hDs hy) (fun _ s'' r => ?_) fun _ _ e => e
  obtain ⟨mt, kb, hmt, hq⟩ := r
  refine ⟨m, hm.at' fun o e => kb C o (fun h => by obtain ⟨_, o, ho⟩ := hmt C h; rw [hCs] at ho; cases ho) e, fun h'' hs'' => hq h'' (fun b o e => hs''.extBut b o (fun q => by rw [q, hC] at e; cases e) (kb b o (fun h => by rw [(hmt b h).1] at e; cases e) (x1.gh b o e))) fun a o ⟨o', ho'⟩ e => hs''.extBut a o (fun q => by rw [q, hCs] at ho'; cases ho') e⟩
theorem testOkC_nil {s : Shared} {scope : Scope} {cl : List (Str × Addr)} {x : Str} {g : Heap} {α : Type} {xs : List α} {R : Heap → Value → α → Prop} : TestOkC prog w A env scope cl x [] s g xs R (fun _ => true) := by
  intro a v h tk g' C E' ha hR X hC hC' hm hv
  rw [List.forIn_nil]
  exact wpAny_pure ⟨rfl, _, _, rfl, kh_rfl⟩
end

end Mine
end
section
open PySem PySem.W PyProof.Rows PySem.Calls
set_option Elab.async false
set_option maxRecDepth 100000
set_option linter.unusedVariables false
namespace Mine
section
variable {prog : Program} {w : World} {A : Around} {env : Env} {h₀ : Heap} {s : Shared}
theorem eltOkC {scope : Scope} {cl : List (Str × Addr)} {x : Str} {g : Heap} {α β : Type} {xs : List α} {R : Heap → Value → α → Prop} {S : Heap → Value → β → Prop} {q : α → Bool} {f : α → β} {elt : Expr} (K : Heap → α → Value → Heap → Prop)
    (h : ∀ a v h g' C, a ∈ xs → q a = true → R g' v a → KeepsH g g' → KeepsH g' h → (∃ m, h.Ns C m) → h.IsCell (C + 1) (some v) → PG prog w A (compEnvC scope ((x, C + 1) :: cl) C env) elt h s (K h a))
    (hS : ∀ h a y h' g'', K h a y h' → (∀ b o, h.get? b = none → h'.get? b = some o → g''.get? b = some o) → S g'' y (f a)) : EltOkC prog w A env scope cl x elt s g xs R S q f := by
  intro a v h' tk g' C E' ha hq hR X hC hC' hm hv
  refine (h a v h' g' C ha hq hR X.gg X.gh hm hv).run h' tk _ _ kh_rfl fun y h₂ tk₂ k₂ ky => ⟨h₂, tk₂, ghost g' h' h₂, rfl, ghost_ext X.gh k₂, hS _ _ _ _ _ ky fun b o e1 e2 => ghost_new e1 e2⟩
/-- three arguments -/
theorem PA.three {pos : Pos} {e e' e'' : Expr} {K K' K'' : Value → Heap → Prop} (x : PG prog w A env e h₀ s K) (u : UpK K) (y : PG prog w A env e' h₀ s K') (u' : UpK K') (z : PG prog w A env e'' h₀ s K'') (u'' : UpK K'')
    (he : starEach [e, e', e''] env = (false, eval e env) :: starEach [e', e''] env := by rfl) (he' : starEach [e', e''] env = (false, eval e' env) :: starEach [e''] env := by rfl) (he'' : starEach [e''] env = (false, eval e'' env) :: starEach [] env := by rfl) :
    PA prog w A env pos [e, e', e''] h₀ s (fun vs h => ∃ v v' v'', vs = [v, v', v''] ∧ K v h ∧ K' v' h ∧ K'' v'' h) :=
  .mk fun h tk Q E k hQ => (PA.cons x u (PA.two y u' z u'' he' he'') he).run h tk Q E k fun v h' tk' k' ⟨a, b, e1, e2, c, d, e3, e4, e5⟩ => hQ _ _ _ k' ⟨a, c, d, by rw [e1, e3], e2, e4, e5⟩
end
theorem pc_means (w : World) (dp un : Nat) (gd : Option (List Code)) (fr : Option (List Env)) (s : Shared) (h₀ : Heap) (a b c : Value) (k : Nat) (x : Str) (e : Option Str) (G : Gl w h₀) (hk : k < 9) (ha : KInt (k : Int) a h₀) (hb : KStr x b h₀) (hc : OptIs e c) (hdp : dp + 1 < recursionLimit) (hun : un + 8 < cLine) :
   PC PySem.Challenge.rw_in0044_01.row.prog w (AA dp un gd fr) (.ref 111) [a, b, c] h₀ s (KBool (meansF k x e)) := by
  refine .mk fun hh tk0 Q E k0 hQ => ?_
  obtain ⟨loose, mean, mg, mb, X, T⟩ := G.up k0
  obtain ⟨t0, rfl⟩ := ha
  obtain ⟨t, rfl⟩ := hb
  exact means_spec w dp un gd fr _ Q E loose mean mg mb k hk x e c hc t t0 X T hdp hun fun h' tk' kk => hQ _ h' tk' kk rfl
theorem pc_coll (w : World) (dp un : Nat) (gd : Option (List Code)) (fr : Option (List Env)) (s : Shared) (h₀ : Heap) (a b : Value) (x y : Str) (G : Gl w h₀) (ha : KStr x a h₀) (hb : KStr y b h₀) (hdp : dp + 1 < recursionLimit) (hun : un + 8 < cLine) :
   PC PySem.Challenge.rw_in0044_01.row.prog w (AA dp un gd fr) (.ref 38) [a, b] h₀ s (KInt (PyProof.Rows.b2i (slt y x) - PyProof.Rows.b2i (slt x y))) := by
  refine .mk fun hh tk0 Q E k0 hQ => ?_
  obtain ⟨loose, mean, mg, mb, X, T⟩ := G.up k0
  obtain ⟨t0, rfl⟩ := ha
  obtain ⟨t, rfl⟩ := hb
  exact strcoll_spec w dp un gd fr _ Q E loose mean mg mb x y t0 t X T hdp hun fun t' h' tk' kk => hQ _ h' tk' kk ⟨_, rfl⟩
theorem pc_xfrm (w : World) (dp un : Nat) (gd : Option (List Code)) (fr : Option (List Env)) (s : Shared) (h₀ : Heap) (x : Str) (t : Tok) (G : Gl w h₀) (hdp : dp + 1 < recursionLimit) (hun : un + 8 < cLine) :
   PC PySem.Challenge.rw_in0044_01.row.prog w (AA dp un gd fr) (.ref 45) [.str x t] h₀ s (fun u _ => u = .str x t) := by
  refine .mk fun hh tk0 Q E k0 hQ => ?_
  obtain ⟨loose, mean, mg, mb, X, T⟩ := G.up k0
  exact strxfrm_spec w dp un gd fr _ Q E loose mean mg mb x t X T hdp hun fun h' tk' kk => hQ _ h' tk' kk rfl

end Mine
end
section
open PySem PySem.W PyProof.Rows PySem.Calls
set_option Elab.async false
set_option maxRecDepth 100000
set_option linter.unusedVariables false
set_option maxHeartbeats 4000000
namespace Mine
section
variable {prog : Program} {w : World} {A : Around} {E : Value → Shared → Prop} {s : Shared} {h₀ : Heap}
theorem noneSize : (#[] : Array Value).size ≤ sizeLine + 1 := Nat.le_trans (Nat.le_of_eq (show (#[] : Array Value).size = 0 from rfl)) (Nat.zero_le _)
theorem keysKind {keys : Array Value} {vs : List Value} {xs : List Str} (e : keys.toList = vs) (hx : StrsAre vs xs) (h2 : ¬ vs.length < 2) : keyKind' keys = pure oneType' := by
  obtain ⟨v₁, v₂, rest, e2⟩ : ∃ v₁ v₂ rest, vs = v₁ :: v₂ :: rest := by
    match vs, h2 with
    | [], h2 => simp at h2
    | [_], h2 => simp at h2
    | v₁ :: v₂ :: rest, _ => exact ⟨v₁, v₂, rest, rfl⟩
  have ek : keys = (v₁ :: v₂ :: rest).toArray := by rw [← e2, ← e, Array.toArray_toList]
  rw [ek]
  exact keyKind_strs (e2 ▸ hx)
/-- the last step of such a sort: the keys are put away and the list is filled -/
theorem keys_tail {a kS : Addr} {keys : Array Value} {e1 e2 : Nat} {st : SortSt} {P : PySem.Fin → Shared → Prop} (hk : s.heap.get? kS = some (seqObj "list" keys e2)) (ha : s.heap.get? a = some (seqObj "list" #[] e1)) (hka : kS ≠ a)
    (hl : keys.size ≤ 100) (hl2 : (arrOf st).size ≤ 100) (hf : failedOf st = none)
    (h : ∀ h' tk c, (∀ b o, b ≠ a → b ≠ kS → s.heap.get? b = some o → h'.get? b = some o) → h'.get? a = some (seqObj "list" ((arrOf st).map (·.2)) c) → P (.done (.ret .none)) { s with heap := h', toks := tk }) :
    wpAny (model prog w) A (ksk_tail a false e1 (.ref kS) st) P E s := by
  have s1 := Heap.SameBut.update s.heap kS (Obj.mapSeq fun _ => (#[] : Array Value))
  have a1 : (s.heap.update kS (Obj.mapSeq fun _ => (#[] : Array Value))).get? a = some (seqObj "list" #[] e1) := (s1.2 a hka.symm).trans ha
  have s2 := Heap.SameBut.update (s.heap.update kS (Obj.mapSeq fun _ => (#[] : Array Value))) a (Obj.mapSeq fun _ => (arrOf st).map (·.2))
  unfold ksk_tail
  try dsimp only
  refine wpAny_bind (listUpdate_at hk rfl ?_ (by rw [sizeLine_eq]; omega) noneSize)
  refine wpAny_bind (wpAny_letGo ?_)
  refine wpAny_bind (seqEpoch_at a1 rfl ?_)
  simp only [Bool.false_eq_true, if_false]
  refine wpAny_bind (listUpdate_at a1 rfl ?_ (Nat.zero_le _) (by rw [Array.size_map, sizeLine_eq]; omega))
  rw [hf]
  simp only [bne_self_eq_false, Bool.false_eq_true, if_false]
  exact wpAny_pure (h _ _ _ (fun b o na nk e => (s2.2 b na).trans ((s1.2 b nk).trans e)) (get?_update_seq a1 fun _ => (arrOf st).map (·.2)))
theorem keys_end {a kS : Addr} {vs : List Value} {xs : List Str} {keys : Array Value} {e1 e2 : Nat} {P : PySem.Fin → Shared → Prop} (hk : s.heap.get? kS = some (seqObj "list" keys e2)) (ha : s.heap.get? a = some (seqObj "list" #[] e1)) (hka : kS ≠ a)
    (hkv : keys.toList = vs) (hx : StrsAre vs xs) (h64 : vs.length < 64)
    (h : ∀ h' tk c (out : Array Value) xs', (∀ b o, b ≠ a → b ≠ kS → s.heap.get? b = some o → h'.get? b = some o) → h'.get? a = some (seqObj "list" out c) → StrsAre out.toList xs' → xs'.Perm xs → sortedS xs' = true → P (.done (.ret .none)) { s with heap := h', toks := tk }) :
    wpAny (model prog w) A (ksk_end a false vs.toArray e1 (.ref kS) keys) P E s := by
  have ek : keys = vs.toArray := by rw [← hkv, Array.toArray_toList]
  have hks : keys.size ≤ 100 := by rw [ek, List.size_toArray]; omega
  have main : ∀ st : SortSt, (arrOf st).Perm (pairsOf vs) → SortedToK strKind (arrOf st) (pairsOf vs).size → failedOf st = none → wpAny (model prog w) A (ksk_tail a false e1 (.ref kS) st) P E s := fun st hp hs hf => by
    refine keys_tail hk ha hka hks (by rw [hp.size_eq, pairsOf_size]; omega) hf fun h' tk c kb hc => ?_
    obtain ⟨xs', q1, q2, q3⟩ := sorted_out_str hx hp hs
    exact h h' tk c _ xs' kb hc q1 q2 q3
  unfold ksk_end
  try dsimp only
  simp only [Bool.false_eq_true, if_false]
  by_cases h2 : vs.toArray.size < 2
  · rw [if_pos h2, if_pos h2]
    refine wpAny_bind (wpAny_pure ?_)
    rw [StateT.run_pure]
    refine wpAny_bind (wpAny_pure ?_)
    try dsimp only
    refine main (SortSt.mk' general' (keys.zip vs.toArray) #[] 7 none) (by show (keys.zip vs.toArray).Perm (pairsOf vs); rw [ek]; exact Array.Perm.refl _) ?_ rfl
    intro i j hij hj
    rw [pairsOf_size] at hj
    rw [List.size_toArray] at h2
    have : i = j := by omega
    subst this
    exact KeyOrd.kle_refl _
  · rw [if_neg h2, if_neg h2]
    rw [List.size_toArray] at h2
    rw [keysKind hkv hx h2]
    refine wpAny_bind (wpAny_pure ?_)
    refine wpAny_bind (wpAny_mono (wpS_sortRunsK (κ := strKind) strKind_oneLt (a₀ := pairsOf vs) (st := SortSt.mk' oneType' (keys.zip vs.toArray) #[] 7 none)
      (Q := fun _ st' => (arrOf st').Perm (pairsOf vs) ∧ failedOf st' = none ∧ SortedToK strKind (arrOf st') (pairsOf vs).size)
      hx.keysOf ⟨by show (keys.zip vs.toArray).Perm (pairsOf vs); rw [ek]; exact Array.Perm.refl _, rfl, rfl, rfl⟩ (by rw [pairsOf_size]; omega) (by rw [pairsOf_size]; exact h64) fun st' a1 a2 a3 => ⟨a1, a2, a3⟩) ?_ fun _ _ e => e)
    rintro ⟨⟨⟩, st'⟩ s' ⟨rfl, hp, hf, hs⟩
    exact main st' hp hs hf
theorem keys_rest {a kS q : Addr} {vs : List Value} {xs : List Str} {e1 : Nat} {g : Heap} {P : PySem.Fin → Shared → Prop} (hk : s.heap.get? kS = some (seqObj "list" #[] 0)) (ha : s.heap.get? a = some (seqObj "list" #[] e1)) (hka : kS ≠ a)
    (hx : StrsAre vs xs) (h64 : vs.length < 64) (kg : KeepsH g s.heap) (ga : g.get? a = none) (gk : g.get? kS = none)
    (turn : ∀ x t, PC prog w A (.ref q) [.str x t] g s (fun u _ => u = .str x t))
    (h : ∀ h' tk c (out : Array Value) xs', KeepsH g h' → h'.get? a = some (seqObj "list" out c) → StrsAre out.toList xs' → xs'.Perm xs → sortedS xs' = true → P (.done (.ret .none)) { s with heap := h', toks := tk }) :
    wpAny (model prog w) A (ksk_rest a (.ref q) false vs.toArray e1 (.ref kS)) P E s := by
  unfold ksk_rest
  refine wpAny_bind (wpAny_rule ?_)
  first
    | rw [List.forIn_toArray]
    | (rw [← Array.forIn_toList]; simp only [List.toList_toArray])
    | rw [← Array.forIn_toList]
  refine wpAny_bind (ksk_fold (fun i s' => ∃ h' tk kA e, s' = { s with heap := h', toks := tk } ∧ KeepsH g h' ∧ h'.get? a = some (seqObj "list" #[] e1) ∧ h'.get? kS = some (seqObj "list" kA e) ∧ kA.toList = vs.take i) vs 0 s
    ⟨s.heap, s.toks, #[], 0, rfl, kg, ha, hk, by simp⟩ ?step ?done)
  case step =>
    rintro j v s' hv ⟨h', tk, kA, e, rfl, kg', ha', hk', hkv⟩
    simp only [Nat.zero_add] at hkv ⊢
    have hj : j < vs.length := (List.getElem?_eq_some_iff.mp hv).1
    obtain ⟨x, t, rfl⟩ := hx.all v (List.mem_of_getElem? hv)
    have hz : kA.size ≤ 64 := by
      have := congrArg List.length hkv
      rw [Array.length_toList, List.length_take] at this
      omega
    refine wpAny_bind (wpAny_attempt ((turn x t).run h' tk _ _ kg' fun u h2 tk2 k2 hu => ?_))
    subst hu
    try dsimp only
    have s1 := Heap.SameBut.update h2 kS (Obj.mapSeq (·.push (.str x t)))
    refine wpAny_bind (listUpdate_at (k2 _ _ hk') rfl ?_ (by rw [sizeLine_eq]; omega) (Nat.le_trans (Nat.le_of_eq (Array.size_push ..)) (by rw [sizeLine_eq]; omega)))
    refine wpAny_pure ⟨rfl, _, _, kA.push (.str x t), _, rfl, fun b o e' => (s1.2 b (fun r => by rw [r, gk] at e'; cases e')).trans (k2 _ _ (kg' _ _ e')), (s1.2 a hka.symm).trans (k2 _ _ ha'), get?_update_seq (k2 _ _ hk') (·.push (.str x t)), ?_⟩
    rw [Array.toList_push, hkv, List.take_add_one, hv]
    rfl
  case done =>
    rintro s' ⟨h', tk, kA, e, rfl, kg', ha', hk', hkv⟩
    rw [Nat.zero_add, List.take_length] at hkv
    try dsimp only
    refine wpAny_bind (listItems_at hk' rfl ?_)
    exact keys_end hk' ha' hka hkv hx h64 fun h2 tk2 c out xs' kb hc q1 q2 q3 => h h2 tk2 c out xs' (fun b o e' => kb b o (fun r => by rw [r, ga] at e'; cases e') (fun r => by rw [r, gk] at e'; cases e') (kg' _ _ e')) hc q1 q2 q3
/-- sorted(xs, key=f) where f gives each text itself -/
theorem sorted_keyed {q : Addr} {xs : List Str} {o : Value} {h : Heap} {tk : Nat} {Q : Value → Shared → Prop} (ho : KStrs xs o h₀) (h64 : xs.length < 64) (k : KeepsH h₀ h)
    (turn : ∀ x t h', KeepsH h₀ h' → PC prog w A.in1.in1 (.ref q) [.str x t] h' s (fun u _ => u = .str x t))
    (hQ : ∀ v h' tk', KeepsH h h' → KNew h₀ (KStrs (srt xs)) v h' → Q v { s with heap := h', toks := tk' }) :
    wpAny (model prog w) A (call (.builtin "sorted") [o] [(Str.ofString "key", .ref q)]) Q E { s with heap := h, toks := tk } := by
  obtain ⟨l, vs', n, rfl, e, hx⟩ := ho
  obtain ⟨vs, rfl⟩ : ∃ vs : List Value, vs' = vs.toArray := ⟨vs'.toList, by simp⟩
  have hl : h.IsList l vs.toArray := isLA (k _ _ e)
  have hx : StrsAre vs xs := by simpa using hx
  have hlen := hx.length
  refine call_function_entry_kw kind_sorted plain_sorted entry_sorted (ksk_s1 _ _) ?_
  unfold Builtin.«sorted»
  refine wpAny_bind (m := checkCount "sorted" 1 1 _) (wpAny_pure ?_)
  refine wpAny_bind (collect_list hl ?_ (by rw [sizeLine_eq]; omega))
  refine wpAny_bind (wpAny_newList ?_ (by rw [sizeLine_eq]; omega))
  dsimp only
  generalize hH : (h.push (seqObj "list" #[] 0)).update h.objs.size (Obj.mapSeq (· ++ vs.toArray)) = H
  have hsz : H.objs.size = h.objs.size + 1 := by rw [← hH, Heap.size_update, size_push']
  have kH : KeepsH h H := fun b o e => by
    have hlt : b < h.objs.size := Heap.lt_size e
    rw [← hH, Heap.get?_update_ne _ _ _ _ (Nat.ne_of_lt hlt)]
    exact Heap.get?_push_of_some _ e
  have nH : ∀ {b : Addr}, H.objs.size ≤ b → h.get? b = none := fun {b} hb => Heap.get?_none_of_le (Nat.le_trans (by rw [hsz]; exact Nat.le_succ _) hb)
  have oH : (H.push (seqObj "list" vs.toArray 0)).get? H.objs.size = some (seqObj "list" vs.toArray 0) := Heap.get?_push_size _ rfl
  refine wpAny_bind (wpAny_holding (wpAny_call_entry_kw slot_list_sort ⟨_, oH, rfl⟩ entry_list_sort ?body (ksk_l1 _ _)))
  case body =>
    show wpAny (model prog w) A.in1.in1 (Builtin.«list.sort» ⟨[.ref H.objs.size], [(Str.ofString "key", .ref q)]⟩) _ _ _
    rw [ksk_t1]
    generalize hH2 : H.push (seqObj "list" vs.toArray 0) = H2 at oH
    generalize ha : H.objs.size = a at oH nH
    have kH2 : KeepsH h H2 := fun b o e => hH2 ▸ Heap.get?_push_of_some _ (kH b o e)
    have hs2 : H2.objs.size = a + 1 := by rw [← hH2, size_push', ha]
    have s1 := Heap.SameBut.update H2 a (Obj.mapSeq fun _ => (#[] : Array Value))
    have o1 := get?_update_seq oH fun _ => (#[] : Array Value)
    unfold ksk_tree
    show wpAny (model prog w) _ _ _ _ { s with heap := H2, toks := _ }
    refine wpAny_bind (listItems_at oH rfl ?_)
    refine wpAny_bind (listUpdate_at oH rfl ?_ (by rw [List.size_toArray, sizeLine_eq]; omega) noneSize)
    refine wpAny_bind (seqEpoch_at o1 rfl ?_)
    refine wpAny_bind (wpAny_newTuple ?_ (by show vs.length ≤ _; rw [sizeLine_eq]; omega))
    refine wpAny_bind (wpAny_newList ?_ (Nat.zero_le _))
    refine wpAny_holding ?_
    dsimp only
    generalize hH3 : (H2.update a (Obj.mapSeq fun _ => (#[] : Array Value))).push { cls := .type "tuple", data := .seq vs.toArray } = H3
    have hs3 : H3.objs.size = a + 1 + 1 := by rw [← hH3, size_push', Heap.size_update, hs2]
    have ga : h.get? a = none := nH (Nat.le_refl _)
    have k3 : KeepsH h H3 := fun b o e => hH3 ▸ Heap.get?_push_of_some _ ((s1.2 b (fun r => by rw [r, ga] at e; cases e)).trans (kH2 b o e))
    have o3 : H3.get? a = some (seqObj "list" #[] _) := hH3 ▸ Heap.get?_push_of_some _ o1
    refine keys_rest (s := { s with heap := H3.push { cls := .type "list", data := .seq ([] : List Value).toArray }, toks := _ }) (g := h) (kS := H3.objs.size) (Heap.get?_push_size _ rfl) (Heap.get?_push_of_some _ o3) (by rw [hs3]; exact neN (by omega)) hx (by omega) (fun b o e => Heap.get?_push_of_some _ (k3 b o e)) ga (nH (by rw [hs3]; exact Nat.le_trans (Nat.le_succ _) (Nat.le_succ _))) (fun x t => ?_) fun h' tk' c out xs' kg' hc q1 q2 q3 => ⟨_, rfl, ?_⟩
    · exact .mk fun h1 tk1 Q1 E1 k1 hQ1 => (turn x t h k).run h1 tk1 Q1 E1 k1 hQ1
    · refine wpAny_pure ⟨_, rfl, ?_⟩
      rw [srt_unique q2 q3] at q1
      exact hQ _ _ _ kg' ⟨⟨a, out, c, rfl, hc, q1⟩, a, rfl, noneOf k ga⟩
end

end Mine
end
section
open PySem PySem.W PyProof.Rows PySem.Calls
set_option Elab.async false
set_option maxRecDepth 100000
set_option linter.unusedVariables false
set_option maxHeartbeats 4000000
namespace Mine
section
variable {w : World} {env : Env} {h₀ : Heap} {s : Shared}
/-- sorted(e, key=_strxfrm) -/
theorem PG.sortedKey {dp un : Nat} {gd : Option (List Code)} {fr : Option (List Env)} {e : Expr} {q q' kp p : Pos} {xs : List Str} (G : Gl w h₀) (x : PG PySem.Challenge.rw_in0044_01.row.prog w (AA dp un gd fr) env e h₀ s (KStrs xs)) (h64 : xs.length < 64) (hdp : dp + 4 < recursionLimit) (hun : un + 100 < cLine)
    (hg : env.globals = mainGlobals := by rfl) (hbi : env.builtins = builtinsNs := by rfl) (hk : env.scope.kind = .function := by rfl) (hx : env.kindOf (Str.ofString "sorted") = some .globalImplicit := by rfl) (hx' : env.kindOf (Str.ofString "_strxfrm") = some .globalImplicit := by rfl)
    (he : eval (.Call (.Name (Str.ofString "sorted") q) [e] [⟨some (Str.ofString "key"), .Name (Str.ofString "_strxfrm") q', kp⟩] p) env = (do callWith p (← eval (.Name (Str.ofString "sorted") q) env) [] (backTo p (starEach [e] env)) (backToKw p (keywordEach [⟨some (Str.ofString "key"), .Name (Str.ofString "_strxfrm") q', kp⟩] env))) := by rfl)
    (h1 : starEach [e] env = (false, eval e env) :: starEach [] env := by rfl) (h2 : backTo p (starEach [e] env) = (false, eval e env) :: backTo p (starEach [] env) := by rfl) (h3 : (backTo p (starEach [e] env)).any (·.1) = false := by rfl) :
    PG PySem.Challenge.rw_in0044_01.row.prog w (AA dp un gd fr) env (.Call (.Name (Str.ofString "sorted") q) [e] [⟨some (Str.ofString "key"), .Name (Str.ofString "_strxfrm") q', kp⟩] p) h₀ s (KNew h₀ (KStrs (srt xs))) := by
  refine .mk fun h tk Q E k hQ => ?_
  rw [he]
  refine wpAny_bind ((Gl.built G e_sorted b_sorted (by decide) hg hbi hk hx (by decide)).run h tk _ _ k fun u h2' tk2 k2 hu => ?_)
  subst hu
  refine callWith_kw (spliced_more (x.run h2' tk2 _ _ (kh_tr k k2) fun v h3 tk3 k3 hv => spliced_none ?_) h1) h2 h3 rfl rfl
  refine kws_cons ((Gl.fn G f_45 hg hk hx' (by decide)).run h3 tk3 _ _ (kh_tr k (kh_tr k2 k3)) fun u h4 tk4 k4 hu => kws_nil ?_)
  subst hu
  have kk : KeepsH h₀ h4 := kh_tr k (kh_tr k2 (kh_tr k3 k4))
  show wpAny _ _ (call (.builtin "sorted") [v] [(Str.ofString "key", .ref 45)]) _ _ _
  refine sorted_keyed (h₀ := h4) (upSs _ _ _ k4 hv) h64 kh_rfl (fun y t h' k' => ?_) fun v h' tk' k' hv' => hQ v h' tk' (kh_tr k2 (kh_tr k3 (kh_tr k4 k'))) ⟨hv'.1, by obtain ⟨l, e, hl⟩ := hv'.2; exact ⟨l, e, noneOf kk hl⟩⟩
  exact pc_xfrm w dp (un + 2) gd fr s h' y t (G.up (kh_tr kk k')) (by omega) (by omega)
end

end Mine
end
section
open PySem PySem.W PyProof.Rows PySem.Calls
set_option Elab.async false
set_option maxRecDepth 100000
set_option linter.unusedVariables false
set_option maxHeartbeats 4000000
namespace Mine
/-- a list of lists of texts as data -/
noncomputable def LLd (yss : List (List Str)) : PyData := .list (yss.map fun ys => .list (ys.map .str))
noncomputable abbrev KLS : Heap → Value → List Str → Prop := fun h v xs => KStrs xs v h
theorem upLS : Up KLS := fun h h' v xs k r => upSs _ _ _ k r
theorem ll_rd {yss : List (List Str)} {v : Value} {h : Heap} (k : KList KLS yss v h) : KRd (LLd yss) v h := by
  obtain ⟨l, vs, n, rfl, e, hx⟩ := k
  have : ∃ as, ReadsAll h vs.toList (yss.map fun ys => .list (ys.map .str)) as := by
    generalize vs.toList = ws at hx
    induction hx with
    | nil => exact ⟨_, .nil⟩
    | cons r _ ih =>
      obtain ⟨as, ra⟩ := KStrs.rd r
      obtain ⟨bs, rb⟩ := ih
      exact ⟨_, .cons ra rb⟩
  obtain ⟨as, ra⟩ := this
  exact ⟨_, reads_list_at e rfl rfl ra⟩
theorem canLay_ll : ∀ {yss : List (List Str)}, (∀ ys ∈ yss, SOk ys) → PyData.canLayAll0 (yss.map fun ys => PyData.list (ys.map .str)) = true
  | [], _ => rfl
  | ys :: r, h => by simp only [List.map_cons, PyData.canLayAll0, PyData.canLay0, canLay_strs (h ys (.head _)), canLay_ll (fun y hy => h y (.tail _ hy)), Bool.and_self]
theorem depth_ll : ∀ yss : List (List Str), PyData.depthAll (yss.map fun ys => PyData.list (ys.map .str)) ≤ 1
  | [] => by simp [PyData.depthAll]
  | ys :: r => by
    have := depth_ll r
    simp only [List.map_cons, PyData.depthAll, PyData.depth, depth_strs]
    omega
theorem shaped_ll {yss : List (List Str)} (h : ∀ ys ∈ yss, SOk ys) : SeqAt.shaped (LLd yss) = true := by
  unfold SeqAt.shaped LLd
  have := depth_ll yss
  simp only [PyData.canLay0, PyData.depth, canLay_ll h, Bool.true_and]
  exact decide_eq_true (by omega)
/-- what is said and told -/
noncomputable def SDd (a b c d : List Str) : PyData := .list [.tuple [.list (a.map .str), .list (b.map .str)], .tuple [.list (c.map .str), .list (d.map .str)]]
theorem shaped_sd {a b c d : List Str} (ha : SOk a) (hb : SOk b) (hc : SOk c) (hd : SOk d) : SeqAt.shaped (SDd a b c d) = true := by
  unfold SeqAt.shaped SDd
  simp only [PyData.canLay0, PyData.canLayAll0, PyData.depth, PyData.depthAll, canLay_strs ha, canLay_strs hb, canLay_strs hc, canLay_strs hd, depth_strs]
  decide
section
variable {prog : Program} {w : World} {A : Around} {env : Env} {h₀ : Heap} {s : Shared}
theorem ps_eqRd {d : PyData} {a b : Value} (ha : KRd d a h₀) (hb : KRd d b h₀) (hs : SeqAt.shaped d = true) (hu : A.units + 64 < cLine) : PS prog w A (compareOp .Eq a b) h₀ s (KBool true) := by
  obtain ⟨as, ra⟩ := ha
  obtain ⟨bs, rb⟩ := hb
  refine .mk fun h tk Q E k hQ => eq_dataH (PyProof.Rows.Reads.keeps k ra) (PyProof.Rows.Reads.keeps k rb) hs hs hu ?_
  rw [SeqAt.eqv_refl d (SeqAt.canLay_of_shaped hs)]
  exact hQ _ _ _ kh_rfl rfl
theorem ps_neRd {d : PyData} {a b : Value} (ha : KRd d a h₀) (hb : KRd d b h₀) (hs : SeqAt.shaped d = true) (hu : A.units + 64 < cLine) : PS prog w A (compareOp .NotEq a b) h₀ s (KBool false) := by
  obtain ⟨as, ra⟩ := ha
  obtain ⟨bs, rb⟩ := hb
  refine .mk fun h tk Q E k hQ => ne_dataH (PyProof.Rows.Reads.keeps k ra) (PyProof.Rows.Reads.keeps k rb) hs hs hu ?_
  rw [SeqAt.eqv_refl d (SeqAt.canLay_of_shaped hs)]
  exact hQ _ _ _ kh_rfl rfl
/-- str(xs) of a list of small ints -/
theorem text_len : ∀ (ts : List Str) (k : Nat) (acc : Str), (textFrom k acc ts).length ≤ acc.length + piled ts
  | [], _, acc => by show acc.length ≤ _; omega
  | t :: r, k, acc => by
    have ih := text_len r (k + 1) (acc ++ (if k > 0 then ", " else "" : String) ++ t)
    have e : (acc ++ (if k > 0 then ", " else "" : String) ++ t).length ≤ acc.length + 2 + t.length := by
      rw [strLen_append, strLen_append]
      have : (((if k > 0 then ", " else "" : String) : Str)).length ≤ 2 := by split <;> decide +kernel
      omega
    show (textFrom (k + 1) _ r).length ≤ _
    rw [piled_cons]
    omega
theorem shown_small {x : Int} (h : -1 ≤ x ∧ x ≤ 1) : (PyData.shown (.int x)).length ≤ 2 ∧ PyData.showable (.int x) = true := by
  obtain rfl | rfl | rfl : x = -1 ∨ x = 0 ∨ x = 1 := by omega
  · decide +kernel
  · decide +kernel
  · decide +kernel
theorem piled_small : ∀ {xs : List Int}, (∀ x ∈ xs, -1 ≤ x ∧ x ≤ 1) → piled (PyData.shownAll (xs.map .int)) ≤ 4 * xs.length ∧ PyData.showableAll (xs.map .int) = true ∧ PyData.hasDictAll (xs.map .int) = false ∧ PyData.depthAll (xs.map .int) = 0
  | [], _ => ⟨Nat.zero_le _, rfl, rfl, rfl⟩
  | x :: r, h => by
    obtain ⟨h1, h2, h3, h4⟩ := piled_small (fun y hy => h y (.tail _ hy))
    have h5 := shown_small (h x (.head _))
    refine ⟨?_, by rw [List.map_cons, PyData.showableAll, h5.2, h2]; rfl, by rw [List.map_cons, PyData.hasDictAll, PyData.hasDict, h3]; rfl, by rw [List.map_cons, PyData.depthAll, PyData.depth, h4]; rfl⟩
    rw [List.map_cons, PyData.shownAll, piled_cons, List.length_cons]
    omega
theorem pc_strI {xs : List Int} {o : Value} (ho : KInts xs o h₀) (hx : ∀ x ∈ xs, -1 ≤ x ∧ x ≤ 1) (hl : xs.length ≤ 100) (hg : A.guards = some []) (hu : A.units + 10 < cLine) : PC prog w A (.type "str") [o] h₀ s (KStr (PyData.shown (.list (xs.map .int)))) := by
  obtain ⟨l, vs, n, rfl, e, hi⟩ := ho
  obtain ⟨h1, h2, h3, h4⟩ := piled_small hx
  refine .mk fun h tk Q E k hQ => str_of_reads (d := .list (xs.map .int)) (reads_list_at (k _ _ e) rfl rfl (hi.reads h)) h2 (fun q => by rw [PyData.hasDict, h3] at q; cases q) hg (by rw [PyData.depth, h4]; omega) (fun _ _ e => e) (fun h' u tk' k' => hQ _ h' tk' k' ⟨u, rfl⟩) ?_
  show (listText _).length ≤ _
  unfold listText
  have := text_len (PyData.shownAll (xs.map .int)) 0 "["
  have e1 : ("]" : Str).length = 1 := by decide +kernel
  have e2 : ("[" : Str).length = 1 := by decide +kernel
  rw [strLen_append, PySem.sizeLine_eq, e1]
  rw [e2] at this
  omega
end
/-- every k-th of a list -/
noncomputable def pickS (xs : List Str) (k : Int) : List Str := (sliceRange (sliceBounds none none (some k) xs.length).1 (sliceBounds none none (some k) xs.length).2.1 (sliceBounds none none (some k) xs.length).2.2).filterMap (xs[·]?)
theorem strs_places : ∀ {vs : List Value} {xs : List Str}, StrsAre vs xs → ∀ js : List Nat, StrsAre (js.filterMap (vs[·]?)) (js.filterMap (xs[·]?))
  | _, _, _, [] => .nil
  | vs, xs, h, j :: js => by
    have ih := strs_places h js
    cases hn : xs[j]? with
    | some x =>
      obtain ⟨t, hv⟩ := strs_at h hn
      simp only [List.filterMap_cons, hn, hv]
      exact .cons x t ih
    | none =>
      have hv : vs[j]? = none := by
        rw [List.getElem?_eq_none_iff] at hn ⊢
        rw [h.length]; exact hn
      simp only [List.filterMap_cons, hn, hv]
      exact ih
theorem strs_pick {vs : Array Value} {xs : List Str} (h : StrsAre vs.toList xs) (k : Int) : StrsAre (slicePick vs none none (some k)).toList (pickS xs k) := by
  have hs : vs.size = xs.length := by have := h.length; simpa using this
  have e : (slicePick vs none none (some k)).toList = (sliceRange (sliceBounds none none (some k) xs.length).1 (sliceBounds none none (some k) xs.length).2.1 (sliceBounds none none (some k) xs.length).2.2).filterMap (vs.toList[·]?) := by
    simp [slicePick, hs]
  rw [e]
  exact strs_places h _
theorem pickS_mem {xs : List Str} {k : Int} {x : Str} (h : x ∈ pickS xs k) : x ∈ xs := by
  unfold pickS at h
  obtain ⟨j, _, e⟩ := List.mem_filterMap.mp h
  exact List.mem_of_getElem? e
theorem strsOf (xs : List Str) : ∃ vs : Array Value, StrsAre vs.toList xs := by
  induction xs with
  | nil => exact ⟨#[], .nil⟩
  | cons x xs ih => obtain ⟨vs, h⟩ := ih; exact ⟨(Value.str x 0 :: vs.toList).toArray, .cons x 0 h⟩
theorem pickS_len (xs : List Str) (k : Int) : (pickS xs k).length ≤ xs.length := by
  obtain ⟨vs, h⟩ := strsOf xs
  have e := (strs_pick h k).length
  have s := slicePick_size_le vs none none (some k)
  have l := h.length
  simp only [Array.length_toList] at e l
  omega
mutual
theorem reads_hid {g0 : Heap} {M : List Addr} {L : Addr} {m : Str → Option Value} {h : Heap} (S : LS g0 M L m h) : ∀ (d : PyData) (v : Value) (as : List Addr), d.canLay0 = true → Reads h v d as → Reads (hid M h) v d as
  | .none, _, _, _, r => by cases r; exact .none
  | .bool _, _, _, _, r => by cases r; exact .bool _
  | .int _, _, _, _, r => by cases r; exact .int _ _
  | .str _, _, _, _, r => by cases r; exact .str _ _
  | .list xs, _, _, c, r => by
    cases r with
    | list e k d r => exact .list (S.seq e d) k d (readsAll_hid S xs _ _ (by simpa [PyData.canLay0] using c) r)
  | .tuple xs, _, _, c, r => by
    cases r with
    | tuple e k d r => exact .tuple (S.seq e d) k d (readsAll_hid S xs _ _ (by simpa [PyData.canLay0] using c) r)
  | .dict _, _, _, c, r => by simp [PyData.canLay0] at c
theorem readsAll_hid {g0 : Heap} {M : List Addr} {L : Addr} {m : Str → Option Value} {h : Heap} (S : LS g0 M L m h) : ∀ (ds : List PyData) (vs : List Value) (as : List Addr), PyData.canLayAll0 ds = true → ReadsAll h vs ds as → ReadsAll (hid M h) vs ds as
  | [], _, _, _, r => by cases r; exact .nil
  | d :: ds, _, _, c, r => by
    have c' : d.canLay0 = true ∧ PyData.canLayAll0 ds = true := by simpa [PyData.canLayAll0] using c
    cases r with
    | cons a b => exact .cons (reads_hid S d _ _ c'.1 a) (readsAll_hid S ds _ _ c'.2 b)
end
theorem LS.rd {g0 : Heap} {M : List Addr} {L : Addr} {m : Str → Option Value} {h : Heap} (S : LS g0 M L m h) {d : PyData} {v : Value} (c : d.canLay0 = true) (k : KRd d v h) : KRd d v (hid M h) := by
  obtain ⟨as, r⟩ := k
  exact ⟨as, reads_hid S d v as c r⟩

end Mine
end
section
open PySem PySem.W PyProof.Rows PySem.Calls
set_option Elab.async false
set_option maxRecDepth 100000
set_option linter.unusedVariables false
set_option maxHeartbeats 4000000
namespace Mine
/-- the law's state anew, from what its ghost keeps -/
theorem LawB.re {w : World} {s : Shared} {g0 : Heap} {L ls : Addr} {vs : List Value} {ns : List Int} {m m' : Str → Option Value} {Dn Dp Dw : Addr} {h h' : Heap} (B : LawB w s g0 L ls vs ns m Dn Dp Dw h) (q : KeepsH (hid [71, L] h) h') (hn : h'.Ns L m') (t : ∃ ps, h'.get? 71 = some (tabObj ps) ∧ TriplesOk ps.toList)
    (sc : m' (Str.ofString "script") = some (.ref ls)) : LawB w s g0 L ls vs ns m' Dn Dp Dw h' ∧ KeepsH (hid [71, L] h) (hid [71, L] h') := by
  have q' : KeepsH (hid [71, L] h) (hid [71, L] h') := hid_of q fun b hb => hideAll_none _ hb
  refine ⟨B.next ⟨kh_tr B.S.kg q', hn, t, fun b hb r r' => ?_, B.S.mL, B.S.mT, B.S.lt⟩ q' sc, q'⟩
  simp only [List.mem_cons, List.not_mem_nil, or_false] at hb
  rcases hb with hb | hb
  · exact absurd hb r'
  · exact absurd hb r
mutual
theorem reads_hide {M : List Addr} {h : Heap} (hM : ∀ b ∈ M, ∀ o, h.get? b = some o → o.cls = .type "tuple" → ∀ vs n, o.data ≠ .seq vs n) : ∀ (d : PyData) (v : Value) (as : List Addr), d.canLay0 = true → (∀ b ∈ as, b ∉ M) → Reads h v d as → Reads (hid M h) v d as
  | .none, _, _, _, _, r => by cases r; exact .none
  | .bool _, _, _, _, _, r => by cases r; exact .bool _
  | .int _, _, _, _, _, r => by cases r; exact .int _ _
  | .str _, _, _, _, _, r => by cases r; exact .str _ _
  | .list xs, _, _, c, n, r => by
    cases r with
    | list e k d r => exact .list (hideAll_get _ e (n _ (.head _))) k d (readsAll_hide hM xs _ _ (by simpa [PyData.canLay0] using c) (fun b hb => n b (.tail _ hb)) r)
  | .tuple xs, _, _, c, n, r => by
    cases r with
    | tuple e k d r => exact .tuple (hideAll_get _ e (fun q => hM _ q _ e k _ _ d)) k d (readsAll_hide hM xs _ _ (by simpa [PyData.canLay0] using c) n r)
  | .dict _, _, _, c, _, r => by simp [PyData.canLay0] at c
theorem readsAll_hide {M : List Addr} {h : Heap} (hM : ∀ b ∈ M, ∀ o, h.get? b = some o → o.cls = .type "tuple" → ∀ vs n, o.data ≠ .seq vs n) : ∀ (ds : List PyData) (vs : List Value) (as : List Addr), PyData.canLayAll0 ds = true → (∀ b ∈ as, b ∉ M) → ReadsAll h vs ds as → ReadsAll (hid M h) vs ds as
  | [], _, _, _, _, r => by cases r; exact .nil
  | d :: ds, _, _, c, n, r => by
    have c' : d.canLay0 = true ∧ PyData.canLayAll0 ds = true := by simpa [PyData.canLayAll0] using c
    cases r with
    | cons a b => exact .cons (reads_hide hM d _ _ c'.1 (fun b hb => n b (List.mem_append_left _ hb)) a) (readsAll_hide hM ds _ _ c'.2 (fun b hb => n b (List.mem_append_right _ hb)) b)
end
/-- two new lists of texts, told apart -/
noncomputable def New2 (g : Heap) (xs ys : List Str) (us : List Value) (h : Heap) : Prop := ∃ la vas na lb vbs nb, us = [.ref la, .ref lb] ∧ h.get? la = some (listOf vas na) ∧ StrsAre vas.toList xs ∧ h.get? lb = some (listOf vbs nb) ∧ StrsAre vbs.toList ys ∧ la ≠ lb ∧ g.get? la = none ∧ g.get? lb = none
theorem New2.weak {g g' : Heap} {xs ys : List Str} {us : List Value} {h : Heap} (x : New2 g' xs ys us h) (k : KeepsH g g') : New2 g xs ys us h := by
  obtain ⟨la, vas, na, lb, vbs, nb, e, e1, e2, e3, e4, e5, e6, e7⟩ := x
  exact ⟨la, vas, na, lb, vbs, nb, e, e1, e2, e3, e4, e5, noneOf k e6, noneOf k e7⟩
section
variable {prog : Program} {w : World} {A : Around} {env : Env} {h₀ : Heap} {s : Shared}
theorem PA.new2 {pos : Pos} {e e' : Expr} {xs ys : List Str} (x : PG prog w A env e h₀ s (KNew h₀ (KStrs xs))) (y : ∀ h, KeepsH h₀ h → PG prog w A env e' h s (KNew h (KStrs ys)))
    (he : starEach [e, e'] env = (false, eval e env) :: starEach [e'] env := by rfl) (he' : starEach [e'] env = (false, eval e' env) :: starEach [] env := by rfl) : PA prog w A env pos [e, e'] h₀ s (New2 h₀ xs ys) :=
  .mk fun h tk Q E k hQ => spliced_more (x.run h tk _ E k fun v h2 tk2 k2 kv => spliced_more ((y h2 (kh_tr k k2)).run h2 tk2 _ E kh_rfl fun v' h3 tk3 k3 kv' => spliced_none (by
    obtain ⟨⟨la, vas, na, rfl, e1, x1⟩, l, e2, n1⟩ := kv
    obtain ⟨⟨lb, vbs, nb, rfl, e3, x2⟩, l', e4, n2⟩ := kv'
    cases e2
    cases e4
    have k2x := e1
    exact hQ _ _ _ (kh_tr k2 k3) ⟨la, vas, na, lb, vbs, nb, rfl, k3 _ _ e1, x1, e3, x2, (fun q => by rw [← q, k2x] at n2; cases n2), n1, noneOf (kh_tr k k2) n2⟩)) he') he
theorem PG.listNew2 {p : Pos} {e e' : Expr} {xs ys : List Str} (x : PG prog w A env e h₀ s (KNew h₀ (KStrs xs))) (y : ∀ h, KeepsH h₀ h → PG prog w A env e' h s (KNew h (KStrs ys)))
    (he : starEach [e, e'] env = (false, eval e env) :: starEach [e'] env := by rfl) (he' : starEach [e'] env = (false, eval e' env) :: starEach [] env := by rfl) : PG prog w A env (.List [e, e'] p) h₀ s (fun v h => ∃ a us n, v = .ref a ∧ h₀.get? a = Option.none ∧ h.get? a = some (listOf us.toArray n) ∧ New2 h₀ xs ys us h) :=
  .mk fun h tk Q E k hQ => wpAny_List ((PA.new2 x y he he').run h tk _ E k fun us h' tk' k' hus => by
    have l2 : us.length = 2 := by obtain ⟨la, vas, na, lb, vbs, nb, rfl, _⟩ := hus; rfl
    obtain ⟨la, vas, na, lb, vbs, nb, e, e1, e2, e3, e4, e5, e6, e7⟩ := hus
    exact ⟨by rw [l2]; decide, hQ _ _ _ (fun b o e => Heap.get?_push_of_some _ (k' _ _ e)) ⟨_, us, _, rfl, noneOf (kh_tr k k') (Heap.get?_none_of_le (Nat.le_refl _)), Heap.get?_push_size _ rfl, la, vas, na, lb, vbs, nb, e, Heap.get?_push_of_some _ e1, e2, Heap.get?_push_of_some _ e3, e4, e5, e6, e7⟩⟩)
theorem PG.andB {e e' : Expr} {p : Pos} (x : PG prog w A env e h₀ s (KBool true)) (y : PG prog w A env e' h₀ s (KBool true)) : PG prog w A env (.BoolOp .And [e, e'] p) h₀ s (KBool true) :=
  .mk fun h tk Q E k hQ => BoolOp_and (x.run h tk _ E k fun v h2 tk2 k2 kv => by
    obtain rfl : v = .bool true := kv
    exact wpAny_truthy_bool (BoolOp_one (y.run h2 tk2 _ E (kh_tr k k2) fun v' h3 tk3 k3 kv' => hQ v' h3 tk3 (kh_tr k2 k3) kv')))
end
section
variable {w : World} {env : Env} {s : Shared}
/-- what such a call leaves -/
structure Aft (L : Addr) (g h h' : Heap) : Prop where
  kg : KeepsH g h'
  hn : ∀ m, h.Ns L m → h'.Ns L m
  tb : ∀ o, h.get? 71 = some o → h'.get? 71 = some o
theorem eval_sld {dp un : Nat} {gd : Option (List Code)} {envs : List Env} {e e' : Expr} {q p : Pos} {L : Addr} {g h : Heap} {tk : Nat} {xs ys : List Str} {Q E : Value → Shared → Prop} (G : Gl w g) (kg : KeepsH g h) (hf : fsOf envs = [L]) (gL : g.get? L = none) (n71 : L ≠ 71) (hfs : ∀ h', KeepsH h h' → FrsAt h' envs)
    (x : PG PySem.Challenge.rw_in0044_01.row.prog w (AA dp un gd (some envs)) env e h s (KStrs xs)) (y : PG PySem.Challenge.rw_in0044_01.row.prog w (AA dp un gd (some envs)) env e' h s (KStrs ys)) (hx60 : xs.length ≤ 60) (hy60 : ys.length ≤ 60) (hdp : dp + 3 < recursionLimit) (hun : un + 200 < cLine)
    (hQ : ∀ v h' tk', Aft L g h h' → KRdN h (.tuple [.list ((sldF xs ys).1.map .str), .list ((sldF xs ys).2.map .str)]) v h' → Q v { s with heap := h', toks := tk' })
    (he : eval (.Call (.Name (Str.ofString "sorted_list_difference") q) [e, e'] [] p) env = (do callWith p (← eval (.Name (Str.ofString "sorted_list_difference") q) env) [] (backTo p (starEach [e, e'] env)) (backToKw p (keywordEach [] env))) := by rfl)
    (hg : env.globals = mainGlobals := by rfl) (hk : env.scope.kind = .function := by rfl) (hx : env.kindOf (Str.ofString "sorted_list_difference") = some .globalImplicit := by rfl)
    (h1 : starEach [e, e'] env = (false, eval e env) :: starEach [e'] env := by rfl) (h2 : starEach [e'] env = (false, eval e' env) :: starEach [] env := by rfl) :
    wpAny (model PySem.Challenge.rw_in0044_01.row.prog w) (AA dp un gd (some envs)) (eval (.Call (.Name (Str.ofString "sorted_list_difference") q) [e, e'] [] p) env) Q E { s with heap := h, toks := tk } := by
  have Gh := G.up kg
  refine Call_ ((Gl.fn Gh f_83 hg hk hx (by decide)).run h tk _ _ kh_rfl fun u h3 tk3 k3 hu => ?_) he
  subst hu
  obtain ⟨o, fd, ho, hd⟩ := o_83 (Gh.up k3)
  refine callWith_def_at ho hd ((PA.two x upSs y upSs h1 h2).run h3 tk3 _ _ k3 fun us h4 tk4 k4 hus => ⟨k4 _ _ ho, ?_⟩) h1
  obtain ⟨v1, v2, rfl, ⟨la, vas, na, rfl, ela, hxs⟩, ⟨lb, vbs, nb, rfl, elb, hys⟩⟩ := hus
  have k34 := kh_tr k3 k4
  refine sld_spec w dp un gd envs s h4 tk4 g la lb vas vbs na nb xs ys Q E (kh_tr kg k34) G ela elb (fun b hb => by rw [hf] at hb; rw [List.mem_singleton.mp hb]; exact gL) (hfs h4 k34) hxs hys hx60 hy60 hdp hun fun v h' tk' sk kv => hQ v h' tk' ⟨fun b o e => sk.keep b o (by simp) (fun hm => by rw [hf] at hm; rw [List.mem_singleton.mp hm, gL] at e; cases e) (k34 _ _ (kg _ _ e)), fun m n => sk.ns (by simp) (n.keeps k34), fun o e => sk.keep 71 o (by simp) (fun hm => by rw [hf] at hm; exact n71 (List.mem_singleton.mp hm).symm) (k34 _ _ e)⟩ (let ⟨as, r, n⟩ := kv; ⟨as, r, fun b hb => noneOf k34 (n b hb)⟩)
theorem eval_unord {dp un : Nat} {gd : Option (List Code)} {envs : List Env} {e e' : Expr} {q p : Pos} {L : Addr} {g h : Heap} {tk : Nat} {xs ys : List Str} {m0 : Str → Option Value} {ps : Array Value} {Q E : Value → Shared → Prop} (G : Gl w g) (kg : KeepsH g h) (hf : fsOf envs = [L]) (gL : g.get? L = none) (n71 : L ≠ 71) (hfs : ∀ h', KeepsH h h' → FrsAt h' envs)
    (hn : h.Ns L m0) (ht : h.get? 71 = some (tabObj ps))
    (x : PA PySem.Challenge.rw_in0044_01.row.prog w (AA dp un gd (some envs)) env p [e, e'] h s (New2 g xs ys)) (hx60 : xs.length ≤ 60) (hy60 : ys.length ≤ 60) (hdp : dp + 3 < recursionLimit) (hun : un + 200 < cLine)
    (hQ : ∀ v h' tk', Aft L g h h' → KRd (.tuple [.list ((unordF xs ys).1.map .str), .list ((unordF xs ys).2.map .str)]) v h' → Q v { s with heap := h', toks := tk' })
    (he : eval (.Call (.Name (Str.ofString "unorderable_list_difference") q) [e, e'] [] p) env = (do callWith p (← eval (.Name (Str.ofString "unorderable_list_difference") q) env) [] (backTo p (starEach [e, e'] env)) (backToKw p (keywordEach [] env))) := by rfl)
    (hg : env.globals = mainGlobals := by rfl) (hk : env.scope.kind = .function := by rfl) (hx : env.kindOf (Str.ofString "unorderable_list_difference") = some .globalImplicit := by rfl)
    (h1 : starEach [e, e'] env = (false, eval e env) :: starEach [e'] env := by rfl) :
    wpAny (model PySem.Challenge.rw_in0044_01.row.prog w) (AA dp un gd (some envs)) (eval (.Call (.Name (Str.ofString "unorderable_list_difference") q) [e, e'] [] p) env) Q E { s with heap := h, toks := tk } := by
  have Gh := G.up kg
  refine Call_ ((Gl.fn Gh f_90 hg hk hx (by decide)).run h tk _ _ kh_rfl fun u h3 tk3 k3 hu => ?_) he
  subst hu
  obtain ⟨o, fd, ho, hd⟩ := o_90 (Gh.up k3)
  refine callWith_def_at ho hd (x.run h3 tk3 _ _ k3 fun us h4 tk4 k4 hus => ⟨k4 _ _ ho, ?_⟩) h1
  obtain ⟨la, vas, na, lb, vbs, nb, rfl, ela, hxs, elb, hys, hab, gla, glb⟩ := hus
  have k34 := kh_tr k3 k4
  have nL : ∀ {l : Addr} {vs : Array Value} {n : Nat}, h4.get? l = some (listOf vs n) → L ≠ l ∧ (71 : Addr) ≠ l := fun {l vs n} e => by
    constructor
    · rintro rfl
      obtain ⟨o', _, _, e', d, _⟩ := hn.keeps k34
      rw [e] at e'; cases e'; cases d
    · rintro rfl
      rw [k34 _ _ ht] at e; cases e
  have a := nL ela
  have b := nL elb
  have keep : ∀ {h' : Heap}, Slk (fsOf envs) [la, lb] h4 h' → Aft L g h h' := fun {h'} sk => ⟨fun c o e => sk.keep c o (by simp only [List.mem_cons, List.not_mem_nil, or_false, not_or]; exact ⟨(fun q => by rw [q, gla] at e; cases e), (fun q => by rw [q, glb] at e; cases e)⟩) (fun hm => by rw [hf] at hm; rw [List.mem_singleton.mp hm, gL] at e; cases e) (k34 _ _ (kg _ _ e)),
    fun m n => sk.ns (by simp [a.1, b.1]) (n.keeps k34), fun o e => sk.keep 71 o (by simp [a.2, b.2]) (fun hm => by rw [hf] at hm; exact n71 (List.mem_singleton.mp hm).symm) (k34 _ _ e)⟩
  exact unord_spec w dp un gd envs s h4 tk4 g la lb vas vbs na nb xs ys Q E (kh_tr kg k34) G ela elb hab gla glb (fun c hc => by rw [hf] at hc; rw [List.mem_singleton.mp hc]; exact ⟨gL, a.1, b.1⟩) (hfs h4 k34) hxs hys hx60 hy60 hdp hun fun v h' tk' sk kv => hQ v h' tk' (keep sk) kv
end
section
variable {prog : Program} {w : World} {A : Around} {env : Env} {h₀ : Heap} {s : Shared}
theorem PA.imp {pos : Pos} {es : List Expr} {K K' : List Value → Heap → Prop} (x : PA prog w A env pos es h₀ s K) (h : ∀ us h', KeepsH h₀ h' → K us h' → K' us h') : PA prog w A env pos es h₀ s K' :=
  .mk fun h₁ tk Q E k hQ => x.run h₁ tk Q E k fun us h' tk' k' r => hQ us h' tk' k' (h us h' (kh_tr k k') r)
/-- list(e), sorted(e) -/
theorem PG.listS {e : Expr} {q p : Pos} {xs : List Str} (G : Gl w h₀) (x : PG prog w A env e h₀ s (KStrs xs)) (hl : xs.length ≤ 1000)
    (hg : env.globals = mainGlobals := by rfl) (hbi : env.builtins = builtinsNs := by rfl) (hk : env.scope.kind = .function := by rfl) (hx : env.kindOf (Str.ofString "list") = some .globalImplicit := by rfl)
    (he : eval (.Call (.Name (Str.ofString "list") q) [e] [] p) env = (do callWith p (← eval (.Name (Str.ofString "list") q) env) [] (backTo p (starEach [e] env)) (backToKw p (keywordEach [] env))) := by rfl)
    (h1 : starEach [e] env = (false, eval e env) :: starEach [] env := by rfl) : PG prog w A env (.Call (.Name (Str.ofString "list") q) [e] [] p) h₀ s (KNew h₀ (KStrs xs)) :=
  PG.callT1 (Gl.built G e_list b_list (by decide) hg hbi hk hx (by decide)) x upSs (fun v h' k kv => (pc_list kv (fun vs h => by rw [h.length, PySem.sizeLine_eq]; omega)).imp fun v h' k' r => ⟨r.1, by obtain ⟨l, e, hl⟩ := r.2; exact ⟨l, e, noneOf k hl⟩⟩) he h1
theorem PG.sortedS {e : Expr} {q p : Pos} {xs : List Str} (G : Gl w h₀) (x : PG prog w A env e h₀ s (KStrs xs)) (hl : xs.length < 64)
    (hg : env.globals = mainGlobals := by rfl) (hbi : env.builtins = builtinsNs := by rfl) (hk : env.scope.kind = .function := by rfl) (hx : env.kindOf (Str.ofString "sorted") = some .globalImplicit := by rfl)
    (he : eval (.Call (.Name (Str.ofString "sorted") q) [e] [] p) env = (do callWith p (← eval (.Name (Str.ofString "sorted") q) env) [] (backTo p (starEach [e] env)) (backToKw p (keywordEach [] env))) := by rfl)
    (h1 : starEach [e] env = (false, eval e env) :: starEach [] env := by rfl) : PG prog w A env (.Call (.Name (Str.ofString "sorted") q) [e] [] p) h₀ s (KStrs (srt xs)) :=
  PG.callB1 (Gl.built G e_sorted b_sorted (by decide) hg hbi hk hx (by decide)) x upSs (fun v h' k kv => (pc_sorted kv hl).imp fun v h' k' r => r.1) he h1
/-- xs + ys -/
theorem PG.addLS {a b : Expr} {p : Pos} {xs ys : List Str} (x : PG prog w A env a h₀ s (KStrs xs)) (y : PG prog w A env b h₀ s (KStrs ys)) (hl : xs.length + ys.length ≤ 1000) : PG prog w A env (.BinOp a .Add b p) h₀ s (KNew h₀ (KStrs (xs ++ ys))) :=
  PG.bin x y upSs fun o j h' k ho hj => (ps_addL ho hj (P'' := fun vs => StrsAre vs (xs ++ ys)) (fun _ _ x y => strs_app x y) fun vs ws x y => by rw [x.length, y.length, PySem.sizeLine_eq]; omega).imp fun v h k' r => ⟨r.1, by obtain ⟨l, e, hl⟩ := r.2; exact ⟨l, e, noneOf k hl⟩⟩
end
theorem lackF_ok {xs ys : List Str} (h : SOk xs) : SOk (lackF xs ys) := fun x hx => by
  have hx := (srt_perm _).mem_iff.mp hx
  unfold lackRow at hx
  obtain ⟨k, hk, rfl⟩ := List.mem_map.mp hx
  have hk := List.mem_range.mp (List.mem_filter.mp hk).1
  rw [List.getD_eq_getElem?_getD, List.getElem?_eq_getElem hk]
  exact h _ (List.getElem_mem hk)
theorem toldM_ok {xs ys : List Str} (h : SOk xs) : SOk (toldMissing xs ys).reverse := fun x hx => by
  have hx := List.mem_reverse.mp hx
  unfold toldMissing at hx
  obtain ⟨k, hk, rfl⟩ := List.mem_map.mp hx
  have hk := List.mem_range.mp (List.mem_filter.mp hk).1
  rw [List.getD_eq_getElem?_getD, List.getElem?_eq_getElem hk]
  exact h _ (List.getElem_mem hk)
theorem toldL_ok {xs ys : List Str} (h : SOk ys) : SOk (toldLeft xs ys) := fun x hx => by
  unfold toldLeft at hx
  obtain ⟨k, hk, rfl⟩ := List.mem_map.mp hx
  have hk := List.mem_range.mp (List.mem_filter.mp hk).1
  rw [List.getD_eq_getElem?_getD, List.getElem?_eq_getElem hk]
  exact h _ (List.getElem_mem hk)

end Mine
end
section
open PySem PySem.W PyProof.Rows PySem.Calls
set_option Elab.async false
set_option maxRecDepth 100000
set_option maxHeartbeats 4000000
set_option linter.unusedVariables false
set_option rowWalk.seconds 0
namespace Mine
theorem hideAll_fresh {h : Heap} {as : List Addr} {b : Addr} (hb : h.objs.size ≤ b) : (hideAll h as).get? b = none := Heap.get?_none_of_le (by rw [hideAll_size]; exact hb)
noncomputable def lawB (k : Nat) : List Stmt := hd.f152.val.2.1.drop k
noncomputable abbrev lawEnv (L fa : Addr) (cd : Value) : Env := envOfC (Str.ofString "law") hd.f152.val.2.2 L fa cd
noncomputable abbrev LawG (w : World) (s : Shared) (fa : Addr) (cd : Value) (g0 : Heap) (L : Addr) (k : Nat) (s' : Shared) : Prop :=
  wpAny (model PySem.Challenge.rw_in0044_01.row.prog w) (callerA.deeper (lawEnv L fa cd)) (execs (lawB k) (lawEnv L fa cd)) (fun f s' => LawEnd s g0 f s') (fun _ _ => False) s'
theorem toldF_ok (ns : List Int) (n : Nat) : (toldF ns n).length ≤ 20 ∧ SOk (toldF ns n) := by
  have h := namesF_len ns
  refine ⟨Nat.le_trans (List.length_filter_le _ _) h.2, fun x hx => namesF_ok ns x ?_⟩
  exact (List.mem_filter.mp hx).1
noncomputable def TTd (ns : List Int) : List (List Str) := (askedF ns).map (toldF ns)
theorem TTd_ok {ns : List Int} {xs : List Str} (h : xs ∈ TTd ns) : xs.length ≤ 20 ∧ SOk xs := by
  unfold TTd at h
  obtain ⟨n, _, rfl⟩ := List.mem_map.mp h
  exact toldF_ok ns n
theorem TTd_len (ns : List Int) : (TTd ns).length = 2 := by unfold TTd askedF; rw [List.length_map, List.length_map, askI_len]
theorem srt_ok {xs : List Str} (h : SOk xs) : SOk (srt xs) := fun x hx => h x ((srt_perm xs).mem_iff.mp hx)
theorem srt_len (xs : List Str) : (srt xs).length = xs.length := (srt_perm xs).length_eq
theorem TTd_srt {ns : List Int} : ∀ ys ∈ (TTd ns).map srt, SOk ys := fun ys h => by
  obtain ⟨xs, hx, rfl⟩ := List.mem_map.mp h
  exact srt_ok (TTd_ok hx).2
theorem collF_small {xs : List Str} : ∀ x ∈ collF xs, -1 ≤ x ∧ x ≤ 1 := fun x hx => by
  unfold collF at hx
  obtain ⟨k, _, rfl⟩ := List.mem_map.mp hx
  generalize slt _ _ = a
  generalize slt _ _ = b
  cases a <;> cases b <;> decide
theorem collF_len (xs : List Str) : (collF xs).length = xs.length - 1 := by unfold collF; rw [List.length_map, List.length_range]
theorem pick_ok (ns : List Int) (k : Int) : (pickS (namesF ns) k).length ≤ 20 ∧ SOk (pickS (namesF ns) k) := ⟨Nat.le_trans (pickS_len _ _) (namesF_len ns).2, fun x hx => namesF_ok ns x (pickS_mem hx)⟩
theorem app_ok {xs ys : List Str} (h : SOk xs) (k : SOk ys) : SOk (xs ++ ys) := fun x hx => (List.mem_append.mp hx).elim (h x) (k x)

end Mine
end
section
open PySem PySem.W PyProof.Rows PySem.Calls
set_option Elab.async false
set_option maxRecDepth 100000
set_option maxHeartbeats 4000000
set_option linter.unusedVariables false
set_option rowWalk.seconds 0
namespace Mine
theorem R10p {w : World} {s : Shared} {fa : Addr} {cd : Value} {ns : List Int} {ls : Addr} {vs : List Value} {g0 : Heap} {L : Nat} {s' : Shared} {h38 : Heap} {tk38 : Nat} {mm38 : Str → Option Value} {D D8 D11 D23 D25 a37 : Addr} {t0 t1 : List Str} (os23 : s'.os = s.os) (nl : 10 ≤ (namesF ns).length ∧ (namesF ns).length ≤ 20) (ok0 : t0.length ≤ 20 ∧ SOk t0) (ok1 : t1.length ≤ 20 ∧ SOk t1) (hSd38 : KRd (SDd (lackF t0 t1) (lackF t1 t0) (toldMissing t0 t1).reverse (toldLeft t0 t1)) (.ref a37) (hid [71, L] h38)) (hTk38 : KList KLS [t0, t1] (.ref D23) (hid [71, L] h38)) (hTd38 : KList KLS [t0, t1] (.ref D25) (hid [71, L] h38)) (B38 : LawB w s' g0 L ls vs ns mm38 D D8 D11 h38) (mt38 : mm38 (Str.ofString "taken") = some (.ref D23)) (md38 : mm38 (Str.ofString "told") = some (.ref D25)) (mz38 : mm38 (Str.ofString "said") = some (.ref a37)) : LawG w s fa cd g0 L 15 { s' with heap := h38, toks := tk38 } := by
  dsimp only [LawG, lawEnv, hd.f152]
  conv in (lawB _) => whnf
  show wpAny _ _ _ _ _ { s' with heap := h38, toks := tk38 }
  have p2 := pick_ok ns 2
  have p3 := pick_ok ns 3
  have G38 := B38.Gh.up hid_gh
  have f38 := upL upLS _ _ _ hid_gh hTk38
  have cn38 := isCell_up B38.cn hid_gh
  have hN38 := upSs _ _ _ hid_gh B38.hN
  have gL38 : (hid [71, L] h38).get? L = none := hideAll_none _ (.tail _ (.head _))
  with_reducible refine wpAny_execs_cons ?_
  refine B38.asg (PG.listNew2 (xs := t0 ++ pickS (namesF ns) 2) (ys := t1 ++ pickS (namesF ns) 3) ?x1 fun h k => ?x2) rfl ?k
  case x1 =>
    refine PG.addLS ?c1 ?c2 (by omega)
    case c1 => exact PG.itemP (k := 0) upLS (PG.nameK B38.S.hn mt38 f38 (upL upLS)) PG.int rfl (by decide)
    case c2 => exact (PG.slice (P := fun vs => StrsAre vs (namesF ns)) (P' := fun vs => StrsAre vs (pickS (namesF ns) 2)) (PG.cellK cn38 hN38 upSs) PP.none PP.none (PP.some PG.int) (by simp) (fun vs h => by rw [h.length, PySem.sizeLine_eq]; omega) (fun vs h => strs_pick h 2)).imp fun _ _ _ k => k.1
  case x2 =>
    refine PG.addLS ?c1 ?c2 (by omega)
    case c1 => exact PG.itemP (k := 1) upLS (PG.nameK (B38.S.hn.keeps k) mt38 (upL upLS _ _ _ k f38) (upL upLS)) PG.int rfl (by decide)
    case c2 => exact (PG.slice (P := fun vs => StrsAre vs (namesF ns)) (P' := fun vs => StrsAre vs (pickS (namesF ns) 3)) (PG.cellK (isCell_up cn38 k) (upSs _ _ _ k hN38) upSs) PP.none PP.none (PP.some PG.int) (by simp) (fun vs h => by rw [h.length, PySem.sizeLine_eq]; omega) (fun vs h => strs_pick h 3)).imp fun _ _ _ k => k.1
  case k =>
    rintro v h39 h40 tk40 B39 q39 q40 ⟨am, us, nm, rfl, nam, eam, la, vas, na, lb, vbs, nb, rfl, ela, hla, elb, hlb, hab, gla, glb⟩ B40
    have eM := q40 _ _ (B39.S.seq eam rfl)
    have eA := q40 _ _ (B39.S.seq ela rfl)
    have eB := q40 _ _ (B39.S.seq elb rfl)
    have gA : (hid [71, L] h38).get? la = none := noneOf hid_gh gla
    have gB : (hid [71, L] h38).get? lb = none := noneOf hid_gh glb
    have q3840 := kh_tr q39 q40
    obtain ⟨mm40, B40, md40, mz40, mm40m⟩ : ∃ mm, LawB w s' g0 L ls vs ns mm D D8 D11 h40 ∧ mm (Str.ofString "told") = some (.ref D25) ∧ mm (Str.ofString "said") = some (.ref a37) ∧ mm (Str.ofString "more") = some (.ref am) := ⟨_, B40, (if_neg (by decide)).trans md38, (if_neg (by decide)).trans mz38, rfl⟩
    clear B39 q39 q40 nam eam ela elb gla glb f38 cn38 hN38 G38 hTk38
    have l0 : (t0 ++ pickS (namesF ns) 2).length ≤ 40 := by rw [List.length_append]; omega
    have l1 : (t1 ++ pickS (namesF ns) 3).length ≤ 40 := by rw [List.length_append]; omega
    have k0 : SOk (t0 ++ pickS (namesF ns) 2) := app_ok ok0.2 p2.2
    have k1 : SOk (t1 ++ pickS (namesF ns) 3) := app_ok ok1.2 p3.2
    show wpAny _ _ _ _ _ { s' with heap := h40, toks := tk40 }
    have G40 := B40.Gh.up hid_gh
    have fM := hid_gh (M := [71, L]) _ _ eM
    have fA := hid_gh (M := [71, L]) _ _ eA
    have fB := hid_gh (M := [71, L]) _ _ eB
    with_reducible refine wpAny_execs_cons ?_
    with_reducible refine' wpAny_Assign_Name ?a1 ?b1
    case b1 => rfl
    case a1 =>
      refine wpAny_List (spliced_more (eval_sld (L := L) (xs := srt (t0 ++ pickS (namesF ns) 2)) (ys := srt (t1 ++ pickS (namesF ns) 3)) B40.Gh hid_gh rfl (hideAll_none _ (.tail _ (.head _))) (Ne.symm B40.S.neT) ?fr ?x ?y (by rw [srt_len]; omega) (by rw [srt_len]; omega) (by decide +kernel) (by decide +kernel) ?q))
      case fr => exact fun h' k => frs_cons (by show ScopeKind.function ≠ ScopeKind.module; decide) rfl (B40.S.hn.keeps k) trivial
      case x => exact PG.sortedS G40 ((PG.sub (PG.name B40.S.hn mm40m) (PG.int (i := 0)) (fun _ _ _ _ e => e) fun o j h' k ho hj => by
          obtain ⟨t, rfl⟩ := hj
          subst ho
          exact ps_item (k := 0) (k _ _ fM) (v := .ref la) rfl (by decide)).imp fun v h' k e => by subst e; exact ⟨la, vas, na, rfl, k _ _ fA, hla⟩) (by omega)
      case y => exact PG.sortedS G40 ((PG.sub (PG.name B40.S.hn mm40m) (PG.int (i := 1)) (fun _ _ _ _ e => e) fun o j h' k ho hj => by
          obtain ⟨t, rfl⟩ := hj
          subst ho
          exact ps_item (k := 1) (k _ _ fM) (v := .ref lb) rfl (by decide)).imp fun v h' k e => by subst e; exact ⟨lb, vbs, nb, rfl, k _ _ fB, hlb⟩) (by omega)
      case q =>
        intro v41 h41 tk41 af41 hv41
        obtain ⟨B41, q41⟩ := B40.re af41.kg (af41.hn _ B40.S.hn) (by obtain ⟨ps, e, r⟩ := B40.S.tab; exact ⟨ps, af41.tb _ e, r⟩) B40.sc
        rw [sld_law] at hv41
        obtain ⟨as41, r41, n41⟩ := hv41
        have eM41 := hid_gh (M := [71, L]) _ _ (q41 _ _ eM)
        have eA41 := hid_gh (M := [71, L]) _ _ (q41 _ _ eA)
        have eB41 := hid_gh (M := [71, L]) _ _ (q41 _ _ eB)
        have q3841 := kh_tr q3840 q41
        have kA : KeepsH (hid [71, L] h38) (hid [71, L, la, lb] h41) := hid_of (kh_tr q3841 hid_gh) fun b hb => by
          simp only [List.mem_cons, List.not_mem_nil, or_false] at hb
          rcases hb with rfl | rfl | rfl | rfl
          · exact hideAll_none _ (.head _)
          · exact gL38
          · exact gA
          · exact gB
        have in40 : ∀ b ∈ [71, L, la, lb], ∃ o, h40.get? b = some o := fun b hb => by
          simp only [List.mem_cons, List.not_mem_nil, or_false] at hb
          rcases hb with rfl | rfl | rfl | rfl
          · obtain ⟨ps, e, _⟩ := B40.S.tab; exact ⟨_, e⟩
          · obtain ⟨o, _, _, e, _⟩ := B40.S.hn; exact ⟨o, e⟩
          · exact ⟨_, fA⟩
          · exact ⟨_, fB⟩
        have r41' := reads_hide (M := [71, L, la, lb]) (h := h41) (fun b hb o e c vs n d => by
          simp only [List.mem_cons, List.not_mem_nil, or_false] at hb
          rcases hb with rfl | rfl | rfl | rfl
          · obtain ⟨o', e', d'⟩ := B41.S.ex 71 (.head _); rw [e] at e'; cases e'; exact d' _ _ d
          · obtain ⟨o', e', d'⟩ := B41.S.ex b (.tail _ (.head _)); rw [e] at e'; cases e'; exact d' _ _ d
          · rw [eA41] at e; cases e; exact absurd c (by intro q; injection q with q; exact absurd q (by decide))
          · rw [eB41] at e; cases e; exact absurd c (by intro q; injection q with q; exact absurd q (by decide))) _ _ _ (by simp only [PyData.canLay0, PyData.canLayAll0, canLay_strs (lackF_ok (ys := t1 ++ pickS (namesF ns) 3) k0), canLay_strs (lackF_ok (ys := t0 ++ pickS (namesF ns) 2) k1), Bool.and_self]) (fun b hb q => by obtain ⟨o, e⟩ := in40 b q; rw [n41 b hb] at e; cases e) r41
        obtain ⟨ps41, t41, tr41⟩ := B41.S.tab
        clear in40 r41 n41 q41 eM eA eB fM fA fB G40 q3840 af41 B40
        refine spliced_more (eval_unord (L := L) (g := hid [71, L, la, lb] h41) (xs := t0 ++ pickS (namesF ns) 2) (ys := t1 ++ pickS (namesF ns) 3) (B38.Gh.up kA) hid_gh rfl (hideAll_none _ (.tail _ (.head _))) (Ne.symm B41.S.neT) ?fr2 B41.S.hn t41 ?ar (by omega) (by omega) (by decide +kernel) (by decide +kernel) ?q2)
        case fr2 => exact fun h' k => frs_cons (by show ScopeKind.function ≠ ScopeKind.module; decide) rfl (B41.S.hn.keeps k) trivial
        case ar =>
          refine PA.imp (PA.two (K := fun v _ => v = .ref la) (K' := fun v _ => v = .ref lb) ?l1 (fun _ _ _ _ e => e) ?l2 (fun _ _ _ _ e => e)) fun us h' k r => ?l3
          case l1 =>
            exact PG.sub (PG.name B41.S.hn mm40m) (PG.int (i := 0)) (fun _ _ _ _ e => e) fun o j h' k ho hj => by
              obtain ⟨t, rfl⟩ := hj
              subst ho
              exact ps_item (k := 0) (k _ _ eM41) (v := .ref la) rfl (by decide)
          case l2 =>
            exact PG.sub (PG.name B41.S.hn mm40m) (PG.int (i := 1)) (fun _ _ _ _ e => e) fun o j h' k ho hj => by
              obtain ⟨t, rfl⟩ := hj
              subst ho
              exact ps_item (k := 1) (k _ _ eM41) (v := .ref lb) rfl (by decide)
          case l3 =>
            obtain ⟨v1, v2, rfl, rfl, rfl⟩ := r
            exact ⟨la, vas, na, lb, vbs, nb, rfl, k _ _ eA41, hla, k _ _ eB41, hlb, hab, hideAll_none _ (.tail _ (.tail _ (.head _))), hideAll_none _ (.tail _ (.tail _ (.tail _ (.head _))))⟩
        case q2 =>
          intro v42 h42 tk42 af42 hv42
          obtain ⟨B42, q42⟩ := B38.re (kh_tr kA af42.kg) (af42.hn _ B41.S.hn) ⟨ps41, af42.tb _ t41, tr41⟩ B41.sc
          rw [unord_law] at hv42
          have hv41 : KRd (.tuple [.list ((lackF (t0 ++ pickS (namesF ns) 2) (t1 ++ pickS (namesF ns) 3)).map .str), .list ((lackF (t1 ++ pickS (namesF ns) 3) (t0 ++ pickS (namesF ns) 2)).map .str)]) v41 h42 := ⟨as41, PyProof.Rows.Reads.keeps af42.kg r41'⟩
          have hSd42 := upR _ _ _ q42 hSd38
          have hTd42 := upL upLS _ _ _ q42 hTd38
          clear r41' t41 tr41 kA q3841 eM41 eA41 eB41 af42 q42 B41 B38
          refine spliced_none ⟨by show 2 ≤ sizeLine; decide, ?_⟩
          have kp : KeepsH h42 (h42.push { cls := .type "list", data := .seq ([v41, v42] : List Value).toArray }) := fun b o e => Heap.get?_push_of_some _ e
          have hAg : KRd (SDd (lackF (t0 ++ pickS (namesF ns) 2) (t1 ++ pickS (namesF ns) 3)) (lackF (t1 ++ pickS (namesF ns) 3) (t0 ++ pickS (namesF ns) 2)) (toldMissing (t0 ++ pickS (namesF ns) 2) (t1 ++ pickS (namesF ns) 3)).reverse (toldLeft (t0 ++ pickS (namesF ns) 2) (t1 ++ pickS (namesF ns) 3))) (.ref h42.objs.size) (h42.push { cls := .type "list", data := .seq ([v41, v42] : List Value).toArray }) := by
            obtain ⟨as, ra⟩ := upR _ _ _ kp hv41
            obtain ⟨bs, rb⟩ := upR _ _ _ kp hv42
            exact ⟨_, reads_list_at (Heap.get?_push_size _ rfl) rfl rfl (.cons ra (.cons rb .nil))⟩
          obtain ⟨B43, q43⟩ := B42.keeps kp
          generalize h42.push { cls := .type "list", data := .seq ([v41, v42] : List Value).toArray } = h43 at *
          generalize h42.objs.size = a43 at *
          refine wpAny_storeName_local rfl B43.S.hn (fun h44 hn44 hs44 => ?_) rfl
          obtain ⟨B44, q44⟩ := B43.loc (x := Str.ofString "again") (fun b o hb e => hs44.extBut b o hb e) hn44
          have shA := shaped_sd (lackF_ok (ys := t1 ++ pickS (namesF ns) 3) k0) (lackF_ok (ys := t0 ++ pickS (namesF ns) 2) k1) (toldM_ok (ys := t1 ++ pickS (namesF ns) 3) k0) (toldL_ok (xs := t0 ++ pickS (namesF ns) 2) k1)
          have shS := shaped_sd (lackF_ok (ys := t1) ok0.2) (lackF_ok (ys := t0) ok1.2) (toldM_ok (ys := t1) ok0.2) (toldL_ok (xs := t0) ok1.2)
          have hAg44 := upR _ _ _ (kh_tr q44 hid_gh) (B43.S.rd (SeqAt.canLay_of_shaped shA) hAg)
          have hSd44 := upR _ _ _ (kh_tr (kh_tr q43 q44) hid_gh) hSd42
          have hTd44 := upL upLS _ _ _ (kh_tr (kh_tr q43 q44) hid_gh) hTd42
          obtain ⟨mm44, B44, md44, mz44, ma44⟩ : ∃ mm, LawB w s' g0 L ls vs ns mm D D8 D11 h44 ∧ mm (Str.ofString "told") = some (.ref D25) ∧ mm (Str.ofString "said") = some (.ref a37) ∧ mm (Str.ofString "again") = some (.ref a43) := ⟨_, B44, (if_neg (by decide)).trans md40, (if_neg (by decide)).trans mz40, rfl⟩
          clear hAg hSd42 hTd42 hv41 hv42 kp q43 q44 B43 B42
          have G44 := B44.Gh.up hid_gh
          have cw44 := isCell_up B44.cw hid_gh
          have hW44 := upSs _ _ _ hid_gh B44.hW
          show wpAny _ _ _ _ _ { s' with heap := h44, toks := _ }
          with_reducible refine wpAny_execs_cons ?_
          refine wpAny_Return_some (PG.use (g := h44) (K := KBool true) (PG.andB ?v1 ?v2) kh_rfl fun v h' tk' k' r => ?fin)
          case fin =>
            obtain rfl : v = .bool true := r
            obtain ⟨ps, e, _⟩ := B44.S.tab
            exact ⟨rfl, kh_tr (kh_tr B44.S.kg hid_gh) k', os23, B44.bare, ps, k' _ _ e⟩
          case v1 =>
            refine PG.cmp (K₁ := KRd (SDd (lackF t0 t1) (lackF t1 t0) (toldMissing t0 t1).reverse (toldLeft t0 t1))) (K₂ := KRd (SDd (lackF t0 t1) (lackF t1 t0) (toldMissing t0 t1).reverse (toldLeft t0 t1))) (PG.nameK B44.S.hn mz44 hSd44 upR) ?t upR fun _ _ _ _ ka kb => ps_eqRd ka kb shS (by show 4 + 3 + 64 < cLine; decide +kernel)
            case t =>
              refine Gl.call G44 f_135 (o_135 G44) (PA.two (K := KStrs t0) (K' := KStrs t1) ?y1 upSs ?y2 upSs) fun us h' k ⟨u1, u2, e, e1, e2⟩ => by subst e; exact told_spec w _ _ _ _ _ h' u1 u2 t0 t1 (G44.up k) e1 e2 (by omega) (by omega) ok0.2 ok1.2 (by decide +kernel) (by decide +kernel)
              case y1 => exact PG.itemP (k := 0) upLS (PG.nameK B44.S.hn md44 hTd44 (upL upLS)) PG.int rfl (by decide)
              case y2 => exact PG.itemP (k := 1) upLS (PG.nameK B44.S.hn md44 hTd44 (upL upLS)) PG.int rfl (by decide)
          case v2 =>
            refine PG.cmp (K₁ := KRd (SDd (lackF (t0 ++ pickS (namesF ns) 2) (t1 ++ pickS (namesF ns) 3)) (lackF (t1 ++ pickS (namesF ns) 3) (t0 ++ pickS (namesF ns) 2)) (toldMissing (t0 ++ pickS (namesF ns) 2) (t1 ++ pickS (namesF ns) 3)).reverse (toldLeft (t0 ++ pickS (namesF ns) 2) (t1 ++ pickS (namesF ns) 3)))) (K₂ := KRd (SDd (lackF (t0 ++ pickS (namesF ns) 2) (t1 ++ pickS (namesF ns) 3)) (lackF (t1 ++ pickS (namesF ns) 3) (t0 ++ pickS (namesF ns) 2)) (toldMissing (t0 ++ pickS (namesF ns) 2) (t1 ++ pickS (namesF ns) 3)).reverse (toldLeft (t0 ++ pickS (namesF ns) 2) (t1 ++ pickS (namesF ns) 3)))) (PG.nameK B44.S.hn ma44 hAg44 upR) ?t upR fun _ _ _ _ ka kb => ps_eqRd ka kb shA (by show 4 + 3 + 64 < cLine; decide +kernel)
            case t =>
              refine Gl.call G44 f_135 (o_135 G44) (PA.two (K := KStrs (t0 ++ pickS (namesF ns) 2)) (K' := KStrs (t1 ++ pickS (namesF ns) 3)) ?y1 upSs ?y2 upSs) fun us h' k ⟨u1, u2, e, e1, e2⟩ => by subst e; exact told_spec w _ _ _ _ _ h' u1 u2 _ _ (G44.up k) e1 e2 (by omega) (by omega) k0 k1 (by decide +kernel) (by decide +kernel)
              case y1 =>
                refine PG.imp (PG.addLS (xs := t0) (ys := pickS (namesF ns) 2) ?c1 ?c2 (by omega)) fun _ _ _ r => r.1
                case c1 => exact PG.itemP (k := 0) upLS (PG.nameK B44.S.hn md44 hTd44 (upL upLS)) PG.int rfl (by decide)
                case c2 => exact (PG.slice (P := fun vs => StrsAre vs (namesF ns)) (P' := fun vs => StrsAre vs (pickS (namesF ns) 2)) (PG.cellK cw44 hW44 upSs) PP.none PP.none (PP.some PG.int) (by simp) (fun vs h => by rw [h.length, PySem.sizeLine_eq]; omega) (fun vs h => strs_pick h 2)).imp fun _ _ _ k => k.1
              case y2 =>
                refine PG.imp (PG.addLS (xs := t1) (ys := pickS (namesF ns) 3) ?c1 ?c2 (by omega)) fun _ _ _ r => r.1
                case c1 => exact PG.itemP (k := 1) upLS (PG.nameK B44.S.hn md44 hTd44 (upL upLS)) PG.int rfl (by decide)
                case c2 => exact (PG.slice (P := fun vs => StrsAre vs (namesF ns)) (P' := fun vs => StrsAre vs (pickS (namesF ns) 3)) (PG.cellK cw44 hW44 upSs) PP.none PP.none (PP.some PG.int) (by simp) (fun vs h => by rw [h.length, PySem.sizeLine_eq]; omega) (fun vs h => strs_pick h 3)).imp fun _ _ _ k => k.1

end Mine
end
section
open PySem PySem.W PyProof.Rows PySem.Calls
set_option Elab.async false
set_option maxRecDepth 100000
set_option maxHeartbeats 4000000
set_option linter.unusedVariables false
set_option rowWalk.seconds 0
namespace Mine
theorem R9p {w : World} {s : Shared} {fa : Addr} {cd : Value} {ns : List Int} {ls : Addr} {vs : List Value} {g0 : Heap} {L : Nat} {s' : Shared} {h34 : Heap} {tk34 : Nat} {mm33 : Str → Option Value} {D D8 D11 D23 D25 D28 : Addr} (os23 : s'.os = s.os) (B34 : LawB w s' g0 L ls vs ns mm33 D D8 D11 h34) (hTk34 : KList KLS (TTd ns) (.ref D23) (hid [71, L] h34)) (hTd34 : KList KLS (TTd ns) (.ref D25) (hid [71, L] h34)) (hRw34 : KList KLS (List.map srt (TTd ns)) (.ref D28) (hid [71, L] h34)) (mt33 : mm33 (Str.ofString "taken") = some (.ref D23)) (md33 : mm33 (Str.ofString "told") = some (.ref D25)) (mr33 : mm33 (Str.ofString "rows") = some (.ref D28)) : LawG w s fa cd g0 L 14 { s' with heap := h34, toks := tk34 } := by
  dsimp only [LawG, lawEnv, hd.f152]
  conv in (lawB _) => whnf
  show wpAny _ _ _ _ _ { s' with heap := h34, toks := tk34 }
  have nl := namesF_len ns
  obtain ⟨n0, n1, ea⟩ : ∃ n0 n1, askedF ns = [n0, n1] := by
    have : (askedF ns).length = 2 := by unfold askedF; rw [List.length_map, askI_len]
    match askedF ns, this with
    | [a, b], _ => exact ⟨a, b, rfl⟩
  have eT : TTd ns = [toldF ns n0, toldF ns n1] := by unfold TTd; rw [ea]; rfl
  have ok0 := toldF_ok ns n0
  have ok1 := toldF_ok ns n1
  rw [eT] at hTk34 hTd34 hRw34
  generalize toldF ns n0 = t0 at *
  generalize toldF ns n1 = t1 at *
  simp only [List.map_cons, List.map_nil] at hRw34
  with_reducible refine wpAny_execs_cons ?_
  with_reducible refine' wpAny_Assign_Name ?a1 ?b1
  case b1 => rfl
  case a1 =>
    refine wpAny_List (spliced_more (eval_sld (L := L) (xs := srt t0) (ys := srt t1) B34.Gh hid_gh rfl (hideAll_none _ (.tail _ (.head _))) (Ne.symm B34.S.neT) ?fr ?x ?y (by rw [srt_len]; omega) (by rw [srt_len]; omega) (by decide +kernel) (by decide +kernel) ?q))
    case fr => exact fun h' k => frs_cons (by show ScopeKind.function ≠ ScopeKind.module; decide) rfl (B34.S.hn.keeps k) trivial
    case x => exact PG.itemP (k := 0) upLS (PG.nameK B34.S.hn mr33 (upL upLS _ _ _ hid_gh hRw34) (upL upLS)) PG.int rfl (by decide)
    case y => exact PG.itemP (k := 1) upLS (PG.nameK B34.S.hn mr33 (upL upLS _ _ _ hid_gh hRw34) (upL upLS)) PG.int rfl (by decide)
    case q =>
      intro v35 h35 tk35 af35 hv35
      obtain ⟨B35, q35⟩ := B34.re af35.kg (af35.hn _ B34.S.hn) (by obtain ⟨ps, e, r⟩ := B34.S.tab; exact ⟨ps, af35.tb _ e, r⟩) B34.sc
      rw [sld_law] at hv35
      obtain ⟨as35, r35, _⟩ := hv35
      have hv35 : KRd (.tuple [.list ((lackF t0 t1).map .str), .list ((lackF t1 t0).map .str)]) v35 (hid [71, L] h35) := B35.S.rd (by simp only [PyData.canLay0, PyData.canLayAll0, canLay_strs (lackF_ok (ys := t1) ok0.2), canLay_strs (lackF_ok (ys := t0) ok1.2), Bool.and_self]) ⟨as35, r35⟩
      have hTk35 := upL upLS _ _ _ q35 hTk34
      have hTd35 := upL upLS _ _ _ q35 hTd34
      obtain ⟨ps35, t35, tr35⟩ := B35.S.tab
      clear r35 af35 q35 hRw34 hTk34 hTd34 B34
      have f35 := upL upLS _ _ _ hid_gh hTk35
      have G35 := B35.Gh.up hid_gh
      refine spliced_more (eval_unord (L := L) (xs := t0) (ys := t1) B35.Gh hid_gh rfl (hideAll_none _ (.tail _ (.head _))) (Ne.symm B35.S.neT) ?fr2 B35.S.hn t35 ?ar (by omega) (by omega) (by decide +kernel) (by decide +kernel) ?q2)
      case fr2 => exact fun h' k => frs_cons (by show ScopeKind.function ≠ ScopeKind.module; decide) rfl (B35.S.hn.keeps k) trivial
      case ar =>
        refine PA.imp (PA.new2 (xs := t0) (ys := t1) ?l1 fun h k => ?l2) fun us h' k r => r.weak hid_gh
        case l1 => exact PG.listS G35 (PG.itemP (k := 0) upLS (PG.nameK B35.S.hn mt33 f35 (upL upLS)) PG.int rfl (by decide)) (by omega)
        case l2 => exact PG.listS (G35.up k) (PG.itemP (k := 1) upLS (PG.nameK (B35.S.hn.keeps k) mt33 (upL upLS _ _ _ k f35) (upL upLS)) PG.int rfl (by decide)) (by omega)
      case q2 =>
        intro v36 h36 tk36 af36 hv36
        obtain ⟨B36, q36⟩ := B35.re af36.kg (af36.hn _ B35.S.hn) ⟨ps35, af36.tb _ t35, tr35⟩ B35.sc
        rw [unord_law] at hv36
        have hTk36 := upL upLS _ _ _ q36 hTk35
        have hTd36 := upL upLS _ _ _ q36 hTd35
        have hv35 := upR _ _ _ (kh_tr q36 hid_gh) hv35
        clear t35 tr35 f35 G35 hTk35 hTd35 q36 af36 B35
        refine spliced_none ⟨by show 2 ≤ sizeLine; decide, ?_⟩
        have kp : KeepsH h36 (h36.push { cls := .type "list", data := .seq ([v35, v36] : List Value).toArray }) := fun b o e => Heap.get?_push_of_some _ e
        have hSd : KRd (SDd (lackF t0 t1) (lackF t1 t0) (toldMissing t0 t1).reverse (toldLeft t0 t1)) (.ref h36.objs.size) (h36.push { cls := .type "list", data := .seq ([v35, v36] : List Value).toArray }) := by
          obtain ⟨as, ra⟩ := upR _ _ _ kp hv35
          obtain ⟨bs, rb⟩ := upR _ _ _ kp hv36
          exact ⟨_, reads_list_at (Heap.get?_push_size _ rfl) rfl rfl (.cons ra (.cons rb .nil))⟩
        obtain ⟨B37, q37⟩ := B36.keeps kp
        generalize h36.push { cls := .type "list", data := .seq ([v35, v36] : List Value).toArray } = h37 at *
        generalize h36.objs.size = a37 at *
        refine wpAny_storeName_local rfl B37.S.hn (fun h38 hn38 hs38 => ?_) rfl
        obtain ⟨B38, q38⟩ := B37.loc (x := Str.ofString "said") (fun b o hb e => hs38.extBut b o hb e) hn38
        have hSd38 := upR _ _ _ q38 (B37.S.rd (SeqAt.canLay_of_shaped (shaped_sd (lackF_ok ok0.2) (lackF_ok ok1.2) (toldM_ok ok0.2) (toldL_ok ok1.2))) hSd)
        have hTk38 := upL upLS _ _ _ (kh_tr q37 q38) hTk36
        have hTd38 := upL upLS _ _ _ (kh_tr q37 q38) hTd36
        obtain ⟨mm38, B38, mt38, md38, mz38⟩ : ∃ mm, LawB w s' g0 L ls vs ns mm D D8 D11 h38 ∧ mm (Str.ofString "taken") = some (.ref D23) ∧ mm (Str.ofString "told") = some (.ref D25) ∧ mm (Str.ofString "said") = some (.ref a37) := ⟨_, B38, (if_neg (by decide)).trans mt33, (if_neg (by decide)).trans md33, rfl⟩
        exact R10p (s' := s') os23 nl ok0 ok1 hSd38 hTk38 hTd38 B38 mt38 md38 mz38

end Mine
end
section
open PySem PySem.W PyProof.Rows PySem.Calls
set_option Elab.async false
set_option maxRecDepth 100000
set_option maxHeartbeats 4000000
set_option linter.unusedVariables false
set_option rowWalk.seconds 0
namespace Mine
theorem R8p {w : World} {s : Shared} {fa : Addr} {cd : Value} {ns : List Int} {ls : Addr} {vs : List Value} {g0 : Heap} {L : Nat} {s' : Shared} {h30 : Heap} {tk30 : Nat} {mm29 : Str → Option Value} {D D8 D11 D23 D25 D28 : Addr} (os23 : s'.os = s.os) (B30 : LawB w s' g0 L ls vs ns mm29 D D8 D11 h30) (hTk30 : KList KLS (TTd ns) (.ref D23) (hid [71, L] h30)) (hTd30 : KList KLS (TTd ns) (.ref D25) (hid [71, L] h30)) (hRw30 : KList KLS (List.map srt (TTd ns)) (.ref D28) (hid [71, L] h30)) (mt29 : mm29 (Str.ofString "taken") = some (.ref D23)) (md29 : mm29 (Str.ofString "told") = some (.ref D25)) (mr29 : mm29 (Str.ofString "rows") = some (.ref D28)) : LawG w s fa cd g0 L 12 { s' with heap := h30, toks := tk30 } := by
  dsimp only [LawG, lawEnv, hd.f152]
  conv in (lawB _) => whnf
  show wpAny _ _ _ _ _ { s' with heap := h30, toks := tk30 }
  have nl := namesF_len ns
  have Gf30 : Gl w h30 := B30.Gh.up hid_gh
  have cn30 := isCell_up B30.cn hid_gh
  have hN30 := upSs _ _ _ hid_gh B30.hN
  with_reducible refine wpAny_execs_cons ?_
  with_reducible refine' gcomp_assign ?j1 ?j2 ?j3 ?j4 ?j5 ?j6 ?j9 ?j10
  case j1 => rfl
  case j2 => rfl
  case j3 => decide
  case j4 => rfl
  case j5 => decide
  case j6 => rfl
  case j10 => intro _; rfl
  case j9 =>
    refine PG.use (g := h30) (K := KRange ((namesF ns).length - 1)) ?src kh_rfl ?_
    case src =>
      refine PG.range (c := (namesF ns).length - 1) Gf30 ?_
      rw [show (((namesF ns).length - 1 : Nat) : Int) = (((namesF ns).length : Nat) : Int) - 1 by omega]
      exact PG.subI (PG.len (c := (namesF ns).length) Gf30 (PG.cellK cn30 hN30 upSs) (fun _ h => StrsAre.length h) (by omega)) PG.int
    rintro v h31 tk31 k31 ⟨r, t, u, x, rfl, hr⟩
    obtain ⟨B31, q31⟩ := B30.keeps k31
    have hTd31 := upL upLS _ _ _ q31 hTd30
    have hTk31 := upL upLS _ _ _ q31 hTk30
    have hRw31 := upL upLS _ _ _ q31 hRw30
    clear B30 k31 q31 hTd30 hTk30 hRw30 Gf30 cn30 hN30
    show CompAt _ _ _ _ _ _ _ _ _ _ _ { s' with heap := h31, toks := tk31 }
    refine' ⟨Nat, Int, List.range ((namesF ns).length - 1), fun _ v (k : Nat) => ∃ t, v = .int (k : Int) t, fun _ v (x : Int) => ∃ t, v = .int x t, fun _ => true, fun k => PyProof.Rows.b2i (slt ((namesF ns).getD (k + 1) Str.empty) ((namesF ns).getD k Str.empty)) - PyProof.Rows.b2i (slt ((namesF ns).getD k Str.empty) ((namesF ns).getD (k + 1) Str.empty)), hid [71, L] h31, fun _ _ _ _ _ r => r, fun _ _ _ _ _ r => r, hid_gh, testOk_nil, ?e, Src.range rfl hr (by omega), ?k⟩
    case e =>
      refine eltOk (fun _ k => KInt (PyProof.Rows.b2i (slt ((namesF ns).getD (k + 1) Str.empty) ((namesF ns).getD k Str.empty)) - PyProof.Rows.b2i (slt ((namesF ns).getD k Str.empty) ((namesF ns).getD (k + 1) Str.empty)))) (fun k v h g' C m hk _ hv kg' kgh hn hm => ?_) (fun _ _ _ _ _ h _ => h)
      have hk := List.mem_range.mp hk
      obtain ⟨t, rfl⟩ := hv
      have up := kh_tr kg' kgh
      have G := B31.Gh.up up
      have cn := isCell_up B31.cn up
      have hN := upSs _ _ _ up B31.hN
      exact Gl.call G f_38 (o_38 G) (PA.two (PG.item (PG.cellK cn hN upSs) (PG.nameK hn hm ⟨t, rfl⟩ upI) (getD_at (by omega)) (by omega)) upS
        (PG.item (k := k + 1) (PG.cellK cn hN upSs) (PG.add (PG.nameK hn hm ⟨t, rfl⟩ upI) (PG.int (i := 1))) (getD_at (by omega)) (by omega)) upS) fun vs h' k ⟨v1, v2, e, r1, r2⟩ => by subst e; exact pc_coll w _ _ _ _ _ h' v1 v2 _ _ (G.up k) r1 r2 (by decide +kernel) (by decide +kernel)
    case k =>
      intro h32 tk32 D32 g32 ys32 c32 X32 hD32 hDn32 hp32
      refine asg_local B31.S.hn (hideAll_none _ (.tail _ (.head _))) X32 fun h33 tk33 k33 hn33 kk33 => ?_
      obtain ⟨B33, q33⟩ := B31.loc (x := Str.ofString "steps") kk33 hn33
      have hSt : KInts (collF (namesF ns)) (.ref D32) (hid [71, L] h33) := by
        rw [filter_tt] at hp32
        exact B33.S.kseq ⟨D32, _, _, rfl, k33 _ _ hD32, paired_ints hp32⟩
      have hTd33 := upL upLS _ _ _ q33 hTd31
      have hTk33 := upL upLS _ _ _ q33 hTk31
      have hRw33 := upL upLS _ _ _ q33 hRw31
      obtain ⟨mm33, B33, mt33, md33, mr33, ms33⟩ : ∃ mm, LawB w s' g0 L ls vs ns mm D D8 D11 h33 ∧ mm (Str.ofString "taken") = some (.ref D23) ∧ mm (Str.ofString "told") = some (.ref D25) ∧ mm (Str.ofString "rows") = some (.ref D28) ∧ mm (Str.ofString "steps") = some (.ref D32) := ⟨_, B33, (if_neg (by decide)).trans mt29, (if_neg (by decide)).trans md29, (if_neg (by decide)).trans mr29, rfl⟩
      clear kk33 hn33 k33 hp32 hD32 hDn32 X32 q33 B31
      show wpAny _ _ _ _ _ { s' with heap := h33, toks := tk33 }
      have Gf : Gl w h33 := B33.Gh.up hid_gh
      have cn := isCell_up B33.cn hid_gh
      have hN := upSs _ _ _ hid_gh B33.hN
      have fSt := upIs _ _ _ hid_gh hSt
      with_reducible refine wpAny_execs_cons ?_
      refine wpAny_If (PT.use (g := h33) (b := false) (PT.eq (PT.or (a := false) (b := false) ?p1 fun _ => PT.eq (PT.or (a := false) (b := false) ?p2 fun _ => PT.orN) rfl) rfl) kh_rfl ?_)
      case p1 =>
        refine PT.eq (PT.cmp (K₁ := KStr (PyData.shown (.list ((collF (namesF ns)).map .int)))) (K₂ := KStr (PyData.shown (.list ((collF (namesF ns)).map .int)))) ?a ?b upS fun _ _ _ _ ka kb => ps_neStr ka kb) (by simp)
        case a => exact PG.callT1 (Gl.built Gf e_str b_str) (PG.nameK B33.S.hn ms33 fSt upIs) upIs fun v h' k kv => pc_strI kv collF_small (by rw [collF_len]; omega) rfl (by show 4 + 3 + 10 < cLine; decide +kernel)
        case b =>
          refine PG.callT1 (Gl.built Gf e_str b_str) (K₁ := KInts (collF (namesF ns))) ?c upIs fun v h' k kv => pc_strI kv collF_small (by rw [collF_len]; omega) rfl (by show 4 + 3 + 10 < cLine; decide +kernel)
          case c => exact Gl.call Gf f_147 (o_147 Gf) (PA.one (PG.cellK cn hN upSs) upSs) fun vs h' k ⟨v, e, hv⟩ => by subst e; rw [coll_steps]; exact steps_spec w _ _ _ _ _ h' v (namesF ns) (Gf.up k) hv (by omega) (by omega) (by decide +kernel) (by decide +kernel)
      case p2 =>
        refine PT.eq (PT.cmp (K₁ := KStrs (namesF ns)) (PG.imp (K := KNew h33 (KList (fun _ v (x : Str) => ∃ t, v = .str x t) (((namesF ns).filter fun _ => true).map id))) ?cmp fun v h k r => ?im) (PG.cellK cn hN upSs) upSs fun _ _ _ _ ka kb => ps_neS ka kb (namesF_ok ns) (namesF_ok ns) (by show 4 + 3 + 64 < cLine; decide +kernel)) (by simp)
        case im =>
          rw [filter_tt, List.map_id] at r
          obtain ⟨⟨l, us, n, e, x, y⟩, _⟩ := r
          exact ⟨l, us, n, e, x, paired_strs y⟩
        case cmp =>
          refine PG.comp (Kit := KStrs (namesF ns)) (namesF ns) (fun _ v (x : Str) => ∃ t, v = .str x t) (fun _ v (x : Str) => ∃ t, v = .str x t) (fun _ => true) id (fun _ _ _ _ _ r => r) (fun _ _ _ _ _ r => r) (PG.cellK cn hN upSs) ?src ?t ?e
          case src =>
            rintro xv h2 tk2 k2 ⟨l, us, n, rfl, e, r⟩
            exact Src.list rfl (isLA e) kh_rfl (strs_paired r) (by omega)
          case t => exact fun h2 tk2 k2 => testOk_nil
          case e =>
            intro h2 tk2 k2
            refine eltOk (fun _ x => KStr x) (fun x v h g' C m hk _ hv kg' kgh hn hm => ?_) (fun _ _ _ _ _ h _ => h)
            have G := Gf.up (kh_tr k2 (kh_tr kg' kgh))
            exact Gl.call G f_45 (o_45 G) (PA.one (PG.nameK hn hm (K := KStr x) hv upS) upS) fun vs h' k ⟨v, e, hv⟩ => by
              obtain ⟨t, rfl⟩ := hv
              subst e
              exact (pc_xfrm w _ _ _ _ _ h' x t (G.up k) (by decide +kernel) (by decide +kernel)).imp fun u h k e => ⟨t, e⟩
      intro h34 tk34 k34
      rw [if_neg (by decide)]
      obtain ⟨B34, q34⟩ := B33.keeps k34
      refine wpAny_execs_nil ?_
      have hTk34 := upL upLS _ _ _ q34 hTk33
      have hTd34 := upL upLS _ _ _ q34 hTd33
      have hRw34 := upL upLS _ _ _ q34 hRw33
      exact R9p (s' := s') os23 B34 hTk34 hTd34 hRw34 mt33 md33 mr33

end Mine
end
section
open PySem PySem.W PyProof.Rows PySem.Calls
set_option Elab.async false
set_option maxRecDepth 100000
set_option maxHeartbeats 4000000
set_option linter.unusedVariables false
set_option rowWalk.seconds 0
namespace Mine
theorem R7p {w : World} {s : Shared} {fa : Addr} {cd : Value} {ns : List Int} {ls : Addr} {vs : List Value} {g0 : Heap} {L : Nat} {s' : Shared} {h26 : Heap} {tk26 : Nat} {mm26 : Str → Option Value} {D D8 D11 D23 D25 : Addr} (os23 : s'.os = s.os) (B26 : LawB w s' g0 L ls vs ns mm26 D D8 D11 h26) (hTd : KList (fun h v xs => KStrs xs v h) (List.map (toldF ns) (askedF ns)) (.ref D25) (hid [71, L] h26)) (hTk26 : KList (fun h v xs => KStrs xs v h) (List.map (toldF ns) (askedF ns)) (.ref D23) (hid [71, L] h26)) (mt26 : mm26 (Str.ofString "taken") = some (.ref D23)) (md26 : mm26 (Str.ofString "told") = some (.ref D25)) : LawG w s fa cd g0 L 10 { s' with heap := h26, toks := tk26 } := by
  dsimp only [LawG, lawEnv, hd.f152]
  conv in (lawB _) => whnf
  show wpAny _ _ _ _ _ { s' with heap := h26, toks := tk26 }
  have hTd : KList KLS (TTd ns) (.ref D25) (hid [71, L] h26) := hTd
  have hTk26 : KList KLS (TTd ns) (.ref D23) (hid [71, L] h26) := hTk26
  with_reducible refine wpAny_execs_cons ?_
  with_reducible refine' gcomp_assign ?j1 ?j2 ?j3 ?j4 ?j5 ?j6 ?j9 ?j10
  case j1 => rfl
  case j2 => rfl
  case j3 => decide
  case j4 => rfl
  case j5 => decide
  case j6 => rfl
  case j10 => intro _; rfl
  case j9 =>
    refine PG.use (g := h26) (PG.name B26.S.hn mt26) kh_rfl ?_
    rintro _ h27 tk27 k27 rfl
    obtain ⟨B27, q27⟩ := B26.keeps k27
    have hTd27 := upL upLS _ _ _ q27 hTd
    have hTk27 := upL upLS _ _ _ q27 hTk26
    obtain ⟨l27, us27, n27, e27, el27, pr27⟩ := id hTk27
    cases e27
    clear B26 k27 q27 hTd hTk26
    show CompAt _ _ _ _ _ _ _ _ _ _ _ { s' with heap := h27, toks := tk27 }
    refine' ⟨List Str, List Str, TTd ns, KLS, KLS, fun _ => true, srt, hid [71, L] h27, upLS, upLS, hid_gh, testOk_nil, ?e, Src.list rfl (isLA el27) hid_gh pr27 (by rw [TTd_len]; omega), ?k⟩
    case e =>
      refine eltOk (fun h xs => KNew h (KStrs (srt xs))) (fun xs v h g' C m hk _ hv kg' kgh hn hm => ?_) (fun h xs y h' g'' ky hnew => ?_)
      · have ok := TTd_ok hk
        exact PG.sortedKey (B27.Gh.up (kh_tr kg' kgh)) (PG.nameR upLS hn hm (upLS _ _ _ _ kgh hv)) (by omega) (by decide +kernel) (by decide +kernel)
      · obtain ⟨⟨l, vs, n, rfl, e, r⟩, l', e', hn'⟩ := ky
        cases e'
        exact ⟨l, vs, n, rfl, hnew _ _ hn' e, r⟩
    case k =>
      intro h28 tk28 D28 g28 ys28 c28 X28 hD28 hDn28 hp28
      refine asg_local B27.S.hn (hideAll_none _ (.tail _ (.head _))) X28 fun h29 tk29 k29 hn29 kk29 => ?_
      obtain ⟨B29, q29⟩ := B27.loc (x := Str.ofString "rows") kk29 hn29
      have hRw : KList KLS ((TTd ns).map srt) (.ref D28) (hid [71, L] h29) := by
        rw [filter_tt] at hp28
        exact ⟨D28, _, _, rfl, B29.S.seq (k29 _ _ hD28) rfl, paired_mono (G := fun v xs => KStrs xs v (hid [71, L] h29)) (fun v xs r => B29.S.kseq (upSs _ _ _ k29 r)) hp28⟩
      have hTd29 := upL upLS _ _ _ q29 hTd27
      have hTk29 := upL upLS _ _ _ q29 hTk27
      obtain ⟨mm29, B29, mt29, md29, mr29⟩ : ∃ mm, LawB w s' g0 L ls vs ns mm D D8 D11 h29 ∧ mm (Str.ofString "taken") = some (.ref D23) ∧ mm (Str.ofString "told") = some (.ref D25) ∧ mm (Str.ofString "rows") = some (.ref D28) := ⟨_, B29, (if_neg (by decide)).trans mt26, (if_neg (by decide)).trans md26, rfl⟩
      clear kk29 hn29 k29 hp28 hD28 hDn28 X28 q29 B27
      show wpAny _ _ _ _ _ { s' with heap := h29, toks := tk29 }
      have Gf : Gl w h29 := B29.Gh.up hid_gh
      have fTk := upL upLS _ _ _ hid_gh hTk29
      have fTd := upL upLS _ _ _ hid_gh hTd29
      have fRw := upL upLS _ _ _ hid_gh hRw
      have upRd : ∀ d, UpK (KRd d) := fun d => upR
      with_reducible refine wpAny_execs_cons ?_
      refine wpAny_If (PT.use (g := h29) (b := false) (PT.eq (PT.or (a := false) (b := false) ?p1 fun _ => PT.eq (PT.or (a := false) (b := false) ?p2 fun _ => PT.orN) rfl) rfl) kh_rfl ?_)
      case p1 => exact PT.cmp (PG.nameK B29.S.hn mt29 (ll_rd fTk) upR) (PG.nameK B29.S.hn md29 (ll_rd fTd) upR) upR fun _ _ _ _ ka kb => ps_neRd ka kb (shaped_ll fun ys hy => (TTd_ok hy).2) (by show 4 + 3 + 64 < cLine; decide +kernel)
      case p2 =>
        refine PT.cmp (PG.nameK B29.S.hn mr29 (ll_rd fRw) upR) (PG.imp (K := KNew h29 (KList KLS (((TTd ns).filter fun _ => true).map srt))) ?cmp fun v h k r => by rw [filter_tt] at r; exact ll_rd r.1) upR fun _ _ _ _ ka kb => ps_neRd ka kb (shaped_ll TTd_srt) (by show 4 + 3 + 64 < cLine; decide +kernel)
        case cmp =>
          refine PG.comp (Kit := KList KLS (TTd ns)) (TTd ns) KLS KLS (fun _ => true) srt upLS upLS (PG.nameK B29.S.hn md29 fTd (upL upLS)) ?src ?t ?e
          case src =>
            rintro xv h2 tk2 k2 ⟨l, us, n, rfl, e, r⟩
            exact Src.list rfl (isLA e) kh_rfl r (by rw [TTd_len]; omega)
          case t => exact fun h2 tk2 k2 => testOk_nil
          case e =>
            intro h2 tk2 k2
            refine eltOk (fun h xs => KNew h (KStrs (srt xs))) (fun xs v h g' C m hk _ hv kg' kgh hn hm => ?_) (fun h xs y h' g'' ky hnew => ?_)
            · have ok := TTd_ok hk
              exact PG.callB1 (Gl.built (Gf.up (kh_tr k2 (kh_tr kg' kgh))) e_sorted b_sorted) (PG.nameR upLS hn hm (upLS _ _ _ _ kgh hv)) upSs fun v h' k kv => (pc_sorted kv (by omega)).imp fun v h' k' kv => ⟨kv.1, by obtain ⟨l, e, hl⟩ := kv.2; exact ⟨l, e, noneOf k hl⟩⟩
            · obtain ⟨⟨l, vs, n, rfl, e, r⟩, l', e', hn'⟩ := ky
              cases e'
              exact ⟨l, vs, n, rfl, hnew _ _ hn' e, r⟩
      intro h30 tk30 k30
      rw [if_neg (by decide)]
      obtain ⟨B30, q30⟩ := B29.keeps k30
      refine wpAny_execs_nil ?_
      have hTk30 := upL upLS _ _ _ q30 hTk29
      have hTd30 := upL upLS _ _ _ q30 hTd29
      have hRw30 := upL upLS _ _ _ q30 hRw
      exact R8p (s' := s') os23 B30 hTk30 hTd30 hRw30 mt29 md29 mr29

end Mine
end
section
open PySem PySem.W PyProof.Rows PySem.Calls
set_option Elab.async false
set_option maxRecDepth 100000
set_option maxHeartbeats 4000000
set_option linter.unusedVariables false
set_option rowWalk.seconds 0
namespace Mine
theorem R6p {w : World} {s : Shared} {fa : Addr} {cd : Value} {ns : List Int} {ls : Addr} {vs : List Value} {g0 : Heap} {L : Nat} {s' : Shared} {h23 : Heap} {tk23 : Nat} {mm23 : Str → Option Value} {D D8 D11 D20 D23 : Addr} (os23 : s'.os = s.os) (B23 : LawB w s' g0 L ls vs ns mm23 D D8 D11 h23) (hTk : KList (fun h v xs => KStrs xs v h) (List.map (toldF ns) (askedF ns)) (.ref D23) (hid [71, L] h23)) (hAs23 : KList (fun _ v k => ∃ t, v = .int ((k : Nat) : Int) t) (askedF ns) (.ref D20) (hid [71, L] h23)) (mt23 : mm23 (Str.ofString "taken") = some (.ref D23)) (ma23 : mm23 (Str.ofString "asked") = some (.ref D20)) : LawG w s fa cd g0 L 9 { s' with heap := h23, toks := tk23 } := by
  dsimp only [LawG, lawEnv, hd.f152]
  conv in (lawB _) => whnf
  show wpAny _ _ _ _ _ { s' with heap := h23, toks := tk23 }
  with_reducible refine wpAny_execs_cons ?_
  with_reducible refine' ccomp_assign ?j1 ?j2 ?j3 ?j4 ?j5 ?j6 ?j7 ?j9 ?j10
  case j1 => rfl
  case j2 => rfl
  case j3 => intro _; rfl
  case j4 => intro _; rfl
  case j5 => rfl
  case j6 => decide
  case j7 => intro _; rfl
  case j10 => intro _; rfl
  case j9 =>
    refine PG.use (g := h23) (PG.name B23.S.hn ma23) kh_rfl ?_
    rintro _ h24 tk24 k24 rfl
    obtain ⟨B24, q24⟩ := B23.keeps k24
    have hTk24 := upL (R := fun h v xs => KStrs xs v h) (fun h h' v xs k r => upSs _ _ _ k r) _ _ _ q24 hTk
    have hAs24 := upL (R := fun _ v (k : Nat) => ∃ t, v = .int (k : Int) t) (fun _ _ _ _ _ r => r) _ _ _ q24 hAs23
    obtain ⟨l24, us24, n24, e24, el24, pr24⟩ := id hAs24
    cases e24
    clear B23 k24 q24 hTk hAs23
    show CompAtC _ _ _ _ _ _ _ _ _ _ _ { s' with heap := h24, toks := tk24 }
    refine' ⟨Nat, List Str, askedF ns, fun _ v (k : Nat) => ∃ t, v = .int (k : Int) t, fun h v xs => KStrs xs v h, fun _ => true, fun k => toldF ns k, hid [71, L] h24, fun _ _ _ _ _ r => r, fun h h' v xs k r => upSs _ _ _ k r, hid_gh, testOkC_nil, ?e, Src.list rfl (isLA el24) hid_gh pr24 (by unfold askedF; rw [List.length_map, askI_len]; omega), ?k⟩
    case e =>
      refine eltOkC (fun h k => KNew h (KStrs (toldF ns k))) (fun k v h g' C hk _ hv kg' kgh hn hc => ?_) (fun h k y h' g'' ky hnew => ?_)
      · obtain ⟨t, rfl⟩ := hv
        have k9 : k < 9 := askedF_lt hk
        have up : KeepsH (hid [71, L] h24) h := kh_tr kg' kgh
        have G := B24.Gh.up up
        have cp := isCell_up B24.cp up
        have cw := isCell_up B24.cw up
        have hP := upL upPl _ _ _ up B24.hP
        have hW := upSs _ _ _ up B24.hW
        have pl := pairsF_len ns
        have hPn : KSeq (fun vs => vs.length = (pairsF ns).length) (.ref D8) h := by
          obtain ⟨l, vs, n, e, x, y⟩ := hP
          exact ⟨l, vs, n, e, x, y.length.trans (List.length_map ..)⟩
        have at1 : ∀ j, j < (pairsF ns).length → ((pairsF ns).map plainF)[j]? = some (plainF ((pairsF ns).getD j (none, none))) := fun j hj => by
          simp [List.getD_eq_getElem?_getD, List.getElem?_eq_getElem hj]
        have at2 : ∀ j, j < (pairsF ns).length → (namesF ns)[j]? = some (nameF ((pairsF ns).getD j (none, none)).1 ((pairsF ns).getD j (none, none)).2) := fun j hj => by
          unfold namesF
          simp [List.getD_eq_getElem?_getD, List.getElem?_eq_getElem hj]
        refine PG.imp (K := KNew h (KList (fun _ v (x : Str) => ∃ t, v = .str x t) (((List.range (pairsF ns).length).filter fun j => meansF k (((pairsF ns).getD j (none, none)).1.getD (S "C")) ((pairsF ns).getD j (none, none)).2).map fun j => nameF ((pairsF ns).getD j (none, none)).1 ((pairsF ns).getD j (none, none)).2))) ?cmp fun v h' kk r => ?fin
        case fin =>
          obtain ⟨⟨l, vs, n, e, x, y⟩, r2⟩ := r
          refine ⟨⟨l, vs, n, e, x, ?_⟩, r2⟩
          rw [← told_means ns k9, ← range_filter (none, none) (fun p => meansF k (p.1.getD (S "C")) p.2) (fun p => nameF p.1 p.2)]
          exact paired_strs y
        case cmp =>
          refine PG.comp (Kit := KRange (pairsF ns).length) (List.range (pairsF ns).length) (fun _ v (j : Nat) => ∃ t, v = .int (j : Int) t) (fun _ v (x : Str) => ∃ t, v = .str x t) (fun j => meansF k (((pairsF ns).getD j (none, none)).1.getD (S "C")) ((pairsF ns).getD j (none, none)).2) (fun j => nameF ((pairsF ns).getD j (none, none)).1 ((pairsF ns).getD j (none, none)).2) (fun _ _ _ _ _ r => r) (fun _ _ _ _ _ r => r)
            (PG.range G (PG.len (c := (pairsF ns).length) G (PG.cellK cp hPn upQ) (fun _ h => h) (by omega))) ?src ?t ?e
          case src =>
            rintro xv h2 tk2 k2 ⟨r, t, u, x, rfl, hr⟩
            exact Src.range rfl hr (by omega)
          case t =>
            intro h2 tk2 k2
            refine testOk_one fun j v h3 g' C m hj ⟨t3, hv⟩ kg' kgh hn hm => ?_
            have hj := List.mem_range.mp hj
            have up := kh_tr k2 (kh_tr kg' kgh)
            have G3 := G.up up
            refine PT.plain (Gl.call G3 f_111 (o_111 G3) (PA.three (K := KInt (k : Int)) (K' := KStr (((pairsF ns).getD j (none, none)).1.getD (S "C"))) (K'' := fun v _ => OptIs ((pairsF ns).getD j (none, none)).2 v) ?b1 upI ?b2 upS ?b3 (fun _ _ _ _ r => r)) fun vs h' kk ⟨v1, v2, v3, e, r1, r2, r3⟩ => by subst e; exact pc_means w _ _ _ _ _ h' v1 v2 v3 k _ _ (G3.up kk) k9 r1 r2 r3 (by decide +kernel) (by decide +kernel))
            case b1 => exact PG.cellK (isCell_up hc up) ⟨t, rfl⟩ upI
            case b2 =>
              refine PG.itemP (R := fun _ v o => OptIs o v) (as := [some (((pairsF ns).getD j (none, none)).1.getD (S "C")), ((pairsF ns).getD j (none, none)).2]) (k := 0) (x := some (((pairsF ns).getD j (none, none)).1.getD (S "C"))) (fun _ _ _ _ _ r => r) ?pj (PG.int (i := 0)) rfl (by decide)
              case pj => exact PG.itemP (R := PlR) (k := j) upPl (PG.cellK (isCell_up cp up) (upL upPl _ _ _ up hP) (upL upPl)) (PG.nameK hn hm ⟨t3, hv⟩ upI) (at1 j hj) (by omega)
            case b3 =>
              refine PG.itemP (R := fun _ v o => OptIs o v) (as := [some (((pairsF ns).getD j (none, none)).1.getD (S "C")), ((pairsF ns).getD j (none, none)).2]) (k := 1) (x := ((pairsF ns).getD j (none, none)).2) (fun _ _ _ _ _ r => r) ?pj (PG.int (i := 1)) rfl (by decide)
              case pj => exact PG.itemP (R := PlR) (k := j) upPl (PG.cellK (isCell_up cp up) (upL upPl _ _ _ up hP) (upL upPl)) (PG.nameK hn hm ⟨t3, hv⟩ upI) (at1 j hj) (by omega)
          case e =>
            intro h2 tk2 k2
            refine eltOk (fun _ j => KStr (nameF ((pairsF ns).getD j (none, none)).1 ((pairsF ns).getD j (none, none)).2)) (fun j v h3 g' C m hj _ ⟨t3, hv⟩ kg' kgh hn hm => ?_) (fun _ _ _ _ _ h _ => h)
            have hj := List.mem_range.mp hj
            have up := kh_tr k2 (kh_tr kg' kgh)
            exact PG.item (PG.cellK (isCell_up cw up) (upSs _ _ _ up hW) upSs) (PG.nameK hn hm ⟨t3, hv⟩ upI) (at2 j hj) (by omega)
      · obtain ⟨⟨l, vs, n, rfl, e, r⟩, l', e', hn'⟩ := ky
        cases e'
        exact ⟨l, vs, n, rfl, hnew _ _ hn' e, r⟩
    case k =>
      intro h25 tk25 D25 g25 ys25 c25 X25 hD25 hDn25 hp25
      refine asg_local B24.S.hn (hideAll_none _ (.tail _ (.head _))) X25 fun h26 tk26 k26 hn26 kk26 => ?_
      obtain ⟨B26, q26⟩ := B24.loc (x := Str.ofString "told") kk26 hn26
      have hTd : KList (fun h v xs => KStrs xs v h) ((askedF ns).map (toldF ns)) (.ref D25) (hid [71, L] h26) := by
        rw [filter_tt] at hp25
        exact ⟨D25, _, _, rfl, B26.S.seq (k26 _ _ hD25) rfl, paired_mono (G := fun v xs => KStrs xs v (hid [71, L] h26)) (fun v xs r => B26.S.kseq (upSs _ _ _ k26 r)) hp25⟩
      have hTk26 := upL (R := fun h v xs => KStrs xs v h) (fun h h' v xs k r => upSs _ _ _ k r) _ _ _ q26 hTk24
      obtain ⟨mm26, B26, mt26, md26⟩ : ∃ mm, LawB w s' g0 L ls vs ns mm D D8 D11 h26 ∧ mm (Str.ofString "taken") = some (.ref D23) ∧ mm (Str.ofString "told") = some (.ref D25) := ⟨_, B26, (if_neg (by decide)).trans mt23, rfl⟩
      clear kk26 hn26 k26 hp25 hD25 hDn25 X25 q26 B24
      exact R7p (s' := s') os23 B26 hTd hTk26 mt26 md26

end Mine
end
section
open PySem PySem.W PyProof.Rows PySem.Calls
set_option Elab.async false
set_option maxRecDepth 100000
set_option maxHeartbeats 4000000
set_option linter.unusedVariables false
set_option rowWalk.seconds 0
namespace Mine
theorem R5p {w : World} {s : Shared} {fa : Addr} {cd : Value} {ns : List Int} {ls : Addr} {vs : List Value} {g0 : Heap} {L : Nat} {h21 : Heap} {tk21 : Nat} {mm1 : Str → Option Value} {D D8 D11 D20 : Addr} (B21 : LawB w s g0 L ls vs ns (fun z => if z = Str.ofString "asked" then some (.ref D20) else mm1 z) D D8 D11 h21) (hAs : KList (fun _ v k => ∃ t, v = .int ((k : Nat) : Int) t) (askedF ns) (.ref D20) (hid [71, L] h21)) : LawG w s fa cd g0 L 8 { s with heap := h21, toks := tk21 } := by
  dsimp only [LawG, lawEnv, hd.f152]
  conv in (lawB _) => whnf
  show wpAny _ _ _ _ _ { s with heap := h21, toks := tk21 }
  obtain ⟨mm, B21, ma⟩ : ∃ mm, LawB w s g0 L ls vs ns mm D D8 D11 h21 ∧ mm (Str.ofString "asked") = some (.ref D20) := ⟨_, B21, rfl⟩
  with_reducible refine wpAny_execs_cons ?_
  with_reducible refine' jcomp_assign ?j1 ?j2 ?j3 ?j4 ?j5 ?j6 ?j7 ?j8 ?j9 ?j10
  case j1 => rfl
  case j2 => rfl
  case j3 => decide
  case j4 => rfl
  case j5 => decide
  case j6 => rfl
  case j7 => rfl
  case j8 => rfl
  case j10 => intro _; rfl
  case j9 =>
    refine PG.use (g := h21) (PG.name B21.S.hn ma) kh_rfl ?_
    rintro _ h22 tk22 k22 rfl
    obtain ⟨B22, q22⟩ := B21.keeps k22
    have hAs22 := upL (R := fun _ v (k : Nat) => ∃ t, v = .int (k : Int) t) (fun _ _ _ _ _ r => r) _ _ _ q22 hAs
    obtain ⟨l22, us22, n22, e22, el22, pr22⟩ := id hAs22
    cases e22
    clear B21 k22 q22 hAs
    have neT := B22.S.neT
    show JCompAt _ _ _ _ _ _ _ _ _ _ _ { s with heap := h22, toks := tk22 }
    refine' ⟨Nat, List Str, askedF ns, fun _ v (k : Nat) => ∃ t, v = .int (k : Int) t, fun h v xs => KStrs xs v h, fun k => (namesF ns).filter (takenF sgF (partsOf.getD k [])), hid [71, L] h22,
      fun s' => AllBare s'.gens ∧ s'.os = s.os ∧ (∃ ps, s'.heap.get? 71 = some (tabObj ps) ∧ TriplesOk ps.toList) ∧ KeepBut [71] h22 s'.heap, mm, [71], fun _ _ _ _ _ r => r, fun h h' v xs k r => upSs _ _ _ k r, hid_gh, ?mt, ?hJ, ⟨B22.bare, rfl, B22.S.tab, fun _ _ _ e => e⟩, ?hns, hideAll_none _ (.tail _ (.head _)), Src.list rfl (isLA el22) hid_gh pr22 (by unfold askedF; rw [List.length_map, askI_len]; omega), ?he, ?hfin⟩
    case mt =>
      intro b hb
      rw [List.mem_singleton.mp hb]
      exact ⟨hideAll_none _ (.head _), by obtain ⟨ps, e, _⟩ := B22.S.tab; exact ⟨_, e⟩⟩
    case hJ =>
      rintro s' h tk ⟨j1, j2, ⟨ps, j3, j4⟩, j5⟩ k
      exact ⟨j1, j2, ⟨ps, k _ _ (by obtain ⟨ps, e, _⟩ := B22.S.tab; exact ⟨_, e⟩) j3, j4⟩, fun b o hb e => k b o ⟨o, e⟩ (j5 b o hb e)⟩
    case hns =>
      rintro s' ⟨j1, j2, j3, j5⟩
      exact B22.S.hn.at' fun o e => j5 _ o (by simpa using Ne.symm neT) e
    case he =>
      rintro k v s' g' C m E' hk ⟨t, rfl⟩ X hmt' ⟨j1, j2, ⟨ps, j3, j4⟩, j5⟩ hC hCs hm hv
      have Gg : Gl w g' := B22.Gh.up X.gg
      have G' : Gl w s'.heap := Gg.up X.gh
      have k9 : k < 9 := askedF_lt hk
      have cn' := isCell_up B22.cn (kh_tr X.gg X.gh)
      have hN' := upSs _ _ _ (kh_tr X.gg X.gh) B22.hN
      show wpAny _ _ _ _ _ { s' with heap := s'.heap, toks := s'.toks }
      refine Call_ ((Gl.fn G' f_123).run s'.heap s'.toks _ _ kh_rfl fun u h23 tk23 k23 hu => ?_)
      subst hu
      have G23 := G'.up k23
      obtain ⟨o, fd, ho, hd⟩ := o_123 G23
      obtain ⟨o2, fd2, ho2, hd2⟩ := o_104 G23
      refine callWith_def_at ho hd (PA.run (PA.two (K := KStr (pats.getD k Str.empty)) (K' := KStrs (namesF ns)) ?a1 upS ?a2 upSs) h23 tk23 _ _ kh_rfl fun us h24 tk24 k24 hus => ⟨k24 _ _ ho, ?_⟩)
      case a1 => exact PG.item (PG.callD0 (Gl.fn G23 f_104) ho2 hd2 fun h' k' => patterns_spec w _ _ _ _ _ h' (G23.up k') (by decide +kernel) (by decide +kernel)) (PG.nameK (hm.keeps k23) hv ⟨t, rfl⟩ upI) (getD_at (by show k < 9; exact k9)) (by omega)
      case a2 => exact PG.cellK (isCell_up cn' k23) (upSs _ _ _ k23 hN') upSs
      obtain ⟨v1, v2, rfl, ⟨t1, rfl⟩, ⟨ln, vn, nn, rfl, eln, hns⟩⟩ := hus
      obtain ⟨loose, mean, mg, mb, X0, T0⟩ := Gg
      have k0 : KeepsH s'.heap h24 := kh_tr k23 k24
      refine taken_k w _ _ _ _ { s' with heap := h24, toks := tk24 } _ _ loose mean mg mb t1 g' ps k k9 ln vn nn ns X0 T0 ((B22.C.keeps B22.S.kg).keeps X.gg) (kh_tr X.gh k0) (hmt' 71 (.head _)) (k0 _ _ j3) j4 j1 (by decide +kernel) (by decide +kernel) eln hns fun l s3 r => ?_
      obtain ⟨vs3, n3, el3, hv3⟩ := r.lst
      have nl : s'.heap.get? l = none := noneOf k0 r.new
      have kg3 : KeepsH g' s3.heap := fun b o e => r.kb b o (fun q => by rw [q, hmt' 71 (.head _)] at e; cases e) (k0 _ _ (X.gh _ _ e))
      refine ⟨addG g' s3.heap l, ⟨addG_gg kg3, addG_gh, fun b o m e => r.kb b o (by simpa using m) (k0 _ _ e), fun b n ⟨o, e⟩ => addG_no (fun q => by rw [q, nl] at e; cases e) n, fun b hb _ => ?_⟩, ⟨r.bare, r.os.trans j2, r.tab, fun b o m e => r.kb b o (by simpa using m) (k0 _ _ (j5 b o m e))⟩, ⟨l, vs3, n3, rfl, addG_at el3, hv3⟩⟩
      rw [List.mem_singleton.mp hb]
      obtain ⟨ps3, e3, _⟩ := r.tab
      exact ⟨_, e3⟩
    case hfin =>
      rintro s' D23 g23 ys c h23 tk23 X ⟨j1, j2, ⟨ps, j3, j4⟩, j5⟩ hD hDs hp k1 k2 hn23
      have k2' : ∀ b o, b ≠ L → b ≠ 71 → h22.get? b = some o → h23.get? b = some o := fun b o hb hb' e => k2 b o hb ⟨o, e⟩ (j5 b o (by simpa using hb') e)
      have t23 : ∃ ps, h23.get? 71 = some (tabObj ps) ∧ TriplesOk ps.toList := ⟨ps, k2 71 _ neT (by obtain ⟨ps, e, _⟩ := B22.S.tab; exact ⟨_, e⟩) j3, j4⟩
      obtain ⟨B23, q23⟩ := B22.loc71 (x := Str.ofString "taken") (s' := s') k2' t23 hn23 j1
      have hTk : KList (fun h v xs => KStrs xs v h) ((askedF ns).map (toldF ns)) (.ref D23) (hid [71, L] h23) := ⟨D23, _, _, rfl, B23.S.seq (k1 _ _ hD) rfl, by
        exact paired_mono (G := fun v xs => KStrs xs v (hid [71, L] h23)) (fun v xs r => B23.S.kseq (upSs _ _ _ k1 r)) hp⟩
      have os23 : s'.os = s.os := j2
      have hAs23 := upL (R := fun _ v (k : Nat) => ∃ t, v = .int (k : Int) t) (fun _ _ _ _ _ r => r) _ _ _ q23 hAs22
      obtain ⟨mm23, B23, mt23, ma23⟩ : ∃ mm, LawB w s' g0 L ls vs ns mm D D8 D11 h23 ∧ mm (Str.ofString "taken") = some (.ref D23) ∧ mm (Str.ofString "asked") = some (.ref D20) := ⟨_, B23, rfl, (if_neg (by decide)).trans ma⟩
      clear k1 k2 k2' t23 hp hD hDs X hn23 j1 j2 j3 j4 j5 q23 B22 hAs22
      exact R6p (s := s) (s' := s') os23 B23 hTk hAs23 mt23 ma23

end Mine
end
section
open PySem PySem.W PyProof.Rows PySem.Calls
set_option Elab.async false
set_option maxRecDepth 100000
set_option maxHeartbeats 4000000
set_option linter.unusedVariables false
set_option rowWalk.seconds 0
namespace Mine
theorem R4p {w : World} {s : Shared} {fa : Addr} {cd : Value} {ns : List Int} {ls : Addr} {vs : List Value} {g0 : Heap} {L : Nat} {h18 : Heap} {tk18 : Nat} {mm : Str → Option Value} {D D8 D11 : Addr} (B18 : LawB w s g0 L ls vs ns mm D D8 D11 h18) : LawG w s fa cd g0 L 7 { s with heap := h18, toks := tk18 } := by
  dsimp only [LawG, lawEnv, hd.f152]
  conv in (lawB _) => whnf
  show wpAny _ _ _ _ _ { s with heap := h18, toks := tk18 }
  obtain ⟨mm, B18⟩ : ∃ mm, LawB w s g0 L ls vs ns mm D D8 D11 h18 := ⟨_, B18⟩
  have Gf : Gl w h18 := B18.Gh.up hid_gh
  have hsc : KInts ns (.ref ls) h18 := ⟨ls, _, _, rfl, hid_gh _ _ (B18.S.kg _ _ B18.li), B18.hI⟩
  have hlen := B18.len
  with_reducible refine wpAny_execs_cons ?_
  with_reducible refine' gcomp_assign ?j1 ?j2 ?j3 ?j4 ?j5 ?j6 ?j9 ?j10
  case j1 => rfl
  case j2 => rfl
  case j3 => decide
  case j4 => rfl
  case j5 => decide
  case j6 => rfl
  case j10 => intro _; rfl
  case j9 =>
    have t2 : ∀ vs : Array Value, IntsAre vs.toList ns → IntsAre (slicePick vs none (some 2) none).toList (ns.take 2) := fun vs h => by
      rw [show (some (2 : Int)) = some ((2 : Nat) : Int) from rfl, slicePick_upto']; exact h.take 2
    have sz : ∀ vs : List Value, IntsAre vs ns → vs.length ≤ sizeLine := fun vs h => by rw [h.length, PySem.sizeLine_eq]; omega
    refine PG.use (g := h18) (K := KNew h18 (KInts (askI ns))) ?src kh_rfl ?_
    case src =>
      refine PG.bin (K₁ := KNew h18 (KInts (ns.take 2))) (K₂ := KNew h18 (KInts (([5, 6] : List Int).drop (ns.take 2).length))) (PG.slice (P := fun vs => IntsAre vs ns) (P' := fun vs => IntsAre vs (ns.take 2)) (PG.nameK B18.S.hn B18.sc hsc upIs) PP.none (PP.some PG.int) PP.none (by simp) sz t2) ?snd (upNew upIs) fun o j h' k9 ho hj => (ps_addL ho.1 hj.1 (P'' := fun vs => IntsAre vs (askI ns)) (fun _ _ x y => x.append y) fun vs ws x y => ?len).imp fun v h k kk => ⟨kk.1, ?nn⟩
      case len => rw [x.length, y.length, PySem.sizeLine_eq]; simp; omega
      case nn => obtain ⟨l, e, hl⟩ := kk.2; exact ⟨l, e, noneOf k9 hl⟩
      case snd =>
        refine PG.slice (P := fun vs => IntsAre vs [5, 6]) (P' := fun vs => IntsAre vs (([5, 6] : List Int).drop (ns.take 2).length)) ?l56 (PP.some ?ln) PP.none PP.none (by simp) (fun vs h => by rw [h.length, PySem.sizeLine_eq]; simp) (fun vs h => by rw [slicePick_from']; exact h.drop _)
        case l56 => exact (PG.intList [(5, _), (6, _)] rfl rfl (by decide)).imp fun _ _ _ k => k.1
        case ln => exact PG.len (c := (ns.take 2).length) Gf ((PG.slice (P := fun vs => IntsAre vs ns) (P' := fun vs => IntsAre vs (ns.take 2)) (PG.nameK B18.S.hn B18.sc hsc upIs) PP.none (PP.some PG.int) PP.none (by simp) sz t2).imp fun _ _ _ k => k.1) (fun _ h => IntsAre.length h) (by simp; omega)
    rintro xv h19 tk19 k19 ⟨⟨l19, us19, n19, rfl, e19, r19⟩, _⟩
    obtain ⟨B19, q19⟩ := B18.keeps k19
    clear B18 Gf hsc k19 q19 t2 sz
    show CompAt _ _ _ _ _ _ _ _ _ _ _ { s with heap := h19, toks := tk19 }
    refine' ⟨Int, Nat, askI ns, fun _ v (x : Int) => ∃ t, v = .int x t, fun _ v (k : Nat) => ∃ t, v = .int (k : Int) t, fun _ => true, fun x => (x % 9).toNat, hid [71, L] h19, fun _ _ _ _ _ r => r, fun _ _ _ _ _ r => r, hid_gh, testOk_nil, ?e, Src.list rfl (isLA (B19.S.seq e19 rfl)) hid_gh (ints_paired r19) (by rw [askI_len]; omega), ?k⟩
    case e =>
      refine eltOk (fun _ x => KInt (((x % 9).toNat : Nat) : Int)) (fun x v h g' C m hk _ hv kg' kgh hn hm => ?_) (fun _ _ _ _ _ h _ => h)
      rw [← fmodN x (by decide)]
      exact PG.bin (PG.nameK hn hm hv (upI (i := x))) PG.int upI fun _ _ _ _ ka kb => ps_mod ka kb (by decide)
    case k =>
      intro h20 tk20 D20 g20 ys20 c20 X20 hD20 hDn20 hp20
      refine asg_local B19.S.hn (hideAll_none _ (.tail _ (.head _))) X20 fun h21 tk21 k21 hn21 kk21 => ?_
      obtain ⟨B21, q21⟩ := B19.loc (x := Str.ofString "asked") kk21 hn21
      have hAs : KList (fun _ v (k : Nat) => ∃ t, v = .int (k : Int) t) (askedF ns) (.ref D20) (hid [71, L] h21) := by
        rw [filter_tt] at hp20
        exact ⟨D20, _, _, rfl, B21.S.seq (k21 _ _ hD20) rfl, by simpa [askedF] using hp20⟩
      clear kk21 hn21 k21 hp20 hD20 hDn20 X20 q21 B19 e19 r19
      exact R5p (s := s) B21 hAs

end Mine
end
section
open PySem PySem.W PyProof.Rows PySem.Calls
set_option Elab.async false
set_option maxRecDepth 100000
set_option maxHeartbeats 4000000
set_option linter.unusedVariables false
set_option rowWalk.seconds 0
namespace Mine
theorem R3p {w : World} {s : Shared} {fa : Addr} {cd : Value} {ns : List Int} {ls : Addr} {vs : List Value} {g0 : Heap} {L : Nat} {h17 : Heap} {tk17 : Nat} {mm : Str → Option Value} {D D8 D11 D16 : Addr} {tw : Tok} (mw : mm (Str.ofString "words") = some (.str words tw)) (B17 : LawB w s g0 L ls vs ns (fun z => if z = Str.ofString "refused" then some (.ref D16) else mm z) D D8 D11 h17) (hRf : KStrs [words, words, words, words, words] (.ref D16) (hid [71, L] h17)) (hWd : KStr words (.str words tw) h17) : LawG w s fa cd g0 L 6 { s with heap := h17, toks := tk17 } := by
  dsimp only [LawG, lawEnv, hd.f152]
  conv in (lawB _) => whnf
  show wpAny _ _ _ _ _ { s with heap := h17, toks := tk17 }
  have Gf : Gl w h17 := B17.Gh.up hid_gh
  have cn := isCell_up B17.cn hid_gh
  have cw := isCell_up B17.cw hid_gh
  have hN := upSs _ _ _ hid_gh B17.hN
  have hW := upSs _ _ _ hid_gh B17.hW
  have hR := upSs _ _ _ hid_gh hRf
  with_reducible refine wpAny_execs_cons ?_
  refine wpAny_If (PT.use (g := h17) (b := false) (PT.eq (PT.or (a := false) (b := false) ?p1 fun _ => PT.eq (PT.or (a := false) (b := false) ?p2 fun _ => PT.eq (PT.or (a := false) (b := false) ?p3 fun _ => PT.orN) rfl) rfl) rfl) kh_rfl ?_)
  case p1 => exact PT.eq (PT.cmp (PG.cellK cn hN upSs) (PG.cellK cw hW upSs) upSs fun _ _ _ _ ka kb => ps_neS ka kb (namesF_ok ns) (namesF_ok ns) (by show 4 + 3 + 64 < cLine; decide +kernel)) (by simp)
  case p2 =>
    refine PT.eq (PT.cmp (K₁ := KStr (nameF (some Str.empty) (some (Str.ofString "EUC")))) ?c1 PG.str upS fun _ _ _ _ ka kb => ps_neStr ka kb) (by decide +kernel)
    case c1 =>
      refine Gl.call Gf f_52 (o_52 Gf) (PA.one (K := fun v h => PRel h v (some Str.empty, some (Str.ofString "EUC"))) ((PG.list2 PG.str upS PG.str upS).imp fun v h k r => ?pr) (fun v h h' k r => upPR h h' v _ k r)) fun vs h' k ⟨v, e, hv⟩ => by subst e; exact pc_bl w _ _ _ _ _ h' v (some Str.empty, some (Str.ofString "EUC")) (Gf.up k) hv (by decide +kernel) (by decide +kernel) (by decide +kernel) (by decide +kernel)
      case pr =>
        obtain ⟨a, v1, v2, e, _, q, ⟨t1, e1⟩, ⟨t2, e2⟩⟩ := r
        exact ⟨a, e, v1, v2, ⟨t1, e1⟩, ⟨t2, e2⟩, .inr (isLA q)⟩
  case p3 =>
    refine PT.eq (PT.cmp (K₂ := KStrs [words, words, words, words, words]) (PG.nameK B17.S.hn rfl hR upSs) (PG.bin (K₁ := KStrs [words]) (PG.imp (K := KNew h17 (KList (fun _ v (x : Str) => ∃ t, v = .str x t) [words])) (PG.listP (fun _ _ _ _ _ r => r) (PA.pcons (fun _ _ _ _ _ r => r) (PG.nameK B17.S.hn mw ⟨tw, rfl⟩ upS) PA.pnil)) fun v h k ⟨⟨l, us, n, e, q, r⟩, _⟩ => ⟨l, us, n, e, q, paired_strs r⟩) PG.int upSs fun _ _ _ _ ka kb => ps_rep5 ka kb) upSs fun _ _ _ _ ka kb => ps_neS ka kb words_ok words_ok (by show 4 + 3 + 64 < cLine; decide +kernel)) (by simp)
  intro h18 tk18 k18
  rw [if_neg (by decide)]
  obtain ⟨B18, q18⟩ := B17.keeps k18
  refine wpAny_execs_nil ?_
  clear B17 hRf hWd Gf cn cw hN hW hR q18 k18
  exact R4p (s := s) B18

end Mine
end
section
open PySem PySem.W PyProof.Rows PySem.Calls
set_option Elab.async false
set_option maxRecDepth 100000
set_option maxHeartbeats 4000000
set_option linter.unusedVariables false
set_option rowWalk.seconds 0
namespace Mine
theorem R2p {w : World} {s : Shared} {fa : Addr} {cd : Value} {ns : List Int} {ls : Addr} {vs : List Value} {g0 : Heap} {L : Nat} {h12 : Heap} {tk12 : Nat} {mm : Str → Option Value} {D D8 D11 : Addr} (B : LawB w s g0 L ls vs ns mm D D8 D11 h12) : LawG w s fa cd g0 L 4 { s with heap := h12, toks := tk12 } := by
  dsimp only [LawG, lawEnv, hd.f152]
  conv in (lawB _) => whnf
  show wpAny _ _ _ _ _ { s with heap := h12, toks := tk12 }
  with_reducible refine wpAny_execs_cons ?_
  refine B.asg PG.str rfl ?_
  rintro v h13 h14 tk14 B13 q13 q14 ⟨tw, rfl⟩ B14
  clear B B13 q13 q14
  with_reducible refine wpAny_execs_cons ?_
  with_reducible refine' jcomp_assign ?j1 ?j2 ?j3 ?j4 ?j5 ?j6 ?j7 ?j8 ?j9 ?j10
  case j1 => rfl
  case j2 => rfl
  case j3 => decide
  case j4 => rfl
  case j5 => decide
  case j6 => rfl
  case j7 => rfl
  case j8 => rfl
  case j10 => intro _; rfl
  case j9 =>
    have uB : Up (fun h v (_ : Unit) => Bad v h) := fun h h' v _ k r => r.up k
    refine PG.use (g := h14) (PG.listP (R := fun h v (_ : Unit) => Bad v h) (as := [(), (), (), (), ()]) uB (PA.pcons uB ?a1 (PA.pcons uB ?a2 (PA.pcons uB ?a3 (PA.pcons uB ?a4 (PA.pcons uB ?a5 PA.pnil)))))) kh_rfl ?_
    case a1 => exact PG.tup0.imp fun v h k ⟨a, e, t⟩ => .zero a _ e t rfl
    case a2 => exact (PG.tup1 PG.str upS).imp fun v h k ⟨a, v1, e, t⟩ => .one a _ e t rfl
    case a3 =>
      refine PG.imp (K := KNew h14 (KList (fun _ v (x : Str) => ∃ t, v = .str x t) [Str.ofString "de", Str.ofString "EUC", Str.ofString "C"])) ?b3 fun v h k r => ?c3
      case c3 =>
        obtain ⟨⟨l, vs, n, e, q, r⟩, _⟩ := r
        have h3 : vs.toList.length = 3 := r.length
        exact Bad.three l vs e (isLA q) (Array.length_toList ▸ h3)
      case b3 =>
        refine PG.listP (R := fun _ v (x : Str) => ∃ t, v = .str x t) (as := [Str.ofString "de", Str.ofString "EUC", Str.ofString "C"]) (fun _ _ _ _ _ r => r) ?b4
        refine PA.pcons (a := Str.ofString "de") (as := [Str.ofString "EUC", Str.ofString "C"]) (fun _ _ _ _ _ r => r) PG.str ?b5
        refine PA.pcons (a := Str.ofString "EUC") (as := [Str.ofString "C"]) (fun _ _ _ _ _ r => r) PG.str ?b6
        exact PA.pcons (a := Str.ofString "C") (as := []) (fun _ _ _ _ _ r => r) PG.str PA.pnil
    case a4 => exact PG.int.imp fun v h k ⟨t, e⟩ => .int _ t e
    case a5 => exact (PG.tuple2 PG.str upS PG.int upI).imp fun v h k ⟨a, v1, v2, e, _, t, ⟨t1, e1⟩, ⟨t2, e2⟩⟩ => by subst e1 e2; exact Bad.five a (Str.ofString "de") 7 t1 t2 e t (by decide +kernel)
    rintro xv h15 tk15 k15 ⟨⟨l15, us, n15, rfl, e15, r15⟩, l', e', hl'⟩
    cases e'
    obtain ⟨B15, q15⟩ := B14.keeps k15
    clear B14 q15 hl' k15
    obtain ⟨mm, B15, mw⟩ : ∃ mm, LawB w s g0 L ls vs ns mm D D8 D11 h15 ∧ mm (Str.ofString "words") = some (.str words tw) := ⟨_, B15, rfl⟩
    show JCompAt _ _ _ _ _ _ _ _ _ _ _ { s with heap := h15, toks := tk15 }
    refine' ⟨Unit, Str, [(), (), (), (), ()], fun h v _ => Bad v h, fun _ v x => ∃ t, v = .str x t, fun _ => words, hid [71, L] h15, fun s' => ∃ h tk, s' = { s with heap := h, toks := tk } ∧ Slk [L] [] h15 h, mm, [L], uB, fun _ _ _ _ _ r => r, hid_gh, ?mt, ?hJ, ⟨h15, tk15, rfl, .of fun _ _ _ e => e⟩, ?hns, hideAll_none _ (.tail _ (.head _)), Src.list rfl (isLA (B15.S.seq e15 rfl)) hid_gh (paired_mono (fun v _ r => B15.S.bad r) r15) (by simp), ?he, ?hfin⟩
    case hns =>
      rintro s' ⟨h', tk', rfl, sk⟩
      exact sk.ns (by simp) B15.S.hn
    case mt =>
      intro b hb
      rw [List.mem_singleton.mp hb]
      exact ⟨hideAll_none _ (by simp), by obtain ⟨o, _, _, e, _⟩ := B15.S.hn; exact ⟨o, e⟩⟩
    case hJ =>
      rintro s' h tk ⟨h', tk', rfl, sk⟩ k
      exact ⟨h, tk, rfl, ⟨fun b o a b' e => k b o ⟨o, e⟩ (sk.keep b o a b' e), fun b o a e => let ⟨sl, e'⟩ := sk.slot b o a e; ⟨sl, k b _ ⟨o, e⟩ e'⟩⟩⟩
    case he =>
      rintro a v s' g' C m E' ha hR X hmt' ⟨h16, tk16, rfl, sk⟩ hC hCs hm hv
      have G16 : Gl w h16 := B15.Gh.up (kh_tr X.gg X.gh)
      have nL : g'.get? L = none := hmt' L (by simp)
      refine Call_ ((Gl.fn G16 f_142).run h16 tk16 _ _ kh_rfl fun u h17 tk17 k17 hu => ?_)
      subst hu
      obtain ⟨o, fd, ho, hd⟩ := o_142 (G16.up k17)
      refine callWith_def_at ho hd (spliced_more ((PG.name (hm.keeps k17) hv).run h17 tk17 _ _ kh_rfl fun u h18 tk18 k18 hu => spliced_none ⟨k18 _ _ ho, ?_⟩))
      subst hu
      have k16 := kh_tr k17 k18
      have n18 : h18.Ns L _ := (sk.ns (by simp) B15.S.hn).keeps k16
      refine refused_spec w _ _ _ _ s h18 tk18 g' u _ _ (kh_tr X.gh k16) (B15.Gh.up X.gg) ?gfs (frs_cons (by show ScopeKind.function ≠ ScopeKind.module; decide) rfl n18 trivial) (hR.up (kh_tr X.gh k16)) (by decide +kernel) (by decide +kernel) fun u h19 tk19 sk19 hu => ?_
      case gfs =>
        intro b hb
        rw [List.mem_singleton.mp hb]; exact nL
      have nb : ∀ b o, g'.get? b = some o → b ∉ [L] := fun b o e q => by rw [List.mem_singleton.mp q, nL] at e; cases e
      refine ⟨g', ⟨kh_rfl, fun b o e => sk19.keep b o (by simp) (nb b o e) (k16 _ _ (X.gh b o e)), fun b o m e => sk19.keep b o (by simp) m (k16 _ _ e), fun b n _ => n, fun b hb ⟨o, e⟩ => ?_⟩, ⟨h19, tk19, rfl, sk.trans ((Slk.of fun b o _ e => k16 b o e).trans sk19)⟩, hu⟩
      obtain ⟨sl, e'⟩ := sk19.slot b o (by simp) (k16 _ _ e)
      exact ⟨_, e'⟩
    case hfin =>
      rintro s' D16 g16 ys c h17 tk17 X ⟨h16, tk16, rfl, sk⟩ hD hDs hp k1 k2 hn17
      obtain ⟨B17, q17⟩ := B15.loc (x := Str.ofString "refused") (fun b o hb e => k2 b o hb ⟨o, e⟩ (sk.keep b o (by simp) (by simpa using hb) e)) hn17
      have hRf : KStrs [words, words, words, words, words] (.ref D16) (hid [71, L] h17) := B17.S.kseq ⟨D16, _, _, rfl, k1 _ _ hD, paired_strs hp⟩
      have hWd : KStr words (.str words tw) h17 := ⟨tw, rfl⟩
      clear k1 k2 hn17 sk hp hD hDs X q17 B15 e15 r15
      exact R3p (s := s) mw B17 hRf hWd

end Mine
end
section
open PySem PySem.W PyProof.Rows PySem.Calls
set_option Elab.async false
set_option maxRecDepth 100000
set_option maxHeartbeats 4000000
set_option linter.unusedVariables false
set_option rowWalk.seconds 0
namespace Mine
theorem R1p {w : World} {s : Shared} {fa : Addr} {cd : Value} {ns : List Int} {ls : Addr} {vs : List Value} {g0 : Heap} {L : Nat} {h : Heap} {tk : Nat} {m0 : Str → Option Value} (I : LawIn w s g0 L ls vs ns m0 h) : LawG w s fa cd g0 L 0 { s with heap := h, toks := tk } := by
  dsimp only [LawG, lawEnv, hd.f152]
  conv in (lawB _) => whnf
  have S := I.start
  have Gh : Gl w h := I.G.up I.kg
  refine wpAny_execs_cons (asg_pure (h₀ := h) (K := KList PRel (pairsF ns)) ?x kh_rfl S.hn ?c)
  case x => exact Gl.call Gh f_97 (o_97 Gh) (PA.one (PG.nameK S.hn I.sc (K := KInts ns) ⟨ls, _, _, rfl, I.kg _ _ I.li, I.hI⟩ upIs) upIs) fun vs h' k ⟨v, e, hv⟩ => by subst e; exact pairs_spec w _ _ _ _ _ h' v ns (Gh.up k) hv (by have := I.len; omega) (by decide +kernel) (by decide +kernel)
  case c =>
    rintro v h2 h3 tk3 k2 kv k3 hn3
    obtain ⟨S2, q2⟩ := S.keeps k2
    have kv2 := S2.klist S2.prel kv
    obtain ⟨S3, q3⟩ := S2.loc k3 hn3
    have hp := upL upPR _ _ _ q3 kv2
    have Gh3 : Gl w (hid [L + 1, L + 1 + 1, L + 1 + 1 + 1, 71, L] h3) := I.G.up S3.kg
    have pl := pairsF_len ns
    clear k3 hn3 k2 kv kv2 q2 q3 S2 S Gh
    refine wpAny_execs_cons (gcomp_assignC rfl rfl (by decide) rfl (by decide) rfl ?_ (by intro _; rfl))
    refine PG.use (g := h3) (PG.name S3.hn rfl) kh_rfl ?_
    rintro _ h4 tk4 k4 rfl
    obtain ⟨S4, q4⟩ := S3.keeps k4
    have G4 := Gh3.up q4
    have hp4' := upL upPR _ _ _ q4 hp
    obtain ⟨l, us, n, e4, el, pr⟩ := id hp4'
    cases e4
    refine ⟨_, _, pairsF ns, PRel, fun _ v x => ∃ t, v = .str x t, fun _ => true, fun p => nameF p.1 p.2, hid _ h4, upPR, fun _ _ _ _ _ x => x, hid_gh, testOk_nil, ?e, Src.list rfl (isLA el) hid_gh pr (by omega), ?k⟩
    case e =>
      refine eltOk (fun _ p => KStr (nameF p.1 p.2)) (fun p v h g' C m hk _ hv kg' kgh hn hm => ?_) (fun _ _ _ _ _ h _ => h)
      have ok := allP_ok p (pairsF_mem hk)
      have G5 := G4.up (kh_tr kg' kgh)
      exact Gl.call G5 f_52 (o_52 G5) (PA.one (PG.nameK hn hm (K := fun v h => PRel h v p) (upPR _ _ _ _ kgh hv) (fun v h h' k x => upPR h h' v p k x)) (fun v h h' k x => upPR h h' v p k x)) fun vs h' k ⟨v, e, hv⟩ => by subst e; exact pc_bl w _ _ _ _ _ h' v p (G5.up k) hv ok.1 ok.2.1 (by decide +kernel) (by decide +kernel)
    case k =>
      intro h5 tk5 D g5 ys5 c5 X5 hD hDn hp5
      have cc := cL S4.lt
      refine asg_cell (S4.ce _ (.head _) cc.1 cc.2.2.2.1) (hideAll_none _ (.head _)) X5 fun h6 tk6 k6 hc6 kk6 => ?_
      obtain ⟨S6, q6, cn⟩ := S4.cell kk6 hc6 (cM1 S4.lt) (by simp) (by simp)
      have hN : KStrs (namesF ns) (.ref D) (hid [L + 1 + 1, L + 1 + 1 + 1, 71, L] h6) := S6.kseq ⟨D, _, _, rfl, k6 _ _ hD, by rw [filter_tt] at hp5; exact paired_strs hp5⟩
      have hp6 := upL upPR _ _ _ q6 hp4'
      have G6 := G4.up q6
      clear kk6 hc6 k6 q6 hp5 X5 hD hDn hp4' G4 pr el hp q4 k4 S4 S3 Gh3
      refine wpAny_execs_cons (gcomp_assignC rfl rfl (by decide) rfl (by decide) rfl ?_ (by intro _; rfl))
      refine PG.use (g := h6) (PG.name S6.hn rfl) kh_rfl ?_
      rintro _ h7 tk7 k7 rfl
      obtain ⟨S7, q7⟩ := S6.keeps k7
      have G7 := G6.up q7
      have hp7 := upL upPR _ _ _ q7 hp6
      have hN7 := upSs _ _ _ q7 hN
      have cn7 := isCell_up cn q7
      have hp7' := hp7
      obtain ⟨l7, us7, n7, e7, el7, pr7⟩ := hp7
      cases e7
      refine ⟨_, _, pairsF ns, PRel, PlR, fun _ => true, plainF, hid _ h7, upPR, upPl, hid_gh, testOk_nil, ?e3, Src.list rfl (isLA el7) hid_gh pr7 (by omega), ?k3⟩
      case e3 =>
        refine eltOk (fun h p => KNew h (KList (fun _ v o => OptIs o v) [some (p.1.getD (S "C")), p.2])) (fun p v h g' C m hk _ hv kg' kgh hn hm => ?_) (fun h p y h' g'' ky hnew => ?hS)
        case hS =>
          obtain ⟨⟨l, vs, n, rfl, e, r⟩, l', e', hn'⟩ := ky
          cases e'
          exact ⟨l, vs, n, rfl, hnew _ _ hn' e, r⟩
        have hv' := upPR _ _ _ _ kgh hv
        refine PG.listP (R := fun _ v o => OptIs o v) (fun _ _ _ _ _ r => r) (PA.pcons (fun _ _ _ _ _ r => r) ?x1 (PA.pcons (fun _ _ _ _ _ r => r) ?x2 PA.pnil))
        case x1 =>
          refine PG.ifexp (c := p.1.isNone) (PT.cmp (K₁ := fun v _ => OptIs p.1 v) (K₂ := KVal .none) (PG.item0 (PG.nameR upPR hn hm hv')) PG.none (fun _ _ _ _ r => r) fun _ _ _ _ ka kb => ps_isNone ka kb) (fun e => PG.str.imp fun v h k r => ?i1) (fun e => (PG.item0 (PG.nameR upPR hn hm hv')).imp fun v h k r => ?i2)
          case i1 =>
            obtain ⟨t, rfl⟩ := r
            refine ⟨t, ?_⟩
            cases q : p.1 with
            | none => rfl
            | some y => rw [q] at e; cases e
          case i2 =>
            cases q : p.1 with
            | none => rw [q] at e; cases e
            | some y => rw [q] at r; exact r
        case x2 => exact PG.item1 (PG.nameR upPR hn hm hv')
      case k3 =>
        intro h8 tk8 D8 g8 ys8 c8 X8 hD8 hDn8 hp8
        refine asg_cell (S7.ce _ (.head _) cc.2.1 cc.2.2.2.2.1) (hideAll_none _ (.head _)) X8 fun h9 tk9 k9 hc9 kk9 => ?_
        obtain ⟨S9, q9, cp⟩ := S7.cell kk9 hc9 (cM2 S7.lt) (by simp) (by simp)
        have hN9 := upSs _ _ _ q9 hN7
        have cn9 := isCell_up cn7 q9
        have G9 := G7.up q9
        have hPl : KList PlR ((pairsF ns).map plainF) (.ref D8) (hid [L + 1 + 1 + 1, 71, L] h9) := by
          rw [filter_tt] at hp8
          exact ⟨D8, _, _, rfl, S9.seq (k9 _ _ hD8) rfl, by
            have := paired_mono (G := PlR (hid [L + 1 + 1 + 1, 71, L] h9)) (fun v b r => S9.klist (R := fun _ v o => OptIs o v) (fun _ _ r => r) (upPl _ _ _ _ k9 r)) hp8
            simpa using this⟩
        clear kk9 hc9 k9 q9 hp8 X8 hD8 hDn8 G7 hp7' el7 pr7 cn7 hN7 q7 k7 S7 cn hN hp6 G6 S6
        refine wpAny_execs_cons (gcomp_assignC rfl rfl (by decide) rfl (by decide) rfl ?_ (by intro _; rfl))
        refine PG.use (g := hid _ h9) (PG.cell rfl cp) hid_gh ?_
        rintro _ h10 tk10 k10 rfl
        obtain ⟨S10, q10⟩ := S9.keeps k10
        have G10 := G9.up q10
        have hN10 := upSs _ _ _ q10 hN9
        have cn10 := isCell_up cn9 q10
        have cp10 := isCell_up cp q10
        have hPl10 := upL upPl _ _ _ q10 hPl
        obtain ⟨l10, us10, n10, e10, el10, pr10⟩ := id hPl10
        cases e10
        refine ⟨_, _, (pairsF ns).map plainF, PlR, fun _ v (x : Str) => ∃ t, v = .str x t, fun _ => true, fun x => x.1 ++ tailF x.2, hid _ h10, upPl, fun _ _ _ _ _ x => x, hid_gh, testOk_nil, ?e4, Src.list rfl (isLA el10) hid_gh pr10 (by rw [List.length_map]; omega), ?k4⟩
        case e4 =>
          refine eltOk (fun _ x => KStr (x.1 ++ tailF x.2)) (fun x v h g' C m hk _ hv kg' kgh hn hm => ?_) (fun _ _ _ _ _ h _ => h)
          obtain ⟨p, hp, rfl⟩ := List.mem_map.mp hk
          have ok := allP_ok2 p (pairsF_mem hp)
          have hv' := upPl _ _ _ _ kgh hv
          have e1 : (tailF (plainF p).2).length ≤ 30 := (allP_ok3 p (pairsF_mem hp))
          refine PG.addS ?one (PG.join _ PG.str (PG.imp (K := KNew h (KList (fun _ v (x : Str) => ∃ t, v = .str x t) (([(plainF p).2].filter (·.isSome)).map fun o => Str.ofString "." ++ o.getD Str.empty))) ?cmp fun v h' k r => by
            obtain ⟨⟨l, vs, n, e, q, r⟩, _⟩ := r
            exact ⟨l, vs, n, e, q, paired_strs r⟩) ?j1 ?j2) (by show (p.1.getD (S "C")).length + _ ≤ _; omega)
          case one => exact PG.itemP (k := 0) (fun _ _ _ _ _ r => r) (PG.nameK hn hm hv' (upL fun _ _ _ _ _ r => r)) (PG.int (i := 0)) rfl (by decide)
          case j1 => rw [List.length_map]; exact List.length_filter_le _ _
          case j2 =>
            intro z hz
            obtain ⟨o, ho, rfl⟩ := List.mem_map.mp hz
            have := (List.mem_filter.mp ho).1
            simp at this
            subst this
            rw [PySem.Str.length_append, dot_len]
            have := ok.2
            show 1 + (p.2.getD Str.empty).length ≤ 1000
            omega
          case cmp =>
            refine PG.comp [(plainF p).2] (fun _ v o => OptIs o v) (fun _ v (x : Str) => ∃ t, v = .str x t) (·.isSome) (fun o => Str.ofString "." ++ o.getD Str.empty) (fun _ _ _ _ _ r => r) (fun _ _ _ _ _ r => r)
              (PG.slice (P := fun vs => Paired (fun v o => OptIs o v) vs [some (plainF p).1, (plainF p).2]) (P' := fun vs => Paired (fun v o => OptIs o v) vs [(plainF p).2]) (PG.nameK hn hm hv' upQ) (PP.some (PG.int (i := ((1 : Nat) : Int)))) PP.none PP.none (by simp) (fun vs h => by rw [h.length, PySem.sizeLine_eq]; simp) (fun vs h => ?sl)) ?src ?t ?e
            case sl => rw [slicePick_from']; cases vs with | mk l => cases h with | cons a b => exact b
            case src =>
              rintro xv h2 tk2 k2 ⟨⟨l, vs, n, rfl, e, r⟩, _⟩
              exact Src.list rfl (isLA e) kh_rfl r (by simp)
            case t =>
              intro h2 tk2 k2
              refine testOk_one fun o v h g' C m hk hv kg' kgh hn hm => ?_
              exact PT.cmp (K₁ := fun v _ => OptIs o v) (K₂ := KVal .none) (PG.nameR (R := fun _ v o => OptIs o v) (b := o) (fun _ _ _ _ _ r => r) hn hm hv) PG.none (fun _ _ _ _ r => r) fun _ _ _ _ ka kb => ps_notNone ka kb
            case e =>
              intro h2 tk2 k2
              refine eltOk (fun _ o => KStr (Str.ofString "." ++ o.getD Str.empty)) (fun o v h g' C m hk hq hv kg' kgh hn hm => ?_) (fun _ _ _ _ _ h _ => h)
              simp at hk
              subst hk
              refine PG.addS PG.str ((PG.nameR (R := fun _ v o => OptIs o v) (b := (plainF p).2) (fun _ _ _ _ _ r => r) hn hm hv).imp fun v h k r => ?_) (by rw [dot_len]; have := ok.2; show 1 + (p.2.getD Str.empty).length ≤ 1000; omega)
              cases q : p.2 with
              | none => rw [show (plainF p).2 = p.2 from rfl, q] at hq; cases hq
              | some y =>
                rw [show (plainF p).2 = p.2 from rfl, q] at r
                rw [show (plainF p).2 = p.2 from rfl, q]
                exact r
        case k4 =>
          intro h11 tk11 D11 g11 ys11 c11 X11 hD11 hDn11 hp11
          refine asg_cell (S10.ce _ (.head _) cc.2.2.1 cc.2.2.2.2.2) (hideAll_none _ (.head _)) X11 fun h12 tk12 k12 hc12 kk12 => ?_
          obtain ⟨S12, q12, cw⟩ := S10.cell kk12 hc12 (cM3 S10.lt) (by simp) (by simp)
          have hN12 := upSs _ _ _ q12 hN10
          have cn12 := isCell_up cn10 q12
          have cp12 := isCell_up cp10 q12
          have G12 := G10.up q12
          have hPl12 := upL upPl _ _ _ q12 hPl10
          have hW : KStrs (namesF ns) (.ref D11) (hid [71, L] h12) := S12.kseq ⟨D11, _, _, rfl, k12 _ _ hD11, by
            rw [filter_tt, List.map_map] at hp11
            have e : ((fun x : Str × Option Str => x.1 ++ tailF x.2) ∘ plainF) = fun p => nameF p.1 p.2 := funext fun p => name_tail p
            rw [e] at hp11
            exact paired_strs hp11⟩
          have B : LawB w s g0 L ls vs ns _ D D8 D11 h12 := ⟨S12, I.G, I.C, I.sc, I.li, I.hI, I.len, I.bare, cn12, cp12, cw, hN12, hPl12, hW⟩
          clear hW hPl12 G12 cp12 cn12 hN12 cw q12 S12 kk12 hc12 k12 hp11 X11 hD11 hDn11 I
          exact R2p (s := s) B

end Mine
end
section
open PySem PySem.W PyProof.Rows PySem.Calls
set_option Elab.async false
set_option maxRecDepth 100000
set_option maxHeartbeats 4000000
set_option linter.unusedVariables false
set_option rowWalk.seconds 0
namespace Mine
local macro_rules | `(tactic| kn_posts) => do let h := Lean.mkIdent `hT9; `(tactic| refine kn_postG $h ?_)
theorem law_A : PySem.Challenge.rw_in0044_01.Holds := hd (by
  dsimp only [hd.f152]
  w_strict (
    k_go0
    (try dsimp only)
    rename News _ _ _ _ => N9
    rename Fr _ _ _ _ => F9
    rename Frag.In _ (ghostOf _ _) => X9
    rename Top topProg _ _ _ _ (ghostOf _ _) => T9
    rename Heap.IsList (ghostOf _ _) _ _ => li9
    rename IntsAre _ _ => hI9
    rename Well _ _ _ _ => w9
    rename CodeHd _ _ _ => C9
    rename @Eq (Array GenState) _ _ => hg9
    rename CellsAre _ _ _ => Y9
    refine law_in X9 T9 C9 F9 N9 (by refine Eq.trans (by assumption) ?_; rfl) (by refine Eq.trans (by assumption) ?_; rfl) (by refine Eq.trans (by assumption) ?_; rfl) (by assumption) ?sc li9 w9 (fun b o e => of_hideAll _ e) hI9 (by omega) hg9 ?nL ?post ?main
    case sc => rfl
    case nL => exact hideAll_fresh (Nat.le_refl _)
    case post =>
      rintro f s' ⟨rfl, k, o, b, ps, t⟩
      refine ⟨⟨⟨.bool true, .bool true, [], rfl, fun _ => rfl, .bool true, ?pst, unshared_nil⟩, k, o, b⟩, ⟨ps, t⟩, trivial⟩
      wrow_post
    case main =>
      generalize bindL _ _ _ = m9
      generalize ghostOf _ _ = g9
      generalize (_ : Heap).objs.size = L9
      intro I
      exact R1p I))

end Mine
end
theorem PySem.Challenge.cw_in0044_01_holds : PySem.Challenge.rw_in0044_01.Holds :=
  Mine.law_A
