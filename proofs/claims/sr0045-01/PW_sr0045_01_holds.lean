import PyProof.Rows.All
import Wide.All
import OpenK.AllK
import Wide.FinOn
import KE.KData
import Lean
import PySem.Challenge.RW_sr0045_01
open PySem PySem.W PyProof.Rows PySem.Spec PySem.Calls
set_option Elab.async false
set_option linter.unusedVariables false
namespace Mine
set_option maxRecDepth 100000
set_option maxHeartbeats 1000000
section
noncomputable section

noncomputable def keepL : List Bool → List Stmt → List Stmt
  | true :: bs, s :: ss => s :: keepL bs ss
  | false :: bs, _ :: ss => keepL bs ss
  | _, _ => []
noncomputable abbrev pw : Program := PySem.Challenge.rw_sr0045_01.row.prog
noncomputable def argsAt (l : List Stmt) : Arguments := match l with
  | .FunctionDef _ a .. :: _ => a
  | _ => default
noncomputable def bodyAt (l : List Stmt) : List Stmt := match l with
  | .FunctionDef _ _ b .. :: _ => b
  | _ => default
noncomputable def scopeAt (l : List Stmt) : Scope := match l with
  | .FunctionDef _ _ _ _ _ _ s .. :: _ => s
  | _ => default

noncomputable def hd.view_39 : Program := (fun (b : List Stmt) (_ : keepL (true :: false :: true :: true :: true :: false :: true :: true :: false :: true :: true :: true :: true :: false :: true :: true :: true :: true :: true :: true :: true :: true :: true :: true :: true :: true :: true :: true :: true :: true :: true :: true :: true :: true :: true :: true :: true :: true :: true :: true :: true :: true :: true :: true :: true :: true :: true :: true :: true :: true :: true :: true :: true :: true :: true :: true :: true :: true :: true :: true :: true :: true :: true :: true :: true :: true :: true :: false :: true :: true :: true :: true :: true :: true :: true :: true :: true :: true :: []) pw.main.body = b) => ({ pw with main := { pw.main with body := b } } : Program)) (_ :: _ :: _ :: _ :: _ :: _ :: _ :: _ :: _ :: _ :: _ :: _ :: _ :: _ :: _ :: _ :: _ :: _ :: _ :: _ :: _ :: _ :: _ :: _ :: _ :: _ :: _ :: _ :: _ :: _ :: _ :: _ :: _ :: _ :: _ :: _ :: _ :: _ :: _ :: _ :: _ :: _ :: _ :: _ :: _ :: _ :: _ :: _ :: _ :: _ :: _ :: _ :: _ :: _ :: _ :: _ :: _ :: _ :: _ :: _ :: _ :: _ :: _ :: _ :: _ :: _ :: _ :: _ :: _ :: _ :: _ :: _ :: _ :: []) rfl

noncomputable def hd.heap_39 : Params → Frag := (fun (v3x1 : Arguments) (_ : argsAt (pw.main.body.drop 3) = v3x1) (v3x2 : List Stmt) (_ : bodyAt (pw.main.body.drop 3) = v3x2) (v3x6 : Scope) (_ : scopeAt (pw.main.body.drop 3) = v3x6)
    (v4x1 : Arguments) (_ : argsAt (pw.main.body.drop 4) = v4x1) (v4x2 : List Stmt) (_ : bodyAt (pw.main.body.drop 4) = v4x2) (v4x6 : Scope) (_ : scopeAt (pw.main.body.drop 4) = v4x6)
    (v6x1 : Arguments) (_ : argsAt (pw.main.body.drop 6) = v6x1) (v6x2 : List Stmt) (_ : bodyAt (pw.main.body.drop 6) = v6x2) (v6x6 : Scope) (_ : scopeAt (pw.main.body.drop 6) = v6x6)
    (v7x1 : Arguments) (_ : argsAt (pw.main.body.drop 7) = v7x1) (v7x2 : List Stmt) (_ : bodyAt (pw.main.body.drop 7) = v7x2) (v7x6 : Scope) (_ : scopeAt (pw.main.body.drop 7) = v7x6)
    (v12x1 : Arguments) (_ : argsAt (pw.main.body.drop 12) = v12x1) (v12x2 : List Stmt) (_ : bodyAt (pw.main.body.drop 12) = v12x2) (v12x6 : Scope) (_ : scopeAt (pw.main.body.drop 12) = v12x6)
    (v65x1 : Arguments) (_ : argsAt (pw.main.body.drop 65) = v65x1) (v65x2 : List Stmt) (_ : bodyAt (pw.main.body.drop 65) = v65x2) (v65x6 : Scope) (_ : scopeAt (pw.main.body.drop 65) = v65x6)
    (v66x1 : Arguments) (_ : argsAt (pw.main.body.drop 66) = v66x1) (v66x2 : List Stmt) (_ : bodyAt (pw.main.body.drop 66) = v66x2) (v66x6 : Scope) (_ : scopeAt (pw.main.body.drop 66) = v66x6)
    (v68x1 : Arguments) (_ : argsAt (pw.main.body.drop 68) = v68x1) (v68x2 : List Stmt) (_ : bodyAt (pw.main.body.drop 68) = v68x2) (v68x6 : Scope) (_ : scopeAt (pw.main.body.drop 68) = v68x6)
    (v69x1 : Arguments) (_ : argsAt (pw.main.body.drop 69) = v69x1) (v69x2 : List Stmt) (_ : bodyAt (pw.main.body.drop 69) = v69x2) (v69x6 : Scope) (_ : scopeAt (pw.main.body.drop 69) = v69x6)
    (v70x1 : Arguments) (_ : argsAt (pw.main.body.drop 70) = v70x1) (v70x2 : List Stmt) (_ : bodyAt (pw.main.body.drop 70) = v70x2) (v70x6 : Scope) (_ : scopeAt (pw.main.body.drop 70) = v70x6)
    (v71x1 : Arguments) (_ : argsAt (pw.main.body.drop 71) = v71x1) (v71x2 : List Stmt) (_ : bodyAt (pw.main.body.drop 71) = v71x2) (v71x6 : Scope) (_ : scopeAt (pw.main.body.drop 71) = v71x6)
    (v72x1 : Arguments) (_ : argsAt (pw.main.body.drop 72) = v72x1) (v72x2 : List Stmt) (_ : bodyAt (pw.main.body.drop 72) = v72x2) (v72x6 : Scope) (_ : scopeAt (pw.main.body.drop 72) = v72x6)
    (v73x1 : Arguments) (_ : argsAt (pw.main.body.drop 73) = v73x1) (v73x2 : List Stmt) (_ : bodyAt (pw.main.body.drop 73) = v73x2) (v73x6 : Scope) (_ : scopeAt (pw.main.body.drop 73) = v73x6)
    (v74x1 : Arguments) (_ : argsAt (pw.main.body.drop 74) = v74x1) (v74x2 : List Stmt) (_ : bodyAt (pw.main.body.drop 74) = v74x2) (v74x6 : Scope) (_ : scopeAt (pw.main.body.drop 74) = v74x6)
    (v75x1 : Arguments) (_ : argsAt (pw.main.body.drop 75) = v75x1) (v75x2 : List Stmt) (_ : bodyAt (pw.main.body.drop 75) = v75x2) (v75x6 : Scope) (_ : scopeAt (pw.main.body.drop 75) = v75x6)
    (v76x1 : Arguments) (_ : argsAt (pw.main.body.drop 76) = v76x1) (v76x2 : List Stmt) (_ : bodyAt (pw.main.body.drop 76) = v76x2) (v76x6 : Scope) (_ : scopeAt (pw.main.body.drop 76) = v76x6)
    (v77x1 : Arguments) (_ : argsAt (pw.main.body.drop 77) = v77x1) (v77x2 : List Stmt) (_ : bodyAt (pw.main.body.drop 77) = v77x2) (v77x6 : Scope) (_ : scopeAt (pw.main.body.drop 77) = v77x6) =>
    fun P => ((@Prod.mk @Nat @PySem.Obj (nat_lit 2) (@PySem.Obj.mk @PySem.Value.none (@Option.none @Nat) (@PySem.Data.dict (@List.toArray @PySem.DictEntry ((@PySem.DictEntry.mk (@PySem.PyData.keyHash P (@PySem.Str.ofString "\u0069mport.loaded._sre")) (@PySem.Value.str (@PySem.Str.ofString "\u0069mport.loaded._sre") (183 : Nat)) (@PySem.Value.bool @Bool.true)) :: (@PySem.DictEntry.mk (@PySem.PyData.keyHash P (@PySem.Str.ofString "class._frozen_importlib.BuiltinImporter")) (@PySem.Value.str (@PySem.Str.ofString "class._frozen_importlib.BuiltinImporter") (185 : Nat)) (@PySem.Value.ref (14 : Nat))) :: (@PySem.DictEntry.mk (@PySem.PyData.keyHash P (@PySem.Str.ofString "watched.\u0069mport")) (@PySem.Value.str (@PySem.Str.ofString "watched.\u0069mport") (206 : Nat)) (@PySem.Value.ref (18 : Nat))) :: (@PySem.DictEntry.mk (@PySem.PyData.keyHash P (@PySem.Str.ofString "class._frozen_importlib.ModuleSpec")) (@PySem.Value.str (@PySem.Str.ofString "class._frozen_importlib.ModuleSpec") (216 : Nat)) (@PySem.Value.ref (22 : Nat))) :: (@PySem.DictEntry.mk (@PySem.PyData.keyHash P (@PySem.Str.ofString "sys.modules.booked-epoch")) (@PySem.Value.str (@PySem.Str.ofString "sys.modules.booked-epoch") (245 : Nat)) (@PySem.Value.int (3 : Int) (0 : Nat))) :: (@PySem.DictEntry.mk (@PySem.PyData.keyHash P (@PySem.Str.ofString "\u0069mport.later-laid._sre")) (@PySem.Value.str (@PySem.Str.ofString "\u0069mport.later-laid._sre") (270 : Nat)) (@PySem.Value.bool @Bool.true)) :: (@PySem.DictEntry.mk (@PySem.PyData.keyHash P (@PySem.Str.ofString "watched.library")) (@PySem.Value.str (@PySem.Str.ofString "watched.library") (272 : Nat)) (@PySem.Value.ref (27 : Nat))) :: (@PySem.DictEntry.mk (@PySem.PyData.keyHash P (@PySem.Str.ofString "watched.library-objects")) (@PySem.Value.str (@PySem.Str.ofString "watched.library-objects") (0 : Nat)) (@PySem.Value.str (@PySem.Str.ofString "\u000c") (0 : Nat))) :: (@PySem.DictEntry.mk (@PySem.PyData.keyHash P (@PySem.Str.ofString "watched.library-deep._sre")) (@PySem.Value.str (@PySem.Str.ofString "watched.library-deep._sre") (273 : Nat)) (@PySem.Value.str (@PySem.Str.ofString "\u0004\u0000\u0000\u000b\u0004\u0000\u0000\u000b\u0004\u0000\u0000\u0003\u0004\u0000\u0000\u000b\u0008\u0004dict\u0002") (0 : Nat))) :: [])) (9 : Nat)) (@List.toArray (@Option @PySem.Value) ([])))) :: (@Prod.mk @Nat @PySem.Obj (nat_lit 3) (@PySem.Obj.mk (@PySem.Value.type "dict") (@Option.none @Nat) (@PySem.Data.dict (@List.toArray @PySem.DictEntry ((@PySem.DictEntry.mk (@PySem.PyData.keyHash P (@PySem.Str.ofString "__name__")) (@PySem.Value.str (@PySem.Str.ofString "__name__") (165 : Nat)) (@PySem.Value.str (@PySem.Str.ofString "law_sr0045_01") (640 : Nat))) :: (@PySem.DictEntry.mk (@PySem.PyData.keyHash P (@PySem.Str.ofString "__doc__")) (@PySem.Value.str (@PySem.Str.ofString "__doc__") (166 : Nat)) @PySem.Value.none) :: (@PySem.DictEntry.mk (@PySem.PyData.keyHash P (@PySem.Str.ofString "__package__")) (@PySem.Value.str (@PySem.Str.ofString "__package__") (167 : Nat)) @PySem.Value.none) :: (@PySem.DictEntry.mk (@PySem.PyData.keyHash P (@PySem.Str.ofString "__loader__")) (@PySem.Value.str (@PySem.Str.ofString "__loader__") (168 : Nat)) (@PySem.Value.builtin "__main__.__loader__#opaque")) :: (@PySem.DictEntry.mk (@PySem.PyData.keyHash P (@PySem.Str.ofString "__spec__")) (@PySem.Value.str (@PySem.Str.ofString "__spec__") (169 : Nat)) @PySem.Value.none) :: (@PySem.DictEntry.mk (@PySem.PyData.keyHash P (@PySem.Str.ofString "__annotations__")) (@PySem.Value.str (@PySem.Str.ofString "__annotations__") (170 : Nat)) (@PySem.Value.ref (6 : Nat))) :: (@PySem.DictEntry.mk (@PySem.PyData.keyHash P (@PySem.Str.ofString "__builtins__")) (@PySem.Value.str (@PySem.Str.ofString "__builtins__") (171 : Nat)) (@PySem.Value.ref (4 : Nat))) :: (@PySem.DictEntry.mk (@PySem.PyData.keyHash P (@PySem.Str.ofString "__file__")) (@PySem.Value.str (@PySem.Str.ofString "__file__") (173 : Nat)) (@PySem.Value.str (@PySem.Str.ofString "/claim/cut.py") (172 : Nat))) :: (@PySem.DictEntry.mk (@PySem.PyData.keyHash P (@PySem.Str.ofString "__cached__")) (@PySem.Value.str (@PySem.Str.ofString "__cached__") (174 : Nat)) @PySem.Value.none) :: (@PySem.DictEntry.mk (@PySem.PyData.keyHash P (@PySem.Str.ofString "_sre")) (@PySem.Value.str (@PySem.Str.ofString "_sre") (275 : Nat)) (@PySem.Value.ref (12 : Nat))) :: (@PySem.DictEntry.mk (@PySem.PyData.keyHash P (@PySem.Str.ofString "COMPILER_FLAG_NAMES")) (@PySem.Value.str (@PySem.Str.ofString "COMPILER_FLAG_NAMES") (314 : Nat)) (@PySem.Value.ref (32 : Nat))) :: (@PySem.DictEntry.mk (@PySem.PyData.keyHash P (@PySem.Str.ofString "pretty_flags")) (@PySem.Value.str (@PySem.Str.ofString "pretty_flags") (324 : Nat)) (@PySem.Value.ref (39 : Nat))) :: (@PySem.DictEntry.mk (@PySem.PyData.keyHash P (@PySem.Str.ofString "_parse_varint")) (@PySem.Value.str (@PySem.Str.ofString "_parse_varint") (333 : Nat)) (@PySem.Value.ref (46 : Nat))) :: (@PySem.DictEntry.mk (@PySem.PyData.keyHash P (@PySem.Str.ofString "_iter_escaped_chars")) (@PySem.Value.str (@PySem.Str.ofString "_iter_escaped_chars") (345 : Nat)) (@PySem.Value.ref (53 : Nat))) :: (@PySem.DictEntry.mk (@PySem.PyData.keyHash P (@PySem.Str.ofString "_strip_quoted_realnames")) (@PySem.Value.str (@PySem.Str.ofString "_strip_quoted_realnames") (357 : Nat)) (@PySem.Value.ref (60 : Nat))) :: (@PySem.DictEntry.mk (@PySem.PyData.keyHash P (@PySem.Str.ofString "_twin_re_1")) (@PySem.Value.str (@PySem.Str.ofString "_twin_re_1") (375 : Nat)) (@PySem.Value.ref (65 : Nat))) :: (@PySem.DictEntry.mk (@PySem.PyData.keyHash P (@PySem.Str.ofString "_twin_re_2")) (@PySem.Value.str (@PySem.Str.ofString "_twin_re_2") (417 : Nat)) (@PySem.Value.ref (70 : Nat))) :: (@PySem.DictEntry.mk (@PySem.PyData.keyHash P (@PySem.Str.ofString "CRLF")) (@PySem.Value.str (@PySem.Str.ofString "CRLF") (419 : Nat)) (@PySem.Value.str (@PySem.Str.ofString "\u000d\u000a") (418 : Nat))) :: (@PySem.DictEntry.mk (@PySem.PyData.keyHash P (@PySem.Str.ofString "quotedata")) (@PySem.Value.str (@PySem.Str.ofString "quotedata") (426 : Nat)) (@PySem.Value.ref (77 : Nat))) :: (@PySem.DictEntry.mk (@PySem.PyData.keyHash P (@PySem.Str.ofString "ENDMARKER")) (@PySem.Value.str (@PySem.Str.ofString "ENDMARKER") (430 : Nat)) (@PySem.Value.int (0 : Int) (429 : Nat))) :: (@PySem.DictEntry.mk (@PySem.PyData.keyHash P (@PySem.Str.ofString "LPAR")) (@PySem.Value.str (@PySem.Str.ofString "LPAR") (432 : Nat)) (@PySem.Value.int (7 : Int) (431 : Nat))) :: (@PySem.DictEntry.mk (@PySem.PyData.keyHash P (@PySem.Str.ofString "RPAR")) (@PySem.Value.str (@PySem.Str.ofString "RPAR") (434 : Nat)) (@PySem.Value.int (8 : Int) (433 : Nat))) :: (@PySem.DictEntry.mk (@PySem.PyData.keyHash P (@PySem.Str.ofString "LSQB")) (@PySem.Value.str (@PySem.Str.ofString "LSQB") (436 : Nat)) (@PySem.Value.int (9 : Int) (435 : Nat))) :: (@PySem.DictEntry.mk (@PySem.PyData.keyHash P (@PySem.Str.ofString "RSQB")) (@PySem.Value.str (@PySem.Str.ofString "RSQB") (438 : Nat)) (@PySem.Value.int (10 : Int) (437 : Nat))) :: (@PySem.DictEntry.mk (@PySem.PyData.keyHash P (@PySem.Str.ofString "COLON")) (@PySem.Value.str (@PySem.Str.ofString "COLON") (440 : Nat)) (@PySem.Value.int (11 : Int) (439 : Nat))) :: (@PySem.DictEntry.mk (@PySem.PyData.keyHash P (@PySem.Str.ofString "COMMA")) (@PySem.Value.str (@PySem.Str.ofString "COMMA") (442 : Nat)) (@PySem.Value.int (12 : Int) (441 : Nat))) :: (@PySem.DictEntry.mk (@PySem.PyData.keyHash P (@PySem.Str.ofString "SEMI")) (@PySem.Value.str (@PySem.Str.ofString "SEMI") (444 : Nat)) (@PySem.Value.int (13 : Int) (443 : Nat))) :: (@PySem.DictEntry.mk (@PySem.PyData.keyHash P (@PySem.Str.ofString "PLUS")) (@PySem.Value.str (@PySem.Str.ofString "PLUS") (446 : Nat)) (@PySem.Value.int (14 : Int) (445 : Nat))) :: (@PySem.DictEntry.mk (@PySem.PyData.keyHash P (@PySem.Str.ofString "MINUS")) (@PySem.Value.str (@PySem.Str.ofString "MINUS") (448 : Nat)) (@PySem.Value.int (15 : Int) (447 : Nat))) :: (@PySem.DictEntry.mk (@PySem.PyData.keyHash P (@PySem.Str.ofString "STAR")) (@PySem.Value.str (@PySem.Str.ofString "STAR") (450 : Nat)) (@PySem.Value.int (16 : Int) (449 : Nat))) :: (@PySem.DictEntry.mk (@PySem.PyData.keyHash P (@PySem.Str.ofString "SLASH")) (@PySem.Value.str (@PySem.Str.ofString "SLASH") (452 : Nat)) (@PySem.Value.int (17 : Int) (451 : Nat))) :: (@PySem.DictEntry.mk (@PySem.PyData.keyHash P (@PySem.Str.ofString "VBAR")) (@PySem.Value.str (@PySem.Str.ofString "VBAR") (454 : Nat)) (@PySem.Value.int (18 : Int) (453 : Nat))) :: (@PySem.DictEntry.mk (@PySem.PyData.keyHash P (@PySem.Str.ofString "AMPER")) (@PySem.Value.str (@PySem.Str.ofString "AMPER") (456 : Nat)) (@PySem.Value.int (19 : Int) (455 : Nat))) :: (@PySem.DictEntry.mk (@PySem.PyData.keyHash P (@PySem.Str.ofString "LESS")) (@PySem.Value.str (@PySem.Str.ofString "LESS") (458 : Nat)) (@PySem.Value.int (20 : Int) (457 : Nat))) :: (@PySem.DictEntry.mk (@PySem.PyData.keyHash P (@PySem.Str.ofString "GREATER")) (@PySem.Value.str (@PySem.Str.ofString "GREATER") (460 : Nat)) (@PySem.Value.int (21 : Int) (459 : Nat))) :: (@PySem.DictEntry.mk (@PySem.PyData.keyHash P (@PySem.Str.ofString "EQUAL")) (@PySem.Value.str (@PySem.Str.ofString "EQUAL") (462 : Nat)) (@PySem.Value.int (22 : Int) (461 : Nat))) :: (@PySem.DictEntry.mk (@PySem.PyData.keyHash P (@PySem.Str.ofString "DOT")) (@PySem.Value.str (@PySem.Str.ofString "DOT") (464 : Nat)) (@PySem.Value.int (23 : Int) (463 : Nat))) :: (@PySem.DictEntry.mk (@PySem.PyData.keyHash P (@PySem.Str.ofString "PERCENT")) (@PySem.Value.str (@PySem.Str.ofString "PERCENT") (466 : Nat)) (@PySem.Value.int (24 : Int) (465 : Nat))) :: (@PySem.DictEntry.mk (@PySem.PyData.keyHash P (@PySem.Str.ofString "LBRACE")) (@PySem.Value.str (@PySem.Str.ofString "LBRACE") (468 : Nat)) (@PySem.Value.int (25 : Int) (467 : Nat))) :: (@PySem.DictEntry.mk (@PySem.PyData.keyHash P (@PySem.Str.ofString "RBRACE")) (@PySem.Value.str (@PySem.Str.ofString "RBRACE") (470 : Nat)) (@PySem.Value.int (26 : Int) (469 : Nat))) :: (@PySem.DictEntry.mk (@PySem.PyData.keyHash P (@PySem.Str.ofString "EQEQUAL")) (@PySem.Value.str (@PySem.Str.ofString "EQEQUAL") (472 : Nat)) (@PySem.Value.int (27 : Int) (471 : Nat))) :: (@PySem.DictEntry.mk (@PySem.PyData.keyHash P (@PySem.Str.ofString "NOTEQUAL")) (@PySem.Value.str (@PySem.Str.ofString "NOTEQUAL") (474 : Nat)) (@PySem.Value.int (28 : Int) (473 : Nat))) :: (@PySem.DictEntry.mk (@PySem.PyData.keyHash P (@PySem.Str.ofString "LESSEQUAL")) (@PySem.Value.str (@PySem.Str.ofString "LESSEQUAL") (476 : Nat)) (@PySem.Value.int (29 : Int) (475 : Nat))) :: (@PySem.DictEntry.mk (@PySem.PyData.keyHash P (@PySem.Str.ofString "GREATEREQUAL")) (@PySem.Value.str (@PySem.Str.ofString "GREATEREQUAL") (478 : Nat)) (@PySem.Value.int (30 : Int) (477 : Nat))) :: (@PySem.DictEntry.mk (@PySem.PyData.keyHash P (@PySem.Str.ofString "TILDE")) (@PySem.Value.str (@PySem.Str.ofString "TILDE") (480 : Nat)) (@PySem.Value.int (31 : Int) (479 : Nat))) :: (@PySem.DictEntry.mk (@PySem.PyData.keyHash P (@PySem.Str.ofString "CIRCUMFLEX")) (@PySem.Value.str (@PySem.Str.ofString "CIRCUMFLEX") (482 : Nat)) (@PySem.Value.int (32 : Int) (481 : Nat))) :: (@PySem.DictEntry.mk (@PySem.PyData.keyHash P (@PySem.Str.ofString "LEFTSHIFT")) (@PySem.Value.str (@PySem.Str.ofString "LEFTSHIFT") (484 : Nat)) (@PySem.Value.int (33 : Int) (483 : Nat))) :: (@PySem.DictEntry.mk (@PySem.PyData.keyHash P (@PySem.Str.ofString "RIGHTSHIFT")) (@PySem.Value.str (@PySem.Str.ofString "RIGHTSHIFT") (486 : Nat)) (@PySem.Value.int (34 : Int) (485 : Nat))) :: (@PySem.DictEntry.mk (@PySem.PyData.keyHash P (@PySem.Str.ofString "DOUBLESTAR")) (@PySem.Value.str (@PySem.Str.ofString "DOUBLESTAR") (488 : Nat)) (@PySem.Value.int (35 : Int) (487 : Nat))) :: (@PySem.DictEntry.mk (@PySem.PyData.keyHash P (@PySem.Str.ofString "PLUSEQUAL")) (@PySem.Value.str (@PySem.Str.ofString "PLUSEQUAL") (490 : Nat)) (@PySem.Value.int (36 : Int) (489 : Nat))) :: (@PySem.DictEntry.mk (@PySem.PyData.keyHash P (@PySem.Str.ofString "MINEQUAL")) (@PySem.Value.str (@PySem.Str.ofString "MINEQUAL") (492 : Nat)) (@PySem.Value.int (37 : Int) (491 : Nat))) :: (@PySem.DictEntry.mk (@PySem.PyData.keyHash P (@PySem.Str.ofString "STAREQUAL")) (@PySem.Value.str (@PySem.Str.ofString "STAREQUAL") (494 : Nat)) (@PySem.Value.int (38 : Int) (493 : Nat))) :: (@PySem.DictEntry.mk (@PySem.PyData.keyHash P (@PySem.Str.ofString "SLASHEQUAL")) (@PySem.Value.str (@PySem.Str.ofString "SLASHEQUAL") (496 : Nat)) (@PySem.Value.int (39 : Int) (495 : Nat))) :: (@PySem.DictEntry.mk (@PySem.PyData.keyHash P (@PySem.Str.ofString "PERCENTEQUAL")) (@PySem.Value.str (@PySem.Str.ofString "PERCENTEQUAL") (498 : Nat)) (@PySem.Value.int (40 : Int) (497 : Nat))) :: (@PySem.DictEntry.mk (@PySem.PyData.keyHash P (@PySem.Str.ofString "AMPEREQUAL")) (@PySem.Value.str (@PySem.Str.ofString "AMPEREQUAL") (500 : Nat)) (@PySem.Value.int (41 : Int) (499 : Nat))) :: (@PySem.DictEntry.mk (@PySem.PyData.keyHash P (@PySem.Str.ofString "VBAREQUAL")) (@PySem.Value.str (@PySem.Str.ofString "VBAREQUAL") (502 : Nat)) (@PySem.Value.int (42 : Int) (501 : Nat))) :: (@PySem.DictEntry.mk (@PySem.PyData.keyHash P (@PySem.Str.ofString "CIRCUMFLEXEQUAL")) (@PySem.Value.str (@PySem.Str.ofString "CIRCUMFLEXEQUAL") (504 : Nat)) (@PySem.Value.int (43 : Int) (503 : Nat))) :: (@PySem.DictEntry.mk (@PySem.PyData.keyHash P (@PySem.Str.ofString "LEFTSHIFTEQUAL")) (@PySem.Value.str (@PySem.Str.ofString "LEFTSHIFTEQUAL") (506 : Nat)) (@PySem.Value.int (44 : Int) (505 : Nat))) :: (@PySem.DictEntry.mk (@PySem.PyData.keyHash P (@PySem.Str.ofString "RIGHTSHIFTEQUAL")) (@PySem.Value.str (@PySem.Str.ofString "RIGHTSHIFTEQUAL") (508 : Nat)) (@PySem.Value.int (45 : Int) (507 : Nat))) :: (@PySem.DictEntry.mk (@PySem.PyData.keyHash P (@PySem.Str.ofString "DOUBLESTAREQUAL")) (@PySem.Value.str (@PySem.Str.ofString "DOUBLESTAREQUAL") (510 : Nat)) (@PySem.Value.int (46 : Int) (509 : Nat))) :: (@PySem.DictEntry.mk (@PySem.PyData.keyHash P (@PySem.Str.ofString "DOUBLESLASH")) (@PySem.Value.str (@PySem.Str.ofString "DOUBLESLASH") (512 : Nat)) (@PySem.Value.int (47 : Int) (511 : Nat))) :: (@PySem.DictEntry.mk (@PySem.PyData.keyHash P (@PySem.Str.ofString "DOUBLESLASHEQUAL")) (@PySem.Value.str (@PySem.Str.ofString "DOUBLESLASHEQUAL") (514 : Nat)) (@PySem.Value.int (48 : Int) (513 : Nat))) :: (@PySem.DictEntry.mk (@PySem.PyData.keyHash P (@PySem.Str.ofString "AT")) (@PySem.Value.str (@PySem.Str.ofString "AT") (516 : Nat)) (@PySem.Value.int (49 : Int) (515 : Nat))) :: (@PySem.DictEntry.mk (@PySem.PyData.keyHash P (@PySem.Str.ofString "ATEQUAL")) (@PySem.Value.str (@PySem.Str.ofString "ATEQUAL") (518 : Nat)) (@PySem.Value.int (50 : Int) (517 : Nat))) :: (@PySem.DictEntry.mk (@PySem.PyData.keyHash P (@PySem.Str.ofString "RARROW")) (@PySem.Value.str (@PySem.Str.ofString "RARROW") (520 : Nat)) (@PySem.Value.int (51 : Int) (519 : Nat))) :: (@PySem.DictEntry.mk (@PySem.PyData.keyHash P (@PySem.Str.ofString "ELLIPSIS")) (@PySem.Value.str (@PySem.Str.ofString "ELLIPSIS") (522 : Nat)) (@PySem.Value.int (52 : Int) (521 : Nat))) :: (@PySem.DictEntry.mk (@PySem.PyData.keyHash P (@PySem.Str.ofString "COLONEQUAL")) (@PySem.Value.str (@PySem.Str.ofString "COLONEQUAL") (524 : Nat)) (@PySem.Value.int (53 : Int) (523 : Nat))) :: (@PySem.DictEntry.mk (@PySem.PyData.keyHash P (@PySem.Str.ofString "EXCLAMATION")) (@PySem.Value.str (@PySem.Str.ofString "EXCLAMATION") (526 : Nat)) (@PySem.Value.int (54 : Int) (525 : Nat))) :: (@PySem.DictEntry.mk (@PySem.PyData.keyHash P (@PySem.Str.ofString "NT_OFFSET")) (@PySem.Value.str (@PySem.Str.ofString "NT_OFFSET") (528 : Nat)) (@PySem.Value.int (256 : Int) (527 : Nat))) :: (@PySem.DictEntry.mk (@PySem.PyData.keyHash P (@PySem.Str.ofString "EXACT_TOKEN_TYPES")) (@PySem.Value.str (@PySem.Str.ofString "EXACT_TOKEN_TYPES") (625 : Nat)) (@PySem.Value.ref (78 : Nat))) :: (@PySem.DictEntry.mk (@PySem.PyData.keyHash P (@PySem.Str.ofString "ISTERMINAL")) (@PySem.Value.str (@PySem.Str.ofString "ISTERMINAL") (632 : Nat)) (@PySem.Value.ref (87 : Nat))) :: (@PySem.DictEntry.mk (@PySem.PyData.keyHash P (@PySem.Str.ofString "ISEOF")) (@PySem.Value.str (@PySem.Str.ofString "ISEOF") (639 : Nat)) (@PySem.Value.ref (94 : Nat))) :: (@PySem.DictEntry.mk (@PySem.PyData.keyHash P (@PySem.Str.ofString "_law_numbers")) (@PySem.Value.str (@PySem.Str.ofString "_law_numbers") (650 : Nat)) (@PySem.Value.ref (101 : Nat))) :: (@PySem.DictEntry.mk (@PySem.PyData.keyHash P (@PySem.Str.ofString "_law_figures")) (@PySem.Value.str (@PySem.Str.ofString "_law_figures") (659 : Nat)) (@PySem.Value.ref (108 : Nat))) :: (@PySem.DictEntry.mk (@PySem.PyData.keyHash P (@PySem.Str.ofString "_law_octets")) (@PySem.Value.str (@PySem.Str.ofString "_law_octets") (667 : Nat)) (@PySem.Value.ref (115 : Nat))) :: (@PySem.DictEntry.mk (@PySem.PyData.keyHash P (@PySem.Str.ofString "_law_read")) (@PySem.Value.str (@PySem.Str.ofString "_law_read") (673 : Nat)) (@PySem.Value.ref (120 : Nat))) :: (@PySem.DictEntry.mk (@PySem.PyData.keyHash P (@PySem.Str.ofString "_law_is_operator")) (@PySem.Value.str (@PySem.Str.ofString "_law_is_operator") (680 : Nat)) (@PySem.Value.ref (127 : Nat))) :: (@PySem.DictEntry.mk (@PySem.PyData.keyHash P (@PySem.Str.ofString "_law_count")) (@PySem.Value.str (@PySem.Str.ofString "_law_count") (686 : Nat)) (@PySem.Value.ref (132 : Nat))) :: (@PySem.DictEntry.mk (@PySem.PyData.keyHash P (@PySem.Str.ofString "_law_ways")) (@PySem.Value.str (@PySem.Str.ofString "_law_ways") (692 : Nat)) (@PySem.Value.ref (137 : Nat))) :: (@PySem.DictEntry.mk (@PySem.PyData.keyHash P (@PySem.Str.ofString "_law_parted")) (@PySem.Value.str (@PySem.Str.ofString "_law_parted") (698 : Nat)) (@PySem.Value.ref (142 : Nat))) :: (@PySem.DictEntry.mk (@PySem.PyData.keyHash P (@PySem.Str.ofString "_law_names")) (@PySem.Value.str (@PySem.Str.ofString "_law_names") (704 : Nat)) (@PySem.Value.ref (147 : Nat))) :: (@PySem.DictEntry.mk (@PySem.PyData.keyHash P (@PySem.Str.ofString "law")) (@PySem.Value.str (@PySem.Str.ofString "law") (710 : Nat)) (@PySem.Value.ref (152 : Nat))) :: [])) (82 : Nat)) (@List.toArray (@Option @PySem.Value) ([])))) :: (@Prod.mk @Nat @PySem.Obj (nat_lit 6) (@PySem.Obj.mk (@PySem.Value.type "dict") (@Option.none @Nat) (@PySem.Data.dict (@List.toArray @PySem.DictEntry ([])) (0 : Nat)) (@List.toArray (@Option @PySem.Value) ([])))) :: (@Prod.mk @Nat @PySem.Obj (nat_lit 11) (@PySem.Obj.mk (@PySem.Value.type "dict") (@Option.none @Nat) (@PySem.Data.dict (@List.toArray @PySem.DictEntry ((@PySem.DictEntry.mk (@PySem.PyData.keyHash P (@PySem.Str.ofString "__name__")) (@PySem.Value.str (@PySem.Str.ofString "__name__") (247 : Nat)) (@PySem.Value.str (@PySem.Str.ofString "_sre") (246 : Nat))) :: (@PySem.DictEntry.mk (@PySem.PyData.keyHash P (@PySem.Str.ofString "__doc__")) (@PySem.Value.str (@PySem.Str.ofString "__doc__") (248 : Nat)) @PySem.Value.none) :: (@PySem.DictEntry.mk (@PySem.PyData.keyHash P (@PySem.Str.ofString "__package__")) (@PySem.Value.str (@PySem.Str.ofString "__package__") (250 : Nat)) (@PySem.Value.str (@PySem.Str.ofString "") (249 : Nat))) :: (@PySem.DictEntry.mk (@PySem.PyData.keyHash P (@PySem.Str.ofString "__loader__")) (@PySem.Value.str (@PySem.Str.ofString "__loader__") (251 : Nat)) (@PySem.Value.builtin "off-the-table:_sre.__loader__:shared#opaque")) :: (@PySem.DictEntry.mk (@PySem.PyData.keyHash P (@PySem.Str.ofString "__spec__")) (@PySem.Value.str (@PySem.Str.ofString "__spec__") (252 : Nat)) (@PySem.Value.builtin "off-the-table:_sre.__spec__:shared#opaque")) :: (@PySem.DictEntry.mk (@PySem.PyData.keyHash P (@PySem.Str.ofString "compile")) (@PySem.Value.str (@PySem.Str.ofString "compile") (253 : Nat)) (@PySem.Value.builtin "_sre.compile")) :: (@PySem.DictEntry.mk (@PySem.PyData.keyHash P (@PySem.Str.ofString "template")) (@PySem.Value.str (@PySem.Str.ofString "template") (254 : Nat)) (@PySem.Value.builtin "off-the-table:_sre.template:shared#opaque")) :: (@PySem.DictEntry.mk (@PySem.PyData.keyHash P (@PySem.Str.ofString "getcodesize")) (@PySem.Value.str (@PySem.Str.ofString "getcodesize") (255 : Nat)) (@PySem.Value.builtin "off-the-table:_sre.getcodesize:shared#opaque")) :: (@PySem.DictEntry.mk (@PySem.PyData.keyHash P (@PySem.Str.ofString "ascii_iscased")) (@PySem.Value.str (@PySem.Str.ofString "ascii_iscased") (256 : Nat)) (@PySem.Value.builtin "off-the-table:_sre.ascii_iscased:shared#opaque")) :: (@PySem.DictEntry.mk (@PySem.PyData.keyHash P (@PySem.Str.ofString "unicode_iscased")) (@PySem.Value.str (@PySem.Str.ofString "unicode_iscased") (257 : Nat)) (@PySem.Value.builtin "off-the-table:_sre.unicode_iscased:shared#opaque")) :: (@PySem.DictEntry.mk (@PySem.PyData.keyHash P (@PySem.Str.ofString "ascii_tolower")) (@PySem.Value.str (@PySem.Str.ofString "ascii_tolower") (258 : Nat)) (@PySem.Value.builtin "off-the-table:_sre.ascii_tolower:shared#opaque")) :: (@PySem.DictEntry.mk (@PySem.PyData.keyHash P (@PySem.Str.ofString "unicode_tolower")) (@PySem.Value.str (@PySem.Str.ofString "unicode_tolower") (259 : Nat)) (@PySem.Value.builtin "off-the-table:_sre.unicode_tolower:shared#opaque")) :: (@PySem.DictEntry.mk (@PySem.PyData.keyHash P (@PySem.Str.ofString "MAGIC")) (@PySem.Value.str (@PySem.Str.ofString "MAGIC") (261 : Nat)) (@PySem.Value.int (20230612 : Int) (260 : Nat))) :: (@PySem.DictEntry.mk (@PySem.PyData.keyHash P (@PySem.Str.ofString "CODESIZE")) (@PySem.Value.str (@PySem.Str.ofString "CODESIZE") (263 : Nat)) (@PySem.Value.int (4 : Int) (262 : Nat))) :: (@PySem.DictEntry.mk (@PySem.PyData.keyHash P (@PySem.Str.ofString "MAXREPEAT")) (@PySem.Value.str (@PySem.Str.ofString "MAXREPEAT") (265 : Nat)) (@PySem.Value.int (4294967295 : Int) (264 : Nat))) :: (@PySem.DictEntry.mk (@PySem.PyData.keyHash P (@PySem.Str.ofString "MAXGROUPS")) (@PySem.Value.str (@PySem.Str.ofString "MAXGROUPS") (267 : Nat)) (@PySem.Value.int (1073741823 : Int) (266 : Nat))) :: (@PySem.DictEntry.mk (@PySem.PyData.keyHash P (@PySem.Str.ofString "copyright")) (@PySem.Value.str (@PySem.Str.ofString "copyright") (269 : Nat)) (@PySem.Value.str (@PySem.Str.ofString " SRE 2.2.2 Copyright (c) 1997-2002 by Secret Labs AB ") (268 : Nat))) :: [])) (17 : Nat)) (@List.toArray (@Option @PySem.Value) ([])))) :: (@Prod.mk @Nat @PySem.Obj (nat_lit 12) (@PySem.Obj.mk (@PySem.Value.type "module") (@Option.some @Nat (11 : Nat)) @PySem.Data.plain (@List.toArray (@Option @PySem.Value) ([])))) :: (@Prod.mk @Nat @PySem.Obj (nat_lit 32) (@PySem.Obj.mk (@PySem.Value.type "dict") (@Option.none @Nat) (@PySem.Data.dict (@List.toArray @PySem.DictEntry ((@PySem.DictEntry.mk (1 : Int) (@PySem.Value.int (1 : Int) (284 : Nat)) (@PySem.Value.str (@PySem.Str.ofString "OPTIMIZED") (285 : Nat))) :: (@PySem.DictEntry.mk (2 : Int) (@PySem.Value.int (2 : Int) (286 : Nat)) (@PySem.Value.str (@PySem.Str.ofString "NEWLOCALS") (287 : Nat))) :: (@PySem.DictEntry.mk (4 : Int) (@PySem.Value.int (4 : Int) (288 : Nat)) (@PySem.Value.str (@PySem.Str.ofString "VARARGS") (289 : Nat))) :: (@PySem.DictEntry.mk (8 : Int) (@PySem.Value.int (8 : Int) (290 : Nat)) (@PySem.Value.str (@PySem.Str.ofString "VARKEYWORDS") (291 : Nat))) :: (@PySem.DictEntry.mk (16 : Int) (@PySem.Value.int (16 : Int) (292 : Nat)) (@PySem.Value.str (@PySem.Str.ofString "NESTED") (293 : Nat))) :: (@PySem.DictEntry.mk (32 : Int) (@PySem.Value.int (32 : Int) (294 : Nat)) (@PySem.Value.str (@PySem.Str.ofString "GENERATOR") (295 : Nat))) :: (@PySem.DictEntry.mk (64 : Int) (@PySem.Value.int (64 : Int) (296 : Nat)) (@PySem.Value.str (@PySem.Str.ofString "NOFREE") (297 : Nat))) :: (@PySem.DictEntry.mk (128 : Int) (@PySem.Value.int (128 : Int) (298 : Nat)) (@PySem.Value.str (@PySem.Str.ofString "COROUTINE") (299 : Nat))) :: (@PySem.DictEntry.mk (256 : Int) (@PySem.Value.int (256 : Int) (300 : Nat)) (@PySem.Value.str (@PySem.Str.ofString "ITERABLE_COROUTINE") (301 : Nat))) :: (@PySem.DictEntry.mk (512 : Int) (@PySem.Value.int (512 : Int) (302 : Nat)) (@PySem.Value.str (@PySem.Str.ofString "ASYNC_GENERATOR") (303 : Nat))) :: [])) (10 : Nat)) (@List.toArray (@Option @PySem.Value) ([])))) :: (@Prod.mk @Nat @PySem.Obj (nat_lit 33) (@PySem.Obj.mk (@PySem.Value.type "tuple") (@Option.none @Nat) (@PySem.Data.seq (@List.toArray @PySem.Value ([])) (0 : Nat)) (@List.toArray (@Option @PySem.Value) ([])))) :: (@Prod.mk @Nat @PySem.Obj (nat_lit 35) (@PySem.Obj.mk (@PySem.Value.type "tuple") (@Option.none @Nat) (@PySem.Data.seq (@List.toArray @PySem.Value ((@PySem.Value.str (@PySem.Str.ofString "flags") (318 : Nat)) :: (@PySem.Value.str (@PySem.Str.ofString "names") (319 : Nat)) :: (@PySem.Value.str (@PySem.Str.ofString "i") (320 : Nat)) :: (@PySem.Value.str (@PySem.Str.ofString "flag") (321 : Nat)) :: [])) (0 : Nat)) (@List.toArray (@Option @PySem.Value) ([])))) :: (@Prod.mk @Nat @PySem.Obj (nat_lit 36) (@PySem.Obj.mk (@PySem.Value.type "tuple") (@Option.none @Nat) (@PySem.Data.seq (@List.toArray @PySem.Value ([])) (0 : Nat)) (@List.toArray (@Option @PySem.Value) ([])))) :: (@Prod.mk @Nat @PySem.Obj (nat_lit 38) (@PySem.Obj.mk (@PySem.Value.type "code") (@Option.none @Nat) (@PySem.Data.fields (@List.toArray @PySem.Value ((@PySem.Value.str (@PySem.Str.ofString "pretty_flags") (315 : Nat)) :: (@PySem.Value.str (@PySem.Str.ofString "pretty_flags") (316 : Nat)) :: (@PySem.Value.str (@PySem.Str.ofString "/claim/cut.py") (317 : Nat)) :: (@PySem.Value.int (4 : Int) (0 : Nat)) :: (@PySem.Value.int (1 : Int) (0 : Nat)) :: (@PySem.Value.int (0 : Int) (0 : Nat)) :: (@PySem.Value.int (0 : Int) (0 : Nat)) :: (@PySem.Value.int (3 : Int) (0 : Nat)) :: (@PySem.Value.ref (33 : Nat)) :: (@PySem.Value.bool @Bool.true) :: (@PySem.Value.int (276 : Int) (0 : Nat)) :: (@PySem.Value.ref (34 : Nat)) :: @PySem.Value.none :: (@PySem.Value.ref (35 : Nat)) :: (@PySem.Value.ref (36 : Nat)) :: (@PySem.Value.ref (37 : Nat)) :: (@PySem.Value.int (322 : Int) (0 : Nat)) :: (@PySem.Value.int (4 : Int) (0 : Nat)) :: (@PySem.Value.str (@PySem.Str.ofString "/claim/cut.py") (323 : Nat)) :: []))) (@List.toArray (@Option @PySem.Value) ([])))) :: (@Prod.mk @Nat @PySem.Obj (nat_lit 39) (@PySem.Obj.mk (@PySem.Value.type "function") (@Option.none @Nat) (@PySem.Data.func (@PySem.FuncData.mk (@PySem.Str.ofString "pretty_flags") (@PySem.Str.ofString "pretty_flags") (v3x1) (@PySem.FuncBody.stmts (v3x2)) (v3x6) (3 : Nat) ([]) @PySem.Value.none @PySem.Value.none @PySem.Value.none (@PySem.Value.str (@PySem.Str.ofString "cpy313.dis") (282 : Nat)) (@Option.none @Nat) (@PySem.Value.ref (38 : Nat)) @PySem.Value.none (0 : Nat))) (@List.toArray (@Option @PySem.Value) ([])))) :: (@Prod.mk @Nat @PySem.Obj (nat_lit 40) (@PySem.Obj.mk (@PySem.Value.type "tuple") (@Option.none @Nat) (@PySem.Data.seq (@List.toArray @PySem.Value ([])) (0 : Nat)) (@List.toArray (@Option @PySem.Value) ([])))) :: (@Prod.mk @Nat @PySem.Obj (nat_lit 42) (@PySem.Obj.mk (@PySem.Value.type "tuple") (@Option.none @Nat) (@PySem.Data.seq (@List.toArray @PySem.Value ((@PySem.Value.str (@PySem.Str.ofString "iterator") (328 : Nat)) :: (@PySem.Value.str (@PySem.Str.ofString "b") (329 : Nat)) :: (@PySem.Value.str (@PySem.Str.ofString "val") (330 : Nat)) :: [])) (0 : Nat)) (@List.toArray (@Option @PySem.Value) ([])))) :: (@Prod.mk @Nat @PySem.Obj (nat_lit 43) (@PySem.Obj.mk (@PySem.Value.type "tuple") (@Option.none @Nat) (@PySem.Data.seq (@List.toArray @PySem.Value ([])) (0 : Nat)) (@List.toArray (@Option @PySem.Value) ([])))) :: (@Prod.mk @Nat @PySem.Obj (nat_lit 45) (@PySem.Obj.mk (@PySem.Value.type "code") (@Option.none @Nat) (@PySem.Data.fields (@List.toArray @PySem.Value ((@PySem.Value.str (@PySem.Str.ofString "_parse_varint") (325 : Nat)) :: (@PySem.Value.str (@PySem.Str.ofString "_parse_varint") (326 : Nat)) :: (@PySem.Value.str (@PySem.Str.ofString "/claim/cut.py") (327 : Nat)) :: (@PySem.Value.int (16 : Int) (0 : Nat)) :: (@PySem.Value.int (1 : Int) (0 : Nat)) :: (@PySem.Value.int (0 : Int) (0 : Nat)) :: (@PySem.Value.int (0 : Int) (0 : Nat)) :: (@PySem.Value.int (3 : Int) (0 : Nat)) :: (@PySem.Value.ref (40 : Nat)) :: (@PySem.Value.bool @Bool.true) :: (@PySem.Value.int (276 : Int) (0 : Nat)) :: (@PySem.Value.ref (41 : Nat)) :: @PySem.Value.none :: (@PySem.Value.ref (42 : Nat)) :: (@PySem.Value.ref (43 : Nat)) :: (@PySem.Value.ref (44 : Nat)) :: (@PySem.Value.int (331 : Int) (0 : Nat)) :: (@PySem.Value.int (16 : Int) (0 : Nat)) :: (@PySem.Value.str (@PySem.Str.ofString "/claim/cut.py") (332 : Nat)) :: []))) (@List.toArray (@Option @PySem.Value) ([])))) :: (@Prod.mk @Nat @PySem.Obj (nat_lit 46) (@PySem.Obj.mk (@PySem.Value.type "function") (@Option.none @Nat) (@PySem.Data.func (@PySem.FuncData.mk (@PySem.Str.ofString "_parse_varint") (@PySem.Str.ofString "_parse_varint") (v4x1) (@PySem.FuncBody.stmts (v4x2)) (v4x6) (3 : Nat) ([]) @PySem.Value.none @PySem.Value.none @PySem.Value.none (@PySem.Value.str (@PySem.Str.ofString "cpy313.dis") (282 : Nat)) (@Option.none @Nat) (@PySem.Value.ref (45 : Nat)) @PySem.Value.none (0 : Nat))) (@List.toArray (@Option @PySem.Value) ([])))) :: (@Prod.mk @Nat @PySem.Obj (nat_lit 47) (@PySem.Obj.mk (@PySem.Value.type "tuple") (@Option.none @Nat) (@PySem.Data.seq (@List.toArray @PySem.Value ([])) (0 : Nat)) (@List.toArray (@Option @PySem.Value) ([])))) :: (@Prod.mk @Nat @PySem.Obj (nat_lit 49) (@PySem.Obj.mk (@PySem.Value.type "tuple") (@Option.none @Nat) (@PySem.Data.seq (@List.toArray @PySem.Value ((@PySem.Value.str (@PySem.Str.ofString "addr") (339 : Nat)) :: (@PySem.Value.str (@PySem.Str.ofString "pos") (340 : Nat)) :: (@PySem.Value.str (@PySem.Str.ofString "escape") (341 : Nat)) :: (@PySem.Value.str (@PySem.Str.ofString "ch") (342 : Nat)) :: [])) (0 : Nat)) (@List.toArray (@Option @PySem.Value) ([])))) :: (@Prod.mk @Nat @PySem.Obj (nat_lit 50) (@PySem.Obj.mk (@PySem.Value.type "tuple") (@Option.none @Nat) (@PySem.Data.seq (@List.toArray @PySem.Value ([])) (0 : Nat)) (@List.toArray (@Option @PySem.Value) ([])))) :: (@Prod.mk @Nat @PySem.Obj (nat_lit 52) (@PySem.Obj.mk (@PySem.Value.type "code") (@Option.none @Nat) (@PySem.Data.fields (@List.toArray @PySem.Value ((@PySem.Value.str (@PySem.Str.ofString "_iter_escaped_chars") (336 : Nat)) :: (@PySem.Value.str (@PySem.Str.ofString "_iter_escaped_chars") (337 : Nat)) :: (@PySem.Value.str (@PySem.Str.ofString "/claim/cut.py") (338 : Nat)) :: (@PySem.Value.int (25 : Int) (0 : Nat)) :: (@PySem.Value.int (1 : Int) (0 : Nat)) :: (@PySem.Value.int (0 : Int) (0 : Nat)) :: (@PySem.Value.int (0 : Int) (0 : Nat)) :: (@PySem.Value.int (35 : Int) (0 : Nat)) :: (@PySem.Value.ref (47 : Nat)) :: (@PySem.Value.bool @Bool.true) :: (@PySem.Value.int (276 : Int) (0 : Nat)) :: (@PySem.Value.ref (48 : Nat)) :: @PySem.Value.none :: (@PySem.Value.ref (49 : Nat)) :: (@PySem.Value.ref (50 : Nat)) :: (@PySem.Value.ref (51 : Nat)) :: (@PySem.Value.int (343 : Int) (0 : Nat)) :: (@PySem.Value.int (25 : Int) (0 : Nat)) :: (@PySem.Value.str (@PySem.Str.ofString "/claim/cut.py") (344 : Nat)) :: []))) (@List.toArray (@Option @PySem.Value) ([])))) :: (@Prod.mk @Nat @PySem.Obj (nat_lit 53) (@PySem.Obj.mk (@PySem.Value.type "function") (@Option.none @Nat) (@PySem.Data.func (@PySem.FuncData.mk (@PySem.Str.ofString "_iter_escaped_chars") (@PySem.Str.ofString "_iter_escaped_chars") (v6x1) (@PySem.FuncBody.stmts (v6x2)) (v6x6) (3 : Nat) ([]) @PySem.Value.none @PySem.Value.none @PySem.Value.none (@PySem.Value.str (@PySem.Str.ofString "cpy313.email.utils") (334 : Nat)) (@Option.none @Nat) (@PySem.Value.ref (52 : Nat)) @PySem.Value.none (0 : Nat))) (@List.toArray (@Option @PySem.Value) ([])))) :: (@Prod.mk @Nat @PySem.Obj (nat_lit 54) (@PySem.Obj.mk (@PySem.Value.type "tuple") (@Option.none @Nat) (@PySem.Data.seq (@List.toArray @PySem.Value ([])) (0 : Nat)) (@List.toArray (@Option @PySem.Value) ([])))) :: (@Prod.mk @Nat @PySem.Obj (nat_lit 56) (@PySem.Obj.mk (@PySem.Value.type "tuple") (@Option.none @Nat) (@PySem.Data.seq (@List.toArray @PySem.Value ((@PySem.Value.str (@PySem.Str.ofString "addr") (349 : Nat)) :: (@PySem.Value.str (@PySem.Str.ofString "start") (350 : Nat)) :: (@PySem.Value.str (@PySem.Str.ofString "open_pos") (351 : Nat)) :: (@PySem.Value.str (@PySem.Str.ofString "result") (352 : Nat)) :: (@PySem.Value.str (@PySem.Str.ofString "pos") (353 : Nat)) :: (@PySem.Value.str (@PySem.Str.ofString "ch") (354 : Nat)) :: [])) (0 : Nat)) (@List.toArray (@Option @PySem.Value) ([])))) :: (@Prod.mk @Nat @PySem.Obj (nat_lit 57) (@PySem.Obj.mk (@PySem.Value.type "tuple") (@Option.none @Nat) (@PySem.Data.seq (@List.toArray @PySem.Value ([])) (0 : Nat)) (@List.toArray (@Option @PySem.Value) ([])))) :: (@Prod.mk @Nat @PySem.Obj (nat_lit 59) (@PySem.Obj.mk (@PySem.Value.type "code") (@Option.none @Nat) (@PySem.Data.fields (@List.toArray @PySem.Value ((@PySem.Value.str (@PySem.Str.ofString "_strip_quoted_realnames") (346 : Nat)) :: (@PySem.Value.str (@PySem.Str.ofString "_strip_quoted_realnames") (347 : Nat)) :: (@PySem.Value.str (@PySem.Str.ofString "/claim/cut.py") (348 : Nat)) :: (@PySem.Value.int (38 : Int) (0 : Nat)) :: (@PySem.Value.int (1 : Int) (0 : Nat)) :: (@PySem.Value.int (0 : Int) (0 : Nat)) :: (@PySem.Value.int (0 : Int) (0 : Nat)) :: (@PySem.Value.int (3 : Int) (0 : Nat)) :: (@PySem.Value.ref (54 : Nat)) :: (@PySem.Value.bool @Bool.true) :: (@PySem.Value.int (276 : Int) (0 : Nat)) :: (@PySem.Value.ref (55 : Nat)) :: @PySem.Value.none :: (@PySem.Value.ref (56 : Nat)) :: (@PySem.Value.ref (57 : Nat)) :: (@PySem.Value.ref (58 : Nat)) :: (@PySem.Value.int (355 : Int) (0 : Nat)) :: (@PySem.Value.int (38 : Int) (0 : Nat)) :: (@PySem.Value.str (@PySem.Str.ofString "/claim/cut.py") (356 : Nat)) :: []))) (@List.toArray (@Option @PySem.Value) ([])))) :: (@Prod.mk @Nat @PySem.Obj (nat_lit 60) (@PySem.Obj.mk (@PySem.Value.type "function") (@Option.none @Nat) (@PySem.Data.func (@PySem.FuncData.mk (@PySem.Str.ofString "_strip_quoted_realnames") (@PySem.Str.ofString "_strip_quoted_realnames") (v7x1) (@PySem.FuncBody.stmts (v7x2)) (v7x6) (3 : Nat) ([]) @PySem.Value.none @PySem.Value.none @PySem.Value.none (@PySem.Value.str (@PySem.Str.ofString "cpy313.email.utils") (334 : Nat)) (@Option.none @Nat) (@PySem.Value.ref (59 : Nat)) @PySem.Value.none (0 : Nat))) (@List.toArray (@Option @PySem.Value) ([])))) :: (@Prod.mk @Nat @PySem.Obj (nat_lit 64) (@PySem.Obj.mk (@PySem.Value.type "tuple") (@Option.none @Nat) (@PySem.Data.seq (@List.toArray @PySem.Value ((@PySem.Value.int (14 : Int) (0 : Nat)) :: (@PySem.Value.int (4 : Int) (0 : Nat)) :: (@PySem.Value.int (0 : Int) (0 : Nat)) :: (@PySem.Value.int (1 : Int) (0 : Nat)) :: (@PySem.Value.int (1 : Int) (0 : Nat)) :: (@PySem.Value.int (6 : Int) (0 : Nat)) :: (@PySem.Value.int (1 : Int) (0 : Nat)) :: (@PySem.Value.int (16 : Int) (0 : Nat)) :: (@PySem.Value.int (46 : Int) (0 : Nat)) :: (@PySem.Value.int (1 : Int) (0 : Nat)) :: [])) (0 : Nat)) (@List.toArray (@Option @PySem.Value) ([])))) :: (@Prod.mk @Nat @PySem.Obj (nat_lit 65) (@PySem.Obj.mk (@PySem.Value.type "re.Pattern") (@Option.none @Nat) (@PySem.Data.fields (@List.toArray @PySem.Value ((@PySem.Value.str (@PySem.Str.ofString "(?m)^\\.") (361 : Nat)) :: (@PySem.Value.int (40 : Int) (374 : Nat)) :: (@PySem.Value.int (0 : Int) (0 : Nat)) :: @PySem.Value.none :: @PySem.Value.none :: (@PySem.Value.ref (64 : Nat)) :: (@PySem.Value.int (0 : Int) (0 : Nat)) :: []))) (@List.toArray (@Option @PySem.Value) ([])))) :: (@Prod.mk @Nat @PySem.Obj (nat_lit 69) (@PySem.Obj.mk (@PySem.Value.type "tuple") (@Option.none @Nat) (@PySem.Data.seq (@List.toArray @PySem.Value ((@PySem.Value.int (14 : Int) (0 : Nat)) :: (@PySem.Value.int (9 : Int) (0 : Nat)) :: (@PySem.Value.int (4 : Int) (0 : Nat)) :: (@PySem.Value.int (1 : Int) (0 : Nat)) :: (@PySem.Value.int (2 : Int) (0 : Nat)) :: (@PySem.Value.int (16 : Int) (0 : Nat)) :: (@PySem.Value.int (10 : Int) (0 : Nat)) :: (@PySem.Value.int (16 : Int) (0 : Nat)) :: (@PySem.Value.int (13 : Int) (0 : Nat)) :: (@PySem.Value.int (0 : Int) (0 : Nat)) :: (@PySem.Value.int (7 : Int) (0 : Nat)) :: (@PySem.Value.int (7 : Int) (0 : Nat)) :: (@PySem.Value.int (16 : Int) (0 : Nat)) :: (@PySem.Value.int (13 : Int) (0 : Nat)) :: (@PySem.Value.int (16 : Int) (0 : Nat)) :: (@PySem.Value.int (10 : Int) (0 : Nat)) :: (@PySem.Value.int (15 : Int) (0 : Nat)) :: (@PySem.Value.int (18 : Int) (0 : Nat)) :: (@PySem.Value.int (5 : Int) (0 : Nat)) :: (@PySem.Value.int (16 : Int) (0 : Nat)) :: (@PySem.Value.int (10 : Int) (0 : Nat)) :: (@PySem.Value.int (15 : Int) (0 : Nat)) :: (@PySem.Value.int (13 : Int) (0 : Nat)) :: (@PySem.Value.int (11 : Int) (0 : Nat)) :: (@PySem.Value.int (16 : Int) (0 : Nat)) :: (@PySem.Value.int (13 : Int) (0 : Nat)) :: (@PySem.Value.int (5 : Int) (0 : Nat)) :: (@PySem.Value.int (5 : Int) (0 : Nat)) :: (@PySem.Value.int (0 : Int) (0 : Nat)) :: (@PySem.Value.int (16 : Int) (0 : Nat)) :: (@PySem.Value.int (10 : Int) (0 : Nat)) :: (@PySem.Value.int (1 : Int) (0 : Nat)) :: (@PySem.Value.int (15 : Int) (0 : Nat)) :: (@PySem.Value.int (2 : Int) (0 : Nat)) :: (@PySem.Value.int (0 : Int) (0 : Nat)) :: (@PySem.Value.int (1 : Int) (0 : Nat)) :: [])) (0 : Nat)) (@List.toArray (@Option @PySem.Value) ([])))) :: (@Prod.mk @Nat @PySem.Obj (nat_lit 70) (@PySem.Obj.mk (@PySem.Value.type "re.Pattern") (@Option.none @Nat) (@PySem.Data.fields (@List.toArray @PySem.Value ((@PySem.Value.str (@PySem.Str.ofString "(?:\\r\\n|\\n|\\r(?!\\n))") (377 : Nat)) :: (@PySem.Value.int (32 : Int) (416 : Nat)) :: (@PySem.Value.int (0 : Int) (0 : Nat)) :: @PySem.Value.none :: @PySem.Value.none :: (@PySem.Value.ref (69 : Nat)) :: (@PySem.Value.int (0 : Int) (0 : Nat)) :: []))) (@List.toArray (@Option @PySem.Value) ([])))) :: (@Prod.mk @Nat @PySem.Obj (nat_lit 71) (@PySem.Obj.mk (@PySem.Value.type "tuple") (@Option.none @Nat) (@PySem.Data.seq (@List.toArray @PySem.Value ([])) (0 : Nat)) (@List.toArray (@Option @PySem.Value) ([])))) :: (@Prod.mk @Nat @PySem.Obj (nat_lit 73) (@PySem.Obj.mk (@PySem.Value.type "tuple") (@Option.none @Nat) (@PySem.Data.seq (@List.toArray @PySem.Value ((@PySem.Value.str (@PySem.Str.ofString "data") (423 : Nat)) :: [])) (0 : Nat)) (@List.toArray (@Option @PySem.Value) ([])))) :: (@Prod.mk @Nat @PySem.Obj (nat_lit 74) (@PySem.Obj.mk (@PySem.Value.type "tuple") (@Option.none @Nat) (@PySem.Data.seq (@List.toArray @PySem.Value ([])) (0 : Nat)) (@List.toArray (@Option @PySem.Value) ([])))) :: (@Prod.mk @Nat @PySem.Obj (nat_lit 76) (@PySem.Obj.mk (@PySem.Value.type "code") (@Option.none @Nat) (@PySem.Data.fields (@List.toArray @PySem.Value ((@PySem.Value.str (@PySem.Str.ofString "quotedata") (420 : Nat)) :: (@PySem.Value.str (@PySem.Str.ofString "quotedata") (421 : Nat)) :: (@PySem.Value.str (@PySem.Str.ofString "/claim/cut.py") (422 : Nat)) :: (@PySem.Value.int (60 : Int) (0 : Nat)) :: (@PySem.Value.int (1 : Int) (0 : Nat)) :: (@PySem.Value.int (0 : Int) (0 : Nat)) :: (@PySem.Value.int (0 : Int) (0 : Nat)) :: (@PySem.Value.int (3 : Int) (0 : Nat)) :: (@PySem.Value.ref (71 : Nat)) :: (@PySem.Value.bool @Bool.true) :: (@PySem.Value.int (276 : Int) (0 : Nat)) :: (@PySem.Value.ref (72 : Nat)) :: @PySem.Value.none :: (@PySem.Value.ref (73 : Nat)) :: (@PySem.Value.ref (74 : Nat)) :: (@PySem.Value.ref (75 : Nat)) :: (@PySem.Value.int (424 : Int) (0 : Nat)) :: (@PySem.Value.int (60 : Int) (0 : Nat)) :: (@PySem.Value.str (@PySem.Str.ofString "/claim/cut.py") (425 : Nat)) :: []))) (@List.toArray (@Option @PySem.Value) ([])))) :: (@Prod.mk @Nat @PySem.Obj (nat_lit 77) (@PySem.Obj.mk (@PySem.Value.type "function") (@Option.none @Nat) (@PySem.Data.func (@PySem.FuncData.mk (@PySem.Str.ofString "quotedata") (@PySem.Str.ofString "quotedata") (v12x1) (@PySem.FuncBody.stmts (v12x2)) (v12x6) (3 : Nat) ([]) @PySem.Value.none @PySem.Value.none @PySem.Value.none (@PySem.Value.str (@PySem.Str.ofString "cpy313.smtplib") (358 : Nat)) (@Option.none @Nat) (@PySem.Value.ref (76 : Nat)) @PySem.Value.none (0 : Nat))) (@List.toArray (@Option @PySem.Value) ([])))) :: (@Prod.mk @Nat @PySem.Obj (nat_lit 78) (@PySem.Obj.mk (@PySem.Value.type "dict") (@Option.none @Nat) (@PySem.Data.dict (@List.toArray @PySem.DictEntry ((@PySem.DictEntry.mk (@PySem.PyData.keyHash P (@PySem.Str.ofString "!")) (@PySem.Value.str (@PySem.Str.ofString "!") (529 : Nat)) (@PySem.Value.int (54 : Int) (525 : Nat))) :: (@PySem.DictEntry.mk (@PySem.PyData.keyHash P (@PySem.Str.ofString "!=")) (@PySem.Value.str (@PySem.Str.ofString "!=") (531 : Nat)) (@PySem.Value.int (28 : Int) (473 : Nat))) :: (@PySem.DictEntry.mk (@PySem.PyData.keyHash P (@PySem.Str.ofString "%")) (@PySem.Value.str (@PySem.Str.ofString "%") (533 : Nat)) (@PySem.Value.int (24 : Int) (465 : Nat))) :: (@PySem.DictEntry.mk (@PySem.PyData.keyHash P (@PySem.Str.ofString "%=")) (@PySem.Value.str (@PySem.Str.ofString "%=") (535 : Nat)) (@PySem.Value.int (40 : Int) (497 : Nat))) :: (@PySem.DictEntry.mk (@PySem.PyData.keyHash P (@PySem.Str.ofString "&")) (@PySem.Value.str (@PySem.Str.ofString "&") (537 : Nat)) (@PySem.Value.int (19 : Int) (455 : Nat))) :: (@PySem.DictEntry.mk (@PySem.PyData.keyHash P (@PySem.Str.ofString "&=")) (@PySem.Value.str (@PySem.Str.ofString "&=") (539 : Nat)) (@PySem.Value.int (41 : Int) (499 : Nat))) :: (@PySem.DictEntry.mk (@PySem.PyData.keyHash P (@PySem.Str.ofString "(")) (@PySem.Value.str (@PySem.Str.ofString "(") (541 : Nat)) (@PySem.Value.int (7 : Int) (431 : Nat))) :: (@PySem.DictEntry.mk (@PySem.PyData.keyHash P (@PySem.Str.ofString ")")) (@PySem.Value.str (@PySem.Str.ofString ")") (543 : Nat)) (@PySem.Value.int (8 : Int) (433 : Nat))) :: (@PySem.DictEntry.mk (@PySem.PyData.keyHash P (@PySem.Str.ofString "*")) (@PySem.Value.str (@PySem.Str.ofString "*") (545 : Nat)) (@PySem.Value.int (16 : Int) (449 : Nat))) :: (@PySem.DictEntry.mk (@PySem.PyData.keyHash P (@PySem.Str.ofString "**")) (@PySem.Value.str (@PySem.Str.ofString "**") (547 : Nat)) (@PySem.Value.int (35 : Int) (487 : Nat))) :: (@PySem.DictEntry.mk (@PySem.PyData.keyHash P (@PySem.Str.ofString "**=")) (@PySem.Value.str (@PySem.Str.ofString "**=") (549 : Nat)) (@PySem.Value.int (46 : Int) (509 : Nat))) :: (@PySem.DictEntry.mk (@PySem.PyData.keyHash P (@PySem.Str.ofString "*=")) (@PySem.Value.str (@PySem.Str.ofString "*=") (551 : Nat)) (@PySem.Value.int (38 : Int) (493 : Nat))) :: (@PySem.DictEntry.mk (@PySem.PyData.keyHash P (@PySem.Str.ofString "+")) (@PySem.Value.str (@PySem.Str.ofString "+") (553 : Nat)) (@PySem.Value.int (14 : Int) (445 : Nat))) :: (@PySem.DictEntry.mk (@PySem.PyData.keyHash P (@PySem.Str.ofString "+=")) (@PySem.Value.str (@PySem.Str.ofString "+=") (555 : Nat)) (@PySem.Value.int (36 : Int) (489 : Nat))) :: (@PySem.DictEntry.mk (@PySem.PyData.keyHash P (@PySem.Str.ofString ",")) (@PySem.Value.str (@PySem.Str.ofString ",") (557 : Nat)) (@PySem.Value.int (12 : Int) (441 : Nat))) :: (@PySem.DictEntry.mk (@PySem.PyData.keyHash P (@PySem.Str.ofString "-")) (@PySem.Value.str (@PySem.Str.ofString "-") (559 : Nat)) (@PySem.Value.int (15 : Int) (447 : Nat))) :: (@PySem.DictEntry.mk (@PySem.PyData.keyHash P (@PySem.Str.ofString "-=")) (@PySem.Value.str (@PySem.Str.ofString "-=") (561 : Nat)) (@PySem.Value.int (37 : Int) (491 : Nat))) :: (@PySem.DictEntry.mk (@PySem.PyData.keyHash P (@PySem.Str.ofString "->")) (@PySem.Value.str (@PySem.Str.ofString "->") (563 : Nat)) (@PySem.Value.int (51 : Int) (519 : Nat))) :: (@PySem.DictEntry.mk (@PySem.PyData.keyHash P (@PySem.Str.ofString ".")) (@PySem.Value.str (@PySem.Str.ofString ".") (565 : Nat)) (@PySem.Value.int (23 : Int) (463 : Nat))) :: (@PySem.DictEntry.mk (@PySem.PyData.keyHash P (@PySem.Str.ofString "...")) (@PySem.Value.str (@PySem.Str.ofString "...") (567 : Nat)) (@PySem.Value.int (52 : Int) (521 : Nat))) :: (@PySem.DictEntry.mk (@PySem.PyData.keyHash P (@PySem.Str.ofString "/")) (@PySem.Value.str (@PySem.Str.ofString "/") (569 : Nat)) (@PySem.Value.int (17 : Int) (451 : Nat))) :: (@PySem.DictEntry.mk (@PySem.PyData.keyHash P (@PySem.Str.ofString "//")) (@PySem.Value.str (@PySem.Str.ofString "//") (571 : Nat)) (@PySem.Value.int (47 : Int) (511 : Nat))) :: (@PySem.DictEntry.mk (@PySem.PyData.keyHash P (@PySem.Str.ofString "//=")) (@PySem.Value.str (@PySem.Str.ofString "//=") (573 : Nat)) (@PySem.Value.int (48 : Int) (513 : Nat))) :: (@PySem.DictEntry.mk (@PySem.PyData.keyHash P (@PySem.Str.ofString "/=")) (@PySem.Value.str (@PySem.Str.ofString "/=") (575 : Nat)) (@PySem.Value.int (39 : Int) (495 : Nat))) :: (@PySem.DictEntry.mk (@PySem.PyData.keyHash P (@PySem.Str.ofString ":")) (@PySem.Value.str (@PySem.Str.ofString ":") (577 : Nat)) (@PySem.Value.int (11 : Int) (439 : Nat))) :: (@PySem.DictEntry.mk (@PySem.PyData.keyHash P (@PySem.Str.ofString ":=")) (@PySem.Value.str (@PySem.Str.ofString ":=") (579 : Nat)) (@PySem.Value.int (53 : Int) (523 : Nat))) :: (@PySem.DictEntry.mk (@PySem.PyData.keyHash P (@PySem.Str.ofString ";")) (@PySem.Value.str (@PySem.Str.ofString ";") (581 : Nat)) (@PySem.Value.int (13 : Int) (443 : Nat))) :: (@PySem.DictEntry.mk (@PySem.PyData.keyHash P (@PySem.Str.ofString "<")) (@PySem.Value.str (@PySem.Str.ofString "<") (583 : Nat)) (@PySem.Value.int (20 : Int) (457 : Nat))) :: (@PySem.DictEntry.mk (@PySem.PyData.keyHash P (@PySem.Str.ofString "<<")) (@PySem.Value.str (@PySem.Str.ofString "<<") (585 : Nat)) (@PySem.Value.int (33 : Int) (483 : Nat))) :: (@PySem.DictEntry.mk (@PySem.PyData.keyHash P (@PySem.Str.ofString "<<=")) (@PySem.Value.str (@PySem.Str.ofString "<<=") (587 : Nat)) (@PySem.Value.int (44 : Int) (505 : Nat))) :: (@PySem.DictEntry.mk (@PySem.PyData.keyHash P (@PySem.Str.ofString "<=")) (@PySem.Value.str (@PySem.Str.ofString "<=") (589 : Nat)) (@PySem.Value.int (29 : Int) (475 : Nat))) :: (@PySem.DictEntry.mk (@PySem.PyData.keyHash P (@PySem.Str.ofString "=")) (@PySem.Value.str (@PySem.Str.ofString "=") (591 : Nat)) (@PySem.Value.int (22 : Int) (461 : Nat))) :: (@PySem.DictEntry.mk (@PySem.PyData.keyHash P (@PySem.Str.ofString "==")) (@PySem.Value.str (@PySem.Str.ofString "==") (593 : Nat)) (@PySem.Value.int (27 : Int) (471 : Nat))) :: (@PySem.DictEntry.mk (@PySem.PyData.keyHash P (@PySem.Str.ofString ">")) (@PySem.Value.str (@PySem.Str.ofString ">") (595 : Nat)) (@PySem.Value.int (21 : Int) (459 : Nat))) :: (@PySem.DictEntry.mk (@PySem.PyData.keyHash P (@PySem.Str.ofString ">=")) (@PySem.Value.str (@PySem.Str.ofString ">=") (597 : Nat)) (@PySem.Value.int (30 : Int) (477 : Nat))) :: (@PySem.DictEntry.mk (@PySem.PyData.keyHash P (@PySem.Str.ofString ">>")) (@PySem.Value.str (@PySem.Str.ofString ">>") (598 : Nat)) (@PySem.Value.int (34 : Int) (485 : Nat))) :: (@PySem.DictEntry.mk (@PySem.PyData.keyHash P (@PySem.Str.ofString ">>=")) (@PySem.Value.str (@PySem.Str.ofString ">>=") (599 : Nat)) (@PySem.Value.int (45 : Int) (507 : Nat))) :: (@PySem.DictEntry.mk (@PySem.PyData.keyHash P (@PySem.Str.ofString "@")) (@PySem.Value.str (@PySem.Str.ofString "@") (600 : Nat)) (@PySem.Value.int (49 : Int) (515 : Nat))) :: (@PySem.DictEntry.mk (@PySem.PyData.keyHash P (@PySem.Str.ofString "@=")) (@PySem.Value.str (@PySem.Str.ofString "@=") (601 : Nat)) (@PySem.Value.int (50 : Int) (517 : Nat))) :: (@PySem.DictEntry.mk (@PySem.PyData.keyHash P (@PySem.Str.ofString "[")) (@PySem.Value.str (@PySem.Str.ofString "[") (602 : Nat)) (@PySem.Value.int (9 : Int) (435 : Nat))) :: (@PySem.DictEntry.mk (@PySem.PyData.keyHash P (@PySem.Str.ofString "]")) (@PySem.Value.str (@PySem.Str.ofString "]") (603 : Nat)) (@PySem.Value.int (10 : Int) (437 : Nat))) :: (@PySem.DictEntry.mk (@PySem.PyData.keyHash P (@PySem.Str.ofString "^")) (@PySem.Value.str (@PySem.Str.ofString "^") (604 : Nat)) (@PySem.Value.int (32 : Int) (481 : Nat))) :: (@PySem.DictEntry.mk (@PySem.PyData.keyHash P (@PySem.Str.ofString "^=")) (@PySem.Value.str (@PySem.Str.ofString "^=") (605 : Nat)) (@PySem.Value.int (43 : Int) (503 : Nat))) :: (@PySem.DictEntry.mk (@PySem.PyData.keyHash P (@PySem.Str.ofString "{")) (@PySem.Value.str (@PySem.Str.ofString "{") (606 : Nat)) (@PySem.Value.int (25 : Int) (467 : Nat))) :: (@PySem.DictEntry.mk (@PySem.PyData.keyHash P (@PySem.Str.ofString "|")) (@PySem.Value.str (@PySem.Str.ofString "|") (607 : Nat)) (@PySem.Value.int (18 : Int) (453 : Nat))) :: (@PySem.DictEntry.mk (@PySem.PyData.keyHash P (@PySem.Str.ofString "|=")) (@PySem.Value.str (@PySem.Str.ofString "|=") (608 : Nat)) (@PySem.Value.int (42 : Int) (501 : Nat))) :: (@PySem.DictEntry.mk (@PySem.PyData.keyHash P (@PySem.Str.ofString "}")) (@PySem.Value.str (@PySem.Str.ofString "}") (609 : Nat)) (@PySem.Value.int (26 : Int) (469 : Nat))) :: (@PySem.DictEntry.mk (@PySem.PyData.keyHash P (@PySem.Str.ofString "~")) (@PySem.Value.str (@PySem.Str.ofString "~") (610 : Nat)) (@PySem.Value.int (31 : Int) (479 : Nat))) :: [])) (48 : Nat)) (@List.toArray (@Option @PySem.Value) ([])))) :: (@Prod.mk @Nat @PySem.Obj (nat_lit 81) (@PySem.Obj.mk (@PySem.Value.type "tuple") (@Option.none @Nat) (@PySem.Data.seq (@List.toArray @PySem.Value ([])) (0 : Nat)) (@List.toArray (@Option @PySem.Value) ([])))) :: (@Prod.mk @Nat @PySem.Obj (nat_lit 83) (@PySem.Obj.mk (@PySem.Value.type "tuple") (@Option.none @Nat) (@PySem.Data.seq (@List.toArray @PySem.Value ((@PySem.Value.str (@PySem.Str.ofString "x") (629 : Nat)) :: [])) (0 : Nat)) (@List.toArray (@Option @PySem.Value) ([])))) :: (@Prod.mk @Nat @PySem.Obj (nat_lit 84) (@PySem.Obj.mk (@PySem.Value.type "tuple") (@Option.none @Nat) (@PySem.Data.seq (@List.toArray @PySem.Value ([])) (0 : Nat)) (@List.toArray (@Option @PySem.Value) ([])))) :: (@Prod.mk @Nat @PySem.Obj (nat_lit 86) (@PySem.Obj.mk (@PySem.Value.type "code") (@Option.none @Nat) (@PySem.Data.fields (@List.toArray @PySem.Value ((@PySem.Value.str (@PySem.Str.ofString "ISTERMINAL") (626 : Nat)) :: (@PySem.Value.str (@PySem.Str.ofString "ISTERMINAL") (627 : Nat)) :: (@PySem.Value.str (@PySem.Str.ofString "/claim/cut.py") (628 : Nat)) :: (@PySem.Value.int (114 : Int) (0 : Nat)) :: (@PySem.Value.int (1 : Int) (0 : Nat)) :: (@PySem.Value.int (0 : Int) (0 : Nat)) :: (@PySem.Value.int (0 : Int) (0 : Nat)) :: (@PySem.Value.int (3 : Int) (0 : Nat)) :: (@PySem.Value.ref (81 : Nat)) :: (@PySem.Value.bool @Bool.true) :: (@PySem.Value.int (276 : Int) (0 : Nat)) :: (@PySem.Value.ref (82 : Nat)) :: @PySem.Value.none :: (@PySem.Value.ref (83 : Nat)) :: (@PySem.Value.ref (84 : Nat)) :: (@PySem.Value.ref (85 : Nat)) :: (@PySem.Value.int (630 : Int) (0 : Nat)) :: (@PySem.Value.int (114 : Int) (0 : Nat)) :: (@PySem.Value.str (@PySem.Str.ofString "/claim/cut.py") (631 : Nat)) :: []))) (@List.toArray (@Option @PySem.Value) ([])))) :: (@Prod.mk @Nat @PySem.Obj (nat_lit 87) (@PySem.Obj.mk (@PySem.Value.type "function") (@Option.none @Nat) (@PySem.Data.func (@PySem.FuncData.mk (@PySem.Str.ofString "ISTERMINAL") (@PySem.Str.ofString "ISTERMINAL") (v65x1) (@PySem.FuncBody.stmts (v65x2)) (v65x6) (3 : Nat) ([]) @PySem.Value.none @PySem.Value.none @PySem.Value.none (@PySem.Value.str (@PySem.Str.ofString "cpy313.token") (427 : Nat)) (@Option.none @Nat) (@PySem.Value.ref (86 : Nat)) @PySem.Value.none (0 : Nat))) (@List.toArray (@Option @PySem.Value) ([])))) :: (@Prod.mk @Nat @PySem.Obj (nat_lit 88) (@PySem.Obj.mk (@PySem.Value.type "tuple") (@Option.none @Nat) (@PySem.Data.seq (@List.toArray @PySem.Value ([])) (0 : Nat)) (@List.toArray (@Option @PySem.Value) ([])))) :: (@Prod.mk @Nat @PySem.Obj (nat_lit 90) (@PySem.Obj.mk (@PySem.Value.type "tuple") (@Option.none @Nat) (@PySem.Data.seq (@List.toArray @PySem.Value ((@PySem.Value.str (@PySem.Str.ofString "x") (636 : Nat)) :: [])) (0 : Nat)) (@List.toArray (@Option @PySem.Value) ([])))) :: (@Prod.mk @Nat @PySem.Obj (nat_lit 91) (@PySem.Obj.mk (@PySem.Value.type "tuple") (@Option.none @Nat) (@PySem.Data.seq (@List.toArray @PySem.Value ([])) (0 : Nat)) (@List.toArray (@Option @PySem.Value) ([])))) :: (@Prod.mk @Nat @PySem.Obj (nat_lit 93) (@PySem.Obj.mk (@PySem.Value.type "code") (@Option.none @Nat) (@PySem.Data.fields (@List.toArray @PySem.Value ((@PySem.Value.str (@PySem.Str.ofString "ISEOF") (633 : Nat)) :: (@PySem.Value.str (@PySem.Str.ofString "ISEOF") (634 : Nat)) :: (@PySem.Value.str (@PySem.Str.ofString "/claim/cut.py") (635 : Nat)) :: (@PySem.Value.int (116 : Int) (0 : Nat)) :: (@PySem.Value.int (1 : Int) (0 : Nat)) :: (@PySem.Value.int (0 : Int) (0 : Nat)) :: (@PySem.Value.int (0 : Int) (0 : Nat)) :: (@PySem.Value.int (3 : Int) (0 : Nat)) :: (@PySem.Value.ref (88 : Nat)) :: (@PySem.Value.bool @Bool.true) :: (@PySem.Value.int (276 : Int) (0 : Nat)) :: (@PySem.Value.ref (89 : Nat)) :: @PySem.Value.none :: (@PySem.Value.ref (90 : Nat)) :: (@PySem.Value.ref (91 : Nat)) :: (@PySem.Value.ref (92 : Nat)) :: (@PySem.Value.int (637 : Int) (0 : Nat)) :: (@PySem.Value.int (116 : Int) (0 : Nat)) :: (@PySem.Value.str (@PySem.Str.ofString "/claim/cut.py") (638 : Nat)) :: []))) (@List.toArray (@Option @PySem.Value) ([])))) :: (@Prod.mk @Nat @PySem.Obj (nat_lit 94) (@PySem.Obj.mk (@PySem.Value.type "function") (@Option.none @Nat) (@PySem.Data.func (@PySem.FuncData.mk (@PySem.Str.ofString "ISEOF") (@PySem.Str.ofString "ISEOF") (v66x1) (@PySem.FuncBody.stmts (v66x2)) (v66x6) (3 : Nat) ([]) @PySem.Value.none @PySem.Value.none @PySem.Value.none (@PySem.Value.str (@PySem.Str.ofString "cpy313.token") (427 : Nat)) (@Option.none @Nat) (@PySem.Value.ref (93 : Nat)) @PySem.Value.none (0 : Nat))) (@List.toArray (@Option @PySem.Value) ([])))) :: (@Prod.mk @Nat @PySem.Obj (nat_lit 95) (@PySem.Obj.mk (@PySem.Value.type "tuple") (@Option.none @Nat) (@PySem.Data.seq (@List.toArray @PySem.Value ([])) (0 : Nat)) (@List.toArray (@Option @PySem.Value) ([])))) :: (@Prod.mk @Nat @PySem.Obj (nat_lit 97) (@PySem.Obj.mk (@PySem.Value.type "tuple") (@Option.none @Nat) (@PySem.Data.seq (@List.toArray @PySem.Value ((@PySem.Value.str (@PySem.Str.ofString "script") (645 : Nat)) :: (@PySem.Value.str (@PySem.Str.ofString "numbers") (646 : Nat)) :: (@PySem.Value.str (@PySem.Str.ofString "k") (647 : Nat)) :: [])) (0 : Nat)) (@List.toArray (@Option @PySem.Value) ([])))) :: (@Prod.mk @Nat @PySem.Obj (nat_lit 98) (@PySem.Obj.mk (@PySem.Value.type "tuple") (@Option.none @Nat) (@PySem.Data.seq (@List.toArray @PySem.Value ([])) (0 : Nat)) (@List.toArray (@Option @PySem.Value) ([])))) :: (@Prod.mk @Nat @PySem.Obj (nat_lit 100) (@PySem.Obj.mk (@PySem.Value.type "code") (@Option.none @Nat) (@PySem.Data.fields (@List.toArray @PySem.Value ((@PySem.Value.str (@PySem.Str.ofString "_law_numbers") (642 : Nat)) :: (@PySem.Value.str (@PySem.Str.ofString "_law_numbers") (643 : Nat)) :: (@PySem.Value.str (@PySem.Str.ofString "/claim/cut.py") (644 : Nat)) :: (@PySem.Value.int (119 : Int) (0 : Nat)) :: (@PySem.Value.int (1 : Int) (0 : Nat)) :: (@PySem.Value.int (0 : Int) (0 : Nat)) :: (@PySem.Value.int (0 : Int) (0 : Nat)) :: (@PySem.Value.int (3 : Int) (0 : Nat)) :: (@PySem.Value.ref (95 : Nat)) :: (@PySem.Value.bool @Bool.true) :: (@PySem.Value.int (276 : Int) (0 : Nat)) :: (@PySem.Value.ref (96 : Nat)) :: @PySem.Value.none :: (@PySem.Value.ref (97 : Nat)) :: (@PySem.Value.ref (98 : Nat)) :: (@PySem.Value.ref (99 : Nat)) :: (@PySem.Value.int (648 : Int) (0 : Nat)) :: (@PySem.Value.int (119 : Int) (0 : Nat)) :: (@PySem.Value.str (@PySem.Str.ofString "/claim/cut.py") (649 : Nat)) :: []))) (@List.toArray (@Option @PySem.Value) ([])))) :: (@Prod.mk @Nat @PySem.Obj (nat_lit 101) (@PySem.Obj.mk (@PySem.Value.type "function") (@Option.none @Nat) (@PySem.Data.func (@PySem.FuncData.mk (@PySem.Str.ofString "_law_numbers") (@PySem.Str.ofString "_law_numbers") (v68x1) (@PySem.FuncBody.stmts (v68x2)) (v68x6) (3 : Nat) ([]) @PySem.Value.none @PySem.Value.none @PySem.Value.none (@PySem.Value.str (@PySem.Str.ofString "law_sr0045_01") (640 : Nat)) (@Option.none @Nat) (@PySem.Value.ref (100 : Nat)) @PySem.Value.none (0 : Nat))) (@List.toArray (@Option @PySem.Value) ([])))) :: (@Prod.mk @Nat @PySem.Obj (nat_lit 102) (@PySem.Obj.mk (@PySem.Value.type "tuple") (@Option.none @Nat) (@PySem.Data.seq (@List.toArray @PySem.Value ([])) (0 : Nat)) (@List.toArray (@Option @PySem.Value) ([])))) :: (@Prod.mk @Nat @PySem.Obj (nat_lit 104) (@PySem.Obj.mk (@PySem.Value.type "tuple") (@Option.none @Nat) (@PySem.Data.seq (@List.toArray @PySem.Value ((@PySem.Value.str (@PySem.Str.ofString "number") (654 : Nat)) :: (@PySem.Value.str (@PySem.Str.ofString "found") (655 : Nat)) :: (@PySem.Value.str (@PySem.Str.ofString "base") (656 : Nat)) :: [])) (0 : Nat)) (@List.toArray (@Option @PySem.Value) ([])))) :: (@Prod.mk @Nat @PySem.Obj (nat_lit 105) (@PySem.Obj.mk (@PySem.Value.type "tuple") (@Option.none @Nat) (@PySem.Data.seq (@List.toArray @PySem.Value ([])) (0 : Nat)) (@List.toArray (@Option @PySem.Value) ([])))) :: (@Prod.mk @Nat @PySem.Obj (nat_lit 107) (@PySem.Obj.mk (@PySem.Value.type "code") (@Option.none @Nat) (@PySem.Data.fields (@List.toArray @PySem.Value ((@PySem.Value.str (@PySem.Str.ofString "_law_figures") (651 : Nat)) :: (@PySem.Value.str (@PySem.Str.ofString "_law_figures") (652 : Nat)) :: (@PySem.Value.str (@PySem.Str.ofString "/claim/cut.py") (653 : Nat)) :: (@PySem.Value.int (124 : Int) (0 : Nat)) :: (@PySem.Value.int (1 : Int) (0 : Nat)) :: (@PySem.Value.int (0 : Int) (0 : Nat)) :: (@PySem.Value.int (0 : Int) (0 : Nat)) :: (@PySem.Value.int (3 : Int) (0 : Nat)) :: (@PySem.Value.ref (102 : Nat)) :: (@PySem.Value.bool @Bool.true) :: (@PySem.Value.int (276 : Int) (0 : Nat)) :: (@PySem.Value.ref (103 : Nat)) :: @PySem.Value.none :: (@PySem.Value.ref (104 : Nat)) :: (@PySem.Value.ref (105 : Nat)) :: (@PySem.Value.ref (106 : Nat)) :: (@PySem.Value.int (657 : Int) (0 : Nat)) :: (@PySem.Value.int (124 : Int) (0 : Nat)) :: (@PySem.Value.str (@PySem.Str.ofString "/claim/cut.py") (658 : Nat)) :: []))) (@List.toArray (@Option @PySem.Value) ([])))) :: (@Prod.mk @Nat @PySem.Obj (nat_lit 108) (@PySem.Obj.mk (@PySem.Value.type "function") (@Option.none @Nat) (@PySem.Data.func (@PySem.FuncData.mk (@PySem.Str.ofString "_law_figures") (@PySem.Str.ofString "_law_figures") (v69x1) (@PySem.FuncBody.stmts (v69x2)) (v69x6) (3 : Nat) ([]) @PySem.Value.none @PySem.Value.none @PySem.Value.none (@PySem.Value.str (@PySem.Str.ofString "law_sr0045_01") (640 : Nat)) (@Option.none @Nat) (@PySem.Value.ref (107 : Nat)) @PySem.Value.none (0 : Nat))) (@List.toArray (@Option @PySem.Value) ([])))) :: (@Prod.mk @Nat @PySem.Obj (nat_lit 109) (@PySem.Obj.mk (@PySem.Value.type "tuple") (@Option.none @Nat) (@PySem.Data.seq (@List.toArray @PySem.Value ([])) (0 : Nat)) (@List.toArray (@Option @PySem.Value) ([])))) :: (@Prod.mk @Nat @PySem.Obj (nat_lit 111) (@PySem.Obj.mk (@PySem.Value.type "tuple") (@Option.none @Nat) (@PySem.Data.seq (@List.toArray @PySem.Value ((@PySem.Value.str (@PySem.Str.ofString "number") (663 : Nat)) :: (@PySem.Value.str (@PySem.Str.ofString "octets") (664 : Nat)) :: [])) (0 : Nat)) (@List.toArray (@Option @PySem.Value) ([])))) :: (@Prod.mk @Nat @PySem.Obj (nat_lit 112) (@PySem.Obj.mk (@PySem.Value.type "tuple") (@Option.none @Nat) (@PySem.Data.seq (@List.toArray @PySem.Value ([])) (0 : Nat)) (@List.toArray (@Option @PySem.Value) ([])))) :: (@Prod.mk @Nat @PySem.Obj (nat_lit 114) (@PySem.Obj.mk (@PySem.Value.type "code") (@Option.none @Nat) (@PySem.Data.fields (@List.toArray @PySem.Value ((@PySem.Value.str (@PySem.Str.ofString "_law_octets") (660 : Nat)) :: (@PySem.Value.str (@PySem.Str.ofString "_law_octets") (661 : Nat)) :: (@PySem.Value.str (@PySem.Str.ofString "/claim/cut.py") (662 : Nat)) :: (@PySem.Value.int (130 : Int) (0 : Nat)) :: (@PySem.Value.int (1 : Int) (0 : Nat)) :: (@PySem.Value.int (0 : Int) (0 : Nat)) :: (@PySem.Value.int (0 : Int) (0 : Nat)) :: (@PySem.Value.int (3 : Int) (0 : Nat)) :: (@PySem.Value.ref (109 : Nat)) :: (@PySem.Value.bool @Bool.true) :: (@PySem.Value.int (276 : Int) (0 : Nat)) :: (@PySem.Value.ref (110 : Nat)) :: @PySem.Value.none :: (@PySem.Value.ref (111 : Nat)) :: (@PySem.Value.ref (112 : Nat)) :: (@PySem.Value.ref (113 : Nat)) :: (@PySem.Value.int (665 : Int) (0 : Nat)) :: (@PySem.Value.int (130 : Int) (0 : Nat)) :: (@PySem.Value.str (@PySem.Str.ofString "/claim/cut.py") (666 : Nat)) :: []))) (@List.toArray (@Option @PySem.Value) ([])))) :: (@Prod.mk @Nat @PySem.Obj (nat_lit 115) (@PySem.Obj.mk (@PySem.Value.type "function") (@Option.none @Nat) (@PySem.Data.func (@PySem.FuncData.mk (@PySem.Str.ofString "_law_octets") (@PySem.Str.ofString "_law_octets") (v70x1) (@PySem.FuncBody.stmts (v70x2)) (v70x6) (3 : Nat) ([]) @PySem.Value.none @PySem.Value.none @PySem.Value.none (@PySem.Value.str (@PySem.Str.ofString "law_sr0045_01") (640 : Nat)) (@Option.none @Nat) (@PySem.Value.ref (114 : Nat)) @PySem.Value.none (0 : Nat))) (@List.toArray (@Option @PySem.Value) ([])))) :: (@Prod.mk @Nat @PySem.Obj (nat_lit 116) (@PySem.Obj.mk (@PySem.Value.type "tuple") (@Option.none @Nat) (@PySem.Data.seq (@List.toArray @PySem.Value ([])) (0 : Nat)) (@List.toArray (@Option @PySem.Value) ([])))) :: (@Prod.mk @Nat @PySem.Obj (nat_lit 119) (@PySem.Obj.mk (@PySem.Value.type "code") (@Option.none @Nat) (@PySem.Data.fields (@List.toArray @PySem.Value ((@PySem.Value.str (@PySem.Str.ofString "_law_read") (668 : Nat)) :: (@PySem.Value.str (@PySem.Str.ofString "_law_read") (669 : Nat)) :: (@PySem.Value.str (@PySem.Str.ofString "/claim/cut.py") (670 : Nat)) :: (@PySem.Value.int (137 : Int) (0 : Nat)) :: (@PySem.Value.int (1 : Int) (0 : Nat)) :: (@PySem.Value.int (0 : Int) (0 : Nat)) :: (@PySem.Value.int (0 : Int) (0 : Nat)) :: (@PySem.Value.int (3 : Int) (0 : Nat)) :: (@PySem.Value.ref (116 : Nat)) :: (@PySem.Value.bool @Bool.true) :: (@PySem.Value.int (276 : Int) (0 : Nat)) :: (@PySem.Value.ref (117 : Nat)) :: @PySem.Value.none :: @PySem.Value.none :: @PySem.Value.none :: (@PySem.Value.ref (118 : Nat)) :: (@PySem.Value.int (671 : Int) (0 : Nat)) :: (@PySem.Value.int (137 : Int) (0 : Nat)) :: (@PySem.Value.str (@PySem.Str.ofString "/claim/cut.py") (672 : Nat)) :: []))) (@List.toArray (@Option @PySem.Value) ([])))) :: (@Prod.mk @Nat @PySem.Obj (nat_lit 120) (@PySem.Obj.mk (@PySem.Value.type "function") (@Option.none @Nat) (@PySem.Data.func (@PySem.FuncData.mk (@PySem.Str.ofString "_law_read") (@PySem.Str.ofString "_law_read") (v71x1) (@PySem.FuncBody.stmts (v71x2)) (v71x6) (3 : Nat) ([]) @PySem.Value.none @PySem.Value.none @PySem.Value.none (@PySem.Value.str (@PySem.Str.ofString "law_sr0045_01") (640 : Nat)) (@Option.none @Nat) (@PySem.Value.ref (119 : Nat)) @PySem.Value.none (0 : Nat))) (@List.toArray (@Option @PySem.Value) ([])))) :: (@Prod.mk @Nat @PySem.Obj (nat_lit 121) (@PySem.Obj.mk (@PySem.Value.type "tuple") (@Option.none @Nat) (@PySem.Data.seq (@List.toArray @PySem.Value ([])) (0 : Nat)) (@List.toArray (@Option @PySem.Value) ([])))) :: (@Prod.mk @Nat @PySem.Obj (nat_lit 123) (@PySem.Obj.mk (@PySem.Value.type "tuple") (@Option.none @Nat) (@PySem.Data.seq (@List.toArray @PySem.Value ((@PySem.Value.str (@PySem.Str.ofString "piece") (677 : Nat)) :: [])) (0 : Nat)) (@List.toArray (@Option @PySem.Value) ([])))) :: (@Prod.mk @Nat @PySem.Obj (nat_lit 124) (@PySem.Obj.mk (@PySem.Value.type "tuple") (@Option.none @Nat) (@PySem.Data.seq (@List.toArray @PySem.Value ([])) (0 : Nat)) (@List.toArray (@Option @PySem.Value) ([])))) :: (@Prod.mk @Nat @PySem.Obj (nat_lit 126) (@PySem.Obj.mk (@PySem.Value.type "code") (@Option.none @Nat) (@PySem.Data.fields (@List.toArray @PySem.Value ((@PySem.Value.str (@PySem.Str.ofString "_law_is_operator") (674 : Nat)) :: (@PySem.Value.str (@PySem.Str.ofString "_law_is_operator") (675 : Nat)) :: (@PySem.Value.str (@PySem.Str.ofString "/claim/cut.py") (676 : Nat)) :: (@PySem.Value.int (147 : Int) (0 : Nat)) :: (@PySem.Value.int (1 : Int) (0 : Nat)) :: (@PySem.Value.int (0 : Int) (0 : Nat)) :: (@PySem.Value.int (0 : Int) (0 : Nat)) :: (@PySem.Value.int (3 : Int) (0 : Nat)) :: (@PySem.Value.ref (121 : Nat)) :: (@PySem.Value.bool @Bool.true) :: (@PySem.Value.int (276 : Int) (0 : Nat)) :: (@PySem.Value.ref (122 : Nat)) :: @PySem.Value.none :: (@PySem.Value.ref (123 : Nat)) :: (@PySem.Value.ref (124 : Nat)) :: (@PySem.Value.ref (125 : Nat)) :: (@PySem.Value.int (678 : Int) (0 : Nat)) :: (@PySem.Value.int (147 : Int) (0 : Nat)) :: (@PySem.Value.str (@PySem.Str.ofString "/claim/cut.py") (679 : Nat)) :: []))) (@List.toArray (@Option @PySem.Value) ([])))) :: (@Prod.mk @Nat @PySem.Obj (nat_lit 127) (@PySem.Obj.mk (@PySem.Value.type "function") (@Option.none @Nat) (@PySem.Data.func (@PySem.FuncData.mk (@PySem.Str.ofString "_law_is_operator") (@PySem.Str.ofString "_law_is_operator") (v72x1) (@PySem.FuncBody.stmts (v72x2)) (v72x6) (3 : Nat) ([]) @PySem.Value.none @PySem.Value.none @PySem.Value.none (@PySem.Value.str (@PySem.Str.ofString "law_sr0045_01") (640 : Nat)) (@Option.none @Nat) (@PySem.Value.ref (126 : Nat)) @PySem.Value.none (0 : Nat))) (@List.toArray (@Option @PySem.Value) ([])))) :: (@Prod.mk @Nat @PySem.Obj (nat_lit 128) (@PySem.Obj.mk (@PySem.Value.type "tuple") (@Option.none @Nat) (@PySem.Data.seq (@List.toArray @PySem.Value ([])) (0 : Nat)) (@List.toArray (@Option @PySem.Value) ([])))) :: (@Prod.mk @Nat @PySem.Obj (nat_lit 131) (@PySem.Obj.mk (@PySem.Value.type "code") (@Option.none @Nat) (@PySem.Data.fields (@List.toArray @PySem.Value ((@PySem.Value.str (@PySem.Str.ofString "_law_count") (681 : Nat)) :: (@PySem.Value.str (@PySem.Str.ofString "_law_count") (682 : Nat)) :: (@PySem.Value.str (@PySem.Str.ofString "/claim/cut.py") (683 : Nat)) :: (@PySem.Value.int (153 : Int) (0 : Nat)) :: (@PySem.Value.int (3 : Int) (0 : Nat)) :: (@PySem.Value.int (0 : Int) (0 : Nat)) :: (@PySem.Value.int (0 : Int) (0 : Nat)) :: (@PySem.Value.int (3 : Int) (0 : Nat)) :: (@PySem.Value.ref (128 : Nat)) :: (@PySem.Value.bool @Bool.true) :: (@PySem.Value.int (276 : Int) (0 : Nat)) :: (@PySem.Value.ref (129 : Nat)) :: @PySem.Value.none :: @PySem.Value.none :: @PySem.Value.none :: (@PySem.Value.ref (130 : Nat)) :: (@PySem.Value.int (684 : Int) (0 : Nat)) :: (@PySem.Value.int (153 : Int) (0 : Nat)) :: (@PySem.Value.str (@PySem.Str.ofString "/claim/cut.py") (685 : Nat)) :: []))) (@List.toArray (@Option @PySem.Value) ([])))) :: (@Prod.mk @Nat @PySem.Obj (nat_lit 132) (@PySem.Obj.mk (@PySem.Value.type "function") (@Option.none @Nat) (@PySem.Data.func (@PySem.FuncData.mk (@PySem.Str.ofString "_law_count") (@PySem.Str.ofString "_law_count") (v73x1) (@PySem.FuncBody.stmts (v73x2)) (v73x6) (3 : Nat) ([]) @PySem.Value.none @PySem.Value.none @PySem.Value.none (@PySem.Value.str (@PySem.Str.ofString "law_sr0045_01") (640 : Nat)) (@Option.none @Nat) (@PySem.Value.ref (131 : Nat)) @PySem.Value.none (0 : Nat))) (@List.toArray (@Option @PySem.Value) ([])))) :: (@Prod.mk @Nat @PySem.Obj (nat_lit 133) (@PySem.Obj.mk (@PySem.Value.type "tuple") (@Option.none @Nat) (@PySem.Data.seq (@List.toArray @PySem.Value ([])) (0 : Nat)) (@List.toArray (@Option @PySem.Value) ([])))) :: (@Prod.mk @Nat @PySem.Obj (nat_lit 136) (@PySem.Obj.mk (@PySem.Value.type "code") (@Option.none @Nat) (@PySem.Data.fields (@List.toArray @PySem.Value ((@PySem.Value.str (@PySem.Str.ofString "_law_ways") (687 : Nat)) :: (@PySem.Value.str (@PySem.Str.ofString "_law_ways") (688 : Nat)) :: (@PySem.Value.str (@PySem.Str.ofString "/claim/cut.py") (689 : Nat)) :: (@PySem.Value.int (158 : Int) (0 : Nat)) :: (@PySem.Value.int (4 : Int) (0 : Nat)) :: (@PySem.Value.int (0 : Int) (0 : Nat)) :: (@PySem.Value.int (0 : Int) (0 : Nat)) :: (@PySem.Value.int (3 : Int) (0 : Nat)) :: (@PySem.Value.ref (133 : Nat)) :: (@PySem.Value.bool @Bool.true) :: (@PySem.Value.int (276 : Int) (0 : Nat)) :: (@PySem.Value.ref (134 : Nat)) :: @PySem.Value.none :: @PySem.Value.none :: @PySem.Value.none :: (@PySem.Value.ref (135 : Nat)) :: (@PySem.Value.int (690 : Int) (0 : Nat)) :: (@PySem.Value.int (158 : Int) (0 : Nat)) :: (@PySem.Value.str (@PySem.Str.ofString "/claim/cut.py") (691 : Nat)) :: []))) (@List.toArray (@Option @PySem.Value) ([])))) :: (@Prod.mk @Nat @PySem.Obj (nat_lit 137) (@PySem.Obj.mk (@PySem.Value.type "function") (@Option.none @Nat) (@PySem.Data.func (@PySem.FuncData.mk (@PySem.Str.ofString "_law_ways") (@PySem.Str.ofString "_law_ways") (v74x1) (@PySem.FuncBody.stmts (v74x2)) (v74x6) (3 : Nat) ([]) @PySem.Value.none @PySem.Value.none @PySem.Value.none (@PySem.Value.str (@PySem.Str.ofString "law_sr0045_01") (640 : Nat)) (@Option.none @Nat) (@PySem.Value.ref (136 : Nat)) @PySem.Value.none (0 : Nat))) (@List.toArray (@Option @PySem.Value) ([])))) :: (@Prod.mk @Nat @PySem.Obj (nat_lit 138) (@PySem.Obj.mk (@PySem.Value.type "tuple") (@Option.none @Nat) (@PySem.Data.seq (@List.toArray @PySem.Value ([])) (0 : Nat)) (@List.toArray (@Option @PySem.Value) ([])))) :: (@Prod.mk @Nat @PySem.Obj (nat_lit 141) (@PySem.Obj.mk (@PySem.Value.type "code") (@Option.none @Nat) (@PySem.Data.fields (@List.toArray @PySem.Value ((@PySem.Value.str (@PySem.Str.ofString "_law_parted") (693 : Nat)) :: (@PySem.Value.str (@PySem.Str.ofString "_law_parted") (694 : Nat)) :: (@PySem.Value.str (@PySem.Str.ofString "/claim/cut.py") (695 : Nat)) :: (@PySem.Value.int (164 : Int) (0 : Nat)) :: (@PySem.Value.int (2 : Int) (0 : Nat)) :: (@PySem.Value.int (0 : Int) (0 : Nat)) :: (@PySem.Value.int (0 : Int) (0 : Nat)) :: (@PySem.Value.int (3 : Int) (0 : Nat)) :: (@PySem.Value.ref (138 : Nat)) :: (@PySem.Value.bool @Bool.true) :: (@PySem.Value.int (276 : Int) (0 : Nat)) :: (@PySem.Value.ref (139 : Nat)) :: @PySem.Value.none :: @PySem.Value.none :: @PySem.Value.none :: (@PySem.Value.ref (140 : Nat)) :: (@PySem.Value.int (696 : Int) (0 : Nat)) :: (@PySem.Value.int (164 : Int) (0 : Nat)) :: (@PySem.Value.str (@PySem.Str.ofString "/claim/cut.py") (697 : Nat)) :: []))) (@List.toArray (@Option @PySem.Value) ([])))) :: (@Prod.mk @Nat @PySem.Obj (nat_lit 142) (@PySem.Obj.mk (@PySem.Value.type "function") (@Option.none @Nat) (@PySem.Data.func (@PySem.FuncData.mk (@PySem.Str.ofString "_law_parted") (@PySem.Str.ofString "_law_parted") (v75x1) (@PySem.FuncBody.stmts (v75x2)) (v75x6) (3 : Nat) ([]) @PySem.Value.none @PySem.Value.none @PySem.Value.none (@PySem.Value.str (@PySem.Str.ofString "law_sr0045_01") (640 : Nat)) (@Option.none @Nat) (@PySem.Value.ref (141 : Nat)) @PySem.Value.none (0 : Nat))) (@List.toArray (@Option @PySem.Value) ([])))) :: (@Prod.mk @Nat @PySem.Obj (nat_lit 143) (@PySem.Obj.mk (@PySem.Value.type "tuple") (@Option.none @Nat) (@PySem.Data.seq (@List.toArray @PySem.Value ([])) (0 : Nat)) (@List.toArray (@Option @PySem.Value) ([])))) :: (@Prod.mk @Nat @PySem.Obj (nat_lit 146) (@PySem.Obj.mk (@PySem.Value.type "code") (@Option.none @Nat) (@PySem.Data.fields (@List.toArray @PySem.Value ((@PySem.Value.str (@PySem.Str.ofString "_law_names") (699 : Nat)) :: (@PySem.Value.str (@PySem.Str.ofString "_law_names") (700 : Nat)) :: (@PySem.Value.str (@PySem.Str.ofString "/claim/cut.py") (701 : Nat)) :: (@PySem.Value.int (171 : Int) (0 : Nat)) :: (@PySem.Value.int (2 : Int) (0 : Nat)) :: (@PySem.Value.int (0 : Int) (0 : Nat)) :: (@PySem.Value.int (0 : Int) (0 : Nat)) :: (@PySem.Value.int (3 : Int) (0 : Nat)) :: (@PySem.Value.ref (143 : Nat)) :: (@PySem.Value.bool @Bool.true) :: (@PySem.Value.int (276 : Int) (0 : Nat)) :: (@PySem.Value.ref (144 : Nat)) :: @PySem.Value.none :: @PySem.Value.none :: @PySem.Value.none :: (@PySem.Value.ref (145 : Nat)) :: (@PySem.Value.int (702 : Int) (0 : Nat)) :: (@PySem.Value.int (171 : Int) (0 : Nat)) :: (@PySem.Value.str (@PySem.Str.ofString "/claim/cut.py") (703 : Nat)) :: []))) (@List.toArray (@Option @PySem.Value) ([])))) :: (@Prod.mk @Nat @PySem.Obj (nat_lit 147) (@PySem.Obj.mk (@PySem.Value.type "function") (@Option.none @Nat) (@PySem.Data.func (@PySem.FuncData.mk (@PySem.Str.ofString "_law_names") (@PySem.Str.ofString "_law_names") (v76x1) (@PySem.FuncBody.stmts (v76x2)) (v76x6) (3 : Nat) ([]) @PySem.Value.none @PySem.Value.none @PySem.Value.none (@PySem.Value.str (@PySem.Str.ofString "law_sr0045_01") (640 : Nat)) (@Option.none @Nat) (@PySem.Value.ref (146 : Nat)) @PySem.Value.none (0 : Nat))) (@List.toArray (@Option @PySem.Value) ([])))) :: (@Prod.mk @Nat @PySem.Obj (nat_lit 148) (@PySem.Obj.mk (@PySem.Value.type "tuple") (@Option.none @Nat) (@PySem.Data.seq (@List.toArray @PySem.Value ([])) (0 : Nat)) (@List.toArray (@Option @PySem.Value) ([])))) :: (@Prod.mk @Nat @PySem.Obj (nat_lit 151) (@PySem.Obj.mk (@PySem.Value.type "code") (@Option.none @Nat) (@PySem.Data.fields (@List.toArray @PySem.Value ((@PySem.Value.str (@PySem.Str.ofString "law") (705 : Nat)) :: (@PySem.Value.str (@PySem.Str.ofString "law") (706 : Nat)) :: (@PySem.Value.str (@PySem.Str.ofString "/claim/cut.py") (707 : Nat)) :: (@PySem.Value.int (174 : Int) (0 : Nat)) :: (@PySem.Value.int (1 : Int) (0 : Nat)) :: (@PySem.Value.int (0 : Int) (0 : Nat)) :: (@PySem.Value.int (0 : Int) (0 : Nat)) :: (@PySem.Value.int (3 : Int) (0 : Nat)) :: (@PySem.Value.ref (148 : Nat)) :: (@PySem.Value.bool @Bool.true) :: (@PySem.Value.int (276 : Int) (0 : Nat)) :: (@PySem.Value.ref (149 : Nat)) :: @PySem.Value.none :: @PySem.Value.none :: @PySem.Value.none :: (@PySem.Value.ref (150 : Nat)) :: (@PySem.Value.int (708 : Int) (0 : Nat)) :: (@PySem.Value.int (174 : Int) (0 : Nat)) :: (@PySem.Value.str (@PySem.Str.ofString "/claim/cut.py") (709 : Nat)) :: []))) (@List.toArray (@Option @PySem.Value) ([])))) :: (@Prod.mk @Nat @PySem.Obj (nat_lit 152) (@PySem.Obj.mk (@PySem.Value.type "function") (@Option.none @Nat) (@PySem.Data.func (@PySem.FuncData.mk (@PySem.Str.ofString "law") (@PySem.Str.ofString "law") (v77x1) (@PySem.FuncBody.stmts (v77x2)) (v77x6) (3 : Nat) ([]) @PySem.Value.none @PySem.Value.none @PySem.Value.none (@PySem.Value.str (@PySem.Str.ofString "law_sr0045_01") (640 : Nat)) (@Option.none @Nat) (@PySem.Value.ref (151 : Nat)) @PySem.Value.none (0 : Nat))) (@List.toArray (@Option @PySem.Value) ([])))) :: []))
    ⟨_, _, _, _, _, _, _⟩ rfl (_ :: _) rfl ⟨_, _, _, _, _⟩ rfl
    ⟨_, _, _, _, _, _, _⟩ rfl (_ :: _) rfl ⟨_, _, _, _, _⟩ rfl
    ⟨_, _, _, _, _, _, _⟩ rfl (_ :: _) rfl ⟨_, _, _, _, _⟩ rfl
    ⟨_, _, _, _, _, _, _⟩ rfl (_ :: _) rfl ⟨_, _, _, _, _⟩ rfl
    ⟨_, _, _, _, _, _, _⟩ rfl (_ :: _) rfl ⟨_, _, _, _, _⟩ rfl
    ⟨_, _, _, _, _, _, _⟩ rfl (_ :: _) rfl ⟨_, _, _, _, _⟩ rfl
    ⟨_, _, _, _, _, _, _⟩ rfl (_ :: _) rfl ⟨_, _, _, _, _⟩ rfl
    ⟨_, _, _, _, _, _, _⟩ rfl (_ :: _) rfl ⟨_, _, _, _, _⟩ rfl
    ⟨_, _, _, _, _, _, _⟩ rfl (_ :: _) rfl ⟨_, _, _, _, _⟩ rfl
    ⟨_, _, _, _, _, _, _⟩ rfl (_ :: _) rfl ⟨_, _, _, _, _⟩ rfl
    ⟨_, _, _, _, _, _, _⟩ rfl (_ :: _) rfl ⟨_, _, _, _, _⟩ rfl
    ⟨_, _, _, _, _, _, _⟩ rfl (_ :: _) rfl ⟨_, _, _, _, _⟩ rfl
    ⟨_, _, _, _, _, _, _⟩ rfl (_ :: _) rfl ⟨_, _, _, _, _⟩ rfl
    ⟨_, _, _, _, _, _, _⟩ rfl (_ :: _) rfl ⟨_, _, _, _, _⟩ rfl
    ⟨_, _, _, _, _, _, _⟩ rfl (_ :: _) rfl ⟨_, _, _, _, _⟩ rfl
    ⟨_, _, _, _, _, _, _⟩ rfl (_ :: _) rfl ⟨_, _, _, _, _⟩ rfl
    ⟨_, _, _, _, _, _, _⟩ rfl (_ :: _) rfl ⟨_, _ :: _ :: _ :: _ :: _ :: _ :: _ :: _ :: _ :: _ :: _ :: _ :: _ :: _ :: _ :: _ :: _ :: _ :: _ :: _ :: _ :: _ :: _ :: _ :: _ :: _ :: _ :: _ :: _ :: _ :: _ :: _ :: _ :: _ :: _ :: _ :: _ :: _ :: _ :: [], _, _, _⟩ rfl
end
end
theorem fill : PySem.Challenge.rw_sr0045_01 = PySem.Challenge.rw_sr0045_01 ∧ hd.heap_39 = hd.heap_39 := by
  k_fill
  exact ⟨rfl, rfl⟩
section
noncomputable section

noncomputable def objAt (K : Frag) (a : Nat) : Obj := match K.lookup a with
  | some o => o
  | none => default
noncomputable def hdObjs1 : Params → List Obj := fun P => ((PySem.W.boot_o_0 P) :: (@PySem.Obj.mk (@PySem.Value.type "dict") (@Option.none @Nat) (@PySem.Data.dict (@List.toArray @PySem.DictEntry ((@PySem.DictEntry.mk (@PySem.PyData.keyHash P (@PySem.Str.ofString "builtins")) (@PySem.Value.str (@PySem.Str.ofString "builtins") (162 : Nat)) (@PySem.Value.ref (4 : Nat))) :: (@PySem.DictEntry.mk (@PySem.PyData.keyHash P (@PySem.Str.ofString "__main__")) (@PySem.Value.str (@PySem.Str.ofString "__main__") (163 : Nat)) (@PySem.Value.ref (5 : Nat))) :: (@PySem.DictEntry.mk (@PySem.PyData.keyHash P (@PySem.Str.ofString "_sre")) (@PySem.Value.str (@PySem.Str.ofString "_sre") (244 : Nat)) (@PySem.Value.ref (12 : Nat))) :: [])) (3 : Nat)) (@List.toArray (@Option @PySem.Value) ([]))) :: (objAt (hd.heap_39 P) 2) :: (objAt (hd.heap_39 P) 3) :: (PySem.W.boot_o_4 P) :: (PySem.W.boot_o_5 P) :: (PySem.W.boot_o_6 P) :: (PySem.W.boot_o_7 P) :: (PySem.W.boot_o_8 P) :: (PySem.W.boot_o_9 P) :: (PySem.W.boot_o_10 P) :: (objAt (hd.heap_39 P) 11) :: (objAt (hd.heap_39 P) 12) :: (@PySem.Obj.mk (@PySem.Value.type "dict") (@Option.none @Nat) (@PySem.Data.dict (@List.toArray @PySem.DictEntry ((@PySem.DictEntry.mk (@PySem.PyData.keyHash P (@PySem.Str.ofString "__module__")) (@PySem.Value.str (@PySem.Str.ofString "__module__") (189 : Nat)) (@PySem.Value.str (@PySem.Str.ofString "_frozen_importlib") (186 : Nat))) :: (@PySem.DictEntry.mk (@PySem.PyData.keyHash P (@PySem.Str.ofString "__firstlineno__")) (@PySem.Value.str (@PySem.Str.ofString "__firstlineno__") (190 : Nat)) (@PySem.Value.int (971 : Int) (187 : Nat))) :: (@PySem.DictEntry.mk (@PySem.PyData.keyHash P (@PySem.Str.ofString "__doc__")) (@PySem.Value.str (@PySem.Str.ofString "__doc__") (191 : Nat)) (@PySem.Value.builtin "_frozen_importlib.BuiltinImporter.__doc__:str#opaque")) :: (@PySem.DictEntry.mk (@PySem.PyData.keyHash P (@PySem.Str.ofString "_ORIGIN")) (@PySem.Value.str (@PySem.Str.ofString "_ORIGIN") (192 : Nat)) (@PySem.Value.str (@PySem.Str.ofString "built-in") (188 : Nat))) :: (@PySem.DictEntry.mk (@PySem.PyData.keyHash P (@PySem.Str.ofString "find_spec")) (@PySem.Value.str (@PySem.Str.ofString "find_spec") (193 : Nat)) (@PySem.Value.builtin "_frozen_importlib.BuiltinImporter.find_spec#opaque")) :: (@PySem.DictEntry.mk (@PySem.PyData.keyHash P (@PySem.Str.ofString "create_module")) (@PySem.Value.str (@PySem.Str.ofString "create_module") (194 : Nat)) (@PySem.Value.builtin "_frozen_importlib.BuiltinImporter.create_module#opaque")) :: (@PySem.DictEntry.mk (@PySem.PyData.keyHash P (@PySem.Str.ofString "exec_module")) (@PySem.Value.str (@PySem.Str.ofString "exec_module") (195 : Nat)) (@PySem.Value.builtin "_frozen_importlib.BuiltinImporter.exec_module#opaque")) :: (@PySem.DictEntry.mk (@PySem.PyData.keyHash P (@PySem.Str.ofString "get_code")) (@PySem.Value.str (@PySem.Str.ofString "get_code") (196 : Nat)) (@PySem.Value.builtin "_frozen_importlib.BuiltinImporter.get_code#opaque")) :: (@PySem.DictEntry.mk (@PySem.PyData.keyHash P (@PySem.Str.ofString "get_source")) (@PySem.Value.str (@PySem.Str.ofString "get_source") (197 : Nat)) (@PySem.Value.builtin "_frozen_importlib.BuiltinImporter.get_source#opaque")) :: (@PySem.DictEntry.mk (@PySem.PyData.keyHash P (@PySem.Str.ofString "is_package")) (@PySem.Value.str (@PySem.Str.ofString "is_package") (198 : Nat)) (@PySem.Value.builtin "_frozen_importlib.BuiltinImporter.is_package#opaque")) :: (@PySem.DictEntry.mk (@PySem.PyData.keyHash P (@PySem.Str.ofString "load_module")) (@PySem.Value.str (@PySem.Str.ofString "load_module") (199 : Nat)) (@PySem.Value.builtin "_frozen_importlib.BuiltinImporter.load_module#opaque")) :: (@PySem.DictEntry.mk (@PySem.PyData.keyHash P (@PySem.Str.ofString "__static_attributes__")) (@PySem.Value.str (@PySem.Str.ofString "__static_attributes__") (200 : Nat)) (@PySem.Value.ref (15 : Nat))) :: (@PySem.DictEntry.mk (@PySem.PyData.keyHash P (@PySem.Str.ofString "__dict__")) (@PySem.Value.str (@PySem.Str.ofString "__dict__") (202 : Nat)) (@PySem.Value.ref (16 : Nat))) :: (@PySem.DictEntry.mk (@PySem.PyData.keyHash P (@PySem.Str.ofString "__weakref__")) (@PySem.Value.str (@PySem.Str.ofString "__weakref__") (204 : Nat)) (@PySem.Value.ref (17 : Nat))) :: [])) (14 : Nat)) (@List.toArray (@Option @PySem.Value) ([]))) :: (@PySem.Obj.mk (@PySem.Value.type "type") (@Option.none @Nat) (@PySem.Data.cls (@PySem.ClassData.mk (@PySem.Str.ofString "BuiltinImporter") ((@PySem.Value.type "object") :: []) ((@PySem.Value.ref (14 : Nat)) :: (@PySem.Value.type "object") :: []) (13 : Nat) (@PySem.Str.ofString "BuiltinImporter") @Bool.true ([]) ([]) @Bool.false (@Option.none @Bool) @Bool.false)) (@List.toArray (@Option @PySem.Value) ([]))) :: (@PySem.Obj.mk (@PySem.Value.type "tuple") (@Option.none @Nat) (@PySem.Data.seq (@List.toArray @PySem.Value ([])) (0 : Nat)) (@List.toArray (@Option @PySem.Value) ([]))) :: (@PySem.Obj.mk (@PySem.Value.type "getset_descriptor") (@Option.none @Nat) (@PySem.Data.fields (@List.toArray @PySem.Value ((@PySem.Value.str (@PySem.Str.ofString "__dict__") (201 : Nat)) :: (@PySem.Value.ref (14 : Nat)) :: (@PySem.Value.builtin "function.__dict__") :: (@PySem.Value.builtin "function.__dict__#set") :: []))) (@List.toArray (@Option @PySem.Value) ([]))) :: (@PySem.Obj.mk (@PySem.Value.type "getset_descriptor") (@Option.none @Nat) (@PySem.Data.fields (@List.toArray @PySem.Value ((@PySem.Value.str (@PySem.Str.ofString "__weakref__") (203 : Nat)) :: (@PySem.Value.ref (14 : Nat)) :: (@PySem.Value.builtin "ExceptionGroup.__weakref__") :: @PySem.Value.none :: []))) (@List.toArray (@Option @PySem.Value) ([]))) :: [])
noncomputable def hdObjs2 : Params → List Obj := fun P => ((@PySem.Obj.mk (@PySem.Value.type "list") (@Option.none @Nat) (@PySem.Data.seq (@List.toArray @PySem.Value ([])) (0 : Nat)) (@List.toArray (@Option @PySem.Value) ([]))) :: (@PySem.Obj.mk (@PySem.Value.type "dict") (@Option.none @Nat) (@PySem.Data.dict (@List.toArray @PySem.DictEntry ((@PySem.DictEntry.mk (@PySem.PyData.keyHash P (@PySem.Str.ofString "name")) (@PySem.Value.str (@PySem.Str.ofString "name") (208 : Nat)) (@PySem.Value.str (@PySem.Str.ofString "_sre") (207 : Nat))) :: (@PySem.DictEntry.mk (@PySem.PyData.keyHash P (@PySem.Str.ofString "loader")) (@PySem.Value.str (@PySem.Str.ofString "loader") (209 : Nat)) (@PySem.Value.ref (14 : Nat))) :: (@PySem.DictEntry.mk (@PySem.PyData.keyHash P (@PySem.Str.ofString "origin")) (@PySem.Value.str (@PySem.Str.ofString "origin") (210 : Nat)) (@PySem.Value.str (@PySem.Str.ofString "built-in") (184 : Nat))) :: (@PySem.DictEntry.mk (@PySem.PyData.keyHash P (@PySem.Str.ofString "loader_state")) (@PySem.Value.str (@PySem.Str.ofString "loader_state") (211 : Nat)) @PySem.Value.none) :: (@PySem.DictEntry.mk (@PySem.PyData.keyHash P (@PySem.Str.ofString "submodule_search_locations")) (@PySem.Value.str (@PySem.Str.ofString "submodule_search_locations") (212 : Nat)) @PySem.Value.none) :: (@PySem.DictEntry.mk (@PySem.PyData.keyHash P (@PySem.Str.ofString "_uninitialized_submodules")) (@PySem.Value.str (@PySem.Str.ofString "_uninitialized_submodules") (213 : Nat)) (@PySem.Value.ref (19 : Nat))) :: (@PySem.DictEntry.mk (@PySem.PyData.keyHash P (@PySem.Str.ofString "_set_fileattr")) (@PySem.Value.str (@PySem.Str.ofString "_set_fileattr") (214 : Nat)) (@PySem.Value.bool @Bool.false)) :: (@PySem.DictEntry.mk (@PySem.PyData.keyHash P (@PySem.Str.ofString "_cached")) (@PySem.Value.str (@PySem.Str.ofString "_cached") (215 : Nat)) @PySem.Value.none) :: (@PySem.DictEntry.mk (@PySem.PyData.keyHash P (@PySem.Str.ofString "_initializing")) (@PySem.Value.str (@PySem.Str.ofString "_initializing") (243 : Nat)) (@PySem.Value.bool @Bool.false)) :: [])) (9 : Nat)) (@List.toArray (@Option @PySem.Value) ([]))) :: (@PySem.Obj.mk (@PySem.Value.type "dict") (@Option.none @Nat) (@PySem.Data.dict (@List.toArray @PySem.DictEntry ((@PySem.DictEntry.mk (@PySem.PyData.keyHash P (@PySem.Str.ofString "__module__")) (@PySem.Value.str (@PySem.Str.ofString "__module__") (227 : Nat)) (@PySem.Value.str (@PySem.Str.ofString "_frozen_importlib") (217 : Nat))) :: (@PySem.DictEntry.mk (@PySem.PyData.keyHash P (@PySem.Str.ofString "__firstlineno__")) (@PySem.Value.str (@PySem.Str.ofString "__firstlineno__") (228 : Nat)) (@PySem.Value.int (562 : Int) (218 : Nat))) :: (@PySem.DictEntry.mk (@PySem.PyData.keyHash P (@PySem.Str.ofString "__doc__")) (@PySem.Value.str (@PySem.Str.ofString "__doc__") (229 : Nat)) (@PySem.Value.builtin "_frozen_importlib.ModuleSpec.__doc__:str#opaque")) :: (@PySem.DictEntry.mk (@PySem.PyData.keyHash P (@PySem.Str.ofString "__init__")) (@PySem.Value.str (@PySem.Str.ofString "__init__") (230 : Nat)) (@PySem.Value.builtin "_frozen_importlib.ModuleSpec.__init__#opaque")) :: (@PySem.DictEntry.mk (@PySem.PyData.keyHash P (@PySem.Str.ofString "__repr__")) (@PySem.Value.str (@PySem.Str.ofString "__repr__") (231 : Nat)) (@PySem.Value.builtin "_frozen_importlib.ModuleSpec.__repr__#opaque")) :: (@PySem.DictEntry.mk (@PySem.PyData.keyHash P (@PySem.Str.ofString "__eq__")) (@PySem.Value.str (@PySem.Str.ofString "__eq__") (232 : Nat)) (@PySem.Value.builtin "_frozen_importlib.ModuleSpec.__eq__#opaque")) :: (@PySem.DictEntry.mk (@PySem.PyData.keyHash P (@PySem.Str.ofString "cached")) (@PySem.Value.str (@PySem.Str.ofString "cached") (233 : Nat)) (@PySem.Value.builtin "_frozen_importlib.ModuleSpec.cached#opaque")) :: (@PySem.DictEntry.mk (@PySem.PyData.keyHash P (@PySem.Str.ofString "parent")) (@PySem.Value.str (@PySem.Str.ofString "parent") (234 : Nat)) (@PySem.Value.builtin "_frozen_importlib.ModuleSpec.parent#opaque")) :: (@PySem.DictEntry.mk (@PySem.PyData.keyHash P (@PySem.Str.ofString "has_location")) (@PySem.Value.str (@PySem.Str.ofString "has_location") (235 : Nat)) (@PySem.Value.builtin "_frozen_importlib.ModuleSpec.has_location#opaque")) :: (@PySem.DictEntry.mk (@PySem.PyData.keyHash P (@PySem.Str.ofString "__static_attributes__")) (@PySem.Value.str (@PySem.Str.ofString "__static_attributes__") (236 : Nat)) (@PySem.Value.ref (23 : Nat))) :: (@PySem.DictEntry.mk (@PySem.PyData.keyHash P (@PySem.Str.ofString "__dict__")) (@PySem.Value.str (@PySem.Str.ofString "__dict__") (238 : Nat)) (@PySem.Value.ref (24 : Nat))) :: (@PySem.DictEntry.mk (@PySem.PyData.keyHash P (@PySem.Str.ofString "__weakref__")) (@PySem.Value.str (@PySem.Str.ofString "__weakref__") (240 : Nat)) (@PySem.Value.ref (25 : Nat))) :: (@PySem.DictEntry.mk (@PySem.PyData.keyHash P (@PySem.Str.ofString "__hash__")) (@PySem.Value.str (@PySem.Str.ofString "__hash__") (241 : Nat)) @PySem.Value.none) :: [])) (13 : Nat)) (@List.toArray (@Option @PySem.Value) ([]))) :: (@PySem.Obj.mk (@PySem.Value.type "type") (@Option.none @Nat) (@PySem.Data.cls (@PySem.ClassData.mk (@PySem.Str.ofString "ModuleSpec") ((@PySem.Value.type "object") :: []) ((@PySem.Value.ref (22 : Nat)) :: (@PySem.Value.type "object") :: []) (21 : Nat) (@PySem.Str.ofString "ModuleSpec") @Bool.true ([]) ([]) @Bool.false (@Option.none @Bool) @Bool.false)) (@List.toArray (@Option @PySem.Value) ([]))) :: (@PySem.Obj.mk (@PySem.Value.type "tuple") (@Option.none @Nat) (@PySem.Data.seq (@List.toArray @PySem.Value ((@PySem.Value.str (@PySem.Str.ofString "_cached") (219 : Nat)) :: (@PySem.Value.str (@PySem.Str.ofString "_set_fileattr") (220 : Nat)) :: (@PySem.Value.str (@PySem.Str.ofString "_uninitialized_submodules") (221 : Nat)) :: (@PySem.Value.str (@PySem.Str.ofString "loader") (222 : Nat)) :: (@PySem.Value.str (@PySem.Str.ofString "loader_state") (223 : Nat)) :: (@PySem.Value.str (@PySem.Str.ofString "name") (224 : Nat)) :: (@PySem.Value.str (@PySem.Str.ofString "origin") (225 : Nat)) :: (@PySem.Value.str (@PySem.Str.ofString "submodule_search_locations") (226 : Nat)) :: [])) (0 : Nat)) (@List.toArray (@Option @PySem.Value) ([]))) :: (@PySem.Obj.mk (@PySem.Value.type "getset_descriptor") (@Option.none @Nat) (@PySem.Data.fields (@List.toArray @PySem.Value ((@PySem.Value.str (@PySem.Str.ofString "__dict__") (237 : Nat)) :: (@PySem.Value.ref (22 : Nat)) :: (@PySem.Value.builtin "function.__dict__") :: (@PySem.Value.builtin "function.__dict__#set") :: []))) (@List.toArray (@Option @PySem.Value) ([]))) :: (@PySem.Obj.mk (@PySem.Value.type "getset_descriptor") (@Option.none @Nat) (@PySem.Data.fields (@List.toArray @PySem.Value ((@PySem.Value.str (@PySem.Str.ofString "__weakref__") (239 : Nat)) :: (@PySem.Value.ref (22 : Nat)) :: (@PySem.Value.builtin "ExceptionGroup.__weakref__") :: @PySem.Value.none :: []))) (@List.toArray (@Option @PySem.Value) ([]))) :: (@PySem.Obj.mk (@PySem.Value.ref (22 : Nat)) (@Option.some @Nat (20 : Nat)) @PySem.Data.plain (@List.toArray (@Option @PySem.Value) ([]))) :: (@PySem.Obj.mk @PySem.Value.none (@Option.none @Nat) (@PySem.Data.seq (@List.toArray @PySem.Value ((@PySem.Value.int (11 : Int) (0 : Nat)) :: (@PySem.Value.str (@PySem.Str.mk (@List.toArray @Nat ((6 : Nat) :: (247 : Nat) :: (8 : Nat) :: (95 : Nat) :: (95 : Nat) :: (110 : Nat) :: (97 : Nat) :: (109 : Nat) :: (101 : Nat) :: (95 : Nat) :: (95 : Nat) :: (6 : Nat) :: (246 : Nat) :: (4 : Nat) :: (95 : Nat) :: (115 : Nat) :: (114 : Nat) :: (101 : Nat) :: (6 : Nat) :: (248 : Nat) :: (7 : Nat) :: (95 : Nat) :: (95 : Nat) :: (100 : Nat) :: (111 : Nat) :: (99 : Nat) :: (95 : Nat) :: (95 : Nat) :: (0 : Nat) :: (6 : Nat) :: (250 : Nat) :: (11 : Nat) :: (95 : Nat) :: (95 : Nat) :: (112 : Nat) :: (97 : Nat) :: (99 : Nat) :: (107 : Nat) :: (97 : Nat) :: (103 : Nat) :: (101 : Nat) :: (95 : Nat) :: (95 : Nat) :: (6 : Nat) :: (249 : Nat) :: (0 : Nat) :: (6 : Nat) :: (251 : Nat) :: (10 : Nat) :: (95 : Nat) :: (95 : Nat) :: (108 : Nat) :: (111 : Nat) :: (97 : Nat) :: (100 : Nat) :: (101 : Nat) :: (114 : Nat) :: (95 : Nat) :: (95 : Nat) :: (4 : Nat) :: (0 : Nat) :: (0 : Nat) :: (14 : Nat) :: (6 : Nat) :: (252 : Nat) :: (8 : Nat) :: (95 : Nat) :: (95 : Nat) :: (115 : Nat) :: (112 : Nat) :: (101 : Nat) :: (99 : Nat) :: (95 : Nat) :: (95 : Nat) :: (4 : Nat) :: (0 : Nat) :: (0 : Nat) :: (26 : Nat) :: (6 : Nat) :: (253 : Nat) :: (7 : Nat) :: (99 : Nat) :: (111 : Nat) :: (109 : Nat) :: (112 : Nat) :: (105 : Nat) :: (108 : Nat) :: (101 : Nat) :: (9 : Nat) :: (12 : Nat) :: (95 : Nat) :: (115 : Nat) :: (114 : Nat) :: (101 : Nat) :: (46 : Nat) :: (99 : Nat) :: (111 : Nat) :: (109 : Nat) :: (112 : Nat) :: (105 : Nat) :: (108 : Nat) :: (101 : Nat) :: (6 : Nat) :: (254 : Nat) :: (8 : Nat) :: (116 : Nat) :: (101 : Nat) :: (109 : Nat) :: (112 : Nat) :: (108 : Nat) :: (97 : Nat) :: (116 : Nat) :: (101 : Nat) :: (9 : Nat) :: (13 : Nat) :: (95 : Nat) :: (115 : Nat) :: (114 : Nat) :: (101 : Nat) :: (46 : Nat) :: (116 : Nat) :: (101 : Nat) :: (109 : Nat) :: (112 : Nat) :: (108 : Nat) :: (97 : Nat) :: (116 : Nat) :: (101 : Nat) :: (6 : Nat) :: (255 : Nat) :: (11 : Nat) :: (103 : Nat) :: (101 : Nat) :: (116 : Nat) :: (99 : Nat) :: (111 : Nat) :: (100 : Nat) :: (101 : Nat) :: (115 : Nat) :: (105 : Nat) :: (122 : Nat) :: (101 : Nat) :: (9 : Nat) :: (16 : Nat) :: (95 : Nat) :: (115 : Nat) :: (114 : Nat) :: (101 : Nat) :: (46 : Nat) :: (103 : Nat) :: (101 : Nat) :: (116 : Nat) :: (99 : Nat) :: (111 : Nat) :: (100 : Nat) :: (101 : Nat) :: (115 : Nat) :: (105 : Nat) :: (122 : Nat) :: (101 : Nat) :: (6 : Nat) :: (256 : Nat) :: (13 : Nat) :: (97 : Nat) :: (115 : Nat) :: (99 : Nat) :: (105 : Nat) :: (105 : Nat) :: (95 : Nat) :: (105 : Nat) :: (115 : Nat) :: (99 : Nat) :: (97 : Nat) :: (115 : Nat) :: (101 : Nat) :: (100 : Nat) :: (9 : Nat) :: (18 : Nat) :: (95 : Nat) :: (115 : Nat) :: (114 : Nat) :: (101 : Nat) :: (46 : Nat) :: (97 : Nat) :: (115 : Nat) :: (99 : Nat) :: (105 : Nat) :: (105 : Nat) :: (95 : Nat) :: (105 : Nat) :: (115 : Nat) :: (99 : Nat) :: (97 : Nat) :: (115 : Nat) :: (101 : Nat) :: (100 : Nat) :: (6 : Nat) :: (257 : Nat) :: (15 : Nat) :: (117 : Nat) :: (110 : Nat) :: (105 : Nat) :: (99 : Nat) :: (111 : Nat) :: (100 : Nat) :: (101 : Nat) :: (95 : Nat) :: (105 : Nat) :: (115 : Nat) :: (99 : Nat) :: (97 : Nat) :: (115 : Nat) :: (101 : Nat) :: (100 : Nat) :: (9 : Nat) :: (20 : Nat) :: (95 : Nat) :: (115 : Nat) :: (114 : Nat) :: (101 : Nat) :: (46 : Nat) :: (117 : Nat) :: (110 : Nat) :: (105 : Nat) :: (99 : Nat) :: (111 : Nat) :: (100 : Nat) :: (101 : Nat) :: (95 : Nat) :: (105 : Nat) :: (115 : Nat) :: (99 : Nat) :: (97 : Nat) :: (115 : Nat) :: (101 : Nat) :: (100 : Nat) :: (6 : Nat) :: (258 : Nat) :: (13 : Nat) :: (97 : Nat) :: (115 : Nat) :: (99 : Nat) :: (105 : Nat) :: (105 : Nat) :: (95 : Nat) :: (116 : Nat) :: (111 : Nat) :: (108 : Nat) :: (111 : Nat) :: (119 : Nat) :: (101 : Nat) :: (114 : Nat) :: (9 : Nat) :: (18 : Nat) :: (95 : Nat) :: (115 : Nat) :: (114 : Nat) :: (101 : Nat) :: (46 : Nat) :: (97 : Nat) :: (115 : Nat) :: (99 : Nat) :: (105 : Nat) :: (105 : Nat) :: (95 : Nat) :: (116 : Nat) :: (111 : Nat) :: (108 : Nat) :: (111 : Nat) :: (119 : Nat) :: (101 : Nat) :: (114 : Nat) :: (6 : Nat) :: (259 : Nat) :: (15 : Nat) :: (117 : Nat) :: (110 : Nat) :: (105 : Nat) :: (99 : Nat) :: (111 : Nat) :: (100 : Nat) :: (101 : Nat) :: (95 : Nat) :: (116 : Nat) :: (111 : Nat) :: (108 : Nat) :: (111 : Nat) :: (119 : Nat) :: (101 : Nat) :: (114 : Nat) :: (9 : Nat) :: (20 : Nat) :: (95 : Nat) :: (115 : Nat) :: (114 : Nat) :: (101 : Nat) :: (46 : Nat) :: (117 : Nat) :: (110 : Nat) :: (105 : Nat) :: (99 : Nat) :: (111 : Nat) :: (100 : Nat) :: (101 : Nat) :: (95 : Nat) :: (116 : Nat) :: (111 : Nat) :: (108 : Nat) :: (111 : Nat) :: (119 : Nat) :: (101 : Nat) :: (114 : Nat) :: (6 : Nat) :: (261 : Nat) :: (5 : Nat) :: (77 : Nat) :: (65 : Nat) :: (71 : Nat) :: (73 : Nat) :: (67 : Nat) :: (4 : Nat) :: (260 : Nat) :: (0 : Nat) :: (20230612 : Nat) :: (6 : Nat) :: (263 : Nat) :: (8 : Nat) :: (67 : Nat) :: (79 : Nat) :: (68 : Nat) :: (69 : Nat) :: (83 : Nat) :: (73 : Nat) :: (90 : Nat) :: (69 : Nat) :: (4 : Nat) :: (262 : Nat) :: (0 : Nat) :: (4 : Nat) :: (6 : Nat) :: (265 : Nat) :: (9 : Nat) :: (77 : Nat) :: (65 : Nat) :: (88 : Nat) :: (82 : Nat) :: (69 : Nat) :: (80 : Nat) :: (69 : Nat) :: (65 : Nat) :: (84 : Nat) :: (4 : Nat) :: (264 : Nat) :: (0 : Nat) :: (4294967295 : Nat) :: (6 : Nat) :: (267 : Nat) :: (9 : Nat) :: (77 : Nat) :: (65 : Nat) :: (88 : Nat) :: (71 : Nat) :: (82 : Nat) :: (79 : Nat) :: (85 : Nat) :: (80 : Nat) :: (83 : Nat) :: (4 : Nat) :: (266 : Nat) :: (0 : Nat) :: (1073741823 : Nat) :: (6 : Nat) :: (269 : Nat) :: (9 : Nat) :: (99 : Nat) :: (111 : Nat) :: (112 : Nat) :: (121 : Nat) :: (114 : Nat) :: (105 : Nat) :: (103 : Nat) :: (104 : Nat) :: (116 : Nat) :: (6 : Nat) :: (268 : Nat) :: (53 : Nat) :: (32 : Nat) :: (83 : Nat) :: (82 : Nat) :: (69 : Nat) :: (32 : Nat) :: (50 : Nat) :: (46 : Nat) :: (50 : Nat) :: (46 : Nat) :: (50 : Nat) :: (32 : Nat) :: (67 : Nat) :: (111 : Nat) :: (112 : Nat) :: (121 : Nat) :: (114 : Nat) :: (105 : Nat) :: (103 : Nat) :: (104 : Nat) :: (116 : Nat) :: (32 : Nat) :: (40 : Nat) :: (99 : Nat) :: (41 : Nat) :: (32 : Nat) :: (49 : Nat) :: (57 : Nat) :: (57 : Nat) :: (55 : Nat) :: (45 : Nat) :: (50 : Nat) :: (48 : Nat) :: (48 : Nat) :: (50 : Nat) :: (32 : Nat) :: (98 : Nat) :: (121 : Nat) :: (32 : Nat) :: (83 : Nat) :: (101 : Nat) :: (99 : Nat) :: (114 : Nat) :: (101 : Nat) :: (116 : Nat) :: (32 : Nat) :: (76 : Nat) :: (97 : Nat) :: (98 : Nat) :: (115 : Nat) :: (32 : Nat) :: (65 : Nat) :: (66 : Nat) :: (32 : Nat) :: []))) (0 : Nat)) :: (@PySem.Value.bool @Bool.true) :: (@PySem.Value.bool @Bool.false) :: (@PySem.Value.str (@PySem.Str.ofString "_sre") (271 : Nat)) :: [])) (0 : Nat)) (@List.toArray (@Option @PySem.Value) ([]))) :: (@PySem.Obj.mk (@PySem.Value.type "tuple") (@Option.none @Nat) (@PySem.Data.seq (@List.toArray @PySem.Value ([])) (0 : Nat)) (@List.toArray (@Option @PySem.Value) ([]))) :: (@PySem.Obj.mk @PySem.Value.none (@Option.none @Nat) (@PySem.Data.fields (@List.toArray @PySem.Value ((@PySem.Value.int (4 : Int) (0 : Nat)) :: (@PySem.Value.int (0 : Int) (0 : Nat)) :: (@PySem.Value.ref (38 : Nat)) :: (@PySem.Value.int (16 : Int) (0 : Nat)) :: (@PySem.Value.int (0 : Int) (0 : Nat)) :: (@PySem.Value.ref (45 : Nat)) :: (@PySem.Value.int (25 : Int) (0 : Nat)) :: (@PySem.Value.int (0 : Int) (0 : Nat)) :: (@PySem.Value.ref (52 : Nat)) :: (@PySem.Value.int (38 : Int) (0 : Nat)) :: (@PySem.Value.int (0 : Int) (0 : Nat)) :: (@PySem.Value.ref (59 : Nat)) :: (@PySem.Value.int (60 : Int) (0 : Nat)) :: (@PySem.Value.int (0 : Int) (0 : Nat)) :: (@PySem.Value.ref (76 : Nat)) :: (@PySem.Value.int (114 : Int) (0 : Nat)) :: (@PySem.Value.int (0 : Int) (0 : Nat)) :: (@PySem.Value.ref (86 : Nat)) :: (@PySem.Value.int (116 : Int) (0 : Nat)) :: (@PySem.Value.int (0 : Int) (0 : Nat)) :: (@PySem.Value.ref (93 : Nat)) :: (@PySem.Value.int (119 : Int) (0 : Nat)) :: (@PySem.Value.int (0 : Int) (0 : Nat)) :: (@PySem.Value.ref (100 : Nat)) :: (@PySem.Value.int (124 : Int) (0 : Nat)) :: (@PySem.Value.int (0 : Int) (0 : Nat)) :: (@PySem.Value.ref (107 : Nat)) :: (@PySem.Value.int (130 : Int) (0 : Nat)) :: (@PySem.Value.int (0 : Int) (0 : Nat)) :: (@PySem.Value.ref (114 : Nat)) :: (@PySem.Value.int (137 : Int) (0 : Nat)) :: (@PySem.Value.int (0 : Int) (0 : Nat)) :: (@PySem.Value.ref (119 : Nat)) :: (@PySem.Value.int (147 : Int) (0 : Nat)) :: (@PySem.Value.int (0 : Int) (0 : Nat)) :: (@PySem.Value.ref (126 : Nat)) :: (@PySem.Value.int (153 : Int) (0 : Nat)) :: (@PySem.Value.int (0 : Int) (0 : Nat)) :: (@PySem.Value.ref (131 : Nat)) :: (@PySem.Value.int (158 : Int) (0 : Nat)) :: (@PySem.Value.int (0 : Int) (0 : Nat)) :: (@PySem.Value.ref (136 : Nat)) :: (@PySem.Value.int (164 : Int) (0 : Nat)) :: (@PySem.Value.int (0 : Int) (0 : Nat)) :: (@PySem.Value.ref (141 : Nat)) :: (@PySem.Value.int (171 : Int) (0 : Nat)) :: (@PySem.Value.int (0 : Int) (0 : Nat)) :: (@PySem.Value.ref (146 : Nat)) :: (@PySem.Value.int (174 : Int) (0 : Nat)) :: (@PySem.Value.int (0 : Int) (0 : Nat)) :: (@PySem.Value.ref (151 : Nat)) :: []))) (@List.toArray (@Option @PySem.Value) ([]))) :: (@PySem.Obj.mk (@PySem.Value.type "code") (@Option.none @Nat) (@PySem.Data.fields (@List.toArray @PySem.Value ((@PySem.Value.str (@PySem.Str.ofString "<module>") (277 : Nat)) :: (@PySem.Value.str (@PySem.Str.ofString "<module>") (278 : Nat)) :: (@PySem.Value.str (@PySem.Str.ofString "/claim/cut.py") (279 : Nat)) :: (@PySem.Value.int (1 : Int) (0 : Nat)) :: (@PySem.Value.int (0 : Int) (0 : Nat)) :: (@PySem.Value.int (0 : Int) (0 : Nat)) :: (@PySem.Value.int (0 : Int) (0 : Nat)) :: (@PySem.Value.int (0 : Int) (0 : Nat)) :: (@PySem.Value.ref (28 : Nat)) :: (@PySem.Value.bool @Bool.false) :: (@PySem.Value.int (276 : Int) (0 : Nat)) :: (@PySem.Value.ref (29 : Nat)) :: @PySem.Value.none :: @PySem.Value.none :: @PySem.Value.none :: @PySem.Value.none :: (@PySem.Value.int (280 : Int) (0 : Nat)) :: (@PySem.Value.int (1 : Int) (0 : Nat)) :: (@PySem.Value.str (@PySem.Str.ofString "/claim/cut.py") (281 : Nat)) :: []))) (@List.toArray (@Option @PySem.Value) ([]))) :: (@PySem.Obj.mk (@PySem.Value.type "frame") (@Option.none @Nat) @PySem.Data.plain (@List.toArray (@Option @PySem.Value) ((@Option.some @PySem.Value (@PySem.Value.ref (30 : Nat))) :: (@Option.some @PySem.Value (@PySem.Value.ref (3 : Nat))) :: (@Option.some @PySem.Value (@PySem.Value.ref (3 : Nat))) :: (@Option.none @PySem.Value) :: (@Option.some @PySem.Value (@PySem.Value.str (@PySem.Str.ofString "__main__") (164 : Nat))) :: (@Option.none @PySem.Value) :: (@Option.some @PySem.Value (@PySem.Value.ref (0 : Nat))) :: []))) :: (objAt (hd.heap_39 P) 32) :: (objAt (hd.heap_39 P) 33) :: (@PySem.Obj.mk @PySem.Value.none (@Option.none @Nat) (@PySem.Data.fields (@List.toArray @PySem.Value ([]))) (@List.toArray (@Option @PySem.Value) ([]))) :: (objAt (hd.heap_39 P) 35) :: (objAt (hd.heap_39 P) 36) :: (@PySem.Obj.mk @PySem.Value.none (@Option.none @Nat) (@PySem.Data.func (@PySem.FuncData.mk (@PySem.Str.ofString "pretty_flags") (@PySem.Str.ofString "pretty_flags") (argsAt (pw.main.body.drop 3)) (@PySem.FuncBody.stmts (bodyAt (pw.main.body.drop 3))) (scopeAt (pw.main.body.drop 3)) (0 : Nat) ([]) @PySem.Value.none @PySem.Value.none @PySem.Value.none @PySem.Value.none (@Option.none @Nat) @PySem.Value.none @PySem.Value.none (0 : Nat))) (@List.toArray (@Option @PySem.Value) ([]))) :: (objAt (hd.heap_39 P) 38) :: (objAt (hd.heap_39 P) 39) :: (objAt (hd.heap_39 P) 40) :: (@PySem.Obj.mk @PySem.Value.none (@Option.none @Nat) (@PySem.Data.fields (@List.toArray @PySem.Value ([]))) (@List.toArray (@Option @PySem.Value) ([]))) :: (objAt (hd.heap_39 P) 42) :: (objAt (hd.heap_39 P) 43) :: (@PySem.Obj.mk @PySem.Value.none (@Option.none @Nat) (@PySem.Data.func (@PySem.FuncData.mk (@PySem.Str.ofString "_parse_varint") (@PySem.Str.ofString "_parse_varint") (argsAt (pw.main.body.drop 4)) (@PySem.FuncBody.stmts (bodyAt (pw.main.body.drop 4))) (scopeAt (pw.main.body.drop 4)) (0 : Nat) ([]) @PySem.Value.none @PySem.Value.none @PySem.Value.none @PySem.Value.none (@Option.none @Nat) @PySem.Value.none @PySem.Value.none (0 : Nat))) (@List.toArray (@Option @PySem.Value) ([]))) :: (objAt (hd.heap_39 P) 45) :: (objAt (hd.heap_39 P) 46) :: (objAt (hd.heap_39 P) 47) :: (@PySem.Obj.mk @PySem.Value.none (@Option.none @Nat) (@PySem.Data.fields (@List.toArray @PySem.Value ([]))) (@List.toArray (@Option @PySem.Value) ([]))) :: (objAt (hd.heap_39 P) 49) :: (objAt (hd.heap_39 P) 50) :: (@PySem.Obj.mk @PySem.Value.none (@Option.none @Nat) (@PySem.Data.func (@PySem.FuncData.mk (@PySem.Str.ofString "_iter_escaped_chars") (@PySem.Str.ofString "_iter_escaped_chars") (argsAt (pw.main.body.drop 6)) (@PySem.FuncBody.stmts (bodyAt (pw.main.body.drop 6))) (scopeAt (pw.main.body.drop 6)) (0 : Nat) ([]) @PySem.Value.none @PySem.Value.none @PySem.Value.none @PySem.Value.none (@Option.none @Nat) @PySem.Value.none @PySem.Value.none (0 : Nat))) (@List.toArray (@Option @PySem.Value) ([]))) :: (objAt (hd.heap_39 P) 52) :: (objAt (hd.heap_39 P) 53) :: (objAt (hd.heap_39 P) 54) :: (@PySem.Obj.mk @PySem.Value.none (@Option.none @Nat) (@PySem.Data.fields (@List.toArray @PySem.Value ([]))) (@List.toArray (@Option @PySem.Value) ([]))) :: (objAt (hd.heap_39 P) 56) :: (objAt (hd.heap_39 P) 57) :: (@PySem.Obj.mk @PySem.Value.none (@Option.none @Nat) (@PySem.Data.func (@PySem.FuncData.mk (@PySem.Str.ofString "_strip_quoted_realnames") (@PySem.Str.ofString "_strip_quoted_realnames") (argsAt (pw.main.body.drop 7)) (@PySem.FuncBody.stmts (bodyAt (pw.main.body.drop 7))) (scopeAt (pw.main.body.drop 7)) (0 : Nat) ([]) @PySem.Value.none @PySem.Value.none @PySem.Value.none @PySem.Value.none (@Option.none @Nat) @PySem.Value.none @PySem.Value.none (0 : Nat))) (@List.toArray (@Option @PySem.Value) ([]))) :: (objAt (hd.heap_39 P) 59) :: (objAt (hd.heap_39 P) 60) :: (@PySem.Obj.mk (@PySem.Value.type "list") (@Option.none @Nat) (@PySem.Data.seq (@List.toArray @PySem.Value ((@PySem.Value.int (14 : Int) (363 : Nat)) :: (@PySem.Value.int (4 : Int) (364 : Nat)) :: (@PySem.Value.int (0 : Int) (365 : Nat)) :: (@PySem.Value.int (1 : Int) (366 : Nat)) :: (@PySem.Value.int (1 : Int) (367 : Nat)) :: (@PySem.Value.int (6 : Int) (368 : Nat)) :: (@PySem.Value.int (1 : Int) (369 : Nat)) :: (@PySem.Value.int (16 : Int) (370 : Nat)) :: (@PySem.Value.int (46 : Int) (371 : Nat)) :: (@PySem.Value.int (1 : Int) (372 : Nat)) :: [])) (0 : Nat)) (@List.toArray (@Option @PySem.Value) ([]))) :: (@PySem.Obj.mk (@PySem.Value.type "dict") (@Option.none @Nat) (@PySem.Data.dict (@List.toArray @PySem.DictEntry ([])) (0 : Nat)) (@List.toArray (@Option @PySem.Value) ([]))) :: (@PySem.Obj.mk (@PySem.Value.type "tuple") (@Option.none @Nat) (@PySem.Data.seq (@List.toArray @PySem.Value (@PySem.Value.none :: [])) (0 : Nat)) (@List.toArray (@Option @PySem.Value) ([]))) :: (objAt (hd.heap_39 P) 64) :: (objAt (hd.heap_39 P) 65) :: (@PySem.Obj.mk (@PySem.Value.type "list") (@Option.none @Nat) (@PySem.Data.seq (@List.toArray @PySem.Value ((@PySem.Value.int (14 : Int) (379 : Nat)) :: (@PySem.Value.int (9 : Int) (380 : Nat)) :: (@PySem.Value.int (4 : Int) (381 : Nat)) :: (@PySem.Value.int (1 : Int) (382 : Nat)) :: (@PySem.Value.int (2 : Int) (383 : Nat)) :: (@PySem.Value.int (16 : Int) (384 : Nat)) :: (@PySem.Value.int (10 : Int) (385 : Nat)) :: (@PySem.Value.int (16 : Int) (386 : Nat)) :: (@PySem.Value.int (13 : Int) (387 : Nat)) :: (@PySem.Value.int (0 : Int) (388 : Nat)) :: (@PySem.Value.int (7 : Int) (389 : Nat)) :: (@PySem.Value.int (7 : Int) (390 : Nat)) :: (@PySem.Value.int (16 : Int) (391 : Nat)) :: (@PySem.Value.int (13 : Int) (392 : Nat)) :: (@PySem.Value.int (16 : Int) (393 : Nat)) :: (@PySem.Value.int (10 : Int) (394 : Nat)) :: (@PySem.Value.int (15 : Int) (395 : Nat)) :: (@PySem.Value.int (18 : Int) (396 : Nat)) :: (@PySem.Value.int (5 : Int) (397 : Nat)) :: (@PySem.Value.int (16 : Int) (398 : Nat)) :: (@PySem.Value.int (10 : Int) (399 : Nat)) :: (@PySem.Value.int (15 : Int) (400 : Nat)) :: (@PySem.Value.int (13 : Int) (401 : Nat)) :: (@PySem.Value.int (11 : Int) (402 : Nat)) :: (@PySem.Value.int (16 : Int) (403 : Nat)) :: (@PySem.Value.int (13 : Int) (404 : Nat)) :: (@PySem.Value.int (5 : Int) (405 : Nat)) :: (@PySem.Value.int (5 : Int) (406 : Nat)) :: (@PySem.Value.int (0 : Int) (407 : Nat)) :: (@PySem.Value.int (16 : Int) (408 : Nat)) :: (@PySem.Value.int (10 : Int) (409 : Nat)) :: (@PySem.Value.int (1 : Int) (410 : Nat)) :: (@PySem.Value.int (15 : Int) (411 : Nat)) :: (@PySem.Value.int (2 : Int) (412 : Nat)) :: (@PySem.Value.int (0 : Int) (413 : Nat)) :: (@PySem.Value.int (1 : Int) (414 : Nat)) :: [])) (0 : Nat)) (@List.toArray (@Option @PySem.Value) ([]))) :: (@PySem.Obj.mk (@PySem.Value.type "dict") (@Option.none @Nat) (@PySem.Data.dict (@List.toArray @PySem.DictEntry ([])) (0 : Nat)) (@List.toArray (@Option @PySem.Value) ([]))) :: (@PySem.Obj.mk (@PySem.Value.type "tuple") (@Option.none @Nat) (@PySem.Data.seq (@List.toArray @PySem.Value (@PySem.Value.none :: [])) (0 : Nat)) (@List.toArray (@Option @PySem.Value) ([]))) :: (objAt (hd.heap_39 P) 69) :: (objAt (hd.heap_39 P) 70) :: (objAt (hd.heap_39 P) 71) :: (@PySem.Obj.mk @PySem.Value.none (@Option.none @Nat) (@PySem.Data.fields (@List.toArray @PySem.Value ([]))) (@List.toArray (@Option @PySem.Value) ([]))) :: (objAt (hd.heap_39 P) 73) :: (objAt (hd.heap_39 P) 74) :: (@PySem.Obj.mk @PySem.Value.none (@Option.none @Nat) (@PySem.Data.func (@PySem.FuncData.mk (@PySem.Str.ofString "quotedata") (@PySem.Str.ofString "quotedata") (argsAt (pw.main.body.drop 12)) (@PySem.FuncBody.stmts (bodyAt (pw.main.body.drop 12))) (scopeAt (pw.main.body.drop 12)) (0 : Nat) ([]) @PySem.Value.none @PySem.Value.none @PySem.Value.none @PySem.Value.none (@Option.none @Nat) @PySem.Value.none @PySem.Value.none (0 : Nat))) (@List.toArray (@Option @PySem.Value) ([]))) :: (objAt (hd.heap_39 P) 76) :: (objAt (hd.heap_39 P) 77) :: (objAt (hd.heap_39 P) 78) :: (@PySem.Obj.mk (@PySem.Value.type "dict") (@Option.none @Nat) (@PySem.Data.dict (@List.toArray @PySem.DictEntry ((@PySem.DictEntry.mk (@PySem.PyData.keyHash P (@PySem.Str.ofString "->")) (@PySem.Value.str (@PySem.Str.ofString "->") (563 : Nat)) (@PySem.Value.int (51 : Int) (519 : Nat))) :: (@PySem.DictEntry.mk (@PySem.PyData.keyHash P (@PySem.Str.ofString ".")) (@PySem.Value.str (@PySem.Str.ofString ".") (565 : Nat)) (@PySem.Value.int (23 : Int) (463 : Nat))) :: (@PySem.DictEntry.mk (@PySem.PyData.keyHash P (@PySem.Str.ofString "...")) (@PySem.Value.str (@PySem.Str.ofString "...") (567 : Nat)) (@PySem.Value.int (52 : Int) (521 : Nat))) :: (@PySem.DictEntry.mk (@PySem.PyData.keyHash P (@PySem.Str.ofString "/")) (@PySem.Value.str (@PySem.Str.ofString "/") (569 : Nat)) (@PySem.Value.int (17 : Int) (451 : Nat))) :: (@PySem.DictEntry.mk (@PySem.PyData.keyHash P (@PySem.Str.ofString "//")) (@PySem.Value.str (@PySem.Str.ofString "//") (571 : Nat)) (@PySem.Value.int (47 : Int) (511 : Nat))) :: (@PySem.DictEntry.mk (@PySem.PyData.keyHash P (@PySem.Str.ofString "//=")) (@PySem.Value.str (@PySem.Str.ofString "//=") (573 : Nat)) (@PySem.Value.int (48 : Int) (513 : Nat))) :: (@PySem.DictEntry.mk (@PySem.PyData.keyHash P (@PySem.Str.ofString "/=")) (@PySem.Value.str (@PySem.Str.ofString "/=") (575 : Nat)) (@PySem.Value.int (39 : Int) (495 : Nat))) :: (@PySem.DictEntry.mk (@PySem.PyData.keyHash P (@PySem.Str.ofString ":")) (@PySem.Value.str (@PySem.Str.ofString ":") (577 : Nat)) (@PySem.Value.int (11 : Int) (439 : Nat))) :: (@PySem.DictEntry.mk (@PySem.PyData.keyHash P (@PySem.Str.ofString ":=")) (@PySem.Value.str (@PySem.Str.ofString ":=") (579 : Nat)) (@PySem.Value.int (53 : Int) (523 : Nat))) :: (@PySem.DictEntry.mk (@PySem.PyData.keyHash P (@PySem.Str.ofString ";")) (@PySem.Value.str (@PySem.Str.ofString ";") (581 : Nat)) (@PySem.Value.int (13 : Int) (443 : Nat))) :: (@PySem.DictEntry.mk (@PySem.PyData.keyHash P (@PySem.Str.ofString "<")) (@PySem.Value.str (@PySem.Str.ofString "<") (583 : Nat)) (@PySem.Value.int (20 : Int) (457 : Nat))) :: (@PySem.DictEntry.mk (@PySem.PyData.keyHash P (@PySem.Str.ofString "<<")) (@PySem.Value.str (@PySem.Str.ofString "<<") (585 : Nat)) (@PySem.Value.int (33 : Int) (483 : Nat))) :: (@PySem.DictEntry.mk (@PySem.PyData.keyHash P (@PySem.Str.ofString "<<=")) (@PySem.Value.str (@PySem.Str.ofString "<<=") (587 : Nat)) (@PySem.Value.int (44 : Int) (505 : Nat))) :: (@PySem.DictEntry.mk (@PySem.PyData.keyHash P (@PySem.Str.ofString "<=")) (@PySem.Value.str (@PySem.Str.ofString "<=") (589 : Nat)) (@PySem.Value.int (29 : Int) (475 : Nat))) :: (@PySem.DictEntry.mk (@PySem.PyData.keyHash P (@PySem.Str.ofString "=")) (@PySem.Value.str (@PySem.Str.ofString "=") (591 : Nat)) (@PySem.Value.int (22 : Int) (461 : Nat))) :: (@PySem.DictEntry.mk (@PySem.PyData.keyHash P (@PySem.Str.ofString "==")) (@PySem.Value.str (@PySem.Str.ofString "==") (593 : Nat)) (@PySem.Value.int (27 : Int) (471 : Nat))) :: (@PySem.DictEntry.mk (@PySem.PyData.keyHash P (@PySem.Str.ofString ">")) (@PySem.Value.str (@PySem.Str.ofString ">") (595 : Nat)) (@PySem.Value.int (21 : Int) (459 : Nat))) :: [])) (17 : Nat)) (@List.toArray (@Option @PySem.Value) ([]))) :: (@PySem.Obj.mk (@PySem.Value.type "dict") (@Option.none @Nat) (@PySem.Data.dict (@List.toArray @PySem.DictEntry ((@PySem.DictEntry.mk (@PySem.PyData.keyHash P (@PySem.Str.ofString ">=")) (@PySem.Value.str (@PySem.Str.ofString ">=") (597 : Nat)) (@PySem.Value.int (30 : Int) (477 : Nat))) :: (@PySem.DictEntry.mk (@PySem.PyData.keyHash P (@PySem.Str.ofString ">>")) (@PySem.Value.str (@PySem.Str.ofString ">>") (598 : Nat)) (@PySem.Value.int (34 : Int) (485 : Nat))) :: (@PySem.DictEntry.mk (@PySem.PyData.keyHash P (@PySem.Str.ofString ">>=")) (@PySem.Value.str (@PySem.Str.ofString ">>=") (599 : Nat)) (@PySem.Value.int (45 : Int) (507 : Nat))) :: (@PySem.DictEntry.mk (@PySem.PyData.keyHash P (@PySem.Str.ofString "@")) (@PySem.Value.str (@PySem.Str.ofString "@") (600 : Nat)) (@PySem.Value.int (49 : Int) (515 : Nat))) :: (@PySem.DictEntry.mk (@PySem.PyData.keyHash P (@PySem.Str.ofString "@=")) (@PySem.Value.str (@PySem.Str.ofString "@=") (601 : Nat)) (@PySem.Value.int (50 : Int) (517 : Nat))) :: (@PySem.DictEntry.mk (@PySem.PyData.keyHash P (@PySem.Str.ofString "[")) (@PySem.Value.str (@PySem.Str.ofString "[") (602 : Nat)) (@PySem.Value.int (9 : Int) (435 : Nat))) :: (@PySem.DictEntry.mk (@PySem.PyData.keyHash P (@PySem.Str.ofString "]")) (@PySem.Value.str (@PySem.Str.ofString "]") (603 : Nat)) (@PySem.Value.int (10 : Int) (437 : Nat))) :: (@PySem.DictEntry.mk (@PySem.PyData.keyHash P (@PySem.Str.ofString "^")) (@PySem.Value.str (@PySem.Str.ofString "^") (604 : Nat)) (@PySem.Value.int (32 : Int) (481 : Nat))) :: (@PySem.DictEntry.mk (@PySem.PyData.keyHash P (@PySem.Str.ofString "^=")) (@PySem.Value.str (@PySem.Str.ofString "^=") (605 : Nat)) (@PySem.Value.int (43 : Int) (503 : Nat))) :: (@PySem.DictEntry.mk (@PySem.PyData.keyHash P (@PySem.Str.ofString "{")) (@PySem.Value.str (@PySem.Str.ofString "{") (606 : Nat)) (@PySem.Value.int (25 : Int) (467 : Nat))) :: (@PySem.DictEntry.mk (@PySem.PyData.keyHash P (@PySem.Str.ofString "|")) (@PySem.Value.str (@PySem.Str.ofString "|") (607 : Nat)) (@PySem.Value.int (18 : Int) (453 : Nat))) :: (@PySem.DictEntry.mk (@PySem.PyData.keyHash P (@PySem.Str.ofString "|=")) (@PySem.Value.str (@PySem.Str.ofString "|=") (608 : Nat)) (@PySem.Value.int (42 : Int) (501 : Nat))) :: (@PySem.DictEntry.mk (@PySem.PyData.keyHash P (@PySem.Str.ofString "}")) (@PySem.Value.str (@PySem.Str.ofString "}") (609 : Nat)) (@PySem.Value.int (26 : Int) (469 : Nat))) :: (@PySem.DictEntry.mk (@PySem.PyData.keyHash P (@PySem.Str.ofString "~")) (@PySem.Value.str (@PySem.Str.ofString "~") (610 : Nat)) (@PySem.Value.int (31 : Int) (479 : Nat))) :: [])) (14 : Nat)) (@List.toArray (@Option @PySem.Value) ([]))) :: (objAt (hd.heap_39 P) 81) :: (@PySem.Obj.mk @PySem.Value.none (@Option.none @Nat) (@PySem.Data.fields (@List.toArray @PySem.Value ([]))) (@List.toArray (@Option @PySem.Value) ([]))) :: (objAt (hd.heap_39 P) 83) :: (objAt (hd.heap_39 P) 84) :: (@PySem.Obj.mk @PySem.Value.none (@Option.none @Nat) (@PySem.Data.func (@PySem.FuncData.mk (@PySem.Str.ofString "ISTERMINAL") (@PySem.Str.ofString "ISTERMINAL") (argsAt (pw.main.body.drop 65)) (@PySem.FuncBody.stmts (bodyAt (pw.main.body.drop 65))) (scopeAt (pw.main.body.drop 65)) (0 : Nat) ([]) @PySem.Value.none @PySem.Value.none @PySem.Value.none @PySem.Value.none (@Option.none @Nat) @PySem.Value.none @PySem.Value.none (0 : Nat))) (@List.toArray (@Option @PySem.Value) ([]))) :: (objAt (hd.heap_39 P) 86) :: (objAt (hd.heap_39 P) 87) :: (objAt (hd.heap_39 P) 88) :: (@PySem.Obj.mk @PySem.Value.none (@Option.none @Nat) (@PySem.Data.fields (@List.toArray @PySem.Value ([]))) (@List.toArray (@Option @PySem.Value) ([]))) :: (objAt (hd.heap_39 P) 90) :: (objAt (hd.heap_39 P) 91) :: (@PySem.Obj.mk @PySem.Value.none (@Option.none @Nat) (@PySem.Data.func (@PySem.FuncData.mk (@PySem.Str.ofString "ISEOF") (@PySem.Str.ofString "ISEOF") (argsAt (pw.main.body.drop 66)) (@PySem.FuncBody.stmts (bodyAt (pw.main.body.drop 66))) (scopeAt (pw.main.body.drop 66)) (0 : Nat) ([]) @PySem.Value.none @PySem.Value.none @PySem.Value.none @PySem.Value.none (@Option.none @Nat) @PySem.Value.none @PySem.Value.none (0 : Nat))) (@List.toArray (@Option @PySem.Value) ([]))) :: (objAt (hd.heap_39 P) 93) :: (objAt (hd.heap_39 P) 94) :: (objAt (hd.heap_39 P) 95) :: (@PySem.Obj.mk @PySem.Value.none (@Option.none @Nat) (@PySem.Data.fields (@List.toArray @PySem.Value ([]))) (@List.toArray (@Option @PySem.Value) ([]))) :: (objAt (hd.heap_39 P) 97) :: (objAt (hd.heap_39 P) 98) :: (@PySem.Obj.mk @PySem.Value.none (@Option.none @Nat) (@PySem.Data.func (@PySem.FuncData.mk (@PySem.Str.ofString "_law_numbers") (@PySem.Str.ofString "_law_numbers") (argsAt (pw.main.body.drop 68)) (@PySem.FuncBody.stmts (bodyAt (pw.main.body.drop 68))) (scopeAt (pw.main.body.drop 68)) (0 : Nat) ([]) @PySem.Value.none @PySem.Value.none @PySem.Value.none @PySem.Value.none (@Option.none @Nat) @PySem.Value.none @PySem.Value.none (0 : Nat))) (@List.toArray (@Option @PySem.Value) ([]))) :: (objAt (hd.heap_39 P) 100) :: (objAt (hd.heap_39 P) 101) :: (objAt (hd.heap_39 P) 102) :: (@PySem.Obj.mk @PySem.Value.none (@Option.none @Nat) (@PySem.Data.fields (@List.toArray @PySem.Value ([]))) (@List.toArray (@Option @PySem.Value) ([]))) :: (objAt (hd.heap_39 P) 104) :: (objAt (hd.heap_39 P) 105) :: (@PySem.Obj.mk @PySem.Value.none (@Option.none @Nat) (@PySem.Data.func (@PySem.FuncData.mk (@PySem.Str.ofString "_law_figures") (@PySem.Str.ofString "_law_figures") (argsAt (pw.main.body.drop 69)) (@PySem.FuncBody.stmts (bodyAt (pw.main.body.drop 69))) (scopeAt (pw.main.body.drop 69)) (0 : Nat) ([]) @PySem.Value.none @PySem.Value.none @PySem.Value.none @PySem.Value.none (@Option.none @Nat) @PySem.Value.none @PySem.Value.none (0 : Nat))) (@List.toArray (@Option @PySem.Value) ([]))) :: (objAt (hd.heap_39 P) 107) :: (objAt (hd.heap_39 P) 108) :: (objAt (hd.heap_39 P) 109) :: (@PySem.Obj.mk @PySem.Value.none (@Option.none @Nat) (@PySem.Data.fields (@List.toArray @PySem.Value ([]))) (@List.toArray (@Option @PySem.Value) ([]))) :: (objAt (hd.heap_39 P) 111) :: (objAt (hd.heap_39 P) 112) :: (@PySem.Obj.mk @PySem.Value.none (@Option.none @Nat) (@PySem.Data.func (@PySem.FuncData.mk (@PySem.Str.ofString "_law_octets") (@PySem.Str.ofString "_law_octets") (argsAt (pw.main.body.drop 70)) (@PySem.FuncBody.stmts (bodyAt (pw.main.body.drop 70))) (scopeAt (pw.main.body.drop 70)) (0 : Nat) ([]) @PySem.Value.none @PySem.Value.none @PySem.Value.none @PySem.Value.none (@Option.none @Nat) @PySem.Value.none @PySem.Value.none (0 : Nat))) (@List.toArray (@Option @PySem.Value) ([]))) :: (objAt (hd.heap_39 P) 114) :: (objAt (hd.heap_39 P) 115) :: (objAt (hd.heap_39 P) 116) :: (@PySem.Obj.mk @PySem.Value.none (@Option.none @Nat) (@PySem.Data.fields (@List.toArray @PySem.Value ([]))) (@List.toArray (@Option @PySem.Value) ([]))) :: (@PySem.Obj.mk @PySem.Value.none (@Option.none @Nat) (@PySem.Data.func (@PySem.FuncData.mk (@PySem.Str.ofString "_law_read") (@PySem.Str.ofString "_law_read") (argsAt (pw.main.body.drop 71)) (@PySem.FuncBody.stmts (bodyAt (pw.main.body.drop 71))) (scopeAt (pw.main.body.drop 71)) (0 : Nat) ([]) @PySem.Value.none @PySem.Value.none @PySem.Value.none @PySem.Value.none (@Option.none @Nat) @PySem.Value.none @PySem.Value.none (0 : Nat))) (@List.toArray (@Option @PySem.Value) ([]))) :: (objAt (hd.heap_39 P) 119) :: (objAt (hd.heap_39 P) 120) :: (objAt (hd.heap_39 P) 121) :: (@PySem.Obj.mk @PySem.Value.none (@Option.none @Nat) (@PySem.Data.fields (@List.toArray @PySem.Value ([]))) (@List.toArray (@Option @PySem.Value) ([]))) :: (objAt (hd.heap_39 P) 123) :: (objAt (hd.heap_39 P) 124) :: (@PySem.Obj.mk @PySem.Value.none (@Option.none @Nat) (@PySem.Data.func (@PySem.FuncData.mk (@PySem.Str.ofString "_law_is_operator") (@PySem.Str.ofString "_law_is_operator") (argsAt (pw.main.body.drop 72)) (@PySem.FuncBody.stmts (bodyAt (pw.main.body.drop 72))) (scopeAt (pw.main.body.drop 72)) (0 : Nat) ([]) @PySem.Value.none @PySem.Value.none @PySem.Value.none @PySem.Value.none (@Option.none @Nat) @PySem.Value.none @PySem.Value.none (0 : Nat))) (@List.toArray (@Option @PySem.Value) ([]))) :: (objAt (hd.heap_39 P) 126) :: (objAt (hd.heap_39 P) 127) :: (objAt (hd.heap_39 P) 128) :: (@PySem.Obj.mk @PySem.Value.none (@Option.none @Nat) (@PySem.Data.fields (@List.toArray @PySem.Value ([]))) (@List.toArray (@Option @PySem.Value) ([]))) :: (@PySem.Obj.mk @PySem.Value.none (@Option.none @Nat) (@PySem.Data.func (@PySem.FuncData.mk (@PySem.Str.ofString "_law_count") (@PySem.Str.ofString "_law_count") (argsAt (pw.main.body.drop 73)) (@PySem.FuncBody.stmts (bodyAt (pw.main.body.drop 73))) (scopeAt (pw.main.body.drop 73)) (0 : Nat) ([]) @PySem.Value.none @PySem.Value.none @PySem.Value.none @PySem.Value.none (@Option.none @Nat) @PySem.Value.none @PySem.Value.none (0 : Nat))) (@List.toArray (@Option @PySem.Value) ([]))) :: (objAt (hd.heap_39 P) 131) :: (objAt (hd.heap_39 P) 132) :: (objAt (hd.heap_39 P) 133) :: (@PySem.Obj.mk @PySem.Value.none (@Option.none @Nat) (@PySem.Data.fields (@List.toArray @PySem.Value ([]))) (@List.toArray (@Option @PySem.Value) ([]))) :: (@PySem.Obj.mk @PySem.Value.none (@Option.none @Nat) (@PySem.Data.func (@PySem.FuncData.mk (@PySem.Str.ofString "_law_ways") (@PySem.Str.ofString "_law_ways") (argsAt (pw.main.body.drop 74)) (@PySem.FuncBody.stmts (bodyAt (pw.main.body.drop 74))) (scopeAt (pw.main.body.drop 74)) (0 : Nat) ([]) @PySem.Value.none @PySem.Value.none @PySem.Value.none @PySem.Value.none (@Option.none @Nat) @PySem.Value.none @PySem.Value.none (0 : Nat))) (@List.toArray (@Option @PySem.Value) ([]))) :: (objAt (hd.heap_39 P) 136) :: (objAt (hd.heap_39 P) 137) :: (objAt (hd.heap_39 P) 138) :: (@PySem.Obj.mk @PySem.Value.none (@Option.none @Nat) (@PySem.Data.fields (@List.toArray @PySem.Value ([]))) (@List.toArray (@Option @PySem.Value) ([]))) :: (@PySem.Obj.mk @PySem.Value.none (@Option.none @Nat) (@PySem.Data.func (@PySem.FuncData.mk (@PySem.Str.ofString "_law_parted") (@PySem.Str.ofString "_law_parted") (argsAt (pw.main.body.drop 75)) (@PySem.FuncBody.stmts (bodyAt (pw.main.body.drop 75))) (scopeAt (pw.main.body.drop 75)) (0 : Nat) ([]) @PySem.Value.none @PySem.Value.none @PySem.Value.none @PySem.Value.none (@Option.none @Nat) @PySem.Value.none @PySem.Value.none (0 : Nat))) (@List.toArray (@Option @PySem.Value) ([]))) :: (objAt (hd.heap_39 P) 141) :: (objAt (hd.heap_39 P) 142) :: (objAt (hd.heap_39 P) 143) :: (@PySem.Obj.mk @PySem.Value.none (@Option.none @Nat) (@PySem.Data.fields (@List.toArray @PySem.Value ([]))) (@List.toArray (@Option @PySem.Value) ([]))) :: (@PySem.Obj.mk @PySem.Value.none (@Option.none @Nat) (@PySem.Data.func (@PySem.FuncData.mk (@PySem.Str.ofString "_law_names") (@PySem.Str.ofString "_law_names") (argsAt (pw.main.body.drop 76)) (@PySem.FuncBody.stmts (bodyAt (pw.main.body.drop 76))) (scopeAt (pw.main.body.drop 76)) (0 : Nat) ([]) @PySem.Value.none @PySem.Value.none @PySem.Value.none @PySem.Value.none (@Option.none @Nat) @PySem.Value.none @PySem.Value.none (0 : Nat))) (@List.toArray (@Option @PySem.Value) ([]))) :: (objAt (hd.heap_39 P) 146) :: (objAt (hd.heap_39 P) 147) :: (objAt (hd.heap_39 P) 148) :: (@PySem.Obj.mk @PySem.Value.none (@Option.none @Nat) (@PySem.Data.fields (@List.toArray @PySem.Value ([]))) (@List.toArray (@Option @PySem.Value) ([]))) :: (@PySem.Obj.mk @PySem.Value.none (@Option.none @Nat) (@PySem.Data.func (@PySem.FuncData.mk (@PySem.Str.ofString "law") (@PySem.Str.ofString "law") (argsAt (pw.main.body.drop 77)) (@PySem.FuncBody.stmts (bodyAt (pw.main.body.drop 77))) (scopeAt (pw.main.body.drop 77)) (0 : Nat) ([]) @PySem.Value.none @PySem.Value.none @PySem.Value.none @PySem.Value.none (@Option.none @Nat) @PySem.Value.none @PySem.Value.none (0 : Nat))) (@List.toArray (@Option @PySem.Value) ([]))) :: (objAt (hd.heap_39 P) 151) :: (objAt (hd.heap_39 P) 152) :: [])
noncomputable def hdMain0 : Params → Obj := fun P => (@PySem.Obj.mk (@PySem.Value.type "dict") (@Option.none @Nat) (@PySem.Data.dict (@List.toArray @PySem.DictEntry ((@PySem.DictEntry.mk (@PySem.PyData.keyHash P (@PySem.Str.ofString "__name__")) (@PySem.Value.str (@PySem.Str.ofString "__name__") (165 : Nat)) (@PySem.Value.str (@PySem.Str.ofString "__main__") (164 : Nat))) :: (@PySem.DictEntry.mk (@PySem.PyData.keyHash P (@PySem.Str.ofString "__doc__")) (@PySem.Value.str (@PySem.Str.ofString "__doc__") (166 : Nat)) @PySem.Value.none) :: (@PySem.DictEntry.mk (@PySem.PyData.keyHash P (@PySem.Str.ofString "__package__")) (@PySem.Value.str (@PySem.Str.ofString "__package__") (167 : Nat)) @PySem.Value.none) :: (@PySem.DictEntry.mk (@PySem.PyData.keyHash P (@PySem.Str.ofString "__loader__")) (@PySem.Value.str (@PySem.Str.ofString "__loader__") (168 : Nat)) (@PySem.Value.builtin "__main__.__loader__#opaque")) :: (@PySem.DictEntry.mk (@PySem.PyData.keyHash P (@PySem.Str.ofString "__spec__")) (@PySem.Value.str (@PySem.Str.ofString "__spec__") (169 : Nat)) @PySem.Value.none) :: (@PySem.DictEntry.mk (@PySem.PyData.keyHash P (@PySem.Str.ofString "__annotations__")) (@PySem.Value.str (@PySem.Str.ofString "__annotations__") (170 : Nat)) (@PySem.Value.ref (6 : Nat))) :: (@PySem.DictEntry.mk (@PySem.PyData.keyHash P (@PySem.Str.ofString "__builtins__")) (@PySem.Value.str (@PySem.Str.ofString "__builtins__") (171 : Nat)) (@PySem.Value.ref (4 : Nat))) :: (@PySem.DictEntry.mk (@PySem.PyData.keyHash P (@PySem.Str.ofString "__file__")) (@PySem.Value.str (@PySem.Str.ofString "__file__") (173 : Nat)) (@PySem.Value.str (@PySem.Str.ofString "/claim/cut.py") (172 : Nat))) :: (@PySem.DictEntry.mk (@PySem.PyData.keyHash P (@PySem.Str.ofString "__cached__")) (@PySem.Value.str (@PySem.Str.ofString "__cached__") (174 : Nat)) @PySem.Value.none) :: (@PySem.DictEntry.mk (@PySem.PyData.keyHash P (@PySem.Str.ofString "_sre")) (@PySem.Value.str (@PySem.Str.ofString "_sre") (275 : Nat)) (@PySem.Value.ref (12 : Nat))) :: [])) (10 : Nat)) (@List.toArray (@Option @PySem.Value) ([])))
noncomputable def hdLife : Life := (@PySem.Life.mk ([]) ([]) ([]) (0 : Nat) ([]) ([]) @Bool.false (@List.toArray @Nat ([])) ([]) (0 : Nat) @Bool.false @Bool.false @Bool.false (0 : Int) ((2000 : Int) :: (10 : Int) :: (10 : Int) :: []) @Bool.false (0 : Nat) @Bool.true ([]) ([]) (0 : Nat) @Bool.false)
end
end
section
noncomputable section

noncomputable abbrev hdLoose : List Str := [Str.ofString "COMPILER_FLAG_NAMES", Str.ofString "_twin_re_1", Str.ofString "_twin_re_2", Str.ofString "EXACT_TOKEN_TYPES"]
noncomputable abbrev hdAs : List Addr := [2, 3, 6, 11, 12, 32, 33, 35, 36, 38, 39, 40, 42, 43, 45, 46, 47, 49, 50, 52, 53, 54, 56, 57, 59, 60, 64, 65, 69, 70,   71, 73, 74, 76, 77, 78, 81, 83, 84, 86, 87, 88, 90, 91, 93, 94, 95, 97, 98, 100, 101, 102, 104, 105, 107, 108, 109,   111, 112, 114, 115, 116, 119, 120, 121, 123, 124, 126, 127, 128, 131, 132, 133, 136, 137, 138, 141, 142, 143, 146,   147, 148, 151, 152]
noncomputable abbrev hdXt (s : Shared) : Bool := xlAt hd.view_39 [] s && recOk (RowW.records PySem.Challenge.rw_sr0045_01.row.toRowW) s
noncomputable def hdAfter {α : Type} (w : World) (r : Bool) (f : Shared → α) : Option (Option α) :=
  (fencedOpening treeTable pw w 4644).map fun s => (topFrom treeTable pw (w.withFollow "special-get-raises" r) 4644 s).map f
theorem objs_of_get {h : Heap} {k : Nat} {o : Obj} (e : h.get? k = some o) : h.objs[k]? = some o := by
  unfold Heap.get? at e
  split at e
  · cases e
  · exact e
theorem take_of {α : Type} : ∀ {l L : List α} {f : Nat → Option α} (n : Nat), (∀ k o, f k = some o → L[k]? = some o) → (List.range' n l.length).map f = l.map some → (L.drop n).take l.length = l
  | [], _, _, _, _, _ => by simp
  | a :: l, L, f, n, hf, h => by
    simp only [List.length_cons, List.range'_succ, List.map_cons, List.cons.injEq] at h
    have h1 := hf n a h.1
    have h2 := take_of (n + 1) hf h.2
    obtain ⟨hn, h3⟩ := List.getElem?_eq_some_iff.mp h1
    rw [List.drop_eq_getElem_cons hn, List.length_cons, List.take_succ_cons, h2, h3]
theorem list_of {α : Type} {l1 l2 L : List α} {f : Nat → Option α} (hf : ∀ k o, f k = some o → L[k]? = some o) (a : (List.range' 0 l1.length).map f = l1.map some)
    (b : (List.range' (l1.length + 1) l2.length).map f = l2.map some) (c : L.length = l1.length + 1 + l2.length) : ∃ x, L = l1 ++ x :: l2 := by
  have h1 := take_of 0 hf a
  have h2 := take_of (l1.length + 1) hf b
  rw [List.drop_zero] at h1
  rw [List.take_of_length_le (by rw [List.length_drop]; omega)] at h2
  have hn : l1.length < L.length := by omega
  refine ⟨L[l1.length], ?_⟩
  conv => lhs; rw [← List.take_append_drop l1.length L]
  rw [h1, List.drop_eq_getElem_cons hn, h2]
noncomputable abbrev hdParts (m : Nat) (s : Shared) := ((List.range' 0 18).map s.heap.get?, (List.range' 19 m).map s.heap.get?, s.heap.objs.size, s.heap.life, s.gens, s.drawn, s.toks)
noncomputable def hdPut (l1 : List Obj) (x : Obj) (l2 : List Obj) (t : Nat) (os : OsState) : Shared := ⟨⟨⟨l1 ++ x :: l2⟩, hdLife⟩, #[], ⟨0, 0, 0, 0⟩, t, os⟩
theorem put_of {m t : Nat} {l1 l2 : List Obj} {s : Shared} (e1 : l1.length = 18) (e2 : l2.length = m) (h : hdParts m s = (l1.map some, l2.map some, 19 + m, hdLife, #[], ⟨0, 0, 0, 0⟩, t)) : ∃ x, s = hdPut l1 x l2 t s.os := by
  obtain ⟨⟨⟨L⟩, li⟩, tg, td, tt, to⟩ := s
  simp only [hdParts, Prod.mk.injEq] at h
  obtain ⟨ha, hb, hc, rfl, rfl, rfl, rfl⟩ := h
  obtain ⟨x, rfl⟩ := list_of (l1 := l1) (l2 := l2) (f := Heap.get? ⟨⟨L⟩, hdLife⟩) (fun k o e => by have e := objs_of_get e; rwa [List.getElem?_toArray] at e) (by rw [e1]; exact ha) (by rw [e1, e2]; exact hb) (by rw [e1, e2]; exact hc)
  exact ⟨x, rfl⟩
noncomputable def hdObjs0 (P : Params) : List Obj := (hdObjs1 P).set 3 (hdMain0 P)
noncomputable def hdStart (P : Params) (x : Obj) (os : OsState) : Shared := hdPut (hdObjs0 P) x ((hdObjs2 P).take 9) 276 os
noncomputable def hdEnd (P : Params) (x : Obj) (os : OsState) : Shared := hdPut (hdObjs1 P) x (hdObjs2 P) 711 os
theorem open_parts (w : World) : (fencedOpening treeTable pw w 4644).map (hdParts 9) = some ((hdObjs0 w.params).map some, ((hdObjs2 w.params).take 9).map some, 19 + 9, hdLife, #[], ⟨0, 0, 0, 0⟩, 276) := by
  unfold fencedOpening
  rw [PySem.W.Fast.te10274390034422433532, PySem.W.Fast.te1435165496053646825, PySem.W.Fast.te14289696077712309145, PySem.W.Fast.te14364793385576792824]
  kernel_rfl
theorem run_false (w : World) (x : Obj) (os : OsState) : (topRun treeTable pw (w.withFollow "special-get-raises" false) (hdStart w.params x os).heap.objs.size ((hdStart w.params x os).heap.nsMap mainGlobals "__annotations__") 4644 (hdStart w.params x os) (topStub pw)).map (hdParts 134) = some ((hdObjs1 w.params).map some, (hdObjs2 w.params).map some, 19 + 134, hdLife, #[], ⟨0, 0, 0, 0⟩, 711) := by
  rw [PySem.W.Fast.te14082659384304107361, PySem.W.Fast.te14364793385576792824, PySem.W.Fast.te8920871248978507458]
  kernel_rfl
theorem run_true (w : World) (x : Obj) (os : OsState) : (topRun treeTable pw (w.withFollow "special-get-raises" true) (hdStart w.params x os).heap.objs.size ((hdStart w.params x os).heap.nsMap mainGlobals "__annotations__") 4644 (hdStart w.params x os) (topStub pw)).map (hdParts 134) = some ((hdObjs1 w.params).map some, (hdObjs2 w.params).map some, 19 + 134, hdLife, #[], ⟨0, 0, 0, 0⟩, 711) := by
  rw [PySem.W.Fast.te14082659384304107361, PySem.W.Fast.te14364793385576792824, PySem.W.Fast.te8920871248978507458]
  kernel_rfl
theorem start_ns (P : Params) (x : Obj) (os : OsState) : ((hdStart P x os).heap.isNs mainGlobals && (hdStart P x os).gens.size == 0) = true := by
  kernel_rfl
theorem end_ok (P : Params) (x y : Obj) (os os' : OsState) : (staticsOk (importedModules pw.main.body) (hdStart P x os).heap (hdEnd P y os').heap && namesBound pw (hdEnd P y os').heap && gensDone (hdEnd P y os') && laidKept (hdStart P x os).heap (hdEnd P y os').heap) = true := by
  rw [PySem.W.Fast.te5923862056798008813]
  kernel_rfl
theorem from_start {w : World} {r : Bool} {x : Obj} {os : OsState} (h : (topRun treeTable pw (w.withFollow "special-get-raises" r) (hdStart w.params x os).heap.objs.size ((hdStart w.params x os).heap.nsMap mainGlobals "__annotations__") 4644 (hdStart w.params x os) (topStub pw)).map (hdParts 134) = some ((hdObjs1 w.params).map some, (hdObjs2 w.params).map some, 19 + 134, hdLife, #[], ⟨0, 0, 0, 0⟩, 711)) :
    ∃ y os', topFrom treeTable pw (w.withFollow "special-get-raises" r) 4644 (hdStart w.params x os) = some (hdEnd w.params y os') := by
  obtain ⟨s, hs, hp⟩ := Option.map_eq_some_iff.mp h
  obtain ⟨y, e⟩ := put_of (l1 := hdObjs1 w.params) (l2 := hdObjs2 w.params) rfl rfl hp
  refine ⟨y, s.os, ?_⟩
  unfold topFrom
  rw [start_ns]
  dsimp only
  rw [hs, Option.bind_some]
  have e2 : s = hdEnd w.params y s.os := e
  have c := end_ok w.params x y os s.os
  rw [← e2] at c ⊢
  rw [c]
theorem after_end {α : Type} {w : World} {r : Bool} {f : Shared → α} {u : α}
    (h : ∀ x os, (topRun treeTable pw (w.withFollow "special-get-raises" r) (hdStart w.params x os).heap.objs.size ((hdStart w.params x os).heap.nsMap mainGlobals "__annotations__") 4644 (hdStart w.params x os) (topStub pw)).map (hdParts 134) = some ((hdObjs1 w.params).map some, (hdObjs2 w.params).map some, 19 + 134, hdLife, #[], ⟨0, 0, 0, 0⟩, 711))
    (g : ∀ x os, f (hdEnd w.params x os) = u) : hdAfter w r f = some (some u) := by
  obtain ⟨s, hs, hp⟩ := Option.map_eq_some_iff.mp (open_parts w)
  obtain ⟨x, e⟩ := put_of (l1 := hdObjs0 w.params) (l2 := (hdObjs2 w.params).take 9) rfl rfl hp
  obtain ⟨y, os', k⟩ := from_start (h x s.os)
  unfold hdAfter
  rw [hs, Option.map_some, show s = hdStart w.params x s.os from e, k, Option.map_some, g]
theorem after_rows {α : Type} {w : World} {f : Shared → α} {u v : α} (a : hdAfter w false f = some (some u)) (b : hdAfter w true f = some (some v)) :
    (fencedOpening treeTable pw w 4644).map (fun s => ((topFrom treeTable pw (w.withFollow "special-get-raises" false) 4644 s).map f, (topFrom treeTable pw (w.withFollow "special-get-raises" true) 4644 s).map f)) = some (some u, some v) := by
  unfold hdAfter at a b
  cases h : fencedOpening treeTable pw w 4644 with
  | none => rw [h] at a; cases a
  | some s =>
    rw [h] at a b
    simp only [Option.map_some, Option.some.injEq] at a b ⊢
    rw [a, b]
theorem seen_0 (P : Params) (x : Obj) (os : OsState) : (openSeen hd.view_39 hdLoose (importedModules pw.main.body) hdXt true (hdEnd P x os)).1 = expectedOf hd.view_39 := by
  rw [PySem.W.Fast.te4187177175401517315, PySem.W.Fast.te5923862056798008813]
  kernel_rfl
theorem seen_1 (P : Params) (x : Obj) (os : OsState) : (openSeen hd.view_39 hdLoose (importedModules pw.main.body) hdXt true (hdEnd P x os)).2.1 = bltViewBooted := by
  rw [PySem.W.Fast.te4187177175401517315, PySem.W.Fast.te5923862056798008813]
  kernel_rfl
theorem seen_2a (P : Params) (x : Obj) (os : OsState) : (hdEnd P x os).heap.keysOk (looseW hd.view_39 hdLoose) ((recsOf hd.view_39).map (·.name)) ((litsOf hd.view_39).map (·.1)) ((clssOf hd.view_39 (looseW hd.view_39 hdLoose)).map (·.name)) = true := by
  kernel_rfl
theorem seen_2b (P : Params) (x : Obj) (os : OsState) : (hdEnd P x os).heap.accountedOkI (importedModules pw.main.body) = true := by
  kernel_rfl
theorem seen_2c (P : Params) (x : Obj) (os : OsState) : (hdEnd P x os).heap.isNs mainGlobals = true := by
  kernel_rfl
theorem seen_2d (P : Params) (x : Obj) (os : OsState) : (hdEnd P x os).heap.isNs builtinsNs = true := by
  kernel_rfl
theorem seen_2e (P : Params) (x : Obj) (os : OsState) : tablesOk hd.view_39 (hdEnd P x os).heap = true := by
  kernel_rfl
theorem seen_2f (P : Params) (x : Obj) (os : OsState) : hdXt (hdEnd P x os) = true := by
  kernel_rfl
theorem and_seven {a b c d e f g : Bool} (h1 : a = true) (h2 : b = true) (h3 : c = true) (h4 : d = true) (h5 : e = true) (h6 : f = true) (h7 : g = true) : (a && b && c && d && e && f && g) = true := by
  rw [h1, h2, h3, h4, h5, h6, h7]; rfl
theorem seen_2 (P : Params) (x : Obj) (os : OsState) : (openSeen hd.view_39 hdLoose (importedModules pw.main.body) hdXt true (hdEnd P x os)).2.2.1 = true :=
  and_seven (seen_2a P x os) (seen_2b P x os) (seen_2c P x os) (seen_2d P x os) (seen_2e P x os) (seen_2f P x os) (show (if true = true then (hdEnd P x os).gens.size == 0 else !leftWithCleanup (hdEnd P x os).gens) = true from rfl)
theorem seen_3 (P : Params) (x : Obj) (os : OsState) : (openSeen hd.view_39 hdLoose (importedModules pw.main.body) hdXt true (hdEnd P x os)).2.2.2.1 = true := by
  rw [PySem.W.Fast.te4187177175401517315, PySem.W.Fast.te5923862056798008813]
  kernel_rfl
theorem seen_4 (P : Params) (x : Obj) (os : OsState) : (openSeen hd.view_39 hdLoose (importedModules pw.main.body) hdXt true (hdEnd P x os)).2.2.2.2.1 = pinGoodD (drecsOf hd.view_39) := by
  rw [PySem.W.Fast.te4187177175401517315, PySem.W.Fast.te5923862056798008813]
  kernel_rfl
theorem seen_5 (P : Params) (x : Obj) (os : OsState) : (openSeen hd.view_39 hdLoose (importedModules pw.main.body) hdXt true (hdEnd P x os)).2.2.2.2.2.1 = plainGoodE hd.view_39 (looseW hd.view_39 hdLoose) := by
  rw [PySem.W.Fast.te4187177175401517315, PySem.W.Fast.te5923862056798008813]
  kernel_rfl
theorem seen_6 (P : Params) (x : Obj) (os : OsState) : (openSeen hd.view_39 hdLoose (importedModules pw.main.body) hdXt true (hdEnd P x os)).2.2.2.2.2.2.1 = plainGoodD hd.view_39 hdLoose := by
  rw [PySem.W.Fast.te4187177175401517315, PySem.W.Fast.te5923862056798008813]
  kernel_rfl
theorem seen_7 (P : Params) (x : Obj) (os : OsState) : (openSeen hd.view_39 hdLoose (importedModules pw.main.body) hdXt true (hdEnd P x os)).2.2.2.2.2.2.2.1 = wideGood hd.view_39 := by
  rw [PySem.W.Fast.te4187177175401517315, PySem.W.Fast.te5923862056798008813]
  kernel_rfl
theorem seen_8 (P : Params) (x : Obj) (os : OsState) : (openSeen hd.view_39 hdLoose (importedModules pw.main.body) hdXt true (hdEnd P x os)).2.2.2.2.2.2.2.2 = clsGoodW hd.view_39 hdLoose := by
  rw [PySem.W.Fast.te4187177175401517315, PySem.W.Fast.te5923862056798008813]
  kernel_rfl
theorem seen_end (P : Params) (x : Obj) (os : OsState) : openSeen hd.view_39 hdLoose (importedModules pw.main.body) hdXt true (hdEnd P x os) = openGood hd.view_39 hdLoose :=
  Prod.ext (seen_0 P x os) (Prod.ext (seen_1 P x os) (Prod.ext (seen_2 P x os) (Prod.ext (seen_3 P x os) (Prod.ext (seen_4 P x os) (Prod.ext (seen_5 P x os) (Prod.ext (seen_6 P x os) (Prod.ext (seen_7 P x os) (seen_8 P x os))))))))
theorem heap_end (P : Params) (x : Obj) (os : OsState) : hdAs.map (hdEnd P x os).heap.get? = (hd.heap_39 P).map fun p => some p.2 := by
  kernel_rfl
theorem hdLeft : LeftO pw hd.view_39 hdLoose hdXt (fun s => hdAs.map s.heap.get?) (fun w => (hd.heap_39 w.params).map fun p => some p.2) 4644 :=
  LeftO.of_split "special-get-raises" fun w => after_rows
    (after_end (run_false w) fun x os => Prod.ext (seen_end w.params x os) (heap_end w.params x os))
    (after_end (run_true w) fun x os => Prod.ext (seen_end w.params x os) (heap_end w.params x os))
theorem hdSaid : PySem.Challenge.rw_sr0045_01.wellSaid = true := by
  unfold OpenLaw.wellSaid OpenRow.wellSaid OpenRow.partSaid looksOpen
  repeat' (first | (with_reducible refine Bool.and_eq_true_iff.mpr ⟨?_, ?_⟩) | decide +kernel)
theorem hdKeys : ∀ P, hdAs = (hd.heap_39 P).map (·.1) := fun P => by kernel_rfl
end
end
section
/-! the pure-continuation logic: base -/

noncomputable abbrev LS : List Str := looseW hd.view_39 [Str.ofString "COMPILER_FLAG_NAMES", Str.ofString "_twin_re_1", Str.ofString "_twin_re_2", Str.ofString "EXACT_TOKEN_TYPES"]
noncomputable abbrev MD (w : World) : Model := model PySem.Challenge.pw_sr0045_01 w

/-- what every heap keeps of the top -/
noncomputable def GH (w : World) (h : Heap) : Prop := (hd.heap_39 w.params).In h ∧ ∃ mg mb mean, Top hd.view_39 LS mean mg mb h
theorem GH.keeps {w : World} {h h' : Heap} (x : GH w h) (k : ∀ b o, h.get? b = some o → h'.get? b = some o) : GH w h' := by
  obtain ⟨K, mg, mb, mean, T⟩ := x
  exact ⟨Frag.In.keeps K k, mg, mb, mean, T.keeps k⟩

/-- room -/
structure Rm (n : Nat) (A : Around) : Prop where
  handled : A.handled = none
  depth : A.depth + n < recursionLimit
  units : A.units + 8 * n < cLine
theorem Rm.le {n m : Nat} {A : Around} (x : Rm n A) (h : m ≤ n) : Rm m A := ⟨x.handled, by have := x.depth; omega, by have := x.units; omega⟩
theorem Rm.deeper {n : Nat} {A : Around} {env : Env} (x : Rm (n + 1) A) : Rm n (A.deeper env) :=
  ⟨x.handled, by have := x.depth; show A.depth + 1 + n < _; omega, by have := x.units; show A.units + 3 + 8 * n < _; omega⟩
theorem Rm.in1 {n : Nat} {A : Around} (x : Rm (n + 1) A) : Rm n A.in1 :=
  ⟨x.handled, by have := x.depth; show A.depth + n < _; omega, by have := x.units; show A.units + 1 + 8 * n < _; omega⟩
theorem Rm.lt {n : Nat} {A : Around} (x : Rm n A) : A.depth < recursionLimit := by have := x.depth; omega
theorem Rm.ult {n : Nat} {A : Around} (x : Rm n A) : A.units < cLine := by have := x.units; omega

mutual
inductive Rep (h : Heap) (W : Addr → Prop) : Value → Dat → Prop
  | nul : Rep h W Value.none Dat.none
  | bool (b : Bool) : Rep h W (Value.bool b) (Dat.bool b)
  | int (i : Int) (t : Tok) : Rep h W (Value.int i t) (Dat.int i)
  | str (x : Str) (t : Tok) : Rep h W (Value.str x t) (Dat.str x)
  | bytes (b : Array UInt8) (t : Tok) : Rep h W (Value.bytes b t) (Dat.bytes b)
  | list {a : Addr} {vs : List Value} {ds : List Dat} : h.PlainList a vs.toArray → ¬ W a → RepAll h W vs ds → Rep h W (Value.ref a) (Dat.list ds)
  | seq {a : Addr} {vs : List Value} {is : List Int} {ds : List Dat} : h.IsList a vs.toArray → ¬ W a → RepAll h W vs ds → ds = is.map Dat.int → Rep h W (Value.ref a) (Dat.tuple ds)
  | opq (I : Addr) : Rep h W (Value.ref I) (Dat.tuple [Dat.none, Dat.int (I : Int)])
inductive RepAll (h : Heap) (W : Addr → Prop) : List Value → List Dat → Prop
  | nil : RepAll h W [] []
  | cons {v : Value} {vs : List Value} {d : Dat} {ds : List Dat} : Rep h W v d → RepAll h W vs ds → RepAll h W (v :: vs) (d :: ds)
end
mutual
theorem Rep.move {h h' : Heap} {W W' : Addr → Prop} (k : ∀ a its, ¬ W a → h.IsList a its → (∀ o, h.get? a = some o → h'.get? a = some o) ∧ ¬ W' a) : ∀ {v : Value} {d : Dat}, Rep h W v d → Rep h' W' v d
  | _, _, .nul => .nul
  | _, _, .bool b => .bool b
  | _, _, .int i t => .int i t
  | _, _, .str x t => .str x t
  | _, _, .bytes b t => .bytes b t
  | _, _, .list l n r => .list (l.at (k _ _ n l.isList).1) (k _ _ n l.isList).2 (RepAll.move k r)
  | _, _, .opq I => .opq I
  | _, _, .seq l n r e => .seq (let ⟨o, e, q⟩ := l; ⟨o, (k _ _ n l).1 o e, q⟩) (k _ _ n l).2 (RepAll.move k r) e
theorem RepAll.move {h h' : Heap} {W W' : Addr → Prop} (k : ∀ a its, ¬ W a → h.IsList a its → (∀ o, h.get? a = some o → h'.get? a = some o) ∧ ¬ W' a) : ∀ {vs : List Value} {ds : List Dat}, RepAll h W vs ds → RepAll h' W' vs ds
  | _, _, .nil => .nil
  | _, _, .cons r rs => .cons (Rep.move k r) (RepAll.move k rs)
end
theorem Rep.keeps {h h' : Heap} {W : Addr → Prop} {v : Value} {d : Dat} (x : Rep h W v d) (k : ∀ b o, h.get? b = some o → h'.get? b = some o) : Rep h' W v d :=
  x.move fun a its n l => ⟨fun o e => k a o e, n⟩
theorem RepAll.keeps {h h' : Heap} {W : Addr → Prop} {vs : List Value} {ds : List Dat} (x : RepAll h W vs ds) (k : ∀ b o, h.get? b = some o → h'.get? b = some o) : RepAll h' W vs ds :=
  x.move fun a its n l => ⟨fun o e => k a o e, n⟩
/-- less to keep away from -/
theorem Rep.weaken {h : Heap} {W W' : Addr → Prop} {v : Value} {d : Dat} (x : Rep h W v d) (k : ∀ a, W' a → W a) : Rep h W' v d :=
  x.move fun a _ n l => ⟨fun _ e => e, fun q => n (k a q)⟩
theorem RepAll.weaken {h : Heap} {W W' : Addr → Prop} {vs : List Value} {ds : List Dat} (x : RepAll h W vs ds) (k : ∀ a, W' a → W a) : RepAll h W' vs ds :=
  x.move fun a _ n l => ⟨fun _ e => e, fun q => n (k a q)⟩
/-- a place that is not there yet -/
theorem Rep.more {h : Heap} {W W' : Addr → Prop} {v : Value} {d : Dat} (x : Rep h W v d) (k : ∀ a, W' a → W a ∨ h.get? a = none) : Rep h W' v d :=
  x.move fun a its n l => ⟨fun _ e => e, fun q => by
    rcases k a q with q | q
    · exact n q
    · obtain ⟨_, e, _⟩ := l; rw [q] at e; cases e⟩
theorem RepAll.more {h : Heap} {W W' : Addr → Prop} {vs : List Value} {ds : List Dat} (x : RepAll h W vs ds) (k : ∀ a, W' a → W a ∨ h.get? a = none) : RepAll h W' vs ds :=
  x.move fun a its n l => ⟨fun _ e => e, fun q => by
    rcases k a q with q | q
    · exact n q
    · obtain ⟨_, e, _⟩ := l; rw [q] at e; cases e⟩
theorem RepAll.length {h : Heap} {W : Addr → Prop} : ∀ {vs : List Value} {ds : List Dat}, RepAll h W vs ds → vs.length = ds.length
  | _, _, .nil => rfl
  | _, _, .cons _ rs => by rw [List.length_cons, List.length_cons, RepAll.length rs]
theorem RepAll.append {h : Heap} {W : Addr → Prop} : ∀ {vs us : List Value} {ds es : List Dat}, RepAll h W vs ds → RepAll h W us es → RepAll h W (vs ++ us) (ds ++ es)
  | _, _, _, _, .nil, y => y
  | _, _, _, _, .cons r rs, y => .cons r (RepAll.append rs y)
theorem RepAll.get {h : Heap} {W : Addr → Prop} : ∀ {vs : List Value} {ds : List Dat}, RepAll h W vs ds → ∀ {k : Nat} {d : Dat}, ds[k]? = some d → ∃ v, vs[k]? = some v ∧ Rep h W v d
  | _, _, .nil, k, d, e => by simp at e
  | _, _, .cons r rs, 0, d, e => by cases e; exact ⟨_, rfl, r⟩
  | _, _, .cons r rs, k + 1, d, e => by
    obtain ⟨v, h1, h2⟩ := RepAll.get rs (k := k) (by simpa using e)
    exact ⟨v, by simpa using h1, h2⟩
theorem RepAll.getV {h : Heap} {W : Addr → Prop} : ∀ {vs : List Value} {ds : List Dat}, RepAll h W vs ds → ∀ {k : Nat} {v : Value}, vs[k]? = some v → ∃ d, ds[k]? = some d ∧ Rep h W v d
  | _, _, .nil, k, d, e => by simp at e
  | _, _, .cons r rs, 0, d, e => by cases e; exact ⟨_, rfl, r⟩
  | _, _, .cons r rs, k + 1, d, e => by
    obtain ⟨v, h1, h2⟩ := RepAll.getV rs (k := k) (by simpa using e)
    exact ⟨v, by simpa using h1, h2⟩
theorem RepAll.take {h : Heap} {W : Addr → Prop} : ∀ {vs : List Value} {ds : List Dat}, RepAll h W vs ds → ∀ n, RepAll h W (vs.take n) (ds.take n)
  | _, _, .nil, n => by simp; exact .nil
  | _, _, .cons r rs, 0 => .nil
  | _, _, .cons r rs, n + 1 => .cons r (RepAll.take rs n)
theorem RepAll.drop {h : Heap} {W : Addr → Prop} : ∀ {vs : List Value} {ds : List Dat}, RepAll h W vs ds → ∀ n, RepAll h W (vs.drop n) (ds.drop n)
  | _, _, .nil, n => by simp; exact .nil
  | _, _, .cons r rs, 0 => .cons r rs
  | _, _, .cons r rs, n + 1 => RepAll.drop rs n
/-- flat data hang on no heap -/
noncomputable def flatD : Dat → Bool
  | .list _ => false
  | .tuple _ => false
  | _ => true
theorem Rep.flat {h h' : Heap} {W W' : Addr → Prop} {v : Value} {d : Dat} (x : Rep h W v d) (f : flatD d = true) : Rep h' W' v d := by
  cases x with
  | nul => exact .nul
  | bool b => exact .bool b
  | int i t => exact .int i t
  | str x t => exact .str x t
  | bytes b t => exact .bytes b t
  | list => cases f
  | seq => cases f
  | opq => cases f

noncomputable def WOk (W : Addr → Prop) (h : Heap) : Prop := ∀ a, W a → ∃ o, h.get? a = some o
theorem WOk.keeps {W : Addr → Prop} {h h' : Heap} (x : WOk W h) (k : ∀ b o, h.get? b = some o → h'.get? b = some o) : WOk W h' := fun a q => let ⟨o, e⟩ := x a q; ⟨o, k a o e⟩
theorem WOk.fresh {W : Addr → Prop} {h : Heap} (x : WOk W h) {a : Addr} (e : h.get? a = none) : ¬ W a := fun q => by
  obtain ⟨o, e'⟩ := x a q; rw [e] at e'; cases e'

/-- a variable's value -/
noncomputable def VarIs (env : Env) (h : Heap) (x : Str) (v : Value) : Prop :=
  (env.kindOf x = some .local ∧ ∃ m, h.Ns env.locals m ∧ m x = some v) ∨
  ((env.kindOf x = some .cell ∨ env.kindOf x = some .free) ∧ (x == ("__classdict__" : Str)) = false ∧ ∃ c, env.cells.lookup x = some c ∧ h.IsCell c (some v))
theorem VarIs.keeps {env : Env} {h h' : Heap} {x : Str} {v : Value} (y : VarIs env h x v) (k : ∀ b o, h.get? b = some o → h'.get? b = some o) : VarIs env h' x v := by
  rcases y with ⟨a, m, b, c⟩ | ⟨a, d, c, b, e⟩
  · exact .inl ⟨a, m, b.keeps k, c⟩
  · exact .inr ⟨a, d, c, b, e.keeps k⟩

structure Cx where
  sc : List (Str × NameKind)
  ρ : List (Str × Dat)
  ω : Option (Str × List Dat) := none

structure EnvOk (env : Env) (h : Heap) (W : Addr → Prop) (cx : Cx) : Prop where
  globals : env.globals = mainGlobals
  builtins : env.builtins = builtinsNs
  kind : env.scope.kind = .function
  names : env.scope.names = cx.sc
  cells : ∀ x, env.kindOf x = some .cell → ∃ c, env.cells.lookup x = some c
  var : ∀ x d, cx.ρ.lookup x = some d → ∃ v, VarIs env h x v ∧ Rep h W v d
  own : ∀ x ds, cx.ω = some (x, ds) → ∃ a vs, VarIs env h x (.ref a) ∧ h.PlainList a vs.toArray ∧ RepAll h W vs ds ∧ W a
theorem EnvOk.keeps {env : Env} {h h' : Heap} {W : Addr → Prop} {cx : Cx} (x : EnvOk env h W cx) (k : ∀ b o, h.get? b = some o → h'.get? b = some o) : EnvOk env h' W cx where
  globals := x.globals
  builtins := x.builtins
  kind := x.kind
  names := x.names
  cells := x.cells
  var := fun y d e => let ⟨v, a, b⟩ := x.var y d e; ⟨v, a.keeps k, b.keeps k⟩
  own := fun y ds e => let ⟨a, vs, p, q, r, t⟩ := x.own y ds e; ⟨a, vs, p.keeps k, q.at fun o e => k a o e, r.keeps k, t⟩

noncomputable def GB (g g' : Array GenState) : Prop := (AllBare g → AllBare g') ∧ ∀ (k : Nat) x, g[k]? = some x → g'[k]? = some x
theorem GB.refl (g : Array GenState) : GB g g := ⟨id, fun _ _ e => e⟩
theorem GB.trans {g g' g'' : Array GenState} (x : GB g g') (y : GB g' g'') : GB g g'' := ⟨fun q => y.1 (x.1 q), fun k a e => y.2 k a (x.2 k a e)⟩
noncomputable def GnB (s s' : Shared) (h : Heap) (tk : Nat) : Prop := ∃ gs, s' = { s with heap := h, toks := tk, gens := gs } ∧ GB s.gens gs
noncomputable def Kp (s s' : Shared) : Prop := ∃ h' tk, GnB s s' h' tk ∧ ∀ b o, s.heap.get? b = some o → h'.get? b = some o
theorem Kp.refl (s : Shared) : Kp s s := ⟨s.heap, s.toks, ⟨_, rfl, GB.refl _⟩, fun _ _ e => e⟩
theorem Kp.trans {s s' s'' : Shared} (x : Kp s s') (y : Kp s' s'') : Kp s s'' := by
  obtain ⟨h, t, ⟨gs, rfl, ab⟩, k⟩ := x
  obtain ⟨h', t', ⟨gs', rfl, ab'⟩, k'⟩ := y
  exact ⟨h', t', ⟨_, rfl, ab.trans ab'⟩, fun b o e => k' b o (k b o e)⟩
theorem Kp.k {s s' : Shared} (x : Kp s s') : ∀ b o, s.heap.get? b = some o → s'.heap.get? b = some o := by
  obtain ⟨h, t, ⟨gs, rfl, ab⟩, k⟩ := x; exact k
theorem Kp.tok (s : Shared) (t : Nat) : Kp s { s with toks := t } := ⟨s.heap, t, ⟨_, rfl, GB.refl _⟩, fun _ _ e => e⟩
theorem Kp.push (s : Shared) (o : Obj) : Kp s { s with heap := s.heap.push o } := ⟨_, s.toks, ⟨_, rfl, GB.refl _⟩, fun _ _ e => Heap.get?_push_of_some _ e⟩
theorem Kp.heap (s : Shared) (h' : Heap) (t : Nat) (k : ∀ b o, s.heap.get? b = some o → h'.get? b = some o) : Kp s { s with heap := h', toks := t } := ⟨h', t, ⟨_, rfl, GB.refl _⟩, k⟩
theorem Kp.fresh {s s' : Shared} (x : Kp s s') {a : Addr} (e : s'.heap.get? a = none) : s.heap.get? a = none := by
  cases q : s.heap.get? a with
  | none => rfl
  | some o => rw [x.k a o q] at e; cases e

/-- an expression, its value handed to K -/
noncomputable def SE (w : World) (n : Nat) (cx : Cx) (e : Expr) (K : Dat → Prop) : Prop :=
  ∀ (A : Around) (E : Value → Shared → Prop) (env : Env) (s : Shared) (W : Addr → Prop), Rm n A → GH w s.heap → WOk W s.heap → EnvOk env s.heap W cx →
    wpAny (MD w) A (eval e env) (fun v s' => ∃ d, Rep s'.heap W v d ∧ K d ∧ Kp s s') E s
/-- an expression that makes a new list -/
noncomputable def SEf (w : World) (n : Nat) (cx : Cx) (e : Expr) (K : List Dat → Prop) : Prop :=
  ∀ (A : Around) (E : Value → Shared → Prop) (env : Env) (s : Shared) (W : Addr → Prop), Rm n A → GH w s.heap → WOk W s.heap → EnvOk env s.heap W cx →
    wpAny (MD w) A (eval e env) (fun v s' => ∃ a vs ds, v = .ref a ∧ s.heap.get? a = none ∧ s'.heap.PlainList a vs.toArray ∧ RepAll s'.heap (fun b => W b ∨ b = a) vs ds ∧ K ds ∧ Kp s s') E s
/-- a test -/
noncomputable def ST (w : World) (n : Nat) (cx : Cx) (e : Expr) (K : Bool → Prop) : Prop :=
  ∀ (A : Around) (E : Value → Shared → Prop) (env : Env) (s : Shared) (W : Addr → Prop), Rm n A → GH w s.heap → WOk W s.heap → EnvOk env s.heap W cx →
    wpAny (MD w) A (isTrue e env (eval e env)) (fun b s' => K b ∧ Kp s s') E s
/-- a call of a def -/
noncomputable def SC (w : World) (n : Nat) (f : Addr) (ds : List Dat) (K : Dat → Prop) : Prop :=
  ∀ (A : Around) (E : Value → Shared → Prop) (s : Shared) (W : Addr → Prop) (vs : List Value), Rm n A → GH w s.heap → WOk W s.heap → RepAll s.heap W vs ds →
    wpAny (MD w) A (call (.ref f) vs) (fun v s' => ∃ d, Rep s'.heap W v d ∧ K d ∧ Kp s s') E s

theorem SE.mono {w : World} {n : Nat} {cx : Cx} {e : Expr} {K K' : Dat → Prop} (x : SE w n cx e K) (h : ∀ d, K d → K' d) : SE w n cx e K' := fun A E env s W r g o v =>
  wpAny_mono (x A E env s W r g o v) (fun _ _ ⟨d, a, b, c⟩ => ⟨d, a, h d b, c⟩) fun _ _ q => q
theorem SEf.mono {w : World} {n : Nat} {cx : Cx} {e : Expr} {K K' : List Dat → Prop} (x : SEf w n cx e K) (h : ∀ d, K d → K' d) : SEf w n cx e K' := fun A E env s W r g o v =>
  wpAny_mono (x A E env s W r g o v) (fun _ _ ⟨a, vs, ds, h1, h2, h3, h4, h5, h6⟩ => ⟨a, vs, ds, h1, h2, h3, h4, h _ h5, h6⟩) fun _ _ q => q
theorem ST.mono {w : World} {n : Nat} {cx : Cx} {e : Expr} {K K' : Bool → Prop} (x : ST w n cx e K) (h : ∀ d, K d → K' d) : ST w n cx e K' := fun A E env s W r g o v =>
  wpAny_mono (x A E env s W r g o v) (fun _ _ ⟨a, b⟩ => ⟨h _ a, b⟩) fun _ _ q => q
theorem SC.mono {w : World} {n : Nat} {f : Addr} {ds : List Dat} {K K' : Dat → Prop} (x : SC w n f ds K) (h : ∀ d, K d → K' d) : SC w n f ds K' := fun A E s W vs r g o v =>
  wpAny_mono (x A E s W vs r g o v) (fun _ _ ⟨d, a, b, c⟩ => ⟨d, a, h d b, c⟩) fun _ _ q => q
theorem SE.le {w : World} {n m : Nat} {cx : Cx} {e : Expr} {K : Dat → Prop} (x : SE w n cx e K) (h : n ≤ m) : SE w m cx e K := fun A E env s W r g o v => x A E env s W (r.le h) g o v
theorem SC.le {w : World} {n m : Nat} {f : Addr} {ds : List Dat} {K : Dat → Prop} (x : SC w n f ds K) (h : n ≤ m) : SC w m f ds K := fun A E s W vs r g o v => x A E s W vs (r.le h) g o v

theorem RepAll.away {h : Heap} {W : Addr → Prop} {a : Addr} {vs : List Value} {ds : List Dat} (x : RepAll h (fun b => W b ∨ b = a) vs ds) : RepAll h W vs ds := x.weaken fun _ q => .inl q
theorem SE.of_f {w : World} {n : Nat} {cx : Cx} {e : Expr} {K : Dat → Prop} (x : SEf w n cx e fun ds => K (.list ds)) : SE w n cx e K := fun A E env s W r g o v =>
  wpAny_mono (x A E env s W r g o v) (fun _ _ ⟨a, vs, ds, h1, h2, h3, h4, h5, h6⟩ => ⟨.list ds, h1 ▸ .list h3 (o.fresh h2) h4.away, h5, h6⟩) fun _ _ q => q

section
variable {w : World} {n : Nat} {cx : Cx} {pos : Pos} {k : Nat}
theorem SE_int {i : Int} {K : Dat → Prop} (h : K (.int i)) : SE w n cx (.Constant (.int i) k pos) K := fun A E env s W r g o v =>
  wpAny_Constant_int ⟨_, .int _ _, h, Kp.tok s _⟩
theorem SE_str {x : Str} {K : Dat → Prop} (h : K (.str x)) : SE w n cx (.Constant (.str x) k pos) K := fun A E env s W r g o v =>
  wpAny_Constant_str ⟨_, .str _ _, h, Kp.tok s _⟩
theorem SE_none {K : Dat → Prop} (h : K .none) : SE w n cx (.Constant .none k pos) K := fun A E env s W r g o v =>
  wpAny_Constant_none ⟨_, .nul, h, Kp.refl s⟩
theorem SE_bool {b : Bool} {K : Dat → Prop} (h : K (.bool b)) : SE w n cx (.Constant (.bool b) k pos) K := fun A E env s W r g o v =>
  wpAny_Constant_bool ⟨_, .bool b, h, Kp.refl s⟩
theorem wp_var {M : Model} {A : Around} {E : Value → Shared → Prop} {env : Env} {s : Shared} {x : Str} {v : Value} {Q : Value → Shared → Prop} (hk : env.scope.kind = .function) (y : VarIs env s.heap x v) (h : Q v s) : wpAny M A (loadName env x) Q E s := by
  rcases y with ⟨a, m, b, c⟩ | ⟨a, d, c, b, e⟩
  · exact wpAny_loadName_local hk a b c h
  · rcases a with a | a
    · exact wpAny_loadName_cell hk a b e h
    · exact wpAny_loadName_free hk a b e h d
theorem SE_name {x : Str} {d : Dat} {K : Dat → Prop} (e : cx.ρ.lookup x = some d) (h : K d) (hd : (x == ("__debug__" : Str)) = false) : SE w n cx (.Name x pos) K := fun A E env s W r g o v => by
  obtain ⟨u, y, z⟩ := v.var x d e
  exact wpAny_Name (wp_var v.kind y ⟨d, z, h, Kp.refl s⟩) hd
end
end
section
/-- an operation on two values -/
noncomputable def O2 (w : World) (n : Nat) (f : Value → Value → Sem Value) (a b : Dat) (K : Dat → Prop) : Prop :=
  ∀ (A : Around) (E : Value → Shared → Prop) (s : Shared) (W : Addr → Prop) (va vb : Value), Rm n A → GH w s.heap → WOk W s.heap → Rep s.heap W va a → Rep s.heap W vb b →
    wpAny (MD w) A (f va vb) (fun v s' => ∃ d, Rep s'.heap W v d ∧ K d ∧ Kp s s') E s
noncomputable def O2f (w : World) (n : Nat) (f : Value → Value → Sem Value) (a b : Dat) (K : List Dat → Prop) : Prop :=
  ∀ (A : Around) (E : Value → Shared → Prop) (s : Shared) (W : Addr → Prop) (va vb : Value), Rm n A → GH w s.heap → WOk W s.heap → Rep s.heap W va a → Rep s.heap W vb b →
    wpAny (MD w) A (f va vb) (fun v s' => ∃ a vs ds, v = .ref a ∧ s.heap.get? a = none ∧ s'.heap.PlainList a vs.toArray ∧ RepAll s'.heap (fun b => W b ∨ b = a) vs ds ∧ K ds ∧ Kp s s') E s
noncomputable def O1 (w : World) (n : Nat) (f : Value → Sem Value) (a : Dat) (K : Dat → Prop) : Prop :=
  ∀ (A : Around) (E : Value → Shared → Prop) (s : Shared) (W : Addr → Prop) (va : Value), Rm n A → GH w s.heap → WOk W s.heap → Rep s.heap W va a →
    wpAny (MD w) A (f va) (fun v s' => ∃ d, Rep s'.heap W v d ∧ K d ∧ Kp s s') E s
noncomputable def OT (w : World) (n : Nat) (a : Dat) (K : Bool → Prop) : Prop :=
  ∀ (A : Around) (E : Value → Shared → Prop) (s : Shared) (W : Addr → Prop) (va : Value), Rm n A → GH w s.heap → Rep s.heap W va a →
    wpAny (MD w) A (truthy va) (fun b s' => K b ∧ Kp s s') E s

section
variable {w : World} {n : Nat} {cx : Cx} {pos : Pos} {k : Nat} {l r : Expr}
theorem SE_bin {op : Operator} {K : Dat → Prop} (h : SE w n cx l fun a => SE w n cx r fun b => O2 w n (binaryOp op) a b K) : SE w n cx (.BinOp l op r pos) K := fun A E env s W rm g o v => by
  refine wpAny_BinOp (wpAny_mono (h A E env s W rm g o v) (fun va s₁ ⟨a, ra, h₁, k₁⟩ => ?_) fun _ _ q => q)
  refine wpAny_mono (h₁ A E env s₁ W rm (g.keeps k₁.k) (o.keeps k₁.k) (v.keeps k₁.k)) (fun vb s₂ ⟨b, rb, h₂, k₂⟩ => ?_) fun _ _ q => q
  refine wpAny_mono (h₂ A E s₂ W va vb rm (g.keeps (k₁.trans k₂).k) (o.keeps (k₁.trans k₂).k) (ra.keeps k₂.k) rb) (fun v s₃ ⟨d, rd, hd, k₃⟩ => ⟨d, rd, hd, (k₁.trans k₂).trans k₃⟩) fun _ _ q => q
theorem SEf_bin {op : Operator} {K : List Dat → Prop} (h : SE w n cx l fun a => SE w n cx r fun b => O2f w n (binaryOp op) a b K) : SEf w n cx (.BinOp l op r pos) K := fun A E env s W rm g o v => by
  refine wpAny_BinOp (wpAny_mono (h A E env s W rm g o v) (fun va s₁ ⟨a, ra, h₁, k₁⟩ => ?_) fun _ _ q => q)
  refine wpAny_mono (h₁ A E env s₁ W rm (g.keeps k₁.k) (o.keeps k₁.k) (v.keeps k₁.k)) (fun vb s₂ ⟨b, rb, h₂, k₂⟩ => ?_) fun _ _ q => q
  refine wpAny_mono (h₂ A E s₂ W va vb rm (g.keeps (k₁.trans k₂).k) (o.keeps (k₁.trans k₂).k) (ra.keeps k₂.k) rb) (fun v s₃ ⟨a, vs, ds, q1, q2, q3, q4, q5, q6⟩ => ⟨a, vs, ds, q1, (k₁.trans k₂).fresh q2, q3, q4, q5, (k₁.trans k₂).trans q6⟩) fun _ _ q => q
theorem SE_un {op : UnaryOp} {x : Expr} {K : Dat → Prop} (h : SE w n cx x fun a => O1 w n (unaryOp op) a K) : SE w n cx (.UnaryOp op x pos) K := fun A E env s W rm g o v => by
  refine wpAny_UnaryOp (wpAny_mono (h A E env s W rm g o v) (fun va s₁ ⟨a, ra, h₁, k₁⟩ => ?_) fun _ _ q => q)
  exact wpAny_mono (h₁ A E s₁ W va rm (g.keeps k₁.k) (o.keeps k₁.k) ra) (fun v s₃ ⟨d, rd, hd, k₃⟩ => ⟨d, rd, hd, k₁.trans k₃⟩) fun _ _ q => q
theorem SE_cmp {op : CmpOp} {K : Dat → Prop} (h : SE w n cx l fun a => SE w n cx r fun b => O2 w n (compareOp op) a b K) (hm : behindInMarks op r = false) : SE w n cx (.Compare l [op] [r] pos) K := fun A E env s W rm g o v => by
  refine wpAny_Compare1 (wpAny_mono (h A E env s W rm g o v) (fun va s₁ ⟨a, ra, h₁, k₁⟩ => ?_) fun _ _ q => q) hm
  refine wpAny_mono (h₁ A E env s₁ W rm (g.keeps k₁.k) (o.keeps k₁.k) (v.keeps k₁.k)) (fun vb s₂ ⟨b, rb, h₂, k₂⟩ => ?_) fun _ _ q => q
  refine wpAny_mono (h₂ A E s₂ W va vb rm (g.keeps (k₁.trans k₂).k) (o.keeps (k₁.trans k₂).k) (ra.keeps k₂.k) rb) (fun v s₃ ⟨d, rd, hd, k₃⟩ => ⟨d, rd, hd, (k₁.trans k₂).trans k₃⟩) fun _ _ q => q
theorem ST_cmp {op : CmpOp} {K : Bool → Prop} (h : SE w n cx l fun a => SE w n cx r fun b => O2 w n (compareOp op) a b fun c => ∃ p, c = .bool p ∧ K p) (hm : behindInMarks op r = false) : ST w n cx (.Compare l [op] [r] pos) K := fun A E env s W rm g o v => by
  refine wpAny_isTrue_Compare1 (wpAny_mono (h A E env s W rm g o v) (fun va s₁ ⟨a, ra, h₁, k₁⟩ => ?_) fun _ _ q => q) hm
  refine wpAny_mono (h₁ A E env s₁ W rm (g.keeps k₁.k) (o.keeps k₁.k) (v.keeps k₁.k)) (fun vb s₂ ⟨b, rb, h₂, k₂⟩ => ?_) fun _ _ q => q
  refine wpAny_mono (h₂ A E s₂ W va vb rm (g.keeps (k₁.trans k₂).k) (o.keeps (k₁.trans k₂).k) (ra.keeps k₂.k) rb) (fun v s₃ ⟨d, rd, ⟨p, hp, hd⟩, k₃⟩ => ?_) fun _ _ q => q
  subst hp
  cases rd
  exact wpAny_truthy_bool ⟨hd, (k₁.trans k₂).trans k₃⟩
theorem ST_val {e : Expr} {K : Bool → Prop} (h : SE w n cx e fun a => OT w n a K)
    (he : ∀ env whole, isTrue e env whole = (do let v ← whole; standAt e.pos; holding [v] (truthy v))) : ST w n cx e K := fun A E env s W rm g o v => by
  refine wpAny_isTrue_value (wpAny_mono (h A E env s W rm g o v) (fun va s₁ ⟨a, ra, h₁, k₁⟩ => ?_) fun _ _ q => q) (he _ _)
  exact wpAny_mono (h₁ A E s₁ W va rm (g.keeps k₁.k) ra) (fun b s₃ ⟨hd, k₃⟩ => ⟨hd, k₁.trans k₃⟩) fun _ _ q => q
theorem ST_not {x : Expr} {K : Bool → Prop} (h : ST w n cx x fun b => K (!b)) : ST w n cx (.UnaryOp .Not x pos) K := fun A E env s W rm g o v =>
  wpAny_isTrue_Not (h A E env s W rm g o v)

end

section
variable {w : World} {n : Nat} {cx : Cx} {pos : Pos} {k : Nat} {l r : Expr}
noncomputable def STl (w : World) (n : Nat) (cx : Cx) (op : BoolOp) (xs : List Expr) (K : Bool → Prop) : Prop :=
  ∀ (A : Around) (E : Value → Shared → Prop) (env : Env) (s : Shared) (W : Addr → Prop), Rm n A → GH w s.heap → WOk W s.heap → EnvOk env s.heap W cx →
    wpAny (MD w) A (allTrue op xs env) (fun b s' => K b ∧ Kp s s') E s
theorem ST_bool {op : BoolOp} {xs : List Expr} {K : Bool → Prop} (h : STl w n cx op xs K) : ST w n cx (.BoolOp op xs pos) K := fun A E env s W rm g o v =>
  wpAny_isTrue_BoolOp (h A E env s W rm g o v)
theorem STl_and_nil {K : Bool → Prop} (h : K true) : STl w n cx .And [] K := fun A E env s W rm g o v => wpAny_allTrue_And_nil ⟨h, Kp.refl s⟩
theorem STl_or_nil {K : Bool → Prop} (h : K false) : STl w n cx .Or [] K := fun A E env s W rm g o v => wpAny_allTrue_Or_nil ⟨h, Kp.refl s⟩
theorem STl_and {x : Expr} {xs : List Expr} {K : Bool → Prop} (h : ST w n cx x fun b => if b = true then STl w n cx .And xs K else K false) : STl w n cx .And (x :: xs) K := fun A E env s W rm g o v => by
  refine wpAny_allTrue_And_cons (wpAny_mono (h A E env s W rm g o v) (fun b s₁ ⟨h₁, k₁⟩ => ?_) fun _ _ q => q)
  cases b with
  | false => simp only [Bool.false_eq_true, if_false] at h₁ ⊢; exact ⟨h₁, k₁⟩
  | true =>
    simp only [if_true] at h₁ ⊢
    exact wpAny_mono (h₁ A E env s₁ W rm (g.keeps k₁.k) (o.keeps k₁.k) (v.keeps k₁.k)) (fun b s₂ ⟨h₂, k₂⟩ => ⟨h₂, k₁.trans k₂⟩) fun _ _ q => q
theorem STl_or {x : Expr} {xs : List Expr} {K : Bool → Prop} (h : ST w n cx x fun b => if b = true then K true else STl w n cx .Or xs K) : STl w n cx .Or (x :: xs) K := fun A E env s W rm g o v => by
  refine wpAny_allTrue_Or_cons (wpAny_mono (h A E env s W rm g o v) (fun b s₁ ⟨h₁, k₁⟩ => ?_) fun _ _ q => q)
  cases b with
  | true => simp only [if_true] at h₁ ⊢; exact ⟨h₁, k₁⟩
  | false =>
    simp only [Bool.false_eq_true, if_false] at h₁ ⊢
    exact wpAny_mono (h₁ A E env s₁ W rm (g.keeps k₁.k) (o.keeps k₁.k) (v.keeps k₁.k)) (fun b s₂ ⟨h₂, k₂⟩ => ⟨h₂, k₁.trans k₂⟩) fun _ _ q => q

/-- and, or as values -/
noncomputable def SBl (w : World) (n : Nat) (cx : Cx) (pos : Pos) (op : BoolOp) (xs : List Expr) (K : Dat → Prop) : Prop :=
  ∀ (A : Around) (E : Value → Shared → Prop) (env : Env) (s : Shared) (W : Addr → Prop), Rm n A → GH w s.heap → WOk W s.heap → EnvOk env s.heap W cx →
    wpAny (MD w) A (boolOp pos op (evalEach xs env)) (fun v s' => ∃ d, Rep s'.heap W v d ∧ K d ∧ Kp s s') E s
theorem SE_boolop {op : BoolOp} {xs : List Expr} {K : Dat → Prop} (h : SBl w n cx pos op xs K) : SE w n cx (.BoolOp op xs pos) K := fun A E env s W rm g o v => h A E env s W rm g o v
theorem SBl_one {op : BoolOp} {x : Expr} {K : Dat → Prop} (h : SE w n cx x K) : SBl w n cx pos op [x] K := fun A E env s W rm g o v => h A E env s W rm g o v
theorem SBl_and {x y : Expr} {xs : List Expr} {K : Dat → Prop} (h : SE w n cx x fun d => OT w n d fun b => if b = true then SBl w n cx pos .And (y :: xs) K else K d) : SBl w n cx pos .And (x :: y :: xs) K := fun A E env s W rm g o v => by
  show wpAny (MD w) A (do
    let v ← eval x env
    standAt pos
    let t ← holding [v] (truthy v)
    match BoolOp.And, t with
    | .And, false | .Or, true => pure v
    | _, _ => boolOp pos .And (evalEach (y :: xs) env)) _ E s
  refine wpAny_bind (wpAny_mono (h A E env s W rm g o v) (fun va s₁ ⟨a, ra, h₁, k₁⟩ => wpAny_bind (wpAny_standAt (wpAny_bind (wpAny_holding (wpAny_mono (h₁ A E s₁ W va rm (g.keeps k₁.k) ra) (fun t s₂ ⟨h₂, k₂⟩ => ?_) fun _ _ q => q))))) fun _ _ q => q)
  cases t with
  | false => simp only [Bool.false_eq_true, if_false] at h₂; exact wpAny_pure ⟨a, ra.keeps k₂.k, h₂, k₁.trans k₂⟩
  | true =>
    simp only [if_true] at h₂
    exact wpAny_mono (h₂ A E env s₂ W rm (g.keeps (k₁.trans k₂).k) (o.keeps (k₁.trans k₂).k) (v.keeps (k₁.trans k₂).k)) (fun v s₃ ⟨d, rd, hd, k₃⟩ => ⟨d, rd, hd, (k₁.trans k₂).trans k₃⟩) fun _ _ q => q
theorem SBl_or {x y : Expr} {xs : List Expr} {K : Dat → Prop} (h : SE w n cx x fun d => OT w n d fun b => if b = true then K d else SBl w n cx pos .Or (y :: xs) K) : SBl w n cx pos .Or (x :: y :: xs) K := fun A E env s W rm g o v => by
  show wpAny (MD w) A (do
    let v ← eval x env
    standAt pos
    let t ← holding [v] (truthy v)
    match BoolOp.Or, t with
    | .And, false | .Or, true => pure v
    | _, _ => boolOp pos .Or (evalEach (y :: xs) env)) _ E s
  refine wpAny_bind (wpAny_mono (h A E env s W rm g o v) (fun va s₁ ⟨a, ra, h₁, k₁⟩ => wpAny_bind (wpAny_standAt (wpAny_bind (wpAny_holding (wpAny_mono (h₁ A E s₁ W va rm (g.keeps k₁.k) ra) (fun t s₂ ⟨h₂, k₂⟩ => ?_) fun _ _ q => q))))) fun _ _ q => q)
  cases t with
  | true => simp only [if_true] at h₂; exact wpAny_pure ⟨a, ra.keeps k₂.k, h₂, k₁.trans k₂⟩
  | false =>
    simp only [Bool.false_eq_true, if_false] at h₂
    exact wpAny_mono (h₂ A E env s₂ W rm (g.keeps (k₁.trans k₂).k) (o.keeps (k₁.trans k₂).k) (v.keeps (k₁.trans k₂).k)) (fun v s₃ ⟨d, rd, hd, k₃⟩ => ⟨d, rd, hd, (k₁.trans k₂).trans k₃⟩) fun _ _ q => q
theorem SE_if {test body orelse : Expr} {K : Dat → Prop} (h : ST w n cx test fun b => if b = true then SE w n cx body K else SE w n cx orelse K) : SE w n cx (.IfExp test body orelse pos) K := fun A E env s W rm g o v => by
  refine wpAny_IfExp (wpAny_mono (h A E env s W rm g o v) (fun b s₁ ⟨h₁, k₁⟩ => ?_) fun _ _ q => q)
  cases b with
  | false =>
    simp only [Bool.false_eq_true, if_false] at h₁ ⊢
    exact wpAny_mono (h₁ A E env s₁ W rm (g.keeps k₁.k) (o.keeps k₁.k) (v.keeps k₁.k)) (fun v s₂ ⟨d, rd, h₂, k₂⟩ => ⟨d, rd, h₂, k₁.trans k₂⟩) fun _ _ q => q
  | true =>
    simp only [if_true] at h₁ ⊢
    exact wpAny_mono (h₁ A E env s₁ W rm (g.keeps k₁.k) (o.keeps k₁.k) (v.keeps k₁.k)) (fun v s₂ ⟨d, rd, h₂, k₂⟩ => ⟨d, rd, h₂, k₁.trans k₂⟩) fun _ _ q => q
end

/-! operations -/
section
variable {w : World} {n : Nat}
theorem OT_bool {b : Bool} {K : Bool → Prop} (h : K b) : OT w n (.bool b) K := fun A E s W va rm g ra => by
  cases ra; exact wpAny_truthy_bool ⟨h, Kp.refl s⟩
theorem OT_int {a : Int} {K : Bool → Prop} (h : K (a != 0)) : OT w n (.int a) K := fun A E s W va rm g ra => by
  cases ra; exact P.truthy_int ⟨h, Kp.refl s⟩
end

section
variable {w : World} {n : Nat}
theorem Ob_add {a : Int} {b : Int} {K : Dat → Prop}  (h : K (.int (a + b))) : O2 w n (binaryOp .Add) (.int a) (.int b) K := fun A E s W va vb rm g o ra rb => by
  cases ra; cases rb; exact wpAny_add_int ⟨_, .int _ _, h, Kp.tok s _⟩
theorem Ob_sub {a : Int} {b : Int} {K : Dat → Prop}  (h : K (.int (a - b))) : O2 w n (binaryOp .Sub) (.int a) (.int b) K := fun A E s W va vb rm g o ra rb => by
  cases ra; cases rb; exact sub_int' ⟨_, .int _ _, h, Kp.tok s _⟩
theorem Ob_mod {a : Int} {b : Int} {K : Dat → Prop} (hb : b ≠ 0) (h : K (.int (a.fmod b))) : O2 w n (binaryOp .Mod) (.int a) (.int b) K := fun A E s W va vb rm g o ra rb => by
  cases ra; cases rb; exact mod_int' hb ⟨_, .int _ _, h, Kp.tok s _⟩
theorem Ob_fdiv {a : Int} {b : Int} {K : Dat → Prop} (hb : b ≠ 0) (hs : b.natAbs < 1073741824) (h : K (.int (a.fdiv b))) : O2 w n (binaryOp .FloorDiv) (.int a) (.int b) K := fun A E s W va vb rm g o ra rb => by
  cases ra; cases rb; exact floordiv_int hb ⟨_, .int _ _, h, Kp.tok s _⟩ (.inl (PyProof.noPylong_small hs))
theorem Ob_and {a : Int} {b : Int} {K : Dat → Prop}  (h : K (.int (Builtin.bitAnd a b))) : O2 w n (binaryOp .BitAnd) (.int a) (.int b) K := fun A E s W va vb rm g o ra rb => by
  cases ra; cases rb; exact and_int ⟨_, .int _ _, h, Kp.tok s _⟩
theorem Ob_or {a : Int} {b : Int} {K : Dat → Prop}  (h : K (.int (Builtin.bitOr a b))) : O2 w n (binaryOp .BitOr) (.int a) (.int b) K := fun A E s W va vb rm g o ra rb => by
  cases ra; cases rb; exact or_int ⟨_, .int _ _, h, Kp.tok s _⟩
theorem Ob_xor {a : Int} {b : Int} {K : Dat → Prop}  (h : K (.int (Builtin.bitXor a b))) : O2 w n (binaryOp .BitXor) (.int a) (.int b) K := fun A E s W va vb rm g o ra rb => by
  cases ra; cases rb; exact xor_int ⟨_, .int _ _, h, Kp.tok s _⟩
theorem Ob_shl {a : Int} {b : Int} {K : Dat → Prop} (h0 : 0 ≤ b) (h1 : b ≤ 1000000) (ha : a.natAbs < 2 ^ 64) (h : K (.int (a * 2 ^ b.toNat))) : O2 w n (binaryOp .LShift) (.int a) (.int b) K := fun A E s W va vb rm g o ra rb => by
  cases ra; cases rb; exact lshift_int_small h0 h1 ha ⟨_, .int _ _, h, Kp.tok s _⟩
theorem Ob_pow {a : Int} {b : Int} {K : Dat → Prop} (h0 : 0 ≤ b) (h1 : b ≤ 1000000) (ha : a.natAbs < 2 ^ 64) (h : K (.int (a ^ b.toNat))) : O2 w n (binaryOp .Pow) (.int a) (.int b) K := fun A E s W va vb rm g o ra rb => by
  cases ra; cases rb; exact pow_int_small h0 h1 ha ⟨_, .int _ _, h, Kp.tok s _⟩
theorem Ob_mul {a : Int} {b : Int} {K : Dat → Prop} (hm : IntMulOk a b) (h : K (.int (a * b))) : O2 w n (binaryOp .Mult) (.int a) (.int b) K := fun A E s W va vb rm g o ra rb => by
  cases ra; cases rb; exact mul_int ⟨_, .int _ _, h, Kp.tok s _⟩ hm
theorem Ob_adds {x : Str} {y : Str} {K : Dat → Prop} (hsz : x.length + y.length ≤ sizeLine) (h : K (.str (x ++ y))) : O2 w n (binaryOp .Add) (.str x) (.str y) K := fun A E s W va vb rm g o ra rb => by
  cases ra; cases rb; exact SB.add (fun t' k => ⟨_, .str _ _, h, Kp.tok s _⟩) hsz
theorem Oi_add {a : Int} {b : Int} {K : Dat → Prop}  (h : K (.int (a + b))) : O2 w n (inplaceOp .Add) (.int a) (.int b) K := fun A E s W va vb rm g o ra rb => by
  cases ra; cases rb; exact wpAny_iadd_int ⟨_, .int _ _, h, Kp.tok s _⟩
theorem Oi_sub {a : Int} {b : Int} {K : Dat → Prop}  (h : K (.int (a - b))) : O2 w n (inplaceOp .Sub) (.int a) (.int b) K := fun A E s W va vb rm g o ra rb => by
  cases ra; cases rb; exact isub_int ⟨_, .int _ _, h, Kp.tok s _⟩
theorem Oi_mod {a : Int} {b : Int} {K : Dat → Prop} (hb : b ≠ 0) (h : K (.int (a.fmod b))) : O2 w n (inplaceOp .Mod) (.int a) (.int b) K := fun A E s W va vb rm g o ra rb => by
  cases ra; cases rb; exact imod_int hb ⟨_, .int _ _, h, Kp.tok s _⟩
theorem Oi_fdiv {a : Int} {b : Int} {K : Dat → Prop} (hb : b ≠ 0) (hs : b.natAbs < 1073741824) (h : K (.int (a.fdiv b))) : O2 w n (inplaceOp .FloorDiv) (.int a) (.int b) K := fun A E s W va vb rm g o ra rb => by
  cases ra; cases rb; exact ifloordiv_int hb ⟨_, .int _ _, h, Kp.tok s _⟩ (.inl (PyProof.noPylong_small hs))
theorem Oi_and {a : Int} {b : Int} {K : Dat → Prop}  (h : K (.int (Builtin.bitAnd a b))) : O2 w n (inplaceOp .BitAnd) (.int a) (.int b) K := fun A E s W va vb rm g o ra rb => by
  cases ra; cases rb; exact iand_int ⟨_, .int _ _, h, Kp.tok s _⟩
theorem Oi_or {a : Int} {b : Int} {K : Dat → Prop}  (h : K (.int (Builtin.bitOr a b))) : O2 w n (inplaceOp .BitOr) (.int a) (.int b) K := fun A E s W va vb rm g o ra rb => by
  cases ra; cases rb; exact ior_int ⟨_, .int _ _, h, Kp.tok s _⟩
theorem Oi_xor {a : Int} {b : Int} {K : Dat → Prop}  (h : K (.int (Builtin.bitXor a b))) : O2 w n (inplaceOp .BitXor) (.int a) (.int b) K := fun A E s W va vb rm g o ra rb => by
  cases ra; cases rb; exact ixor_int ⟨_, .int _ _, h, Kp.tok s _⟩
theorem Oi_shl {a : Int} {b : Int} {K : Dat → Prop} (h0 : 0 ≤ b) (h1 : b ≤ 1000000) (ha : a.natAbs < 2 ^ 64) (h : K (.int (a * 2 ^ b.toNat))) : O2 w n (inplaceOp .LShift) (.int a) (.int b) K := fun A E s W va vb rm g o ra rb => by
  cases ra; cases rb; exact ilshift_int_small h0 h1 ha ⟨_, .int _ _, h, Kp.tok s _⟩
theorem Oi_pow {a : Int} {b : Int} {K : Dat → Prop} (h0 : 0 ≤ b) (h1 : b ≤ 1000000) (ha : a.natAbs < 2 ^ 64) (h : K (.int (a ^ b.toNat))) : O2 w n (inplaceOp .Pow) (.int a) (.int b) K := fun A E s W va vb rm g o ra rb => by
  cases ra; cases rb; exact ipow_int_small h0 h1 ha ⟨_, .int _ _, h, Kp.tok s _⟩
theorem Oi_mul {a : Int} {b : Int} {K : Dat → Prop} (hm : IntMulOk a b) (h : K (.int (a * b))) : O2 w n (inplaceOp .Mult) (.int a) (.int b) K := fun A E s W va vb rm g o ra rb => by
  cases ra; cases rb; exact imul_int ⟨_, .int _ _, h, Kp.tok s _⟩ hm
theorem Oi_adds {x : Str} {y : Str} {K : Dat → Prop} (hsz : x.length + y.length ≤ sizeLine) (h : K (.str (x ++ y))) : O2 w n (inplaceOp .Add) (.str x) (.str y) K := fun A E s W va vb rm g o ra rb => by
  cases ra; cases rb; exact SB.iadd (fun t' k => ⟨_, .str _ _, h, Kp.tok s _⟩) hsz
theorem Oc_Eq {a : Int} {b : Int} {K : Dat → Prop}  (h : K (.bool (a == b))) : O2 w n (compareOp .Eq) (.int a) (.int b) K := fun A E s W va vb rm g o ra rb => by
  cases ra; cases rb; exact PyProof.Rows.eq_int ⟨_, .bool _, h, Kp.refl s⟩
theorem Oc_NotEq {a : Int} {b : Int} {K : Dat → Prop}  (h : K (.bool (a != b))) : O2 w n (compareOp .NotEq) (.int a) (.int b) K := fun A E s W va vb rm g o ra rb => by
  cases ra; cases rb; exact PyProof.Rows.ne_int ⟨_, .bool _, h, Kp.refl s⟩
theorem Oc_Lt {a : Int} {b : Int} {K : Dat → Prop}  (h : K (.bool (decide (a < b)))) : O2 w n (compareOp .Lt) (.int a) (.int b) K := fun A E s W va vb rm g o ra rb => by
  cases ra; cases rb; exact PyProof.Rows.lt_int ⟨_, .bool _, h, Kp.refl s⟩
theorem Oc_Gt {a : Int} {b : Int} {K : Dat → Prop}  (h : K (.bool (decide (b < a)))) : O2 w n (compareOp .Gt) (.int a) (.int b) K := fun A E s W va vb rm g o ra rb => by
  cases ra; cases rb; exact PyProof.Rows.gt_int ⟨_, .bool _, h, Kp.refl s⟩
theorem Oc_Eqs {x : Str} {y : Str} {K : Dat → Prop}  (h : K (.bool (x == y))) : O2 w n (compareOp .Eq) (.str x) (.str y) K := fun A E s W va vb rm g o ra rb => by
  cases ra; cases rb; exact PyProof.Rows.eq_str ⟨_, .bool _, h, Kp.refl s⟩
theorem Oc_NotEqs {x : Str} {y : Str} {K : Dat → Prop}  (h : K (.bool (x != y))) : O2 w n (compareOp .NotEq) (.str x) (.str y) K := fun A E s W va vb rm g o ra rb => by
  cases ra; cases rb; exact PyProof.Rows.ne_str ⟨_, .bool _, h, Kp.refl s⟩
theorem Oc_Ins {y : Str} {x : Str} {K : Dat → Prop}  (h : K (.bool (Txt.contains x y))) : O2 w n (compareOp .In) (.str y) (.str x) K := fun A E s W va vb rm g o ra rb => by
  cases ra; cases rb; exact SB.contains ⟨_, .bool _, h, Kp.refl s⟩
theorem Oc_NotIns {y : Str} {x : Str} {K : Dat → Prop}  (h : K (.bool (!Txt.contains x y))) : O2 w n (compareOp .NotIn) (.str y) (.str x) K := fun A E s W va vb rm g o ra rb => by
  cases ra; cases rb; exact SB.notContains ⟨_, .bool _, h, Kp.refl s⟩
theorem O1_neg {a : Int} {K : Dat → Prop} (h : K (.int (-a))) : O1 w n (unaryOp .USub) (.int a) K := fun A E s W va rm g o ra => by
  cases ra; exact PyProof.Rows.neg_int ⟨_, .int _ _, h, Kp.tok s _⟩
theorem Oc_IsNone {d : Dat} {K : Dat → Prop} (h : K (.bool (match d with | .none => true | _ => false))) : O2 w n (compareOp .Is) d .none K := fun A E s W va vb rm g o ra rb => by
  cases rb
  refine is_none ⟨_, .bool _, ?_, Kp.refl s⟩
  cases ra <;> exact h
end
end
section
theorem get_size_none {h : Heap} : h.get? h.objs.size = none := by
  cases e : h.get? h.objs.size with
  | none => rfl
  | some o => exact absurd (Heap.lt_size e) (Nat.lt_irrefl _)
theorem pushed_list {s : Shared} {W : Addr → Prop} {vs : List Value} {ds : List Dat} (r : RepAll s.heap W vs ds) :
    (s.heap.push { cls := .type "list", data := .seq vs.toArray }).PlainList s.heap.objs.size vs.toArray ∧
    RepAll (s.heap.push { cls := .type "list", data := .seq vs.toArray }) (fun b => W b ∨ b = s.heap.objs.size) vs ds := by
  refine ⟨⟨0, Heap.get?_push_size _ rfl⟩, ?_⟩
  exact (r.more (W' := fun b => W b ∨ b = s.heap.objs.size) fun a q => q.imp id fun e => by subst e; exact get_size_none).keeps fun b o e => Heap.get?_push_of_some _ e

section
variable {w : World} {n : Nat} {cx : Cx} {pos : Pos} {k : Nat} {l r : Expr}
/-- expressions one after the other -/
noncomputable def SL (w : World) (n : Nat) (cx : Cx) (pos : Pos) (es : List Expr) (K : List Dat → Prop) : Prop :=
  ∀ (A : Around) (E : Value → Shared → Prop) (env : Env) (s : Shared) (W : Addr → Prop), Rm n A → GH w s.heap → WOk W s.heap → EnvOk env s.heap W cx →
    wpAny (MD w) A (spliced (backTo pos (starEach es env))) (fun vs s' => ∃ ds, RepAll s'.heap W vs ds ∧ K ds ∧ Kp s s') E s
theorem SL_nil {K : List Dat → Prop} (h : K []) : SL w n cx pos [] K := fun A E env s W rm g o v => wpAny_items_nil ⟨[], .nil, h, Kp.refl s⟩
theorem SL_cons {e : Expr} {es : List Expr} {K : List Dat → Prop} (h : SE w n cx e fun d => SL w n cx pos es fun ds => K (d :: ds))
    (he : ∀ env, starEach (e :: es) env = (false, eval e env) :: starEach es env) : SL w n cx pos (e :: es) K := fun A E env s W rm g o v => by
  refine wpAny_items_cons (wpAny_mono (h A E env s W rm g o v) (fun va s₁ ⟨a, ra, h₁, k₁⟩ => ?_) fun _ _ q => q) (he env)
  exact wpAny_mono (h₁ A E env s₁ W rm (g.keeps k₁.k) (o.keeps k₁.k) (v.keeps k₁.k)) (fun vs s₂ ⟨ds, rs, h₂, k₂⟩ => ⟨a :: ds, .cons (ra.keeps k₂.k) rs, h₂, k₁.trans k₂⟩) fun _ _ q => q
theorem SEf_list {es : List Expr} {K : List Dat → Prop} (h : SL w n cx pos es fun ds => ds.length ≤ sizeLine ∧ K ds) : SEf w n cx (.List es pos) K := fun A E env s W rm g o v => by
  refine wpAny_List (wpAny_mono (h A E env s W rm g o v) (fun vs s₁ ⟨ds, rs, ⟨hl, h₁⟩, k₁⟩ => ?_) fun _ _ q => q)
  obtain ⟨p1, p2⟩ := pushed_list rs
  exact ⟨by rw [rs.length]; exact hl, _, vs, ds, rfl, k₁.fresh get_size_none, p1, p2, h₁, k₁.trans (Kp.push _ _)⟩
theorem SE_list {es : List Expr} {K : Dat → Prop} (h : SL w n cx pos es fun ds => ds.length ≤ sizeLine ∧ K (.list ds)) : SE w n cx (.List es pos) K := SE.of_f (SEf_list h)

theorem O2f_addl {xs ys : List Dat} {K : List Dat → Prop} (hsz : xs.length + ys.length ≤ sizeLine) (h : K (xs ++ ys)) : O2f w n (binaryOp .Add) (.list xs) (.list ys) K := fun A E s W va vb rm g o ra rb => by
  cases ra with
  | list la na ra =>
  cases rb with
  | list lb nb rb =>
  obtain ⟨ea, la⟩ := la
  obtain ⟨eb, lb⟩ := lb
  rename_i aa vas ab vbs
  refine P.add_list la lb ?_ (by rw [List.size_toArray, List.size_toArray, ra.length, rb.length]; exact hsz)
  have e : (vas.toArray ++ vbs.toArray) = (vas ++ vbs).toArray := by simp
  rw [e]
  obtain ⟨p1, p2⟩ := pushed_list (ra.append rb)
  exact ⟨_, _, _, rfl, get_size_none, p1, p2, h, Kp.push _ _⟩
theorem foldl_rep (vs : List Value) (k : Nat) : ∀ a : Array Value, List.foldl (fun x1 x2 => x1 ++ x2) a (List.replicate k vs.toArray) = (a.toList ++ (List.replicate k vs).flatten).toArray := by
  induction k with
  | zero => intro a; simp
  | succ k ih => intro a; rw [List.replicate_succ, List.foldl_cons, ih, List.replicate_succ, List.flatten_cons]; simp
theorem RepAll.rep {h : Heap} {W : Addr → Prop} {vs : List Value} {ds : List Dat} (r : RepAll h W vs ds) : ∀ k, RepAll h W (List.replicate k vs).flatten (List.replicate k ds).flatten
  | 0 => .nil
  | k + 1 => by rw [List.replicate_succ, List.replicate_succ, List.flatten_cons, List.flatten_cons]; exact r.append (RepAll.rep r k)
theorem O2f_mull {xs : List Dat} {x : Int} {K : List Dat → Prop} (hx : 0 ≤ x) (hx2 : x < 2 ^ 20) (hsz : xs.length * x.toNat ≤ 2 ^ 20) (hne : xs ≠ []) (h : K (List.replicate x.toNat xs).flatten) : O2f w n (binaryOp .Mult) (.list xs) (.int x) K := fun A E s W va vb rm g o ra rb => by
  cases ra with
  | list la na ra =>
  cases rb with
  | int _ t =>
  obtain ⟨ea, la⟩ := la
  rename_i aa vas
  have hl := ra.length
  have hne' : vas ≠ [] := by intro e; subst e; exact hne (List.length_eq_zero_iff.mp (by rw [← hl]; rfl))
  have hsize : vas.toArray.size * x.toNat ≤ 2 ^ 24 := by rw [List.size_toArray, hl]; omega
  have hemp : vas.toArray.isEmpty = false := by
    cases vas with
    | nil => exact absurd rfl hne'
    | cons a b => rfl
  refine wpAny_binaryOp_repeat_ref (T := "list") (U := "int") (by decide) ⟨_, la, rfl⟩ (fun s' => typeIs_int s' x t) noFill_list_mul F.fills_int_mul F.slot_int_rmul repeat_list F.slot_int_index.lookup
    (call_meets F.slot_int_rmul (typeIs_int s x t) F.entry_int_rmul (F.args_int_rmul_2 _ _) (int___rmul___int_list x t aa vas.toArray ea) ⟨la, rfl, ⟨_, la, rfl⟩, ?_⟩)
  refine call_meets F.slot_list_mul ⟨_, la, rfl⟩ F.entry_list_mul (F.args_list_mul_2 _ _)
      (AutoListH.list___mul___list_int_3 aa vas.toArray ea x t (by simp [Builtin.List.listFitsIndex]; omega) (by omega) (by simp [Builtin.List.listTooLong, sizeLine]; simp at hsize; omega)) ⟨la, ?_⟩
  rw [hemp, if_neg Bool.false_ne_true, foldl_rep, Array.toList_empty, List.nil_append]
  obtain ⟨p1, p2⟩ := pushed_list (ra.rep x.toNat)
  exact ⟨_, _, _, rfl, get_size_none, p1, p2, h, Kp.push _ _⟩

/-- a place in a list or a text -/
theorem sub_any {A : Around} {E : Value → Shared → Prop} {s : Shared} {env : Env} {value slice : Expr} {Q : Value → Shared → Prop}
    (hs : ∀ o i, ∃ ops, subscripted slice false o i = operate ops (getItem o i))
    (h : wpAny (MD w) A (eval value env) (fun o s₁ => wpAny (MD w) A (eval slice env) (fun i s₂ => ItemOn (MD w) A E o i Q s₂) E s₁) E s) :
    wpAny (MD w) A (eval (.Subscript value slice pos) env) Q E s := by
  rw [eval_Subscript]
  refine wpAny_bind (wpAny_mono h (fun o s₁ h₁ => wpAny_bind (wpAny_holding (wpAny_mono h₁ (fun i s₂ h₂ => wpAny_bind (wpAny_standAt ?_)) fun _ _ x => x))) fun _ _ x => x)
  obtain ⟨T, id, hl, hT, hg⟩ := h₂
  refine wpAny_bind ?_
  rw [getitemInPython_of_ne hT.not_modules]
  refine wpAny_bind (wpAny_specialOf hT hl ?_)
  have fin : wpAny (MD w) A (subscripted slice false o i) (fun r s₃ => wpAny (MD w) A (letTemporaryGo value o r >>= fun _ => pure r) Q E s₃) E s₂ := by
    obtain ⟨ops, e⟩ := hs o i
    rw [e]
    exact wpAny_operating (wpAny_mono hg (fun r s₃ h₃ => wpAny_bind (wpAny_letTemporaryGo (wpAny_pure h₃))) fun _ _ x => x)
  first
    | exact wpAny_pure (wpAny_bind fin)
    | exact wpAny_bind (wpAny_pure (wpAny_bind fin))
    | exact wpAny_bind fin

noncomputable def OG (w : World) (n : Nat) (a b : Dat) (K : Dat → Prop) : Prop :=
  ∀ (A : Around) (E : Value → Shared → Prop) (s : Shared) (W : Addr → Prop) (va vb : Value), Rm n A → GH w s.heap → WOk W s.heap → Rep s.heap W va a → Rep s.heap W vb b →
    ItemOn (MD w) A E va vb (fun v s' => ∃ d, Rep s'.heap W v d ∧ K d ∧ Kp s s') s
theorem ItemOn.mono {M : Model} {A : Around} {E : Value → Shared → Prop} {s : Shared} {o i : Value} {Q Q' : Value → Shared → Prop} (x : ItemOn M A E o i Q s) (h : ∀ v s, Q v s → Q' v s) : ItemOn M A E o i Q' s :=
  let ⟨T, id, a, b, c⟩ := x; ⟨T, id, a, b, wpAny_mono c h fun _ _ q => q⟩
theorem SE_idx {value slice : Expr} {K : Dat → Prop} (h : SE w n cx value fun a => SE w n cx slice fun b => OG w n a b K)
    (hs : ∀ o i, ∃ ops, subscripted slice false o i = operate ops (getItem o i)) : SE w n cx (.Subscript value slice pos) K := fun A E env s W rm g o v => by
  refine sub_any hs (wpAny_mono (h A E env s W rm g o v) (fun va s₁ ⟨a, ra, h₁, k₁⟩ => ?_) fun _ _ q => q)
  refine wpAny_mono (h₁ A E env s₁ W rm (g.keeps k₁.k) (o.keeps k₁.k) (v.keeps k₁.k)) (fun vb s₂ ⟨b, rb, h₂, k₂⟩ => ?_) fun _ _ q => q
  exact ItemOn.mono (h₂ A E s₂ W va vb rm (g.keeps (k₁.trans k₂).k) (o.keeps (k₁.trans k₂).k) (ra.keeps k₂.k) rb) fun v s₃ ⟨d, rd, hd, k₃⟩ => ⟨d, rd, hd, (k₁.trans k₂).trans k₃⟩
/-- a place in the list that the block is growing -/
theorem SE_idx_own {x : Str} {ds : List Dat} {np : Pos} {slice : Expr} {K : Dat → Prop} (ho : cx.ω = some (x, ds)) (h : SE w n cx slice fun b => ∃ i d, b = .int i ∧ 0 ≤ i ∧ i < 2 ^ 62 ∧ ds[i.toNat]? = some d ∧ K d)
    (hs : ∀ o i, ∃ ops, subscripted slice false o i = operate ops (getItem o i)) (hd : (x == ("__debug__" : Str)) = false) : SE w n cx (.Subscript (.Name x np) slice pos) K := fun A E env s W rm g o v => by
  obtain ⟨a, vs, hv, hp, hr, hw⟩ := v.own x ds ho
  refine sub_any hs (wpAny_Name (wp_var v.kind hv ?_) hd)
  refine wpAny_mono (h A E env s W rm g o v) (fun vb s₁ ⟨b, rb, ⟨i, d, e, h0, h1, hi, hk⟩, k₁⟩ => ?_) fun _ _ q => q
  subst e
  cases rb
  obtain ⟨u, hu, ru⟩ := (hr.keeps k₁.k).get hi
  have hl : s₁.heap.IsList a vs.toArray := (hp.at fun o e => k₁.k a o e).isList
  exact ⟨"list", _, slot_list_getitem.lookup, hl.typeIs, wpAny_getItem_list hl h0 (by omega) (by simpa using hu) ⟨d, ru, hk, k₁⟩⟩
theorem OG_list {xs : List Dat} {i : Int} {d : Dat} {K : Dat → Prop} (h0 : 0 ≤ i) (h1 : i < 2 ^ 62) (hi : xs[i.toNat]? = some d) (h : K d) : OG w n (.list xs) (.int i) K := fun A E s W va vb rm g o ra rb => by
  cases ra with
  | list la na ra =>
  cases rb
  obtain ⟨u, hu, ru⟩ := ra.get hi
  have hl := la.isList
  exact ⟨"list", _, slot_list_getitem.lookup, hl.typeIs, wpAny_getItem_list hl h0 (by omega) (by simpa using hu) ⟨d, ru, h, Kp.refl s⟩⟩
theorem OG_str {x : Str} {i : Int} {c : Nat} {K : Dat → Prop} (h0 : 0 ≤ i) (h1 : i < 2 ^ 62) (hi : x.cps[i.toNat]? = some c) (h : K (.str ⟨#[c]⟩)) : OG w n (.str x) (.int i) K := fun A E s W va vb rm g o ra rb => by
  cases ra; cases rb
  refine ⟨"str", _, F.slot_str_getitem.lookup, typeIs_str _ _ _, P.getItem_str (c := c) ?_ ?_ ⟨_, .str _ _, h, Kp.tok s _⟩⟩
  · simp; omega
  · have hlt : i.toNat < x.cps.size := by
      rcases Nat.lt_or_ge i.toNat x.cps.size with q | q
      · exact q
      · rw [Array.getElem?_eq_none q] at hi; cases hi
    have e : seqIndex? i x.length = some i.toNat := by
      have hlen : x.length = x.cps.size := rfl
      unfold seqIndex?
      have e1 : ¬ i < 0 := by omega
      simp only [e1, if_false]
      rw [if_pos]
      simp only [Bool.and_eq_true, decide_eq_true_eq]
      omega
    rw [e]; exact hi

/-- parts of a slice -/
noncomputable def SP (w : World) (n : Nat) (cx : Cx) (x : Option Expr) (K : Option Int → Prop) : Prop :=
  ∀ (A : Around) (E : Value → Shared → Prop) (env : Env) (s : Shared) (W : Addr → Prop), Rm n A → GH w s.heap → WOk W s.heap → EnvOk env s.heap W cx →
    wpAny (MD w) A (evalPart x env) (fun v s' => ∃ p : Option (Int × Tok), v = partValue p ∧ K (p.map (·.1)) ∧ Kp s s') E s
theorem SP_none {K : Option Int → Prop} (h : K none) : SP w n cx none K := fun A E env s W rm g o v => by
  rw [evalPart_none]; exact wpAny_pure ⟨none, rfl, h, Kp.refl s⟩
theorem SP_some {e : Expr} {K : Option Int → Prop} (h : SE w n cx e fun d => ∃ i, d = .int i ∧ K (some i)) : SP w n cx (some e) K := fun A E env s W rm g o v => by
  rw [evalPart_some]
  refine wpAny_mono (h A E env s W rm g o v) (fun va s₁ ⟨a, ra, ⟨i, e, h₁⟩, k₁⟩ => ?_) fun _ _ q => q
  subst e
  cases ra with
  | int _ t => exact ⟨some (i, t), rfl, h₁, k₁⟩
noncomputable def OS (w : World) (n : Nat) (a : Dat) (lo hi : Option Int) (K : Dat → Prop) : Prop :=
  ∀ (A : Around) (E : Value → Shared → Prop) (s : Shared) (W : Addr → Prop) (va : Value) (p q : Option (Int × Tok)) (sl : Addr), Rm n A → GH w s.heap → WOk W s.heap → Rep s.heap W va a → p.map (·.1) = lo → q.map (·.1) = hi → s.heap.IsSlice sl p q none →
    ItemOn (MD w) A E va (.ref sl) (fun v s' => ∃ d, Rep s'.heap W v d ∧ K d ∧ Kp s s') s
theorem SE_slice {value : Expr} {lower upper : Option Expr} {p : Pos} {K : Dat → Prop} (h : SE w n cx value fun a => SP w n cx lower fun lo => SP w n cx upper fun hi => OS w n a lo hi K) :
    SE w n cx (.Subscript value (.Slice lower upper none p) pos) K := fun A E env s W rm g o v => by
  refine sub_any (fun o i => ⟨[i, o], rfl⟩) (wpAny_mono (h A E env s W rm g o v) (fun va s₁ ⟨a, ra, h₁, k₁⟩ => ?_) fun _ _ q => q)
  refine wpAny_Slice (wpAny_mono (h₁ A E env s₁ W rm (g.keeps k₁.k) (o.keeps k₁.k) (v.keeps k₁.k)) (fun vl s₂ ⟨pl, hl, h₂, k₂⟩ => ?_) fun _ _ q => q)
  refine wpAny_mono (h₂ A E env s₂ W rm (g.keeps (k₁.trans k₂).k) (o.keeps (k₁.trans k₂).k) (v.keeps (k₁.trans k₂).k)) (fun vu s₃ ⟨pu, hu, h₃, k₃⟩ => ?_) fun _ _ q => q
  subst hl hu
  rw [evalPart_none]
  have k4 := Kp.push s₃ { cls := .type "slice", data := .fields #[partValue pl, partValue pu, .none] }
  have kk := ((k₁.trans k₂).trans k₃).trans k4
  refine wpAny_pure ?_
  refine ItemOn.mono (h₃ A E _ W va pl pu _ rm (g.keeps kk.k) (o.keeps kk.k) (ra.keeps ((k₂.trans k₃).trans k4).k) rfl rfl ⟨_, Heap.get?_push_size _ rfl, rfl, rfl⟩) fun v s₄ ⟨d, rd, hd, k₅⟩ => ⟨d, rd, hd, kk.trans k₅⟩
theorem OS_str {x : Str} {lo hi : Option Int} {K : Dat → Prop} (hsz : x.length ≤ sizeLine) (h : K (.str (Txt.slice x lo hi))) : OS w n (.str x) lo hi K := fun A E s W va p q sl rm g o ra hp hq hs => by
  subst hp hq
  cases ra
  exact ⟨"str", _, F.slot_str_getitem.lookup, typeIs_str _ _ _, wpAny_getItem_str_slice (l := p) (u := q) (st := none) hs rfl (post_val_or_str ⟨Nat.le_trans (Txt.slice_le x _ _) hsz, fun t' k => ⟨_, .str _ _, h, Kp.tok s _⟩⟩)⟩
noncomputable def cl (v : Option Int) (d n : Nat) : Nat := match v with
  | none => d
  | some i => (max 0 (min (if i < 0 then i + n else i) (n : Int))).toNat
noncomputable def cut {α : Type} (xs : List α) (lo hi : Option Int) : List α := (xs.drop (cl lo 0 xs.length)).take (cl hi xs.length xs.length - cl lo 0 xs.length)
theorem cl_le (v : Option Int) (d n : Nat) (h : d ≤ n) : cl v d n ≤ n := by
  cases v with
  | none => exact h
  | some i => show (max 0 (min (if i < 0 then i + n else i) (n : Int))).toNat ≤ n; omega
theorem isPart (p : Option (Int × Tok)) : IsPart (partValue p) (p.map (·.1)) := by
  cases p with
  | none => exact .none
  | some q => obtain ⟨i, t⟩ := q; exact .int i t
theorem slicePick_cut (items : List Value) (lo hi : Option Int) : slicePick items.toArray lo hi none = (cut items lo hi).toArray := by
  have e : sliceBounds lo hi none items.toArray.size = (((cl lo 0 items.length : Nat) : Int), ((cl hi items.length items.length : Nat) : Int), (1 : Int)) := by
    simp only [sliceBounds, Option.getD_none, List.size_toArray, show (1 : Int) > 0 by decide, if_true]
    congr 1
    · cases lo with
      | none => rfl
      | some i => show max 0 (min (if i < 0 then i + (items.length : Int) else i) (items.length : Int)) = _; unfold cl; simp only; omega
    · congr 1
      cases hi with
      | none => rfl
      | some i => show max 0 (min (if i < 0 then i + (items.length : Int) else i) (items.length : Int)) = _; unfold cl; simp only; omega
  unfold slicePick
  rw [e]
  simp only [sliceRange_one, pick_run]
  rfl
theorem cut_le {α : Type} (xs : List α) (lo hi : Option Int) : (cut xs lo hi).length ≤ xs.length := by
  unfold cut; rw [List.length_take, List.length_drop]; omega
theorem RepAll.cut {h : Heap} {W : Addr → Prop} {vs : List Value} {ds : List Dat} (r : RepAll h W vs ds) (lo hi : Option Int) : RepAll h W (Mine.cut vs lo hi) (Mine.cut ds lo hi) := by
  unfold Mine.cut
  rw [r.length]
  exact (r.drop _).take _
theorem OS_list {xs : List Dat} {lo hi : Option Int} {K : Dat → Prop} (hsz : xs.length ≤ sizeLine) (h : K (.list (cut xs lo hi))) : OS w n (.list xs) lo hi K := fun A E s W va p q sl rm g o ra hp hq hs => by
  subst hp hq
  cases ra with
  | list la na ra =>
  rename_i aa vas
  refine ⟨"list", _, slot_list_getitem.lookup, la.isList.typeIs, wpAny_getItem_list_slice (vs := .none) (st := none) la.isList (by obtain ⟨o, h1, h2, h3⟩ := hs; exact ⟨o, h1, h2, h3⟩) (isPart p) (isPart q) .none (by simp) ?_ (by rw [List.size_toArray, ra.length]; exact hsz)⟩
  rw [slicePick_cut]
  obtain ⟨p1, p2⟩ := pushed_list (ra.cut (p.map (·.1)) (q.map (·.1)))
  exact ⟨_, .list p1 (o.fresh get_size_none) p2.away, h, Kp.push _ _⟩
theorem slice_cut (x : Str) (lo hi : Option Int) : Txt.slice x lo hi = ⟨(cut x.cps.toList lo hi).toArray⟩ := by
  have hlen : x.length = x.cps.size := rfl
  have e : Builtin.Str.strSliceIndices lo hi 1 x.length = (List.range (cl hi x.length x.length - cl lo 0 x.length)).map (cl lo 0 x.length + ·) := by
    rw [← sliceRange_one]
    unfold Builtin.Str.strSliceIndices
    simp only [show (1 : Int) > 0 by decide, if_true]
    congr 1
    · cases lo with
      | none => rfl
      | some i => show max 0 (min (if i < 0 then i + (x.length : Int) else i) (x.length : Int)) = _; unfold cl; simp only; omega
    · cases hi with
      | none => rfl
      | some i => show max 0 (min (if i < 0 then i + (x.length : Int) else i) (x.length : Int)) = _; unfold cl; simp only; omega
  unfold Txt.slice
  rw [e, pick_run]
  have hc : cut x.cps.toList lo hi = (x.cps.toList.drop (cl lo 0 x.length)).take (cl hi x.length x.length - cl lo 0 x.length) := by
    unfold cut; rw [Array.length_toList, ← hlen]
  rw [hc]
  have h1 := cl_le lo 0 x.length (Nat.zero_le _)
  have h2 := cl_le hi x.length x.length (Nat.le_refl _)
  split
  · rename_i q
    simp only [List.length_map, List.length_range, Bool.and_eq_true, beq_iff_eq] at q
    have e0 : cl lo 0 x.length = 0 := by omega
    have e1 : cl hi x.length x.length = x.length := by omega
    rw [e0, e1, List.drop_zero, Nat.sub_zero, hlen, List.take_of_length_le (by rw [Array.length_toList]; exact Nat.le_refl _)]
  · rfl
end
end
section
/-- a call of anything by its arguments' data -/
noncomputable def OB (w : World) (n : Nat) (f : List Value → Sem Value) (ds : List Dat) (K : Dat → Prop) : Prop :=
  ∀ (A : Around) (E : Value → Shared → Prop) (s : Shared) (W : Addr → Prop) (vs : List Value), Rm n A → GH w s.heap → WOk W s.heap → RepAll s.heap W vs ds →
    wpAny (MD w) A (f vs) (fun v s' => ∃ d, Rep s'.heap W v d ∧ K d ∧ Kp s s') E s
theorem OB.of_SC {w : World} {n : Nat} {f : Addr} {ds : List Dat} {K : Dat → Prop} (h : SC w n f ds K) : OB w n (fun vs => call (.ref f) vs) ds K := h

section
variable {w : World} {n : Nat} {cx : Cx} {pos : Pos} {k : Nat} {l r : Expr}
theorem name_global {A : Around} {E : Value → Shared → Prop} {env : Env} {s : Shared} {W : Addr → Prop} {x : Str} {np : Pos} {v : Value} {Q : Value → Shared → Prop} (g : GH w s.heap) (e : EnvOk env s.heap W cx)
    (hk : cx.sc.lookup x = some .globalImplicit) (hf : nsIn (hd.heap_39 w.params) mainGlobals x = some (some v)) (hdb : (x == ("__debug__" : Str)) = false) (h : Q v s) : wpAny (MD w) A (eval (.Name x np) env) Q E s := by
  obtain ⟨X, mg, mb, mean, T⟩ := g
  refine Name_function_global e.kind (by show env.scope.names.lookup x = _; rw [e.names]; exact hk) (loadGlobal_global (by rw [e.globals]; exact T.g) (mg_of X T.g hf) h) hdb
theorem name_builtin {A : Around} {E : Value → Shared → Prop} {env : Env} {s : Shared} {W : Addr → Prop} {x : Str} {np : Pos} {v : Value} {Q : Value → Shared → Prop} (g : GH w s.heap) (e : EnvOk env s.heap W cx)
    (hk : cx.sc.lookup x = some .globalImplicit) (hf : nsIn (hd.heap_39 w.params) mainGlobals x = some none) (hb : bootBuiltins x = some v) (hn : x ≠ "__name__") (hdb : (x == ("__debug__" : Str)) = false) (h : Q v s) : wpAny (MD w) A (eval (.Name x np) env) Q E s := by
  obtain ⟨X, mg, mb, mean, T⟩ := g
  refine Name_function_global e.kind (by show env.scope.names.lookup x = _; rw [e.names]; exact hk) (loadGlobal_builtin (by rw [e.globals]; exact T.g) (mg_none_of X T.g hf) (by rw [e.builtins]; exact T.b) ((T.builtins x hn).trans hb) h) hdb

/-- a constant at the top: a flat value -/
theorem SE_global {x : Str} {np : Pos} {v : Value} {d : Dat} {K : Dat → Prop} (hk : cx.sc.lookup x = some .globalImplicit) (hf : nsIn (hd.heap_39 w.params) mainGlobals x = some (some v)) (hr : ∀ h W, Rep h W v d) (hdb : (x == ("__debug__" : Str)) = false) (h : K d) :
    SE w n cx (.Name x np) K := fun A E env s W rm g o e => name_global g e hk hf hdb ⟨d, hr _ _, h, Kp.refl s⟩

theorem SE_def {x : Str} {np : Pos} {e : Expr} {rest : List Expr} {f : Addr} {ob : Obj} {fd : FuncData} {K : Dat → Prop}
    (hk : cx.sc.lookup x = some .globalImplicit) (hf : nsIn (hd.heap_39 w.params) mainGlobals x = some (some (.ref f))) (ho : (hd.heap_39 w.params).lookup f = some ob) (hdt : ob.data = .func fd)
    (hdb : (x == ("__debug__" : Str)) = false) (h : SL w n cx pos (e :: rest) fun ds => SC w n f ds K)
    (he : ∀ env, starEach (e :: rest) env = (false, eval e env) :: starEach rest env) : SE w n cx (.Call (.Name x np) (e :: rest) [] pos) K := fun A E env s W rm g o v => by
  refine Call_Name rfl (name_global g v hk hf hdb ?_)
  refine callWith_def hdt (wpAny_mono (h A E env s W rm g o v) (fun vs s₁ ⟨ds, rs, h₁, k₁⟩ => ⟨k₁.k _ _ (g.1 _ _ ho), ?_⟩) fun _ _ q => q) (he env)
  exact wpAny_mono (h₁ A E s₁ W vs rm (g.keeps k₁.k) (o.keeps k₁.k) rs) (fun v s₂ ⟨d, rd, hd, k₂⟩ => ⟨d, rd, hd, k₁.trans k₂⟩) fun _ _ q => q

theorem SE_blt {x : Str} {np : Pos} {e : Expr} {rest : List Expr} {id : String} {K : Dat → Prop}
    (hk : cx.sc.lookup x = some .globalImplicit) (hf : nsIn (hd.heap_39 w.params) mainGlobals x = some none) (hb : bootBuiltins x = some (.builtin id)) (hn : x ≠ "__name__") (hdb : (x == ("__debug__" : Str)) = false)
    (h : SL w n cx pos (e :: rest) fun ds => OB w n (fun vs => call (.builtin id) vs) ds K)
    (he : ∀ env, starEach (e :: rest) env = (false, eval e env) :: starEach rest env) (hp : ∀ env, (backTo pos (starEach rest env)).any (·.1) = false) : SE w n cx (.Call (.Name x np) (e :: rest) [] pos) K := fun A E env s W rm g o v => by
  refine Call_Name rfl (name_builtin g v hk hf hb hn hdb ?_)
  refine PyProof.Rows.callWith_builtin1 (wpAny_mono (h A E env s W rm g o v) (fun vs s₁ ⟨ds, rs, h₁, k₁⟩ => ?_) fun _ _ q => q) (he env) (hp env)
  exact wpAny_mono (h₁ A E s₁ W vs rm (g.keeps k₁.k) (o.keeps k₁.k) rs) (fun v s₂ ⟨d, rd, hd, k₂⟩ => ⟨d, rd, hd, k₁.trans k₂⟩) fun _ _ q => q

theorem SE_blt_ {x : Str} {np : Pos} {e : Expr} {rest : List Expr} {T : String} {K : Dat → Prop}
    (hk : cx.sc.lookup x = some .globalImplicit) (hf : nsIn (hd.heap_39 w.params) mainGlobals x = some none) (hb : bootBuiltins x = some (.type T)) (hn : x ≠ "__name__") (hdb : (x == ("__debug__" : Str)) = false)
    (h : SL w n cx pos (e :: rest) fun ds => OB w n (fun vs => call (.type T) vs) ds K)
    (he : ∀ env, starEach (e :: rest) env = (false, eval e env) :: starEach rest env) (hp : ∀ env, (backTo pos (starEach rest env)).any (·.1) = false) : SE w n cx (.Call (.Name x np) (e :: rest) [] pos) K := fun A E env s W rm g o v => by
  refine Call_Name rfl (name_builtin g v hk hf hb hn hdb ?_)
  refine PyProof.Rows.callWith_type1 (wpAny_mono (h A E env s W rm g o v) (fun vs s₁ ⟨ds, rs, h₁, k₁⟩ => ?_) fun _ _ q => q) (he env) (hp env)
  exact wpAny_mono (h₁ A E s₁ W vs rm (g.keeps k₁.k) (o.keeps k₁.k) rs) (fun v s₂ ⟨d, rd, hd, k₂⟩ => ⟨d, rd, hd, k₁.trans k₂⟩) fun _ _ q => q

/-! built-in calls -/
theorem OB_len_str {x : Str} {K : Dat → Prop} (hs : x.length < 2 ^ 62) (h : K (.int x.length)) : OB w n (fun vs => call (.builtin "len") vs) [.str x] K := fun A E s W vs rm g o rs => by
  cases rs with
  | cons r rs =>
  cases rs; cases r
  exact P.len_str (by omega) ⟨_, .int _ _, h, Kp.tok s _⟩
theorem OB_len_list {xs : List Dat} {K : Dat → Prop} (hs : xs.length < 2 ^ 62) (h : K (.int xs.length)) : OB w n (fun vs => call (.builtin "len") vs) [.list xs] K := fun A E s W vs rm g o rs => by
  cases rs with
  | cons r rs =>
  cases rs
  cases r with
  | list l ne ra =>
  rename_i a us
  have hl := ra.length
  refine call_len_list l.isList (by rw [List.size_toArray, hl]; omega) ?_
  rw [List.size_toArray, hl]
  exact ⟨_, .int _ _, h, Kp.tok s _⟩
theorem OB_min {a b : Int} {K : Dat → Prop} (h : K (.int (min a b))) : OB w n (fun vs => call (.builtin "min") vs) [.int a, .int b] K := fun A E s W vs rm g o rs => by
  cases rs with
  | cons r rs =>
  cases rs with
  | cons r₂ rs =>
  cases rs; cases r; cases r₂
  refine min_two_ints rm.handled fun h' tk k => ?_
  split
  · rename_i q; rw [show min a b = b by omega] at h; exact ⟨_, .int _ _, h, Kp.heap s h' tk k⟩
  · rename_i q; rw [show min a b = a by omega] at h; exact ⟨_, .int _ _, h, Kp.heap s h' tk k⟩
theorem OB_max {a b : Int} {K : Dat → Prop} (h : K (.int (max a b))) : OB w n (fun vs => call (.builtin "max") vs) [.int a, .int b] K := fun A E s W vs rm g o rs => by
  cases rs with
  | cons r rs =>
  cases rs with
  | cons r₂ rs =>
  cases rs; cases r; cases r₂
  refine max_two_ints rm.handled fun h' tk k => ?_
  split
  · rename_i q; rw [show max a b = b by omega] at h; exact ⟨_, .int _ _, h, Kp.heap s h' tk k⟩
  · rename_i q; rw [show max a b = a by omega] at h; exact ⟨_, .int _ _, h, Kp.heap s h' tk k⟩
theorem OB_hex {i : Int} {K : Dat → Prop} (hs : (baseText "0x" 16 i).length ≤ sizeLine) (h : K (.str (baseText "0x" 16 i))) : OB w n (fun vs => call (.builtin "hex") vs) [.int i] K := fun A E s W vs rm g o rs => by
  cases rs with
  | cons r rs =>
  cases rs; cases r
  exact P.hex_of_int ⟨_, .str _ _, h, Kp.tok s _⟩ hs
end
end
section
theorem Kp.pusht (s : Shared) (o : Obj) (t : Nat) : Kp s { s with heap := s.heap.push o, toks := t } := ⟨_, t, ⟨_, rfl, GB.refl _⟩, fun _ _ e => Heap.get?_push_of_some _ e⟩

/-! iterators -/
noncomputable def upTo (x : Int) : Nat → List Dat
  | 0 => []
  | n + 1 => .int x :: upTo (x + 1) n
noncomputable def It (h : Heap) (W : Addr → Prop) (I : Addr) (ds : List Dat) : Prop :=
  (∃ (ax : Addr) (vs : List Value) (k : Nat), h.IsListIter I ax k ∧ h.PlainList ax vs.toArray ∧ ¬ W ax ∧ k ≤ vs.length ∧ RepAll h W (vs.drop k) ds) ∨
  (∃ (x m : Int), IsRangeIter h I x m 1 ∧ 0 ≤ m ∧ ds = upTo x m.toNat)
/-- an object made of fields -/
noncomputable def Flds (h : Heap) (I : Addr) : Prop := ∃ o vs, h.get? I = some o ∧ o.data = .fields vs
theorem It.flds {h : Heap} {W : Addr → Prop} {I : Addr} {ds : List Dat} (x : It h W I ds) : Flds h I := by
  rcases x with ⟨ax, vs, k, ⟨o, h1, _, h2⟩, _⟩ | ⟨x, m, h1, _⟩
  · exact ⟨o, _, h1, h2⟩
  · exact ⟨_, _, h1, rfl⟩
theorem Flds.ne_list {h : Heap} {I a : Addr} {its : Array Value} (x : Flds h I) (y : h.IsList a its) : a ≠ I := by
  rintro rfl
  obtain ⟨o, vs, h1, h2⟩ := x
  obtain ⟨o', e, _, n, e2⟩ := y
  rw [h1] at e; cases e; rw [h2] at e2; cases e2
theorem Flds.ne_ns {h : Heap} {I a : Addr} {m : Str → Option Value} (x : Flds h I) (y : h.Ns a m) : a ≠ I := by
  rintro rfl
  obtain ⟨o, vs, h1, h2⟩ := x
  obtain ⟨o', es, ep, e, e2, _⟩ := y
  rw [h1] at e; cases e; rw [h2] at e2; cases e2
theorem Flds.ne_cell {h : Heap} {I a : Addr} {v : Option Value} (x : Flds h I) (y : h.IsCell a v) : a ≠ I := by
  rintro rfl
  obtain ⟨o, vs, h1, h2⟩ := x
  obtain ⟨o', e, e2⟩ := y
  rw [h1] at e; cases e; rw [h2] at e2; cases e2
theorem list_ne_ns {h : Heap} {a b : Addr} {its : Array Value} {m : Str → Option Value} (x : h.IsList a its) (y : h.Ns b m) : a ≠ b := by
  rintro rfl
  obtain ⟨o, e, _, n, e3⟩ := x
  obtain ⟨o', es, ep, e', e2, _⟩ := y
  rw [e] at e'; cases e'; rw [e3] at e2; cases e2
theorem list_ne_cell {h : Heap} {a b : Addr} {its : Array Value} {v : Option Value} (x : h.IsList a its) (y : h.IsCell b v) : a ≠ b := by
  rintro rfl
  obtain ⟨o, e, _, n, e3⟩ := x
  obtain ⟨o', e', e2⟩ := y
  rw [e] at e'; cases e'; rw [e3] at e2; cases e2
theorem ns_ne_cell {h : Heap} {a b : Addr} {m : Str → Option Value} {v : Option Value} (x : h.Ns a m) (y : h.IsCell b v) : a ≠ b := by
  rintro rfl
  obtain ⟨o', es, ep, e', e2, _⟩ := x
  obtain ⟨o, e, e3⟩ := y
  rw [e] at e'; cases e'; rw [e2] at e3; cases e3

/-- a change at one place that is no plain list -/
theorem Rep.but {h h' : Heap} {W : Addr → Prop} {v : Value} {d : Dat} {I : Addr} (x : Rep h W v d) (k : Heap.ExtBut I h h') (n : ∀ a its, ¬ W a → h.IsList a its → a ≠ I) : Rep h' W v d :=
  x.move fun a its q l => ⟨fun o e => k a o (n a its q l) e, q⟩
theorem RepAll.but {h h' : Heap} {W : Addr → Prop} {v : List Value} {d : List Dat} {I : Addr} (x : RepAll h W v d) (k : Heap.ExtBut I h h') (n : ∀ a its, ¬ W a → h.IsList a its → a ≠ I) : RepAll h' W v d :=
  x.move fun a its q l => ⟨fun o e => k a o (n a its q l) e, q⟩
theorem It.but {h h' : Heap} {W : Addr → Prop} {I J : Addr} {ds : List Dat} (x : It h W I ds) (k : Heap.ExtBut J h h') (hne : I ≠ J) (n : ∀ a its, ¬ W a → h.IsList a its → a ≠ J) : It h' W I ds := by
  rcases x with ⟨ax, vs, j, h1, h2, h3, h4, h5⟩ | ⟨x, m, h1, h2, h3⟩
  · exact .inl ⟨ax, vs, j, h1.extBut k hne, h2.at fun o e => k _ o (n _ _ h3 h2.isList) e, h3, h4, h5.but k n⟩
  · exact .inr ⟨x, m, k _ _ hne h1, h2, h3⟩
theorem It.keeps {h h' : Heap} {W : Addr → Prop} {I : Addr} {ds : List Dat} (x : It h W I ds) (k : ∀ b o, h.get? b = some o → h'.get? b = some o) : It h' W I ds := by
  rcases x with ⟨ax, vs, j, h1, h2, h3, h4, h5⟩ | ⟨x, m, h1, h2, h3⟩
  · exact .inl ⟨ax, vs, j, let ⟨o, a, b, c⟩ := h1; ⟨o, k _ _ a, b, c⟩, h2.at fun o e => k _ o e, h3, h4, h5.keeps k⟩
  · exact .inr ⟨x, m, k _ _ h1, h2, h3⟩

section
variable {w : World} {n : Nat} {cx : Cx} {pos : Pos} {k : Nat} {l r : Expr}
theorem It_next {A : Around} {E : Value → Shared → Prop} {s : Shared} {W : Addr → Prop} {I : Addr} {d : Dat} {ds : List Dat} {Q : Option Value → Shared → Prop} (x : It s.heap W I (d :: ds))
    (h : ∀ v h' tk, Rep h' W v d → It h' W I ds → Heap.SameBut I s.heap h' → Q (some v) { s with heap := h', toks := tk }) : wpAny (MD w) A (pyNext (.ref I)) Q E s := by
  have fl := x.flds
  rcases x with ⟨ax, vs, j, h1, h2, h3, h4, h5⟩ | ⟨y, m, h1, h2, h3⟩
  · generalize hvs : vs.drop j = us at h5
    cases h5 with
    | cons r rs =>
    rename_i v us
    have hlt : j < vs.length := by
      rcases Nat.lt_or_ge j vs.length with q | q
      · exact q
      · rw [List.drop_eq_nil_of_le q] at hvs; cases hvs
    have hcons := List.drop_eq_getElem_cons hlt
    rw [hvs] at hcons
    injection hcons with e1 e2
    refine wpAny_pyNext_list_item h1 h2.isList (x := v) (by rw [e1]; simp [hlt]) fun h' hit hs => ?_
    have nn : ∀ a its, ¬ W a → s.heap.IsList a its → a ≠ I := fun a its _ l => fl.ne_list l
    refine h v h' s.toks (r.but hs.extBut nn) (.inl ⟨ax, vs, j + 1, hit, h2.at fun o e => hs.extBut _ o (fl.ne_list h2.isList) e, h3, hlt, ?_⟩) hs
    rw [← e2]
    exact rs.but hs.extBut nn
  · have hm : 0 < m.toNat := by
      rcases Nat.eq_zero_or_pos m.toNat with q | q
      · rw [q] at h3; cases h3
      · exact q
    obtain ⟨j, hj⟩ : ∃ j, m.toNat = j + 1 := ⟨m.toNat - 1, by omega⟩
    rw [hj] at h3
    injection h3 with e1 e2
    refine wpAny_pyNext_range_item h1 (by omega) fun h' hit hs => ?_
    refine h _ h' _ (e1 ▸ .int _ _) (.inr ⟨y + 1, m - 1, hit, by omega, ?_⟩) hs
    rw [show (m - 1).toNat = j by omega]; exact e2
theorem It_end {A : Around} {E : Value → Shared → Prop} {s : Shared} {W : Addr → Prop} {I : Addr} {Q : Option Value → Shared → Prop} (hh : A.handled = none) (x : It s.heap W I [])
    (h : ∀ h', Heap.ExtBut I s.heap h' → Q none { s with heap := h' }) : wpAny (MD w) A (pyNext (.ref I)) Q E s := by
  rcases x with ⟨ax, vs, j, h1, h2, h3, h4, h5⟩ | ⟨y, m, h1, h2, h3⟩
  · have hl := h5.length
    rw [List.length_drop] at hl
    exact wpAny_pyNext_list_end hh h1 h2.isList (by simp at hl ⊢; omega) h
  · have hm : m.toNat = 0 := by
      cases q : m.toNat with
      | zero => rfl
      | succ j => rw [q] at h3; cases h3
    exact wpAny_pyNext_range_end hh h1 (by omega) h
theorem It_self {A : Around} {E : Value → Shared → Prop} {s : Shared} {W : Addr → Prop} {I : Addr} {ds : List Dat} {Q : Value → Shared → Prop} (x : It s.heap W I ds) (h : Q (.ref I) s) : wpAny (MD w) A (pyIter (.ref I)) Q E s := by
  rcases x with ⟨ax, vs, j, h1, h2, h3, h4, h5⟩ | ⟨y, m, h1, h2, h3⟩
  · exact wpAny_pyIter_listiter h1 h
  · exact wpAny_pyIter_rangeiter h1 h

/-- what a `for` goes through -/
noncomputable def SIt (w : World) (n : Nat) (cx : Cx) (e : Expr) (K : List Dat → Prop) : Prop :=
  ∀ (A : Around) (E : Value → Shared → Prop) (env : Env) (s : Shared) (W : Addr → Prop), Rm n A → GH w s.heap → WOk W s.heap → EnvOk env s.heap W cx →
    wpAny (MD w) A (eval e env) (fun x s₁ => wpAny (MD w) A (pyIter x) (fun it s₂ => ∃ I ds, it = .ref I ∧ s.heap.get? I = none ∧ It s₂.heap W I ds ∧ K ds ∧ Kp s s₂) E s₁) E s
theorem SIt_list {e : Expr} {K : List Dat → Prop} (h : SE w n cx e fun d => ∃ ds, d = .list ds ∧ K ds) : SIt w n cx e K := fun A E env s W rm g o v => by
  refine wpAny_mono (h A E env s W rm g o v) (fun va s₁ ⟨d, rd, ⟨ds, e, h₁⟩, k₁⟩ => ?_) fun _ _ q => q
  subst e
  cases rd with
  | list la na ra =>
  rename_i a vs _
  refine wpAny_pyIter_list la.isList ⟨_, ds, rfl, k₁.fresh get_size_none, Or.inl ⟨a, vs, 0, ⟨_, Heap.get?_push_size _ rfl, rfl, rfl⟩, la.at fun o e => Heap.get?_push_of_some _ e, na, Nat.zero_le _, ?_⟩, h₁, k₁.trans (Kp.push _ _)⟩
  rw [List.drop_zero]
  exact ra.keeps fun b o e => Heap.get?_push_of_some _ e
theorem rangeSize1 (a b : Int) : Builtin.Range.rangeSize a b 1 = ((b - a).toNat : Int) := by
  rw [rangeSize_one]; split <;> omega
theorem SIt_range1 {e : Expr} {np : Pos} {K : List Dat → Prop}
    (hk : cx.sc.lookup (Str.ofString "range") = some .globalImplicit) (hf : nsIn (hd.heap_39 w.params) mainGlobals (Str.ofString "range") = some none)
    (h : SL w n cx pos [e] fun ds => ∃ b, ds = [.int b] ∧ -(2 ^ 62) ≤ b ∧ b < 2 ^ 62 ∧ K (upTo 0 b.toNat))
    (he : ∀ env, starEach (e :: []) env = (false, eval e env) :: starEach [] env) (hp : ∀ env, (backTo pos (starEach [] env)).any (·.1) = false) : SIt w n cx (.Call (.Name (Str.ofString "range") np) [e] [] pos) K := fun A E env s W rm g o v => by
  refine Call_Name rfl (name_builtin g v hk hf boot_range (by decide) (by decide) ?_)
  refine PyProof.Rows.callWith_type1 (wpAny_mono (h A E env s W rm g o v) (fun vs s₁ ⟨ds, rs, ⟨b, e, hb1, hb2, h₁⟩, k₁⟩ => ?_) fun _ _ q => q) (he env) (hp env)
  subst e
  cases rs with
  | cons r rs =>
  cases rs; cases r
  refine call_range_1 (wpAny_pyIter_range (Heap.get?_push_size _ rfl) (small_one (by omega) (by omega) (by omega) (by omega)) ?_)
  refine ⟨_, _, rfl, (k₁.trans (Kp.pusht _ _ _)).fresh get_size_none, Or.inr ⟨0, _, Heap.get?_push_size _ rfl, ?_, ?_⟩, h₁, (k₁.trans (Kp.pusht _ _ _)).trans (Kp.push _ _)⟩
  · rw [rangeSize1]; omega
  · rw [rangeSize1]; congr 1; omega
theorem SIt_range2 {e e₂ : Expr} {np : Pos} {K : List Dat → Prop}
    (hk : cx.sc.lookup (Str.ofString "range") = some .globalImplicit) (hf : nsIn (hd.heap_39 w.params) mainGlobals (Str.ofString "range") = some none)
    (h : SL w n cx pos [e, e₂] fun ds => ∃ a b, ds = [.int a, .int b] ∧ -(2 ^ 62) ≤ a ∧ a < 2 ^ 62 ∧ -(2 ^ 62) ≤ b ∧ b < 2 ^ 62 ∧ K (upTo a (b - a).toNat))
    (he : ∀ env, starEach (e :: [e₂]) env = (false, eval e env) :: starEach [e₂] env) (hp : ∀ env, (backTo pos (starEach [e₂] env)).any (·.1) = false) : SIt w n cx (.Call (.Name (Str.ofString "range") np) [e, e₂] [] pos) K := fun A E env s W rm g o v => by
  refine Call_Name rfl (name_builtin g v hk hf boot_range (by decide) (by decide) ?_)
  refine PyProof.Rows.callWith_type1 (wpAny_mono (h A E env s W rm g o v) (fun vs s₁ ⟨ds, rs, ⟨a, b, e, ha1, ha2, hb1, hb2, h₁⟩, k₁⟩ => ?_) fun _ _ q => q) (he env) (hp env)
  subst e
  cases rs with
  | cons r rs =>
  cases rs with
  | cons r₂ rs =>
  cases rs; cases r; cases r₂
  refine call_range_2 (wpAny_pyIter_range (Heap.get?_push_size _ rfl) (small_one (by omega) (by omega) (by omega) (by omega)) ?_)
  refine ⟨_, _, rfl, (k₁.trans (Kp.pusht _ _ _)).fresh get_size_none, Or.inr ⟨a, _, Heap.get?_push_size _ rfl, ?_, ?_⟩, h₁, (k₁.trans (Kp.pusht _ _ _)).trans (Kp.push _ _)⟩
  · rw [rangeSize1]; omega
  · rw [rangeSize1]; rfl
end
end
section
/-! comprehensions -/
noncomputable def Cx.bind (cx : Cx) (x : Str) (d : Dat) : Cx := { cx with ρ := (x, d) :: cx.ρ }

theorem VarIs.but {env : Env} {h h' : Heap} {x : Str} {v : Value} {I : Addr} (y : VarIs env h x v) (k : Heap.ExtBut I h h') (n1 : ∀ m, h.Ns env.locals m → env.locals ≠ I) (n2 : ∀ c v, h.IsCell c v → c ≠ I) : VarIs env h' x v := by
  rcases y with ⟨a, m, b, c⟩ | ⟨a, d, c, b, e⟩
  · exact .inl ⟨a, m, b.extBut k (n1 m b), c⟩
  · exact .inr ⟨a, d, c, b, let ⟨o, e1, e2⟩ := e; ⟨o, k _ _ (n2 _ _ ⟨o, e1, e2⟩) e1, e2⟩⟩
theorem EnvOk.flds {env : Env} {h h' : Heap} {W : Addr → Prop} {cx : Cx} {I : Addr} (x : EnvOk env h W cx) (k : Heap.ExtBut I h h') (f : Flds h I) : EnvOk env h' W cx where
  globals := x.globals
  builtins := x.builtins
  kind := x.kind
  names := x.names
  cells := x.cells
  var := fun y d e => let ⟨v, a, b⟩ := x.var y d e; ⟨v, a.but k (fun _ q => f.ne_ns q) (fun _ _ q => f.ne_cell q), b.but k fun _ _ _ q => f.ne_list q⟩
  own := fun y ds e => let ⟨a, vs, p, q, r, t⟩ := x.own y ds e; ⟨a, vs, p.but k (fun _ q => f.ne_ns q) (fun _ _ q => f.ne_cell q), q.at fun o e => k a o (f.ne_list q.isList) e, r.but k fun _ _ _ q => f.ne_list q, t⟩
noncomputable def OwnBut (env : Env) (h : Heap) (W : Addr → Prop) (cx : Cx) (D : Addr) : Prop := ∀ y ds, cx.ω = some (y, ds) → ∃ a vs, VarIs env h y (.ref a) ∧ h.PlainList a vs.toArray ∧ RepAll h W vs ds ∧ W a ∧ a ≠ D
theorem OwnBut.keeps {env : Env} {h h' : Heap} {W : Addr → Prop} {cx : Cx} {D : Addr} (x : OwnBut env h W cx D) (k : ∀ b o, h.get? b = some o → h'.get? b = some o) : OwnBut env h' W cx D := fun y ds e =>
  let ⟨a, vs, p, q, r, t, u⟩ := x y ds e; ⟨a, vs, p.keeps k, q.at fun o e => k a o e, r.keeps k, t, u⟩
theorem OwnBut.flds {env : Env} {h h' : Heap} {W : Addr → Prop} {cx : Cx} {D I : Addr} (x : OwnBut env h W cx D) (k : Heap.ExtBut I h h') (f : Flds h I) : OwnBut env h' W cx D := fun y ds e =>
  let ⟨a, vs, p, q, r, t, u⟩ := x y ds e; ⟨a, vs, p.but k (fun _ q => f.ne_ns q) (fun _ _ q => f.ne_cell q), q.at fun o e => k a o (f.ne_list q.isList) e, r.but k fun _ _ _ q => f.ne_list q, t, u⟩
theorem OwnBut.lst {env : Env} {h h' : Heap} {W : Addr → Prop} {cx : Cx} {D : Addr} {its : Array Value} (x : OwnBut env h W cx D) (k : Heap.ExtBut D h h') (f : h.PlainList D its) (hw : W D) : OwnBut env h' W cx D := fun y ds e =>
  let ⟨a, vs, p, q, r, t, u⟩ := x y ds e; ⟨a, vs, p.but k (fun _ q => (list_ne_ns f.isList q).symm) (fun _ _ q => (list_ne_cell f.isList q).symm), q.at fun o e => k a o u e, r.but k (fun a _ na _ e => na (e ▸ hw)), t, u⟩
/-- a change at a list that is kept away from -/
theorem EnvOk.lst {env : Env} {h h' : Heap} {W : Addr → Prop} {cx : Cx} {D : Addr} {its : Array Value} (x : EnvOk env h W cx) (k : Heap.ExtBut D h h') (f : h.PlainList D its) (hw : W D) (ho : OwnBut env h W cx D) : EnvOk env h' W cx where
  globals := x.globals
  builtins := x.builtins
  kind := x.kind
  names := x.names
  cells := x.cells
  var := fun y d e => let ⟨v, a, b⟩ := x.var y d e; ⟨v, a.but k (fun _ q => (list_ne_ns f.isList q).symm) (fun _ _ q => (list_ne_cell f.isList q).symm), b.but k fun a _ na _ e => na (e ▸ hw)⟩
  own := fun y ds e => let ⟨a, vs, p, q, r, t, u⟩ := ho.lst k f hw y ds e; ⟨a, vs, p, q, r, t⟩
theorem VarIs.bindL {env : Env} {h h' : Heap} {m : Str → Option Value} {x : Str} {v : Value} (hn : h.Ns env.locals m)
    (hn' : h'.Ns env.locals fun y => if y = x then some v else m y) (k : Heap.SameBut env.locals h h') {y : Str} {u : Value} (hy : y ≠ x) (q : VarIs env h y u) : VarIs env h' y u := by
  rcases q with ⟨a, m', b, c⟩ | ⟨a, d, c, b, e⟩
  · refine .inl ⟨a, _, hn', ?_⟩
    show (if y = x then some v else m y) = some u
    rw [if_neg hy, hn.eq_nsMap, ← b.eq_nsMap]
    exact c
  · exact .inr ⟨a, d, c, b, let ⟨o, e1, e2⟩ := e; ⟨o, k.extBut _ _ (ns_ne_cell hn ⟨o, e1, e2⟩).symm e1, e2⟩⟩
/-- a local is set -/
theorem EnvOk.bindL {env : Env} {h h' : Heap} {W : Addr → Prop} {cx : Cx} {m : Str → Option Value} {x : Str} {v : Value} {d : Dat} (e : EnvOk env h W cx) (hn : h.Ns env.locals m) (hk : cx.sc.lookup x = some .local)
    (hn' : h'.Ns env.locals fun y => if y = x then some v else m y) (k : Heap.SameBut env.locals h h') (r : Rep h W v d) (hω : ∀ ds, cx.ω ≠ some (x, ds)) : EnvOk env h' W (cx.bind x d) := by
  have nl : ∀ a its, ¬ W a → h.IsList a its → a ≠ env.locals := fun a its _ l => list_ne_ns l hn
  have vk : ∀ y u, y ≠ x → VarIs env h y u → VarIs env h' y u := fun y u hy q => VarIs.bindL hn hn' k hy q
  have kx : env.kindOf x = some .local := by show env.scope.names.lookup x = _; rw [e.names]; exact hk
  refine ⟨e.globals, e.builtins, e.kind, e.names, e.cells, fun y d' hy => ?_, fun y ds hy => ?_⟩
  · change ((x, d) :: cx.ρ).lookup y = some d' at hy
    by_cases q : y = x
    · subst q
      rw [List.lookup_cons_self] at hy
      cases hy
      exact ⟨v, .inl ⟨kx, _, hn', by simp⟩, r.but k.extBut nl⟩
    · have hb : (y == x) = false := by simpa using q
      rw [List.lookup_cons, hb] at hy
      obtain ⟨u, a, b⟩ := e.var y d' hy
      exact ⟨u, vk y u q a, b.but k.extBut nl⟩
  · have q : y ≠ x := by rintro rfl; exact hω ds hy
    obtain ⟨a, vs, p1, p2, p3, p4⟩ := e.own y ds hy
    exact ⟨a, vs, vk y _ q p1, p2.at fun o e' => k.extBut a o (list_ne_ns p2.isList hn) e', p3.but k.extBut nl, p4⟩
theorem EnvOk.drop {env : Env} {h : Heap} {W : Addr → Prop} {cx : Cx} {x : Str} {d : Dat} (e : EnvOk env h W (cx.bind x d)) (hx : cx.ρ.lookup x = none) : EnvOk env h W cx := by
  refine ⟨e.globals, e.builtins, e.kind, e.names, e.cells, fun y d' hy => e.var y d' ?_, e.own⟩
  show ((x, d) :: cx.ρ).lookup y = some d'
  have q : (y == x) = false := by
    cases h : y == x with
    | false => rfl
    | true => rw [beq_iff_eq.mp h, hx] at hy; cases hy
  rw [List.lookup_cons, q]; exact hy

structure CS (w : World) (cx : Cx) (B : Heap) (W : Addr → Prop) (env : Env) (D : Addr) (h : Heap) (acc : List Dat) : Prop where
  g : GH w B
  up : ∀ b o, B.get? b = some o → h.get? b = some o ∧ b ≠ D ∧ b ≠ env.locals
  wok : WOk W h
  wd : W D
  wl : ¬ W env.locals
  ok : EnvOk env h W cx
  own : OwnBut env h W cx D
  acc : ∃ vs, h.PlainList D vs.toArray ∧ RepAll h W vs acc
  ns : ∃ m, h.Ns env.locals m
namespace CS
variable {w : World} {cx : Cx} {B : Heap} {W : Addr → Prop} {env : Env} {D : Addr} {h h' : Heap} {acc : List Dat}
theorem gh (x : CS w cx B W env D h acc) : GH w h := x.g.keeps fun b o e => (x.up b o e).1
theorem keeps (x : CS w cx B W env D h acc) (k : ∀ b o, h.get? b = some o → h'.get? b = some o) : CS w cx B W env D h' acc :=
  ⟨x.g, fun b o e => ⟨k _ _ (x.up b o e).1, (x.up b o e).2⟩, x.wok.keeps k, x.wd, x.wl, x.ok.keeps k, x.own.keeps k, let ⟨vs, p, q⟩ := x.acc; ⟨vs, p.at fun o e => k _ o e, q.keeps k⟩, let ⟨m, p⟩ := x.ns; ⟨m, p.keeps k⟩⟩
theorem flds (x : CS w cx B W env D h acc) {I : Addr} (k : Heap.ExtBut I h h') (f : Flds h I) (nb : B.get? I = none) (nw : ¬ W I) : CS w cx B W env D h' acc :=
  ⟨x.g, fun b o e => ⟨k _ _ (by rintro rfl; rw [nb] at e; cases e) (x.up b o e).1, (x.up b o e).2⟩, fun a q => let ⟨o, e⟩ := x.wok a q; ⟨o, k _ _ (fun e' => nw (e' ▸ q)) e⟩, x.wd, x.wl, x.ok.flds k f, x.own.flds k f,
    let ⟨vs, p, q⟩ := x.acc; ⟨vs, p.at fun o e => k _ o (f.ne_list p.isList) e, q.but k fun _ _ _ q => f.ne_list q⟩, let ⟨m, p⟩ := x.ns; ⟨m, p.extBut k (f.ne_ns p)⟩⟩
theorem bindL (x : CS w cx B W env D h acc) {m : Str → Option Value} {y : Str} {v : Value} {d : Dat} (hn : h.Ns env.locals m) (hk : cx.sc.lookup y = some .local)
    (hn' : h'.Ns env.locals fun z => if z = y then some v else m z) (k : Heap.SameBut env.locals h h') (r : Rep h W v d) (hω : ∀ ds, cx.ω ≠ some (y, ds)) : CS w (cx.bind y d) B W env D h' acc :=
  ⟨x.g, fun b o e => ⟨k.extBut _ _ (x.up b o e).2.2 (x.up b o e).1, (x.up b o e).2⟩, fun a q => let ⟨o, e⟩ := x.wok a q; ⟨o, k.extBut _ _ (fun e' => x.wl (e' ▸ q)) e⟩, x.wd, x.wl, x.ok.bindL hn hk hn' k r hω,
    fun z ds hz => let ⟨a, vs, p, q, r, t, u⟩ := x.own z ds hz; ⟨a, vs, VarIs.bindL hn hn' k (by rintro rfl; exact hω ds hz) p, q.at fun o e => k.extBut a o (list_ne_ns q.isList hn) e, r.but k.extBut fun a its _ l => list_ne_ns l hn, t, u⟩,
    let ⟨vs, p, q⟩ := x.acc; ⟨vs, p.at fun o e => k.extBut _ o (list_ne_ns p.isList hn) e, q.but k.extBut fun a its _ l => list_ne_ns l hn⟩, ⟨_, hn'⟩⟩
theorem drop {y : Str} {d : Dat} (x : CS w (cx.bind y d) B W env D h acc) (hx : cx.ρ.lookup y = none) : CS w cx B W env D h acc := ⟨x.g, x.up, x.wok, x.wd, x.wl, x.ok.drop hx, x.own, x.acc, x.ns⟩
theorem append (x : CS w cx B W env D h acc) {vs : List Value} {v : Value} {d : Dat} (hl : h.PlainList D vs.toArray) (ha : RepAll h W vs acc) (r : Rep h W v d) (hl' : h'.PlainList D (vs.toArray.push v)) (k : Heap.SameBut D h h') : CS w cx B W env D h' (acc ++ [d]) := by
  have nn : ∀ a its, ¬ W a → h.IsList a its → a ≠ D := fun a its na _ e => na (e ▸ x.wd)
  refine ⟨x.g, fun b o e => ⟨k.extBut _ _ (x.up b o e).2.1 (x.up b o e).1, (x.up b o e).2⟩, fun a q => ?_, x.wd, x.wl, x.ok.lst k.extBut hl x.wd x.own, x.own.lst k.extBut hl x.wd, ⟨vs ++ [v], by simpa using hl', (ha.but k.extBut nn).append (.cons (r.but k.extBut nn) .nil)⟩,
    let ⟨m, p⟩ := x.ns; ⟨m, p.extBut k.extBut (list_ne_ns hl.isList p).symm⟩⟩
  by_cases e : a = D
  · subst e; obtain ⟨n, e⟩ := hl'; exact ⟨_, e⟩
  · obtain ⟨o, e'⟩ := x.wok a q; exact ⟨o, k.extBut _ _ e e'⟩
end CS
end
section
noncomputable def Cs (I D : Addr) (env : Env) (s s' : Shared) : Prop := ∃ h tk, GnB s s' h tk ∧ ∀ b o, b ≠ I → b ≠ D → b ≠ env.locals → s.heap.get? b = some o → h.get? b = some o
noncomputable def Cs0 (D : Addr) (env : Env) (s s' : Shared) : Prop := ∃ h tk, GnB s s' h tk ∧ ∀ b o, b ≠ D → b ≠ env.locals → s.heap.get? b = some o → h.get? b = some o
theorem Cs.trans {I D : Addr} {env : Env} {s s' s'' : Shared} (x : Cs I D env s s') (y : Cs I D env s' s'') : Cs I D env s s'' := by
  obtain ⟨h, t, ⟨gs, rfl, ab⟩, k⟩ := x
  obtain ⟨h', t', ⟨gs', rfl, ab'⟩, k'⟩ := y
  exact ⟨h', t', ⟨_, rfl, ab.trans ab'⟩, fun b o n1 n2 n3 e => k' b o n1 n2 n3 (k b o n1 n2 n3 e)⟩
theorem Cs0.to {I D : Addr} {env : Env} {s s' : Shared} (x : Cs0 D env s s') : Cs I D env s s' := by
  obtain ⟨h, t, ⟨gs, rfl, ab⟩, k⟩ := x; exact ⟨h, t, ⟨_, rfl, ab⟩, fun b o _ n2 n3 e => k b o n2 n3 e⟩
theorem Cs.kp {I D : Addr} {env : Env} {s s' : Shared} (x : Kp s s') : Cs I D env s s' := by
  obtain ⟨h, t, ⟨gs, rfl, ab⟩, k⟩ := x; exact ⟨h, t, ⟨_, rfl, ab⟩, fun b o _ _ _ e => k b o e⟩
theorem Cs0.kp {D : Addr} {env : Env} {s s' : Shared} (x : Kp s s') : Cs0 D env s s' := by
  obtain ⟨h, t, ⟨gs, rfl, ab⟩, k⟩ := x; exact ⟨h, t, ⟨_, rfl, ab⟩, fun b o _ _ e => k b o e⟩
theorem Cs0.trans {D : Addr} {env : Env} {s s' s'' : Shared} (x : Cs0 D env s s') (y : Cs0 D env s' s'') : Cs0 D env s s'' := by
  obtain ⟨h, t, ⟨gs, rfl, ab⟩, k⟩ := x
  obtain ⟨h', t', ⟨gs', rfl, ab'⟩, k'⟩ := y
  exact ⟨h', t', ⟨_, rfl, ab.trans ab'⟩, fun b o n2 n3 e => k' b o n2 n3 (k b o n2 n3 e)⟩

/-- what is emitted at a turn -/
noncomputable def SEm (w : World) (n : Nat) (cx : Cx) (emit : Value → Env → Sem Unit) (acc : List Dat) (K : List Dat → Prop) : Prop :=
  ∀ (A : Around) (E : Value → Shared → Prop) (env : Env) (s : Shared) (B : Heap) (W : Addr → Prop) (D : Addr), Rm n A → CS w cx B W env D s.heap acc →
    wpAny (MD w) A (emit (.ref D) env) (fun _ s' => ∃ acc', CS w cx B W env D s'.heap acc' ∧ Cs0 D env s s' ∧ K acc') E s
/-- the turns of one `for` of a comprehension -/
noncomputable def SG (w : World) (n : Nat) (cx : Cx) (e : Expr) (dep : Nat) (its : List Dat) (acc : List Dat) (K : List Dat → Prop) : Prop :=
  ∀ (A : Around) (R : Result → Shared → Prop) (env : Env) (s : Shared) (B : Heap) (W : Addr → Prop) (D I : Addr), Rm n A → CS w cx B W env D s.heap acc → It s.heap W I its → ¬ W I → B.get? I = none →
    (∀ s' acc', CS w cx B W env D s'.heap acc' → Cs I D env s s' → K acc' → R (.ok .next) s') → codeAny (MD w) A (.compLoop e dep (.ref I) (.ref D) env) R s
theorem SEm.mono {w : World} {n : Nat} {cx : Cx} {emit : Value → Env → Sem Unit} {acc : List Dat} {K K' : List Dat → Prop} (x : SEm w n cx emit acc K) (h : ∀ a, K a → K' a) : SEm w n cx emit acc K' := fun A E env s B W D rm c =>
  wpAny_mono (x A E env s B W D rm c) (fun _ _ ⟨a, h1, h2, h3⟩ => ⟨a, h1, h2, h a h3⟩) fun _ _ q => q
theorem SG.mono {w : World} {n : Nat} {cx : Cx} {e : Expr} {dep : Nat} {its acc : List Dat} {K K' : List Dat → Prop} (x : SG w n cx e dep its acc K) (h : ∀ a, K a → K' a) : SG w n cx e dep its acc K' := fun A R env s B W D I rm c i nw nb hR =>
  x A R env s B W D I rm c i nw nb fun s' acc' h1 h2 h3 => hR s' acc' h1 h2 (h _ h3)

/-- tests -/
noncomputable def STs (w : World) (n : Nat) (cx : Cx) (ifs : List Expr) (K : Bool → Prop) : Prop :=
  ∀ (A : Around) (E : Value → Shared → Prop) (env : Env) (s : Shared) (W : Addr → Prop), Rm n A → GH w s.heap → WOk W s.heap → EnvOk env s.heap W cx →
    wpAny (MD w) A (forIn ifs true fun c r => if r = true then do let ok ← isTrue c env (eval c env); pure (ForInStep.yield ok) else pure (ForInStep.yield r)) (fun b s' => K b ∧ Kp s s') E s
theorem STs_nil {w : World} {n : Nat} {cx : Cx} {K : Bool → Prop} (h : K true) : STs w n cx [] K := fun A E env s W rm g o v => wpAny_tests_nil ⟨h, Kp.refl s⟩
theorem STs_one {w : World} {n : Nat} {cx : Cx} {c : Expr} {K : Bool → Prop} (h : ST w n cx c K) : STs w n cx [c] K := fun A E env s W rm g o v => wpAny_tests_one (h A E env s W rm g o v)

noncomputable def turnOf (x : Str) (px : Pos) (ip : Pos) (ifs : List Expr) (e : Expr) (dep : Nat) (it acc : Value) (env : Env) (emit : Value → Env → Sem Unit) : Sem Fin := do
  standAt ip
  match ← pyNext it with
  | none => pure (.done .next)
  | some v =>
    letOwnedTupleGo (.Name x px) it v
    assign (.Name x px) env v
    let mut ok := true
    for c in ifs do
      if ok then ok ← isTrue c env (eval c env)
    if ok then
      emit acc env
    again (.compLoop e dep it acc env)
noncomputable def addElt (elt : Expr) (acc : Value) (env : Env) : Sem Unit := do let _ ← call (.builtin "list.append") [acc, ← eval elt env]
noncomputable def goIn (e : Expr) (iter : Expr) (dep : Nat) (acc : Value) (env : Env) : Sem Unit := do
  let x ← eval iter env
  standAt iter.pos
  let x ← foldedSetIterable iter env x
  let _ ← runOwn (.compStart e dep (← holding [x] (pyIter x)) acc env) env

theorem turn1 (elt iter : Expr) (x : Str) (px : Pos) (ifs : List Expr) (scope : Scope) (pos : Pos) (it acc : Value) (env : Env) :
    compTurn (.ListComp elt [⟨.Name x px, iter, ifs, 0⟩] scope pos) 0 it acc env = turnOf x px iter.pos ifs (.ListComp elt [⟨.Name x px, iter, ifs, 0⟩] scope pos) 0 it acc env (addElt elt) := by rfl
theorem turn2a (elt iter iter₂ : Expr) (x y : Str) (px py : Pos) (ifs ifs₂ : List Expr) (scope : Scope) (pos : Pos) (it acc : Value) (env : Env) :
    compTurn (.ListComp elt [⟨.Name x px, iter, ifs, 0⟩, ⟨.Name y py, iter₂, ifs₂, 0⟩] scope pos) 0 it acc env =
      turnOf x px iter.pos ifs (.ListComp elt [⟨.Name x px, iter, ifs, 0⟩, ⟨.Name y py, iter₂, ifs₂, 0⟩] scope pos) 0 it acc env (goIn (.ListComp elt [⟨.Name x px, iter, ifs, 0⟩, ⟨.Name y py, iter₂, ifs₂, 0⟩] scope pos) iter₂ 1) := by
  unfold compTurn turnOf goIn
  simp only [List.getElem?_cons_zero, List.getElem?_cons_succ, Nat.zero_add, bne_self_eq_false, Bool.false_eq_true, if_false, bind_assoc, pure_bind]
  rfl
theorem turn2b (elt iter iter₂ : Expr) (x y : Str) (px py : Pos) (ifs ifs₂ : List Expr) (scope : Scope) (pos : Pos) (it acc : Value) (env : Env) :
    compTurn (.ListComp elt [⟨.Name x px, iter, ifs, 0⟩, ⟨.Name y py, iter₂, ifs₂, 0⟩] scope pos) 1 it acc env =
      turnOf y py iter₂.pos ifs₂ (.ListComp elt [⟨.Name x px, iter, ifs, 0⟩, ⟨.Name y py, iter₂, ifs₂, 0⟩] scope pos) 1 it acc env (addElt elt) := by rfl

section
variable {w : World} {n : Nat} {cx : Cx} {pos : Pos} {k : Nat} {l r : Expr}
theorem loop_of {A : Around} {R : Result → Shared → Prop} {s : Shared} {elt : Expr} {gs : List Comprehension} {scope : Scope} {dep : Nat} {it acc : Value} {env : Env}
    (h : wpAny (MD w) A (compTurn (.ListComp elt gs scope pos) dep it acc env) (fun fin s' => match fin with | .done f => R (.ok f) s' | .again c' => c'.quiet = true ∧ codeAny (MD w) A c' R s') (notedBy (MD w) A env fun e s' => R (.error e) s') s) :
    codeAny (MD w) A (.compLoop (.ListComp elt gs scope pos) dep it acc env) R s := by
  refine codeAny_of_tree ?_
  show wpAny _ A ((compTurn (.ListComp elt gs scope pos) dep it acc env).onRaise (fun x => do noteFrame x env; theTreesLotGoes x)) _ _ s
  exact wpAny_noted h

theorem SG_nil {elt : Expr} {gs : List Comprehension} {scope : Scope} {dep : Nat} {x : Str} {px ip : Pos} {ifs : List Expr} {emit : Value → Env → Sem Unit} {acc : List Dat} {K : List Dat → Prop}
    (ht : ∀ it acc env, compTurn (.ListComp elt gs scope pos) dep it acc env = turnOf x px ip ifs (.ListComp elt gs scope pos) dep it acc env emit) (h : K acc) : SG w n cx (.ListComp elt gs scope pos) dep [] acc K := fun A R env s B W D I rm c i nw nb hR => by
  refine loop_of ?_
  rw [ht]
  unfold turnOf
  refine wpAny_bind (wpAny_standAt (wpAny_bind (It_end rm.handled i fun h' hk => ?_)))
  exact wpAny_pure (hR _ acc (c.flds hk i.flds nb nw) ⟨h', s.toks, ⟨_, rfl, GB.refl _⟩, fun b o n1 _ _ e => hk b o n1 e⟩ h)

theorem SG_cons {elt : Expr} {gs : List Comprehension} {scope : Scope} {dep : Nat} {x : Str} {px ip : Pos} {ifs : List Expr} {emit : Value → Env → Sem Unit} {acc : List Dat} {d : Dat} {its : List Dat} {K : List Dat → Prop}
    (ht : ∀ it acc env, compTurn (.ListComp elt gs scope pos) dep it acc env = turnOf x px ip ifs (.ListComp elt gs scope pos) dep it acc env emit)
    (hx : cx.sc.lookup x = some .local) (hr : cx.ρ.lookup x = none) (hω : ∀ ds, cx.ω ≠ some (x, ds))
    (h : STs w n (cx.bind x d) ifs fun b => if b = true then SEm w n (cx.bind x d) emit acc fun acc' => SG w n cx (.ListComp elt gs scope pos) dep its acc' K else SG w n cx (.ListComp elt gs scope pos) dep its acc K) :
    SG w n cx (.ListComp elt gs scope pos) dep (d :: its) acc K := fun A R env s B W D I rm c i nw nb hR => by
  refine loop_of ?_
  rw [ht]
  unfold turnOf
  refine wpAny_bind (wpAny_standAt (wpAny_bind (It_next i fun v h₁ tk rv i₁ hs₁ => ?_)))
  refine wpAny_bind (wpAny_of_eq (a := ()) rfl ?_)
  have c₁ := c.flds hs₁.extBut i.flds nb nw
  obtain ⟨m, hm⟩ := c₁.ns
  have kx : env.kindOf x = some .local := by show env.scope.names.lookup x = _; rw [c.ok.names]; exact hx
  refine wpAny_bind (wpAny_assign_Name (wpAny_storeName_local kx hm (fun h₂ hn₂ hs₂ => ?_) (by rw [c.ok.kind]; rfl)))
  have c₂ : CS w (cx.bind x d) B W env D h₂ acc := c₁.bindL hm hx hn₂ hs₂ rv hω
  have i₂ : It h₂ W I its := i₁.but hs₂.extBut (i₁.flds.ne_ns hm).symm fun a _ _ l => list_ne_ns l hm
  have e₂ : Cs I D env s { s with heap := h₂, toks := tk + 1 } := ⟨h₂, _, ⟨_, rfl, GB.refl _⟩, fun b o n1 n2 n3 e => hs₂.extBut b o n3 (hs₁.extBut b o n1 e)⟩
  refine wpAny_bind (wpAny_mono (h A _ env _ W rm c₂.gh c₂.wok c₂.ok) (fun b s₃ ⟨h₃, k₃⟩ => ?_) fun _ _ q => q)
  have c₃ := c₂.keeps k₃.k
  have i₃ := i₂.keeps k₃.k
  have e₃ := e₂.trans (Cs.kp (I := I) (D := D) (env := env) k₃)
  cases b with
  | false =>
    simp only [Bool.false_eq_true, if_false] at h₃ ⊢
    exact wpAny_pure ⟨rfl, h₃ A R env s₃ B W D I rm (c₃.drop hr) i₃ nw nb fun s' acc' h1 h2 h3 => hR s' acc' h1 (e₃.trans h2) h3⟩
  | true =>
    simp only [if_true] at h₃ ⊢
    refine wpAny_bind (wpAny_mono (h₃ A _ env s₃ B W D rm c₃) (fun _ s₄ ⟨acc', c₄, e₄, h₄⟩ => ?_) fun _ _ q => q)
    have i₄ : It s₄.heap W I its := by
      obtain ⟨h₄, t₄, ⟨gs, rfl, ab⟩, k₄⟩ := e₄
      obtain ⟨vs, hl, _⟩ := c₃.acc
      obtain ⟨m, hm⟩ := c₃.ns
      rcases i₃ with ⟨ax, vs', j, p1, p2, p3, p4, p5⟩ | ⟨y, m', p1, p2, p3⟩
      · have nx : ax ≠ D := fun e => p3 (e ▸ c₃.wd)
        refine .inl ⟨ax, vs', j, ?_, p2.at fun o e => k₄ _ o nx (list_ne_ns p2.isList hm) e, p3, p4, p5.move fun a its q l => ⟨fun o e => k₄ a o (fun e' => q (e' ▸ c₃.wd)) (list_ne_ns l hm) e, q⟩⟩
        obtain ⟨o, q1, q2, q3⟩ := p1
        have fl : Flds s₃.heap I := ⟨o, _, q1, q3⟩
        exact ⟨o, k₄ I o (fl.ne_list hl.isList).symm (fl.ne_ns hm).symm q1, q2, q3⟩
      · have fl : Flds s₃.heap I := ⟨_, _, p1, rfl⟩
        exact .inr ⟨y, m', k₄ I _ (fl.ne_list hl.isList).symm (fl.ne_ns hm).symm p1, p2, p3⟩
    exact wpAny_pure ⟨rfl, h₄ A R env s₄ B W D I rm (c₄.drop hr) i₄ nw nb fun s' acc' h1 h2 h3 => hR s' acc' h1 ((e₃.trans e₄.to).trans h2) h3⟩

theorem SEm_elt {elt : Expr} {acc : List Dat} {K : List Dat → Prop} (h : SE w n cx elt fun d => acc.length ≤ sizeLine ∧ K (acc ++ [d])) : SEm w n cx (addElt elt) acc K := fun A E env s B W D rm c => by
  unfold addElt
  refine wpAny_bind (wpAny_mono (h A E env s W rm c.gh c.wok c.ok) (fun v s₁ ⟨d, rd, ⟨hsz, hk⟩, k₁⟩ => ?_) fun _ _ q => q)
  have c₁ := c.keeps k₁.k
  obtain ⟨vs, hl, ha⟩ := c₁.acc
  refine wpAny_bind (wpAny_list_append_plain hl (fun h' hl' hs' => wpAny_pure ⟨_, c₁.append hl ha rd hl' hs', (Cs0.kp k₁).trans ⟨h', s₁.toks, ⟨_, rfl, GB.refl _⟩, fun b o n1 _ e => hs'.extBut b o n1 e⟩, hk⟩) (by rw [List.size_toArray, ha.length]; exact hsz))

theorem compStart_of {elt target iter : Expr} {ifs : List Expr} {gs : List Comprehension} {scope : Scope} {dep : Nat} {it acc : Value} {env : Env} {A : Around} {R : Result → Shared → Prop} {s : Shared}
    (hg : gs[dep]? = some ⟨target, iter, ifs, 0⟩)
    (h0 : codeAny (MD w) A (.compLoop (.ListComp elt gs scope pos) dep it acc env) R s)
    (h : wpAny (MD w) A (pyIter it) (fun it' s' => codeAny (MD w) A (.compLoop (.ListComp elt gs scope pos) dep it' acc env) R s')
      (notedBy (MD w) A env fun x s' => R (.error x) s') s) :
    codeAny (MD w) A (.compStart (.ListComp elt gs scope pos) dep it acc env) R s := by
  have hg' : (clausesOf (.ListComp elt gs scope pos))[dep]? = some ⟨target, iter, ifs, 0⟩ := hg
  refine codeAny_of_tree ?_
  show wpAny _ _ ((compStart (.ListComp elt gs scope pos) dep it acc env).onRaise (fun x => do noteFrame x env; standAt theWindowsPlace)) _ _ s
  refine wpAny_notedAt ?_
  unfold compStart
  rw [hg']
  show wpAny _ _ (ask >>= _) _ _ s
  refine wpAny_bind (wpAny_askSetting (wpAny_ite ?_))
  split
  · first
      | exact wpAny_bind (wpAny_pure (wpAny_pure (And.intro rfl h0)))
      | exact wpAny_pure (And.intro rfl h0)
  · first
      | exact wpAny_bind (wpAny_rule (wpAny_bind (wpAny_standAt (wpAny_bind (wpAny_mono h (fun it' s' h' => wpAny_pure (And.intro rfl h')) fun _ _ x => x)))))
      | (refine wpAny_bind (wpAny_rule ?_); show wpAny _ _ (standAt iter.pos >>= _) _ _ s; exact wpAny_bind (wpAny_standAt (wpAny_bind (wpAny_mono h (fun it' s' h' => wpAny_pure (And.intro rfl h')) fun _ _ x => x))))

theorem SEm_in {elt iter target it0 : Expr} {gs : List Comprehension} {scope : Scope} {dep : Nat} {ifs : List Expr} {acc : List Dat} {K : List Dat → Prop}
    (hg : gs[dep]? = some ⟨target, it0, ifs, 0⟩) (hs : ∀ env x, foldedSetIterable iter env x = pure x)
    (h : SIt w n cx iter fun its => SG w n cx (.ListComp elt gs scope pos) dep its acc K) : SEm w n cx (goIn (.ListComp elt gs scope pos) iter dep) acc K := fun A E env s B W D rm c => by
  unfold goIn
  refine wpAny_bind (wpAny_mono (h A E env s W rm c.gh c.wok c.ok) (fun x s₁ h₁ => wpAny_bind (wpAny_standAt (wpAny_bind (wpAny_of_eq (hs env x) (wpAny_bind (wpAny_holding (wpAny_mono h₁ (fun it s₂ h₂ => ?_) fun _ _ q => q))))))) fun _ _ q => q)
  obtain ⟨I, its, rfl, fr, i, hk, k⟩ := h₂
  have c₂ := c.keeps k.k
  have nw : ¬ W I := c.wok.fresh fr
  have nb : B.get? I = none := by
    cases e : B.get? I with
    | none => rfl
    | some o => rw [(c.up I o e).1] at fr; cases fr
  refine wpAny_bind (wpAny_runOwn ?_)
  have fin : codeAny (MD w) A (.compLoop (.ListComp elt gs scope pos) dep (.ref I) (.ref D) env) (fun r s' => match r with | .ok f => wpAny (MD w) A (pure ()) (fun _ s'' => ∃ acc', CS w cx B W env D s''.heap acc' ∧ Cs0 D env s s'' ∧ K acc') E s' | .error e => cameBackBy (MD w) A env E e s') s₂ := by
    refine hk A _ env s₂ B W D I rm c₂ i nw nb fun s' acc' h1 h2 h3 => wpAny_pure ⟨acc', h1, ?_, h3⟩
    obtain ⟨h₃, t₃, ⟨gs, rfl, ab⟩, k₃⟩ := k
    obtain ⟨h₄, t₄, ⟨gs', rfl, ab'⟩, k₄⟩ := h2
    exact ⟨h₄, t₄, ⟨_, rfl, ab.trans ab'⟩, fun b o n1 n2 e => k₄ b o (by rintro rfl; rw [fr] at e; cases e) n1 n2 (k₃ b o e)⟩
  exact compStart_of hg fin (It_self i fin)
end
end
section
noncomputable def relab (sc names : List (Str × NameKind)) : List (Str × NameKind) := names.map fun p => if (p.2 == .free && sc.lookup p.1 == some .cell) then (p.1, .cell) else p
noncomputable def Cx.sub (cx : Cx) (names : List (Str × NameKind)) : Cx :=
  { sc := relab cx.sc names, ρ := cx.ρ.filter fun p => names.lookup p.1 == some .free, ω := match cx.ω with
    | some (x, ds) => if names.lookup x == some .free then some (x, ds) else none
    | none => none }

theorem lookup_filter {α : Type} (p : Str → Bool) : ∀ (l : List (Str × α)) {x : Str} {d : α}, (l.filter fun q => p q.1).lookup x = some d → p x = true ∧ l.lookup x = some d
  | [], x, d, h => by cases h
  | (y, e) :: r, x, d, h => by
    rw [List.filter_cons] at h
    cases hp : p y with
    | true =>
      simp only [hp, if_true] at h
      cases hxy : x == y with
      | true =>
        rw [List.lookup_cons, hxy] at h ⊢
        have e1 := beq_iff_eq.mp hxy
        exact ⟨e1 ▸ hp, h⟩
      | false =>
        rw [List.lookup_cons, hxy] at h ⊢
        exact lookup_filter p r h
    | false =>
      simp only [hp, Bool.false_eq_true, if_false] at h
      obtain ⟨h1, h2⟩ := lookup_filter p r h
      refine ⟨h1, ?_⟩
      have hxy : (x == y) = false := by
        cases q : x == y with
        | false => rfl
        | true => rw [beq_iff_eq.mp q, hp] at h1; cases h1
      rw [List.lookup_cons, hxy]; exact h2
theorem lookup_of_mem {α : Type} : ∀ {l : List (Str × α)} {x : Str} {c : α}, (x, c) ∈ l → ∃ c', l.lookup x = some c'
  | (y, e) :: r, x, c, h => by
    rw [List.lookup_cons]
    cases q : x == y with
    | true => exact ⟨e, rfl⟩
    | false =>
      rcases List.mem_cons.mp h with h | h
      · cases h; simp at q
      · exact lookup_of_mem h
theorem relab_free {sc : List (Str × NameKind)} : ∀ {names : List (Str × NameKind)} {x : Str}, sc.lookup x = some .cell → names.lookup x = some .free → (relab sc names).lookup x = some .cell
  | [], x, _, h => by cases h
  | (y, k) :: r, x, hc, h => by
    unfold relab
    rw [List.map_cons]
    cases q : x == y with
    | true =>
      rw [List.lookup_cons, q] at h
      cases h
      have e := beq_iff_eq.mp q
      subst e
      simp [hc]
    | false =>
      rw [List.lookup_cons, q] at h
      have ih := relab_free (sc := sc) (names := r) hc h
      unfold relab at ih
      cases hk : (k == NameKind.free && sc.lookup y == some .cell) with
      | true => simp only [if_true, List.lookup_cons, q]; exact ih
      | false => simp only [Bool.false_eq_true, if_false, List.lookup_cons, q]; exact ih
theorem relab_cell {sc : List (Str × NameKind)} : ∀ {names : List (Str × NameKind)} {x : Str}, (∀ y ∈ names, y.2 ≠ .cell) → (relab sc names).lookup x = some .cell → names.lookup x = some .free
  | [], x, _, h => by cases h
  | (y, k) :: r, x, hc, h => by
    unfold relab at h
    rw [List.map_cons] at h
    cases q : x == y with
    | true =>
      rw [List.lookup_cons, q]
      cases hk : (k == NameKind.free && sc.lookup y == some .cell) with
      | true =>
        simp only [Bool.and_eq_true, beq_iff_eq] at hk
        rw [hk.1]
      | false =>
        simp only [hk, Bool.false_eq_true, if_false, List.lookup_cons, q] at h
        exact absurd (by simpa using h) (hc _ List.mem_cons_self)
    | false =>
      rw [List.lookup_cons, q]
      refine relab_cell (sc := sc) (names := r) (fun z hz => hc z (List.mem_cons_of_mem _ hz)) ?_
      unfold relab
      cases hk : (k == NameKind.free && sc.lookup y == some .cell) with
      | true => simp only [hk, if_true, List.lookup_cons, q] at h; exact h
      | false => simp only [hk, Bool.false_eq_true, if_false, List.lookup_cons, q] at h; exact h
theorem relabel_names {scope : Scope} {env : Env} (hk : env.scope.kind = .function) : (relabel scope env).names = relab env.scope.names scope.names := by
  unfold relabel relab
  simp only [hk, beq_self_eq_true, Bool.and_true]
  rfl

theorem closure_of {scope : Scope} {env : Env} (h : ∀ y ∈ scope.names, y.2 = .free → ∃ c, env.cells.lookup y.1 = some c) :
    ∃ cl, closureFor scope env = pure cl ∧ (∀ x c, (x, c) ∈ cl → env.cells.lookup x = some c) ∧ (∀ y ∈ scope.names, y.2 = .free → ∃ c, (y.1, c) ∈ cl) := by
  have go : ∀ (ns : List (Str × NameKind)) (acc : List (Str × Addr)), (∀ y ∈ ns, y.2 = .free → ∃ c, env.cells.lookup y.1 = some c) → (∀ x c, (x, c) ∈ acc → env.cells.lookup x = some c) →
      ∃ cl, (forIn ns acc (fun (x : Str × NameKind) (r : List (Str × Addr)) => if (x.2 == .free) = true then (cellOf env x.1 >>= fun a => pure (ForInStep.yield ((x.1, a) :: r)) : Sem _) else pure (ForInStep.yield r))) = (pure cl : Sem _) ∧
        (∀ x c, (x, c) ∈ cl → env.cells.lookup x = some c) ∧ (∀ y ∈ ns, y.2 = .free → ∃ c, (y.1, c) ∈ cl) ∧ ∀ q ∈ acc, q ∈ cl := by
    intro ns
    induction ns with
    | nil => intro acc _ ha; exact ⟨acc, by rw [List.forIn_nil], ha, fun y hy => (nomatch hy), fun q hq => hq⟩
    | cons y r ih =>
      intro acc hn ha
      rw [List.forIn_cons]
      by_cases hy : (y.2 == NameKind.free) = true
      · obtain ⟨c, hc⟩ := hn y List.mem_cons_self (by simpa using hy)
        obtain ⟨cl, h1, h2, h3, h4⟩ := ih ((y.1, c) :: acc) (fun z hz => hn z (List.mem_cons_of_mem _ hz)) (fun x c' hm => by
          rcases List.mem_cons.mp hm with e | e
          · cases e; exact hc
          · exact ha x c' e)
        refine ⟨cl, ?_, h2, fun z hz hf => ?_, fun q hq => h4 q (List.mem_cons_of_mem _ hq)⟩
        · rw [if_pos hy]
          have ec : cellOf env y.1 = pure c := by unfold cellOf; rw [hc]
          rw [ec, pure_bind, pure_bind]
          exact h1
        · rcases List.mem_cons.mp hz with e | e
          · subst e; exact ⟨c, h4 _ List.mem_cons_self⟩
          · exact h3 z e hf
      · obtain ⟨cl, h1, h2, h3, h4⟩ := ih acc (fun z hz => hn z (List.mem_cons_of_mem _ hz)) ha
        refine ⟨cl, ?_, h2, fun z hz hf => ?_, h4⟩
        · rw [if_neg hy, pure_bind]
          exact h1
        · rcases List.mem_cons.mp hz with e | e
          · subst e; exact absurd (by simpa using hf) hy
          · exact h3 z e hf
  obtain ⟨cl, h1, h2, h3, _⟩ := go scope.names [] h (fun _ _ hm => nomatch hm)
  refine ⟨cl, ?_, h2, h3⟩
  unfold closureFor
  refine Eq.trans ?_ h1
  simp only [bind_pure]

section
variable {w : World} {n : Nat} {cx : Cx} {pos : Pos} {k : Nat} {l r : Expr}

theorem EnvOk.sub {env : Env} {h : Heap} {W : Addr → Prop} {scope : Scope} {cl : List (Str × Addr)} {C : Addr} (e : EnvOk env h W cx) (hkind : scope.kind = .function) (hcell : ∀ y ∈ scope.names, y.2 ≠ .cell)
    (hfree : ∀ y ∈ scope.names, y.2 = .free → cx.sc.lookup y.1 = some .cell)
    (h1 : ∀ x c, (x, c) ∈ cl → env.cells.lookup x = some c) (h2 : ∀ y ∈ scope.names, y.2 = .free → ∃ c, (y.1, c) ∈ cl) : EnvOk (compEnvC scope cl C env) h W (cx.sub scope.names) := by
  have nm : (compEnvC scope cl C env).scope.names = relab cx.sc scope.names := by show (relabel scope env).names = _; rw [relabel_names e.kind, e.names]
  have cel : ∀ x, scope.names.lookup x = some .free → ∃ c, cl.lookup x = some c ∧ env.cells.lookup x = some c := fun x hx => by
    obtain ⟨c, hc⟩ := h2 _ (mem_of_lookup hx) rfl
    obtain ⟨c', hc'⟩ := lookup_of_mem hc
    exact ⟨c', hc', h1 _ _ (mem_of_lookup hc')⟩
  have var : ∀ x v, scope.names.lookup x = some .free → VarIs env h x v → VarIs (compEnvC scope cl C env) h x v := fun x v hx q => by
    have hc := hfree _ (mem_of_lookup hx) rfl
    have hk : env.kindOf x = some .cell := by show env.scope.names.lookup x = _; rw [e.names]; exact hc
    rcases q with ⟨a, _⟩ | ⟨_, hb, c, p1, p2⟩
    · rw [hk] at a; cases a
    · obtain ⟨c', q1, q2⟩ := cel x hx
      rw [p1] at q2
      cases q2
      exact .inr ⟨.inl (by show (compEnvC scope cl C env).scope.names.lookup x = _; rw [nm]; exact relab_free hc hx), hb, c, q1, p2⟩
  refine ⟨e.globals, e.builtins, hkind, nm, fun x hx => ?_, fun x d hx => ?_, fun x ds hx => ?_⟩
  · have : (relab cx.sc scope.names).lookup x = some .cell := by rw [← nm]; exact hx
    obtain ⟨c, hc, _⟩ := cel x (relab_cell hcell this)
    exact ⟨c, hc⟩
  · obtain ⟨q1, q2⟩ := lookup_filter (fun y => scope.names.lookup y == some .free) cx.ρ hx
    obtain ⟨v, a, b⟩ := e.var x d q2
    exact ⟨v, var x v (by simpa using q1) a, b⟩
  · unfold Cx.sub at hx
    simp only at hx
    split at hx
    · rename_i y ds' q
      split at hx
      · rename_i q2
        cases hx
        obtain ⟨a, vs, p1, p2, p3, p4⟩ := e.own _ _ q
        exact ⟨a, vs, var _ _ (by simpa using q2) p1, p2, p3, p4⟩
      · cases hx
    · cases hx
end
end
section
structure CompOk (cx : Cx) (scope : Scope) : Prop where
  kind : scope.kind = .function
  cell : ∀ y ∈ scope.names, y.2 ≠ .cell
  names : ∀ y ∈ scope.names, y.2 = .local → scope.names.lookup y.1 = some .local
  free : ∀ y ∈ scope.names, y.2 = .free → cx.sc.lookup y.1 = some .cell
noncomputable def compOk (sc : List (Str × NameKind)) (scope : Scope) : Bool :=
  (match scope.kind with | .function => true | _ => false) && scope.names.all (fun y => y.2 != .cell && (y.2 != .local || scope.names.lookup y.1 == some .local) && (y.2 != .free || sc.lookup y.1 == some .cell))
theorem CompOk.of {cx : Cx} {scope : Scope} (h : compOk cx.sc scope = true) : CompOk cx scope := by
  unfold compOk at h
  simp only [Bool.and_eq_true, List.all_eq_true, Bool.or_eq_true, bne_iff_ne, beq_iff_eq] at h
  refine ⟨?_, fun y hy => (h.2 y hy).1.1, fun y hy e => ?_, fun y hy e => ?_⟩
  · have h1 := h.1
    cases q : scope.kind <;> rw [q] at h1 <;> first | rfl | cases h1
  · rcases (h.2 y hy).1.2 with q | q
    · exact absurd e q
    · exact q
  · rcases (h.2 y hy).2 with q | q
    · exact absurd e q
    · exact q

section
variable {w : World} {n : Nat} {cx : Cx} {pos : Pos} {k : Nat} {l r : Expr}
theorem comp_core {elt iter target : Expr} {ifs : List Expr} {gs : List Comprehension} {scope : Scope} {K : List Dat → Prop} (ok : CompOk cx scope)
    (h : SIt w n cx iter fun its => SG w n (cx.sub scope.names) (.ListComp elt (⟨target, iter, ifs, 0⟩ :: gs) scope pos) 0 its [] K)
    (hs : ∀ env x, foldedSetIterable iter env x = pure x)
    {A : Around} {E : Value → Shared → Prop} {env : Env} {s : Shared} {W : Addr → Prop} {p0 : Pos} {use : Option (Value → Sem Unit)} {Q : Value → Shared → Prop} (rm : Rm n A) (g : GH w s.heap) (o : WOk W s.heap) (v : EnvOk env s.heap W cx)
    (fin : ∀ D C vs ds s', s.heap.get? D = none → s.heap.get? C = none → D ≠ C → s'.heap.PlainList D vs.toArray → RepAll s'.heap (fun b => W b ∨ b = D) vs ds → K ds → Kp s s' → (∃ m, s'.heap.Ns C m) → compPost (MD w) A E use Q (.ref D) C (.ok .next) s') :
    wpAny (MD w) A (comprehension (.ListComp elt (⟨target, iter, ifs, 0⟩ :: gs) scope pos) scope env p0 (newList []) false (eval iter env) use) Q E s := by
  have hcells : ∀ y ∈ scope.names, y.2 = .free → ∃ c, env.cells.lookup y.1 = some c := fun y hy e => v.cells _ (by show env.scope.names.lookup _ = _; rw [v.names]; exact ok.free y hy e)
  obtain ⟨cl, hcl, h1, h2⟩ := closure_of hcells
  refine wpAny_comprehension_free (cl := cl) rfl (hs env) hcl ok.kind ok.names (wpAny_mono (h A E env s W rm g o v) (fun xv s₁ h₁ => wpAny_mono h₁ (fun it s₂ h₂ => ?_) fun _ _ e => e) fun _ _ e => e)
  obtain ⟨I, its, rfl, fr, i, hg, k₂⟩ := h₂
  refine wpAny_newObj_type (wpAny_newFunctionEnv ok.cell (by intro y hy; simp at hy) (fun h₁ hns₁ hsb₁ => ?_) ok.kind)
  dsimp only at hns₁ hsb₁ ⊢
  generalize hH2 : s₂.heap.push { cls := .type "list", dict := none, data := .seq ([] : List Value).toArray } = H2 at hns₁ hsb₁ ⊢
  have hC : H2.objs.size = s₂.heap.objs.size + 1 := by rw [← hH2, Heap.size_push]
  have hDC : s₂.heap.objs.size ≠ H2.objs.size := by rw [hC]; exact Nat.ne_of_lt (Nat.lt_succ_self _)
  have old : ∀ b o, s₂.heap.get? b = some o → h₁.get? b = some o := fun b o e => hsb₁.extBut b o (by rw [hC]; exact Nat.ne_of_lt (Nat.lt_succ_of_lt (Heap.lt_size e))) (Heap.get?_push_of_some _ (hH2 ▸ Heap.get?_push_of_some _ e))
  have k₃ : ∀ b o, s.heap.get? b = some o → h₁.get? b = some o := fun b o e => old b o (k₂.k b o e)
  have hacc : h₁.PlainList s₂.heap.objs.size #[] := ⟨_, hsb₁.extBut _ _ hDC (Heap.get?_push_of_some _ (hH2 ▸ Heap.get?_push_size _ rfl))⟩
  have fresh : ∀ a, s₂.heap.objs.size ≤ a → s.heap.get? a = none := fun a ha => by
    cases e : s.heap.get? a with
    | none => rfl
    | some o' => exact absurd (Heap.lt_size (k₂.k _ _ e)) (Nat.not_lt.mpr ha)
  have fD := fresh _ (Nat.le_refl _)
  have fC := fresh H2.objs.size (by rw [hC]; exact Nat.le_succ _)
  generalize hD : s₂.heap.objs.size = D at *
  generalize hCC : H2.objs.size = C at *
  have wkD : ∀ a, (W a ∨ a = D) → W a ∨ s₂.heap.get? a = none := fun a q => q.imp id fun e => by subst e; rw [← hD]; exact get_size_none
  have wk0 : ∀ a, (W a ∨ a = D) → W a ∨ s.heap.get? a = none := fun a q => q.imp id fun e => by subst e; exact fD
  have v₁ : EnvOk env h₁ (fun b => W b ∨ b = D) cx := ⟨v.globals, v.builtins, v.kind, v.names, v.cells, fun y d e => let ⟨u, a, b⟩ := v.var y d e; ⟨u, a.keeps k₃, (b.more wk0).keeps k₃⟩,
    fun y ds e => let ⟨a, vs, p, q, r, t⟩ := v.own y ds e; ⟨a, vs, p.keeps k₃, q.at fun o e => k₃ a o e, (r.more wk0).keeps k₃, .inl t⟩⟩
  have hcd : cx.sc = cx.sc := rfl
  have vc : EnvOk (compEnvC scope cl C env) h₁ (fun b => W b ∨ b = D) (cx.sub scope.names) := EnvOk.sub v₁ ok.kind ok.cell ok.free h1 h2
  have own : OwnBut (compEnvC scope cl C env) h₁ (fun b => W b ∨ b = D) (cx.sub scope.names) D := fun y ds e => by
    have vs' : EnvOk env s.heap W cx := v
    obtain ⟨a, vs, p, q, r, t⟩ := (EnvOk.sub (C := C) v ok.kind ok.cell ok.free h1 h2).own y ds e
    exact ⟨a, vs, VarIs.keeps p k₃, q.at fun o e => k₃ a o e, (r.more wk0).keeps k₃, .inl t, fun e => o.fresh fD (e ▸ t)⟩
  have cs : CS w (cx.sub scope.names) s.heap (fun b => W b ∨ b = D) (compEnvC scope cl C env) D h₁ [] :=
    ⟨g, fun b ob e => ⟨k₃ b ob e, (by rintro rfl; rw [fD] at e; cases e), (by intro e'; have e2 : b = C := e'; rw [e2, fC] at e; cases e)⟩,
      fun a q => q.elim (fun q => let ⟨ob, e⟩ := o a q; ⟨ob, k₃ _ _ e⟩) (fun e => by subst e; obtain ⟨_, e⟩ := hacc; exact ⟨_, e⟩),
      .inr rfl, fun q => q.elim (fun q => o.fresh fC q) (fun e => hDC e.symm), vc, own, ⟨[], hacc, .nil⟩, ⟨_, hns₁⟩⟩
  have i₁ : It h₁ (fun b => W b ∨ b = D) I its := by
    rcases i with ⟨ax, vs, j, p1, p2, p3, p4, p5⟩ | ⟨y, m, p1, p2, p3⟩
    · refine .inl ⟨ax, vs, j, let ⟨ob, a, b, c⟩ := p1; ⟨ob, old _ _ a, b, c⟩, p2.at fun o e => old _ o e, fun q => q.elim p3 fun e => ?_, p4, (p5.more wkD).keeps old⟩
      subst e
      obtain ⟨_, e⟩ := p2
      have e' := get_size_none (h := s₂.heap)
      rw [hD, e] at e'; cases e'
    · exact .inr ⟨y, m, old _ _ p1, p2, p3⟩
  have nI : ¬ (W I ∨ I = D) := fun q => q.elim (fun q => o.fresh fr q) fun e => by
    obtain ⟨ob, vs, e', _⟩ := i.flds
    have e'' := get_size_none (h := s₂.heap)
    rw [hD, ← e, e'] at e''; cases e''
  have finR : ∀ s' acc', CS w (cx.sub scope.names) s.heap (fun b => W b ∨ b = D) (compEnvC scope cl C env) D s'.heap acc' → Cs I D (compEnvC scope cl C env) { s₂ with heap := h₁, toks := s₂.toks + ([] : List (Str × Value)).length } s' → K acc' → compPost (MD w) A E use Q (.ref D) C (.ok .next) s' := by
    intro s' acc' c' e' hk
    obtain ⟨vs, q1, q2⟩ := c'.acc
    refine fin D C vs acc' s' fD fC hDC q1 q2 hk ?_ c'.ns
    obtain ⟨h₃, t₃, ⟨gs', rfl, ab'⟩, k₄⟩ := e'
    obtain ⟨h₂, t₂, ⟨gs, rfl, ab⟩, k₅⟩ := k₂
    exact ⟨h₃, t₃, ⟨_, rfl, ab.trans ab'⟩, fun b ob e => (c'.up b ob e).1⟩
  have loop := hg A (compPost (MD w) A E use Q (.ref D) C) (compEnvC scope cl C env) { s₂ with heap := h₁, toks := s₂.toks + ([] : List (Str × Value)).length } s.heap (fun b => W b ∨ b = D) D I rm cs i₁ nI fr finR
  exact compStart_of rfl loop (It_self i₁ loop)

theorem SEf_comp {elt iter target : Expr} {ifs : List Expr} {gs : List Comprehension} {scope : Scope} {K : List Dat → Prop} (ok : compOk cx.sc scope = true)
    (h : SIt w n cx iter fun its => SG w n (cx.sub scope.names) (.ListComp elt (⟨target, iter, ifs, 0⟩ :: gs) scope pos) 0 its [] K)
    (hs : ∀ env x, foldedSetIterable iter env x = pure x) : SEf w n cx (.ListComp elt (⟨target, iter, ifs, 0⟩ :: gs) scope pos) K := fun A E env s W rm g o v => by
  rw [eval_ListComp]
  refine comp_core (CompOk.of ok) h hs rm g o v fun D C vs ds s' fD fC hDC hl hr hk kp ⟨m, hm⟩ => ⟨m, hm, fun h' hs' => ?_⟩
  have nn : ∀ a its, ¬ (W a ∨ a = D) → s'.heap.IsList a its → a ≠ C := fun a its _ l => list_ne_ns l hm
  refine ⟨D, vs, ds, rfl, fD, hl.at fun o e => hs'.extBut D o hDC e, hr.but hs'.extBut nn, hk, ?_⟩
  obtain ⟨h₂, t₂, ⟨gs, rfl, ab⟩, k₂⟩ := kp
  exact ⟨h', t₂, ⟨_, rfl, ab⟩, fun b ob e => hs'.extBut b ob (by rintro rfl; rw [fC] at e; cases e) (k₂ b ob e)⟩
theorem SE_comp {elt iter target : Expr} {ifs : List Expr} {gs : List Comprehension} {scope : Scope} {K : Dat → Prop} (ok : compOk cx.sc scope = true)
    (h : SIt w n cx iter fun its => SG w n (cx.sub scope.names) (.ListComp elt (⟨target, iter, ifs, 0⟩ :: gs) scope pos) 0 its [] fun ds => K (.list ds))
    (hs : ∀ env x, foldedSetIterable iter env x = pure x) : SE w n cx (.ListComp elt (⟨target, iter, ifs, 0⟩ :: gs) scope pos) K := SE.of_f (SEf_comp ok h hs)
end
end
section
/-! statements -/
/-- inside a call: B the heap before it, W what its values keep away from, O its own list -/
structure SI (w : World) (cx : Cx) (B : Heap) (W O : Addr → Prop) (env : Env) (h : Heap) : Prop where
  g : GH w B
  wb : WOk W B
  up : ∀ b o, B.get? b = some o → h.get? b = some o ∧ b ≠ env.locals ∧ (∀ n c, env.cells.lookup n = some c → b ≠ c) ∧ ¬ O b
  ok : EnvOk env h (fun b => W b ∨ O b) cx
  own : ∀ y ds, cx.ω = some (y, ds) → ∃ a vs, VarIs env h y (.ref a) ∧ h.PlainList a vs.toArray ∧ RepAll h (fun b => W b ∨ O b) vs ds ∧ O a
  ol : ∀ a, O a → ∃ its, h.PlainList a its
  ns : ∃ m, h.Ns env.locals m
  cel : ∀ n c, env.cells.lookup n = some c → ∃ v, h.IsCell c v
  apart : env.cells.Pairwise fun x y => x.2 ≠ y.2
/-- what a statement may change; X: what is not looked at any more -/
noncomputable def Ef (O X : Addr → Prop) (env : Env) (s s' : Shared) : Prop := ∃ h tk, GnB s s' h tk ∧
  (∀ b o, b ≠ env.locals → (∀ n c, env.cells.lookup n = some c → b ≠ c) → ¬ O b → ¬ X b → s.heap.get? b = some o → h.get? b = some o) ∧ (∀ b o, ¬ X b → s.heap.get? b = some o → ∃ o', h.get? b = some o')
noncomputable def Grow (O O' X : Addr → Prop) (h : Heap) : Prop := ∀ a, O' a → O a ∨ X a ∨ h.get? a = none
noncomputable abbrev N0 : Addr → Prop := fun _ => False
theorem Ef.refl {O X : Addr → Prop} {env : Env} (s : Shared) : Ef O X env s s := ⟨s.heap, s.toks, ⟨_, rfl, GB.refl _⟩, fun _ _ _ _ _ _ e => e, fun _ o _ e => ⟨o, e⟩⟩
theorem Ef.kp {O X : Addr → Prop} {env : Env} {s s' : Shared} (x : Kp s s') : Ef O X env s s' := by
  obtain ⟨h, t, ⟨gs, rfl, ab⟩, k⟩ := x; exact ⟨h, t, ⟨_, rfl, ab⟩, fun b o _ _ _ _ e => k b o e, fun b o _ e => ⟨o, k b o e⟩⟩
theorem Ef.trans {O O' X : Addr → Prop} {env : Env} {s s' s'' : Shared} (x : Ef O X env s s') (g : Grow O O' X s.heap) (y : Ef O' X env s' s'') : Ef O X env s s'' := by
  obtain ⟨h, t, ⟨gs, rfl, ab⟩, k, l⟩ := x
  obtain ⟨h', t', ⟨gs', rfl, ab'⟩, k', l'⟩ := y
  refine ⟨h', t', ⟨_, rfl, ab.trans ab'⟩, fun b o n1 n2 n3 n4 e => k' b o n1 n2 (fun q => ?_) n4 (k b o n1 n2 n3 n4 e), fun b o n e => let ⟨o', e'⟩ := l b o n e; l' b o' n e'⟩
  rcases g b q with q | q | q
  · exact n3 q
  · exact n4 q
  · rw [q] at e; cases e
theorem Ef.grow {O O' O'' X : Addr → Prop} {env : Env} {s s' : Shared} (x : Ef O X env s s') (g : Grow O O' X s.heap) (y : Grow O' O'' X s'.heap) : Grow O O'' X s.heap := fun a q => by
  rcases y a q with q | q | q
  · exact g a q
  · exact .inr (.inl q)
  · by_cases n : X a
    · exact .inr (.inl n)
    · refine .inr (.inr ?_)
      obtain ⟨h, t, ⟨gs, rfl, ab⟩, k, l⟩ := x
      cases e : s.heap.get? a with
      | none => rfl
      | some o => obtain ⟨o', e'⟩ := l a o n e; rw [show h.get? a = none from q] at e'; cases e'
theorem Ef.wide {O X : Addr → Prop} {env : Env} {s s' : Shared} (x : Ef O N0 env s s') : Ef O X env s s' := by
  obtain ⟨h, t, ⟨gs, rfl, ab⟩, k, l⟩ := x
  exact ⟨h, t, ⟨_, rfl, ab⟩, fun b o n1 n2 n3 _ e => k b o n1 n2 n3 id e, fun b o _ e => l b o id e⟩
theorem Grow.wide {O O' X : Addr → Prop} {h : Heap} (x : Grow O O' N0 h) : Grow O O' X h := fun a q => (x a q).imp id fun r => r.elim (fun f => f.elim) .inr
/-- what is not there at the start is no loss -/
theorem Ef.base {O X : Addr → Prop} {env : Env} {s s' s'' : Shared} (x : Kp s s') (n : ∀ a, X a → s.heap.get? a = none) (y : Ef O X env s' s'') : Ef O N0 env s s'' := by
  obtain ⟨h, t, ⟨gs, rfl, ab⟩, k⟩ := x
  obtain ⟨h', t', ⟨gs', rfl, ab'⟩, k', l'⟩ := y
  have nx : ∀ b o, s.heap.get? b = some o → ¬ X b := fun b o e q => by rw [n b q] at e; cases e
  exact ⟨h', t', ⟨_, rfl, ab.trans ab'⟩, fun b o n1 n2 n3 _ e => k' b o n1 n2 n3 (nx b o e) (k b o e), fun b o _ e => l' b o (nx b o e) (k b o e)⟩
theorem Grow.base {O O' X : Addr → Prop} {s s' : Shared} (x : Kp s s') (n : ∀ a, X a → s.heap.get? a = none) (y : Grow O O' X s'.heap) : Grow O O' N0 s.heap := fun a q => by
  rcases y a q with q | q | q
  · exact .inl q
  · exact .inr (.inr (n a q))
  · exact .inr (.inr (x.fresh q))
theorem Grow.refl {O X : Addr → Prop} {h : Heap} : Grow O O X h := fun a q => .inl q

namespace SI
variable {w : World} {cx : Cx} {B : Heap} {W O : Addr → Prop} {env : Env} {h h' : Heap}
theorem gh (x : SI w cx B W O env h) : GH w h := x.g.keeps fun b o e => (x.up b o e).1
theorem wok (x : SI w cx B W O env h) : WOk (fun b => W b ∨ O b) h := fun a q => q.elim (fun q => let ⟨o, e⟩ := x.wb a q; ⟨o, (x.up a o e).1⟩) fun q => let ⟨its, n, e⟩ := x.ol a q; ⟨_, e⟩
theorem nw (x : SI w cx B W O env h) {a : Addr} (q : O a) : ¬ W a := fun q' => let ⟨o, e⟩ := x.wb a q'; (x.up a o e).2.2.2 q
theorem keeps (x : SI w cx B W O env h) (k : ∀ b o, h.get? b = some o → h'.get? b = some o) : SI w cx B W O env h' :=
  ⟨x.g, x.wb, fun b o e => ⟨k _ _ (x.up b o e).1, (x.up b o e).2⟩, x.ok.keeps k, fun y ds e => let ⟨a, vs, p, q, r, t⟩ := x.own y ds e; ⟨a, vs, p.keeps k, q.at fun o e => k a o e, r.keeps k, t⟩,
    fun a q => let ⟨its, l⟩ := x.ol a q; ⟨its, l.at fun o e => k a o e⟩, let ⟨m, p⟩ := x.ns; ⟨m, p.keeps k⟩, fun n c e => let ⟨v, p⟩ := x.cel n c e; ⟨v, p.keeps k⟩, x.apart⟩
theorem flds (x : SI w cx B W O env h) {I : Addr} (k : Heap.ExtBut I h h') (f : Flds h I) (nb : B.get? I = none) : SI w cx B W O env h' :=
  ⟨x.g, x.wb, fun b o e => ⟨k _ _ (by rintro rfl; rw [nb] at e; cases e) (x.up b o e).1, (x.up b o e).2⟩, x.ok.flds k f,
    fun y ds e => let ⟨a, vs, p, q, r, t⟩ := x.own y ds e; ⟨a, vs, p.but k (fun _ q => f.ne_ns q) (fun _ _ q => f.ne_cell q), q.at fun o e => k a o (f.ne_list q.isList) e, r.but k fun _ _ _ q => f.ne_list q, t⟩,
    fun a q => let ⟨its, l⟩ := x.ol a q; ⟨its, l.at fun o e => k a o (f.ne_list l.isList) e⟩, let ⟨m, p⟩ := x.ns; ⟨m, p.extBut k (f.ne_ns p)⟩, fun n c e => let ⟨v, o, p1, p2⟩ := x.cel n c e; ⟨v, o, k c o (f.ne_cell ⟨o, p1, p2⟩) p1, p2⟩, x.apart⟩
/-- less is known -/
theorem weak (x : SI w cx B W O env h) {cx' : Cx} (hs : cx'.sc = cx.sc) (hr : ∀ y d, cx'.ρ.lookup y = some d → cx.ρ.lookup y = some d) (ho : cx'.ω = cx.ω ∨ cx'.ω = none) : SI w cx' B W O env h := by
  have hω : ∀ y ds, cx'.ω = some (y, ds) → cx.ω = some (y, ds) := fun y ds e => by
    rcases ho with q | q
    · rw [← q]; exact e
    · rw [q] at e; cases e
  exact ⟨x.g, x.wb, x.up, ⟨x.ok.globals, x.ok.builtins, x.ok.kind, by rw [hs]; exact x.ok.names, x.ok.cells, fun y d e => x.ok.var y d (hr y d e), fun y ds e => x.ok.own y ds (hω y ds e)⟩, fun y ds e => x.own y ds (hω y ds e), x.ol, x.ns, x.cel, x.apart⟩
/-- the own list is given back to the data -/
theorem release (x : SI w cx B W O env h) {y : Str} {ds : List Dat} (hω : cx.ω = some (y, ds)) : SI w { cx with ω := none, ρ := (y, .list ds) :: cx.ρ } B W (fun _ => False) env h := by
  obtain ⟨a, vs, p, q, r, t⟩ := x.own y ds hω
  have wk : ∀ b, (W b ∨ False) → W b ∨ O b := fun b q => q.elim .inl fun f => f.elim
  have nd : ¬ (W a ∨ False) := fun q => q.elim (x.nw t) id
  refine ⟨x.g, x.wb, fun b o e => ⟨(x.up b o e).1, (x.up b o e).2.1, (x.up b o e).2.2.1, id⟩, ⟨x.ok.globals, x.ok.builtins, x.ok.kind, x.ok.names, x.ok.cells, fun z d e => ?_, fun z es e => (by cases e)⟩, fun z es e => (by cases e), fun a q => q.elim, x.ns, x.cel, x.apart⟩
  change ((y, Dat.list ds) :: cx.ρ).lookup z = some d at e
  rw [List.lookup_cons] at e
  cases hz : z == y with
  | true =>
    rw [hz] at e; cases e
    rw [beq_iff_eq.mp hz]
    exact ⟨.ref a, p, .list q nd (r.weaken wk)⟩
  | false =>
    rw [hz] at e
    obtain ⟨u, b, c⟩ := x.ok.var z d e
    exact ⟨u, b, c.weaken wk⟩
end SI

section
variable {w : World} {A : Around} {E : Value → Shared → Prop} {env : Env} {s : Shared} {cx : Cx} {B : Heap} {W O : Addr → Prop}
noncomputable def isVar (cx : Cx) (x : Str) : Prop := cx.sc.lookup x = some .local ∨ (cx.sc.lookup x = some .cell ∧ (x == ("__classdict__" : Str)) = false)
/-- what a store of one's own variable changes -/
theorem store_any {x : Str} {v : Value} {Q : Unit → Shared → Prop} (i : SI w cx B W O env s.heap) (hx : isVar cx x)
    (h : ∀ h' tk, VarIs env h' x v → (∀ y u, y ≠ x → VarIs env s.heap y u → VarIs env h' y u) →
      (∃ I, (I = env.locals ∨ ∃ n, env.cells.lookup n = some I) ∧ Heap.ExtBut I s.heap h') → (∃ m, h'.Ns env.locals m) → (∀ n c, env.cells.lookup n = some c → ∃ v, h'.IsCell c v) → Q () { s with heap := h', toks := tk }) :
    wpAny (MD w) A (storeName env x v) Q E s := by
  obtain ⟨m, hm⟩ := i.ns
  rcases hx with hx | ⟨hx, hcd⟩
  · have kx : env.kindOf x = some .local := by show env.scope.names.lookup x = _; rw [i.ok.names]; exact hx
    refine wpAny_storeName_local kx hm (fun h' hn' hs' => ?_) (by rw [i.ok.kind]; rfl)
    exact h h' _ (.inl ⟨kx, _, hn', by simp⟩) (fun y u hy q => VarIs.bindL hm hn' hs' hy q) ⟨_, .inl rfl, hs'.extBut⟩ ⟨_, hn'⟩ fun n c e => let ⟨u, o, p1, p2⟩ := i.cel n c e; ⟨u, o, hs'.extBut c o (ns_ne_cell hm ⟨o, p1, p2⟩).symm p1, p2⟩
  · have kx : env.kindOf x = some .cell := by show env.scope.names.lookup x = _; rw [i.ok.names]; exact hx
    obtain ⟨c, hc⟩ := i.ok.cells x kx
    obtain ⟨v₀, hv₀⟩ := i.cel x c hc
    refine wpAny_storeName_cell i.ok.kind kx hc hv₀ fun h' hc' hs' => ?_
    have other : ∀ n c', n ≠ x → env.cells.lookup n = some c' → c' ≠ c := fun n c' hn e e' => hn (name_of_addr i.apart (mem_of_lookup e) (e' ▸ mem_of_lookup hc))
    refine h h' s.toks (.inr ⟨.inl kx, hcd, c, hc, hc'⟩) (fun y u hy q => ?_) ⟨c, .inr ⟨x, hc⟩, hs'.extBut⟩ ⟨m, hm.extBut hs'.extBut (ns_ne_cell hm hv₀)⟩ fun n c' e => ?_
    · rcases q with ⟨a, m', b, d⟩ | ⟨a, d, c', b, e⟩
      · exact .inl ⟨a, m', b.extBut hs'.extBut (ns_ne_cell b hv₀), d⟩
      · exact .inr ⟨a, d, c', b, let ⟨o, e1, e2⟩ := e; ⟨o, hs'.extBut _ _ (other y c' hy b) e1, e2⟩⟩
    · by_cases hn : n = x
      · subst hn; rw [hc] at e; cases e; exact ⟨_, hc'⟩
      · obtain ⟨u, o, p1, p2⟩ := i.cel n c' e
        exact ⟨u, o, hs'.extBut _ _ (other n c' hn e) p1, p2⟩

theorem SI.ef {h' : Heap} {tk : Nat} (hI : ∃ I, (I = env.locals ∨ ∃ n, env.cells.lookup n = some I) ∧ Heap.ExtBut I s.heap h') (hns : ∃ m, h'.Ns env.locals m) (hcel : ∀ n c, env.cells.lookup n = some c → ∃ v, h'.IsCell c v) : Ef O N0 env s { s with heap := h', toks := tk } := by
  obtain ⟨I, hI, k⟩ := hI
  refine ⟨h', tk, ⟨_, rfl, GB.refl _⟩, fun b o n1 n2 _ _ e => k b o (fun q => ?_) e, fun b o _ e => ?_⟩
  · rcases hI with p | ⟨n, p⟩
    · exact n1 (q.trans p)
    · exact n2 n I p q
  · by_cases q : b = I
    · subst q
      rcases hI with p | ⟨n, p⟩
      · obtain ⟨m, o', es, ep, e', _⟩ := hns; rw [p]; exact ⟨o', e'⟩
      · obtain ⟨v, o', e', _⟩ := hcel n b p; exact ⟨o', e'⟩
    · exact ⟨o, k b o q e⟩
/-- places that are lists are no variables -/
theorem SI.nl {h : Heap} (i : SI w cx B W O env h) {I a : Addr} {its : Array Value} (hI : I = env.locals ∨ ∃ n, env.cells.lookup n = some I) (l : h.IsList a its) : a ≠ I := by
  rcases hI with p | ⟨n, p⟩
  · obtain ⟨m, hm⟩ := i.ns; rw [p]; exact list_ne_ns l hm
  · obtain ⟨v, hv⟩ := i.cel n I p; exact list_ne_cell l hv
theorem SI.nf {h : Heap} (i : SI w cx B W O env h) {I a : Addr} (hI : I = env.locals ∨ ∃ n, env.cells.lookup n = some I) (l : Flds h a) : a ≠ I := by
  rcases hI with p | ⟨n, p⟩
  · obtain ⟨m, hm⟩ := i.ns; rw [p]; exact (l.ne_ns hm).symm
  · obtain ⟨v, hv⟩ := i.cel n I p; exact (l.ne_cell hv).symm

theorem store_data {x : Str} {v : Value} {d : Dat} {Q : Unit → Shared → Prop} (i : SI w cx B W O env s.heap) (hx : isVar cx x) (r : Rep s.heap (fun b => W b ∨ O b) v d) (hω : ∀ ds, cx.ω ≠ some (x, ds))
    (h : ∀ s', SI w (cx.bind x d) B W O env s'.heap → Ef O N0 env s s' → Q () s') : wpAny (MD w) A (storeName env x v) Q E s := by
  refine store_any i hx fun h' tk hv hy ⟨I, hI, hk⟩ hns hcel => h _ ?_ (SI.ef ⟨I, hI, hk⟩ hns hcel)
  have nn : ∀ a its, ¬ (W a ∨ O a) → s.heap.IsList a its → a ≠ I := fun a its _ l => i.nl hI l
  have own : ∀ y ds, cx.ω = some (y, ds) → ∃ a vs, VarIs env h' y (.ref a) ∧ h'.PlainList a vs.toArray ∧ RepAll h' (fun b => W b ∨ O b) vs ds ∧ O a := fun y ds e =>
    let ⟨a, vs, p, q, r, t⟩ := i.own y ds e; ⟨a, vs, hy y _ (by rintro rfl; exact hω ds e) p, q.at fun o e => hk a o (i.nl hI q.isList) e, r.but hk nn, t⟩
  refine ⟨i.g, i.wb, fun b o e => ⟨hk _ _ (fun q => ?_) (i.up b o e).1, (i.up b o e).2⟩, ⟨i.ok.globals, i.ok.builtins, i.ok.kind, i.ok.names, i.ok.cells, fun y d' e => ?_, fun y ds e => let ⟨a, vs, p, q, r, t⟩ := own y ds e; ⟨a, vs, p, q, r, .inr t⟩⟩, own,
    fun a q => let ⟨its, l⟩ := i.ol a q; ⟨its, l.at fun o e => hk a o (i.nl hI l.isList) e⟩, hns, hcel, i.apart⟩
  · rcases hI with p | ⟨n, p⟩
    · exact (i.up b o e).2.1 (q.trans p)
    · exact (i.up b o e).2.2.1 n I p q
  · change ((x, d) :: cx.ρ).lookup y = some d' at e
    rw [List.lookup_cons] at e
    cases hyx : y == x with
    | true =>
      rw [hyx] at e; cases e
      rw [beq_iff_eq.mp hyx]
      exact ⟨v, hv, r.but hk nn⟩
    | false =>
      rw [hyx] at e
      obtain ⟨u, p, q⟩ := i.ok.var y d' e
      exact ⟨u, hy y u (by intro e'; rw [e'] at hyx; simp at hyx) p, q.but hk nn⟩

theorem store_own {x : Str} {a : Addr} {vs : List Value} {ds : List Dat} {Q : Unit → Shared → Prop} (i : SI w cx B W O env s.heap) (hx : isVar cx x) (hl : s.heap.PlainList a vs.toArray) (r : RepAll s.heap (fun b => (W b ∨ O b) ∨ b = a) vs ds)
    (hρ : cx.ρ.lookup x = none) (hω : cx.ω = none) (fr : ∀ b o, B.get? b = some o → b ≠ a) (nd : ∀ y d, cx.ρ.lookup y = some d → ∃ v, VarIs env s.heap y v ∧ Rep s.heap (fun b => (W b ∨ O b) ∨ b = a) v d)
    (h : ∀ s', SI w { cx with ω := some (x, ds) } B W (fun b => O b ∨ b = a) env s'.heap → Ef O N0 env s s' → Q () s') : wpAny (MD w) A (storeName env x (.ref a)) Q E s := by
  refine store_any i hx fun h' tk hv hy ⟨I, hI, hk⟩ hns hcel => h _ ?_ (SI.ef ⟨I, hI, hk⟩ hns hcel)
  have wk : ∀ b, (W b ∨ (O b ∨ b = a)) → (W b ∨ O b) ∨ b = a := fun b q => q.elim (fun q => .inl (.inl q)) fun q => q.elim (fun q => .inl (.inr q)) .inr
  have nn : ∀ b its, ¬ (W b ∨ (O b ∨ b = a)) → s.heap.IsList b its → b ≠ I := fun a its _ l => i.nl hI l
  have own : ∀ y es, ({ cx with ω := some (x, ds) } : Cx).ω = some (y, es) → ∃ a' vs, VarIs env h' y (.ref a') ∧ h'.PlainList a' vs.toArray ∧ RepAll h' (fun b => W b ∨ (O b ∨ b = a)) vs es ∧ (O a' ∨ a' = a) := fun y es e => by
    cases e
    exact ⟨a, vs, hv, hl.at fun o e => hk a o (i.nl hI hl.isList) e, (r.weaken wk).but hk nn, .inr rfl⟩
  refine ⟨i.g, i.wb, fun b o e => ⟨hk _ _ (fun q => ?_) (i.up b o e).1, (i.up b o e).2.1, (i.up b o e).2.2.1, fun q => q.elim (i.up b o e).2.2.2 (fr b o e)⟩, ⟨i.ok.globals, i.ok.builtins, i.ok.kind, i.ok.names, i.ok.cells, fun y d' e => ?_, fun y ds e => let ⟨a, vs, p, q, r, t⟩ := own y ds e; ⟨a, vs, p, q, r, .inr t⟩⟩, own,
    fun b q => q.elim (fun q => let ⟨its, l⟩ := i.ol b q; ⟨its, l.at fun o e => hk b o (i.nl hI l.isList) e⟩) (fun q => (by subst q; exact ⟨_, hl.at fun o e => hk b o (i.nl hI hl.isList) e⟩)), hns, hcel, i.apart⟩
  · rcases hI with p | ⟨n, p⟩
    · exact (i.up b o e).2.1 (q.trans p)
    · exact (i.up b o e).2.2.1 n I p q
  · have hyx : y ≠ x := by rintro rfl; rw [show ({ cx with ω := some (y, ds) } : Cx).ρ = cx.ρ from rfl, hρ] at e; cases e
    obtain ⟨u, p, q⟩ := nd y d' e
    exact ⟨u, hy y u hyx p, (q.weaken wk).but hk nn⟩
end
end
section
noncomputable def PF (w : World) (Kn : Cx → Prop) (Kr : Dat → Prop) (Kb : Cx → Prop) (B : Heap) (W O X : Addr → Prop) (env : Env) (s : Shared) (f : Flow) (s' : Shared) : Prop := match f with
  | .next => ∃ O' cx', SI w cx' B W O' env s'.heap ∧ Ef O X env s s' ∧ Grow O O' X s.heap ∧ Kn cx'
  | .brk => ∃ O' cx', SI w cx' B W O' env s'.heap ∧ Ef O X env s s' ∧ Grow O O' X s.heap ∧ Kb cx'
  | .cont => False
  | .ret v => ∃ d, Rep s'.heap W v d ∧ Kr d ∧ Ef O X env s s' ∧ ∀ b o, B.get? b = some o → s'.heap.get? b = some o
section
variable {w : World} {Kn Kb : Cx → Prop} {Kr : Dat → Prop} {B : Heap} {W O O' X : Addr → Prop} {env : Env} {s s₁ : Shared} {f : Flow} {s' : Shared}
theorem PF.trans (e : Ef O X env s s₁) (g : Grow O O' X s.heap) (h : PF w Kn Kr Kb B W O' X env s₁ f s') : PF w Kn Kr Kb B W O X env s f s' := by
  cases f with
  | next => obtain ⟨O'', cx', h1, h2, h3, h4⟩ := h; exact ⟨O'', cx', h1, e.trans g h2, e.grow g h3, h4⟩
  | brk => obtain ⟨O'', cx', h1, h2, h3, h4⟩ := h; exact ⟨O'', cx', h1, e.trans g h2, e.grow g h3, h4⟩
  | cont => exact h
  | ret v => obtain ⟨d, h1, h2, h3, h4⟩ := h; exact ⟨d, h1, h2, e.trans g h3, h4⟩
theorem PF.kp (e : Kp s s₁) (h : PF w Kn Kr Kb B W O X env s₁ f s') : PF w Kn Kr Kb B W O X env s f s' := PF.trans (Ef.kp e) Grow.refl h
theorem PF.base (e : Kp s s₁) (n : ∀ a, X a → s.heap.get? a = none) (h : PF w Kn Kr Kb B W O X env s₁ f s') : PF w Kn Kr Kb B W O N0 env s f s' := by
  cases f with
  | next => obtain ⟨O'', cx', h1, h2, h3, h4⟩ := h; exact ⟨O'', cx', h1, Ef.base e n h2, Grow.base e n h3, h4⟩
  | brk => obtain ⟨O'', cx', h1, h2, h3, h4⟩ := h; exact ⟨O'', cx', h1, Ef.base e n h2, Grow.base e n h3, h4⟩
  | cont => exact h
  | ret v => obtain ⟨d, h1, h2, h3, h4⟩ := h; exact ⟨d, h1, h2, Ef.base e n h3, h4⟩
theorem PF.wide (h : PF w Kn Kr Kb B W O N0 env s f s') : PF w Kn Kr Kb B W O X env s f s' := by
  cases f with
  | next => obtain ⟨O'', cx', h1, h2, h3, h4⟩ := h; exact ⟨O'', cx', h1, h2.wide, h3.wide, h4⟩
  | brk => obtain ⟨O'', cx', h1, h2, h3, h4⟩ := h; exact ⟨O'', cx', h1, h2.wide, h3.wide, h4⟩
  | cont => exact h
  | ret v => obtain ⟨d, h1, h2, h3, h4⟩ := h; exact ⟨d, h1, h2, h3.wide, h4⟩
theorem PF.mono {Kn' Kb' : Cx → Prop} {Kr' : Dat → Prop} (h : PF w Kn Kr Kb B W O X env s f s') (a : ∀ c, Kn c → Kn' c) (b : ∀ d, Kr d → Kr' d) (c : ∀ x, Kb x → Kb' x) : PF w Kn' Kr' Kb' B W O X env s f s' := by
  cases f with
  | next => obtain ⟨O'', cx', h1, h2, h3, h4⟩ := h; exact ⟨O'', cx', h1, h2, h3, a _ h4⟩
  | brk => obtain ⟨O'', cx', h1, h2, h3, h4⟩ := h; exact ⟨O'', cx', h1, h2, h3, c _ h4⟩
  | cont => exact h
  | ret v => obtain ⟨d, h1, h2, h3, h4⟩ := h; exact ⟨d, h1, b _ h2, h3, h4⟩
end

noncomputable def SS (w : World) (n : Nat) (cx : Cx) (st : Stmt) (Kn : Cx → Prop) (Kr : Dat → Prop) (Kb : Cx → Prop) : Prop :=
  ∀ (A : Around) (E : Value → Shared → Prop) (env : Env) (s : Shared) (B : Heap) (W O : Addr → Prop), Rm n A → SI w cx B W O env s.heap → wpAny (MD w) A (exec st env) (PF w Kn Kr Kb B W O N0 env s) E s
noncomputable def SSs (w : World) (n : Nat) (cx : Cx) (sts : List Stmt) (Kn : Cx → Prop) (Kr : Dat → Prop) (Kb : Cx → Prop) : Prop :=
  ∀ (A : Around) (E : Value → Shared → Prop) (env : Env) (s : Shared) (B : Heap) (W O : Addr → Prop), Rm n A → SI w cx B W O env s.heap → wpAny (MD w) A (execs sts env) (PF w Kn Kr Kb B W O N0 env s) E s
/-- a `for` under way -/
noncomputable def SF (w : World) (n : Nat) (cx : Cx) (target : Expr) (body orelse : List Stmt) (its : List Dat) (Kn : Cx → Prop) (Kr : Dat → Prop) (Kb : Cx → Prop) : Prop :=
  ∀ (A : Around) (R : Result → Shared → Prop) (env : Env) (s : Shared) (B : Heap) (W O : Addr → Prop) (I : Addr), Rm n A → SI w cx B W O env s.heap → It s.heap (fun b => W b ∨ O b) I its → B.get? I = none →
    (∀ f s', PF w Kn Kr Kb B W O (fun b => b = I) env s f s' → R (.ok f) s') → codeAny (MD w) A (.forLoop target (.ref I) body orelse env) R s
noncomputable def SW (w : World) (n : Nat) (cx : Cx) (test : Expr) (body orelse : List Stmt) (Kn : Cx → Prop) (Kr : Dat → Prop) (Kb : Cx → Prop) : Prop :=
  ∀ (A : Around) (R : Result → Shared → Prop) (env : Env) (s : Shared) (B : Heap) (W O : Addr → Prop), Rm n A → SI w cx B W O env s.heap →
    (∀ f s', PF w Kn Kr Kb B W O N0 env s f s' → R (.ok f) s') → codeAny (MD w) A (.whileLoop test body orelse env) R s

section
variable {w : World} {n : Nat} {cx : Cx} {pos : Pos} {k : Nat} {l r : Expr} {Kn Kb : Cx → Prop} {Kr : Dat → Prop}
theorem SSs.mono {sts : List Stmt} {Kn' Kb' : Cx → Prop} {Kr' : Dat → Prop} (x : SSs w n cx sts Kn Kr Kb) (a : ∀ c, Kn c → Kn' c) (b : ∀ d, Kr d → Kr' d) (c : ∀ x, Kb x → Kb' x) : SSs w n cx sts Kn' Kr' Kb' := fun A E env s B W O rm i =>
  wpAny_mono (x A E env s B W O rm i) (fun _ _ h => h.mono a b c) fun _ _ q => q
theorem SSs_weak {cx' : Cx} {sts : List Stmt} (x : SSs w n cx' sts Kn Kr Kb) (hs : cx'.sc = cx.sc) (hr : ∀ y d, cx'.ρ.lookup y = some d → cx.ρ.lookup y = some d) (ho : cx'.ω = cx.ω ∨ cx'.ω = none) : SSs w n cx sts Kn Kr Kb := fun A E env s B W O rm i =>
  x A E env s B W O rm (i.weak hs hr ho)
theorem SF_weak {cx' : Cx} {target : Expr} {body orelse : List Stmt} {its : List Dat} (x : SF w n cx' target body orelse its Kn Kr Kb) (hs : cx'.sc = cx.sc) (hr : ∀ y d, cx'.ρ.lookup y = some d → cx.ρ.lookup y = some d) (ho : cx'.ω = cx.ω ∨ cx'.ω = none) : SF w n cx target body orelse its Kn Kr Kb := fun A R env s B W O I rm i it nb h =>
  x A R env s B W O I rm (i.weak hs hr ho) it nb h
theorem SW_weak {cx' : Cx} {test : Expr} {body orelse : List Stmt} (x : SW w n cx' test body orelse Kn Kr Kb) (hs : cx'.sc = cx.sc) (hr : ∀ y d, cx'.ρ.lookup y = some d → cx.ρ.lookup y = some d) (ho : cx'.ω = cx.ω ∨ cx'.ω = none) : SW w n cx test body orelse Kn Kr Kb := fun A R env s B W O rm i h =>
  x A R env s B W O rm (i.weak hs hr ho) h
theorem SSs_release {y : Str} {ds : List Dat} {sts : List Stmt} (hω : cx.ω = some (y, ds)) (x : SSs w n { cx with ω := none, ρ := (y, .list ds) :: cx.ρ } sts Kn Kr Kb) : SSs w n cx sts Kn Kr Kb := fun A E env s B W O rm i =>
  wpAny_mono (x A E env s B W _ rm (i.release hω)) (fun f s' h => PF.trans (Ef.refl s) (fun a q => q.elim) h) fun _ _ q => q

theorem SSs_nil (h : Kn cx) : SSs w n cx [] Kn Kr Kb := fun A E env s B W O rm i => wpAny_execs_nil ⟨O, cx, i, Ef.refl s, Grow.refl, h⟩
theorem SSs_cons {st : Stmt} {sts : List Stmt} (h : SS w n cx st (fun cx' => SSs w n cx' sts Kn Kr Kb) Kr Kb) : SSs w n cx (st :: sts) Kn Kr Kb := fun A E env s B W O rm i => by
  refine wpAny_execs_cons (wpAny_mono (h A E env s B W O rm i) (fun f s₁ h₁ => ?_) fun _ _ q => q)
  cases f with
  | next =>
    obtain ⟨O', cx', h1, h2, h3, h4⟩ := h₁
    exact wpAny_mono (h4 A E env s₁ B W O' rm h1) (fun f s' h => PF.trans h2 h3 h) fun _ _ q => q
  | brk => exact h₁
  | cont => exact h₁
  | ret v => exact h₁

theorem SS_pass : Kn cx → SS w n cx (.Pass pos) Kn Kr Kb := fun h A E env s B W O rm i => wpAny_Pass ⟨O, cx, i, Ef.refl s, Grow.refl, h⟩
theorem SS_break (h : Kb cx) : SS w n cx (.Break pos) Kn Kr Kb := fun A E env s B W O rm i => wpAny_Break ⟨O, cx, i, Ef.refl s, Grow.refl, h⟩
theorem SS_return {e : Expr} (h : SE w n cx e Kr) : SS w n cx (.Return (some e) pos) Kn Kr Kb := fun A E env s B W O rm i => by
  refine wpAny_Return_some (wpAny_mono (h A E env s _ rm i.gh i.wok i.ok) (fun v s₁ ⟨d, rd, hd, k₁⟩ => ?_) fun _ _ q => q)
  exact ⟨d, rd.weaken fun _ q => .inl q, hd, Ef.kp k₁, fun b o e => k₁.k _ _ (i.up b o e).1⟩
theorem SS_if {test : Expr} {body orelse : List Stmt} (h : ST w n cx test fun b => if b = true then SSs w n cx body Kn Kr Kb else SSs w n cx orelse Kn Kr Kb) : SS w n cx (.If test body orelse pos) Kn Kr Kb := fun A E env s B W O rm i => by
  refine wpAny_If (wpAny_mono (h A E env s _ rm i.gh i.wok i.ok) (fun b s₁ ⟨h₁, k₁⟩ => ?_) fun _ _ q => q)
  cases b with
  | false =>
    simp only [Bool.false_eq_true, if_false] at h₁ ⊢
    exact wpAny_mono (h₁ A E env s₁ B W O rm (i.keeps k₁.k)) (fun f s' h => PF.kp k₁ h) fun _ _ q => q
  | true =>
    simp only [if_true] at h₁ ⊢
    exact wpAny_mono (h₁ A E env s₁ B W O rm (i.keeps k₁.k)) (fun f s' h => PF.kp k₁ h) fun _ _ q => q
theorem SS_assign {x : Str} {np : Pos} {e : Expr} (hx : isVar cx x) (hω : ∀ ds, cx.ω ≠ some (x, ds)) (hs : ∀ env, swapsWith e (some (.Name x np)) pos.line env = pure false) (h : SE w n cx e fun d => Kn (cx.bind x d)) : SS w n cx (.Assign [.Name x np] e pos) Kn Kr Kb := fun A E env s B W O rm i => by
  refine wpAny_Assign_Name (wpAny_mono (h A E env s _ rm i.gh i.wok i.ok) (fun v s₁ ⟨d, rd, hd, k₁⟩ => ?_) fun _ _ q => q) (hs env)
  exact store_data (i.keeps k₁.k) hx rd hω fun s' i' e' => PF.kp k₁ ⟨O, _, i', e', Grow.refl, hd⟩
theorem SS_assign_own {x : Str} {np : Pos} {e : Expr} (hx : isVar cx x) (hω : cx.ω = none) (hρ : cx.ρ.lookup x = none) (hs : ∀ env, swapsWith e (some (.Name x np)) pos.line env = pure false) (h : SEf w n cx e fun ds => Kn { cx with ω := some (x, ds) }) : SS w n cx (.Assign [.Name x np] e pos) Kn Kr Kb := fun A E env s B W O rm i => by
  refine wpAny_Assign_Name (wpAny_mono (h A E env s _ rm i.gh i.wok i.ok) (fun v s₁ ⟨a, vs, ds, hv, fr, hl, hr, hd, k₁⟩ => ?_) fun _ _ q => q) (hs env)
  subst hv
  refine store_own (i.keeps k₁.k) hx hl hr hρ hω (fun b o e => by rintro rfl; rw [(i.up b o e).1] at fr; cases fr) (fun y d e => ?_) fun s' i' e' => ⟨_, _, i', (Ef.kp k₁).trans Grow.refl e', fun b q => q.elim .inl fun q => .inr (.inr (by subst q; exact fr)), hd⟩
  obtain ⟨v, p, q⟩ := i.ok.var y d e
  exact ⟨v, p.keeps k₁.k, (q.more fun b q => q.imp id fun e => by subst e; exact fr).keeps k₁.k⟩
theorem SS_aug {x : Str} {np : Pos} {op : Operator} {e : Expr} {a : Dat} (hx : isVar cx x) (hl : cx.ρ.lookup x = some a) (hω : ∀ ds, cx.ω ≠ some (x, ds)) (h : SE w n cx e fun b => O2 w n (inplaceOp op) a b fun d => Kn (cx.bind x d)) : SS w n cx (.AugAssign (.Name x np) op e pos) Kn Kr Kb := fun A E env s B W O rm i => by
  obtain ⟨u, p, q⟩ := i.ok.var x a hl
  refine wpAny_AugAssign_Name (wp_var i.ok.kind p (wpAny_mono (h A E env s _ rm i.gh i.wok i.ok) (fun v s₁ ⟨b, rb, h₁, k₁⟩ => ?_) fun _ _ q => q))
  have i₁ := i.keeps k₁.k
  refine wpAny_mono (h₁ A E s₁ _ u v rm i₁.gh i₁.wok (q.keeps k₁.k) rb) (fun v' s₂ ⟨d, rd, hd, k₂⟩ => ?_) fun _ _ q => q
  exact store_data (i₁.keeps k₂.k) hx rd hω fun s' i' e' => PF.kp (k₁.trans k₂) ⟨O, _, i', e', Grow.refl, hd⟩
theorem SS_append {x : Str} {np ap cp : Pos} {e : Expr} {ds : List Dat} (hω : cx.ω = some (x, ds)) (h : SE w n cx e fun d => ds.length ≤ sizeLine ∧ Kn { cx with ω := some (x, ds ++ [d]) })
    (hdb : (x == ("__debug__" : Str)) = false) (hbase : ∀ env, attributeBase (.Name x np) "append" env (eval (.Name x np) env) = eval (.Name x np) env)
    (hfew : ∀ env, ((backTo cp (starEach [e] env)).all (fun x => !x.1) && (backToKw cp (keywordEach [] env)).all (fun x => x.1.isSome)
      && decide (([e] : List Expr).length + ([] : List Keyword).length + (if ([] : List Keyword).isEmpty then 0 else 1) < 30)) = true)
    (hline : (ap.endLine == cp.line) = true) (htrees : ∀ env, backTo cp (starEach [e] env) = [(false, eval e env)])
    (hsw : ∀ env, swapsWith (.Call (.Attribute (.Name x np) "append" ap) [e] [] cp) none pos.line env = pure false) :
    SS w n cx (.Expr (.Call (.Attribute (.Name x np) "append" ap) [e] [] cp) pos) Kn Kr Kb := fun A E env s B W O rm i => by
  obtain ⟨D, vs, p, hl, hr, hO⟩ := i.own x ds hω
  refine wpAny_Expr ?_ (by unfold interactive; rw [i.ok.kind]; rfl) (hsw env)
  refine wpAny_Call_append (hbase env) (hfew env) hline (htrees env) (wpAny_Name (wp_var i.ok.kind p ?_) hdb)
  refine ⟨D, vs.toArray, rfl, let ⟨n, e⟩ := hl; ⟨_, n, e, rfl, rfl, rfl⟩, wpAny_mono (h A E env s _ rm i.gh i.wok i.ok) (fun v s₁ ⟨d, rd, ⟨hsz, hd⟩, k₁⟩ => ?_) fun _ _ q => q⟩
  have i₁ := i.keeps k₁.k
  have hl₁ : s₁.heap.PlainList D vs.toArray := hl.at fun o e => k₁.k _ _ e
  have hr₁ := hr.keeps k₁.k
  refine wpAny_list_append_plain hl₁ (fun h' hl' hs' => ?_) (by rw [List.size_toArray, hr.length]; exact hsz)
  have nn : ∀ a its, ¬ (W a ∨ O a) → s₁.heap.IsList a its → a ≠ D := fun a its q _ e => q (.inr (e ▸ hO))
  have vk : ∀ y u, VarIs env s₁.heap y u → VarIs env h' y u := fun y u q => q.but hs'.extBut (fun m q => (list_ne_ns hl₁.isList q).symm) fun c v q => (list_ne_cell hl₁.isList q).symm
  have own : ∀ y es, ({ cx with ω := some (x, ds ++ [d]) } : Cx).ω = some (y, es) → ∃ a vs, VarIs env h' y (.ref a) ∧ h'.PlainList a vs.toArray ∧ RepAll h' (fun b => W b ∨ O b) vs es ∧ O a := fun y es e => by
    cases e
    exact ⟨D, vs ++ [v], vk _ _ (p.keeps k₁.k), by simpa using hl', (hr₁.but hs'.extBut nn).append (.cons (rd.but hs'.extBut nn) .nil), hO⟩
  refine ⟨O, _, (?_ : SI w { cx with ω := some (x, ds ++ [d]) } B W O env h'), (Ef.kp k₁).trans Grow.refl ⟨h', _, ⟨_, rfl, GB.refl _⟩, fun b o n1 n2 n3 _ e => ?_, fun b o _ e => ?_⟩, Grow.refl, hd⟩
  · refine ⟨i.g, i.wb, fun b o e => ⟨hs'.extBut _ _ (fun q => (i.up b o e).2.2.2 (q ▸ hO)) (i₁.up b o e).1, (i.up b o e).2⟩, ⟨i.ok.globals, i.ok.builtins, i.ok.kind, i.ok.names, i.ok.cells, fun y d' e => ?_, fun y es e => let ⟨a, vs, p, q, r, t⟩ := own y es e; ⟨a, vs, p, q, r, .inr t⟩⟩, own,
      fun a q => ?_, let ⟨m, p⟩ := i₁.ns; ⟨m, p.extBut hs'.extBut (list_ne_ns hl₁.isList p).symm⟩, fun n c e => let ⟨v, o, p1, p2⟩ := i₁.cel n c e; ⟨v, o, hs'.extBut c o (list_ne_cell hl₁.isList ⟨o, p1, p2⟩).symm p1, p2⟩, i.apart⟩
    · obtain ⟨u, p, q⟩ := i₁.ok.var y d' e
      exact ⟨u, vk y u p, q.but hs'.extBut nn⟩
    · by_cases e : a = D
      · subst e; exact ⟨_, hl'⟩
      · obtain ⟨its, l⟩ := i₁.ol a q; exact ⟨its, l.at fun o e' => hs'.extBut a o e e'⟩
  · exact hs'.extBut b o (fun q => n3 (q ▸ hO)) e
  · by_cases q : b = D
    · subst q; obtain ⟨n, e⟩ := hl'; exact ⟨_, e⟩
    · exact ⟨o, hs'.extBut b o q e⟩

theorem SW_step {test : Expr} {body orelse : List Stmt} (h : ST w n cx test fun b => if b = true then SSs w n cx body (fun cx' => SW w n cx' test body orelse Kn Kr Kb) Kr Kn else SSs w n cx orelse Kn Kr Kb) : SW w n cx test body orelse Kn Kr Kb := fun A R env s B W O rm i hR => by
  refine codeAny_of_tree ?_
  show wpAny _ A ((whileTurn test body orelse env).onRaise (fun x => do noteFrame x env; theTreesLotGoes x)) _ _ s
  refine wpAny_noted ?_
  simp only [whileTurn]
  refine wpAny_bind (wpAny_mono (h A _ env s _ rm i.gh i.wok i.ok) (fun b s₁ ⟨h₁, k₁⟩ => ?_) fun _ _ h' => h')
  cases b with
  | false =>
    simp only [Bool.false_eq_true, if_false] at h₁ ⊢
    exact wpAny_bind (wpAny_mono (h₁ A _ env s₁ B W O rm (i.keeps k₁.k)) (fun f s₃ h₃ => wpAny_pure (hR f s₃ (PF.kp k₁ h₃))) fun _ _ h' => h')
  | true =>
    simp only [if_true] at h₁ ⊢
    refine wpAny_bind (wpAny_mono (h₁ A _ env s₁ B W O rm (i.keeps k₁.k)) (fun f s₃ h₃ => ?_) fun _ _ h' => h')
    cases f with
    | next =>
      obtain ⟨O', cx', h1, h2, h3, h4⟩ := h₃
      exact wpAny_pure ⟨rfl, h4 A R env s₃ B W O' rm h1 fun f s' h => hR f s' (PF.kp k₁ (PF.trans h2 h3 h))⟩
    | cont => exact h₃.elim
    | brk => exact wpAny_pure (hR .next s₃ (PF.kp k₁ h₃))
    | ret v => exact wpAny_pure (hR (.ret v) s₃ (PF.kp (Kn := Kn) (Kb := Kb) (f := .ret v) k₁ h₃))
theorem SS_while {test : Expr} {body orelse : List Stmt} (h : SW w n cx test body orelse Kn Kr Kb) : SS w n cx (.While test body orelse pos) Kn Kr Kb := fun A E env s B W O rm i => by
  refine wpAny_While (h A _ env s B W O rm i fun f s' h => h)
end
end
section
section
variable {w : World} {n : Nat} {cx : Cx} {pos : Pos} {k : Nat} {l r : Expr} {Kn Kb : Cx → Prop} {Kr : Dat → Prop}
theorem loopF {A : Around} {R : Result → Shared → Prop} {s : Shared} {target : Expr} {it : Value} {body orelse : List Stmt} {env : Env}
    (h : wpAny (MD w) A (pyNext it) (fun r s₁ => match r with
      | none => wpAny (MD w) A (execs orelse env) (fun f s₃ => R (.ok f) s₃) (notedBy (MD w) A env fun e s' => R (.error e) s') s₁
      | some v => wpAny (MD w) A (assign target env v) (fun _ s₂ => wpAny (MD w) A (execs body env) (fun f s₃ => match f with
          | .next | .cont => codeAny (MD w) A (.forLoop target it body orelse env) R s₃
          | .brk => R (.ok .next) s₃
          | .ret v => R (.ok (.ret v)) s₃) (notedBy (MD w) A env fun e s' => R (.error e) s') s₂) (notedBy (MD w) A env fun e s' => R (.error e) s') s₁) (notedBy (MD w) A env fun e s' => R (.error e) s') s)
    (ht : ∀ v, letOwnedTupleGo target it v = pure ()) : codeAny (MD w) A (.forLoop target it body orelse env) R s := by
  refine codeAny_of_tree ?_
  show wpAny _ A ((forTurn target it body orelse env).onRaise (fun x => do noteFrame x env; theTreesLotGoes x)) _ _ s
  refine wpAny_noted ?_
  simp only [forTurn]
  refine wpAny_bind (wpAny_standAt (wpAny_bind (wpAny_onRaise (wpAny_mono h (fun r s₁ h₁ => ?_) fun _ _ h' => wpAny_standAt h'))))
  cases r with
  | none => exact wpAny_pure ⟨rfl, codeAny_block h₁⟩
  | some v =>
    refine wpAny_bind (wpAny_of_eq (ht v) ?_)
    refine wpAny_bind (wpAny_mono h₁ (fun _ s₂ h₂ => wpAny_bind (wpAny_mono h₂ (fun f s₃ h₃ => ?_) fun _ _ h' => h')) fun _ _ h' => h')
    cases f with
    | next => exact wpAny_pure ⟨rfl, h₃⟩
    | cont => exact wpAny_pure ⟨rfl, h₃⟩
    | brk => exact wpAny_pure h₃
    | ret v => exact wpAny_pure h₃

theorem It.ef {w : World} {cx : Cx} {B : Heap} {W O O' : Addr → Prop} {env : Env} {s s' : Shared} {I : Addr} {its : List Dat} (i : SI w cx B W O env s.heap) (x : It s.heap (fun b => W b ∨ O b) I its) (e : Ef O N0 env s s') (g : Grow O O' N0 s.heap) : It s'.heap (fun b => W b ∨ O' b) I its := by
  obtain ⟨h, t, ⟨gs, rfl, ab⟩, k, l⟩ := e
  have lk : ∀ a its, ¬ (W a ∨ O a) → s.heap.IsList a its → (∀ o, s.heap.get? a = some o → h.get? a = some o) ∧ ¬ (W a ∨ O' a) := fun a its q p => by
    obtain ⟨m, hm⟩ := i.ns
    refine ⟨fun o e => k a o (list_ne_ns p hm) (fun n c hc => let ⟨v, hv⟩ := i.cel n c hc; list_ne_cell p hv) (fun q' => q (.inr q')) id e, fun q' => ?_⟩
    rcases q' with q' | q'
    · exact q (.inl q')
    · rcases g a q' with q' | q' | q'
      · exact q (.inr q')
      · exact q'
      · obtain ⟨_, e, _⟩ := p; rw [q'] at e; cases e
  have fk : ∀ o, s.heap.get? I = some o → h.get? I = some o := fun o e => by
    have f := x.flds
    obtain ⟨m, hm⟩ := i.ns
    exact k I o (f.ne_ns hm).symm (fun n c hc => let ⟨v, hv⟩ := i.cel n c hc; (f.ne_cell hv).symm) (fun q => let ⟨its, l⟩ := i.ol I q; f.ne_list l.isList rfl) id e
  rcases x with ⟨ax, vs, j, p1, p2, p3, p4, p5⟩ | ⟨y, m, p1, p2, p3⟩
  · obtain ⟨q1, q2⟩ := lk ax _ p3 p2.isList
    exact .inl ⟨ax, vs, j, let ⟨o, a, b, c⟩ := p1; ⟨o, fk o a, b, c⟩, p2.at q1, q2, p4, p5.move lk⟩
  · exact .inr ⟨y, m, fk _ p1, p2, p3⟩

theorem SF_nil {target : Expr} {body orelse : List Stmt} (ht : ∀ it v, letOwnedTupleGo target it v = pure ()) (h : SSs w n cx orelse Kn Kr Kb) : SF w n cx target body orelse [] Kn Kr Kb := fun A R env s B W O I rm i it nb hR => by
  refine loopF (It_end rm.handled it fun h' hk => ?_) (ht _)
  have i₁ : SI w cx B W O env h' := i.flds hk it.flds nb
  have e₁ : Ef O (fun b => b = I) env s { s with heap := h' } := ⟨h', s.toks, ⟨_, rfl, GB.refl _⟩, fun b o _ _ _ n e => hk b o n e, fun b o n e => ⟨o, hk b o n e⟩⟩
  exact wpAny_mono (h A _ env { s with heap := h' } B W O rm i₁) (fun f s' h => hR f s' (PF.trans e₁ Grow.refl (PF.wide h))) fun _ _ q => q
theorem SF_cons {x : Str} {px : Pos} {body orelse : List Stmt} {d : Dat} {its : List Dat} (hx : isVar cx x) (hω : ∀ ds, cx.ω ≠ some (x, ds))
    (h : SSs w n (cx.bind x d) body (fun cx' => SF w n cx' (.Name x px) body orelse its Kn Kr Kb) Kr Kn) : SF w n cx (.Name x px) body orelse (d :: its) Kn Kr Kb := fun A R env s B W O I rm i it nb hR => by
  refine loopF (It_next it fun v h₁ tk rv it₁ hs₁ => ?_) (fun _ => rfl)
  have i₁ : SI w cx B W O env h₁ := i.flds hs₁.extBut it.flds nb
  have e₁ : Ef O (fun b => b = I) env s { s with heap := h₁, toks := tk } := ⟨h₁, tk, ⟨_, rfl, GB.refl _⟩, fun b o _ _ _ n e => hs₁.extBut b o n e, fun b o n e => ⟨o, hs₁.extBut b o n e⟩⟩
  refine wpAny_assign_Name (store_data (s := { s with heap := h₁, toks := tk }) i₁ hx rv hω fun s₂ i₂ e₂ => ?_)
  have it₂ := It.ef i₁ it₁ e₂ Grow.refl
  refine wpAny_mono (h A _ env s₂ B W O rm i₂) (fun f s₃ h₃ => ?_) fun _ _ q => q
  cases f with
  | next =>
    obtain ⟨O', cx', p1, p2, p3, p4⟩ := h₃
    exact p4 A R env s₃ B W O' I rm p1 (It.ef i₂ it₂ p2 p3) nb fun f s' q => hR f s' (PF.trans e₁ Grow.refl (PF.trans e₂.wide Grow.refl (PF.trans p2.wide p3.wide q)))
  | cont => exact h₃.elim
  | brk => exact hR .next s₃ (PF.trans e₁ Grow.refl (PF.trans e₂.wide Grow.refl (PF.wide (Kn := Kn) (Kb := Kb) (f := .next) h₃)))
  | ret v => exact hR (.ret v) s₃ (PF.trans e₁ Grow.refl (PF.trans e₂.wide Grow.refl (PF.wide (Kn := Kn) (Kb := Kb) (f := .ret v) h₃)))
theorem SS_for {target iter : Expr} {body orelse : List Stmt} (hs : ∀ env x, foldedSetIterable iter env x = pure x) (h : SIt w n cx iter fun its => SF w n cx target body orelse its Kn Kr Kb) : SS w n cx (.For target iter body orelse pos) Kn Kr Kb := fun A E env s B W O rm i => by
  refine wpAny_For (wpAny_mono (h A E env s _ rm i.gh i.wok i.ok) (fun x s₁ h₁ => wpAny_mono h₁ (fun it s₂ h₂ => ?_) fun _ _ q => q) fun _ _ q => q) (hs env)
  obtain ⟨I, its, rfl, fr, it, hF, k⟩ := h₂
  refine hF A _ env s₂ B W O I rm (i.keeps k.k) it ?_ fun f s' h => ?_
  · cases e : B.get? I with
    | none => rfl
    | some o => rw [(i.up I o e).1] at fr; cases fr
  · exact PF.base k (fun a e => by rw [e]; exact fr) h

/-- x = [... for ...] in one go -/
theorem SS_assign_comp {x : Str} {np : Pos} {elt iter target : Expr} {ifs : List Expr} {gs : List Comprehension} {scope : Scope} {cpos : Pos} (hx : cx.sc.lookup x = some .local) (hω : ∀ ds, cx.ω ≠ some (x, ds)) (ok : compOk cx.sc scope = true)
    (hs : ∀ env x, foldedSetIterable iter env x = pure x) (hl : np.line = cpos.line) (hnx : (scope.names.any fun (p : Str × NameKind) => p.1 == x && (p.2 == .local || p.2 == .cell)) = false)
    (h : SIt w n cx iter fun its => SG w n (cx.sub scope.names) (.ListComp elt (⟨target, iter, ifs, 0⟩ :: gs) scope cpos) 0 its [] fun ds => Kn (cx.bind x (.list ds))) :
    SS w n cx (.Assign [.Name x np] (.ListComp elt (⟨target, iter, ifs, 0⟩ :: gs) scope cpos) pos) Kn Kr Kb := fun A E env s B W O rm i => by
  have kx : env.kindOf x = some .local := by show env.scope.names.lookup x = _; rw [i.ok.names]; exact hx
  have hsw : swapsWith (.ListComp elt (⟨target, iter, ifs, 0⟩ :: gs) scope cpos) (some (.Name x np)) pos.line env = pure true := by
    have e1 : env.blockKind = .function := by
      unfold Env.blockKind
      rw [i.ok.kind]; rfl
    show (pure ((env.blockKind == .function && env.kindOf x == some .local && np.line == cpos.line) && !(scope.names.any fun (p : Str × NameKind) => p.1 == x && (p.2 == .local || p.2 == .cell))) : Sem Bool) = pure true
    rw [e1, kx, hl, beq_self_eq_true cpos.line, hnx]; rfl
  rw [exec_Assign_Name_used _ _ _ _ hsw]
  refine wpAny_bind (wpAny_standAt (wpAny_bind ?_))
  show wpAny _ A (do let _ ← comprehension (.ListComp elt (⟨target, iter, ifs, 0⟩ :: gs) scope cpos) scope env _ (newList []) false (eval iter env) (some (assign (.Name x np) env))) _ _ s
  refine wpAny_bind (wpAny_mono (comp_core (Q := fun _ s' => PF w Kn Kr Kb B W O N0 env s .next s') (CompOk.of ok) h hs rm i.gh i.wok i.ok fun D C vs ds s₁ fD fC hDC hl hr hk k₁ ⟨m, hm⟩ => ?_) (fun _ s' h => wpAny_pure (wpAny_pure h)) fun _ _ q => q)
  have i₁ := i.keeps k₁.k
  have rd : Rep s₁.heap (fun b => W b ∨ O b) (.ref D) (.list ds) := .list hl (i.wok.fresh fD) hr.away
  show wpAny (MD w) A (assign (.Name x np) env (.ref D)) _ E s₁
  obtain ⟨m₀, hm₀⟩ := i.ns
  have hCl : C ≠ env.locals := by rintro rfl; obtain ⟨o, es, ep, e, _⟩ := hm₀; rw [fC] at e; cases e
  have nB : B.get? C = none := by
    cases e : B.get? C with
    | none => rfl
    | some o => rw [(i.up C o e).1] at fC; cases fC
  refine wpAny_assign_Name (store_data i₁ (.inl hx) rd hω fun s₂ i₂ e₂ => ?_)
  have nC : ∃ m, s₂.heap.Ns C m := by
    obtain ⟨h, t, ⟨gs, rfl, ab⟩, k, l⟩ := e₂
    obtain ⟨o, es, ep, e, p⟩ := id hm
    exact ⟨m, hm.at' fun o e => k C o hCl (fun n c hc => let ⟨v, hv⟩ := i₁.cel n c hc; ns_ne_cell hm hv) (fun q => by
      obtain ⟨its, l⟩ := i.ol C q; obtain ⟨_, e⟩ := l; rw [fC] at e; cases e) id e⟩
  obtain ⟨m', hm'⟩ := nC
  refine ⟨m', hm', fun h' hs' => ?_⟩
  have cl : ∀ n c, env.cells.lookup n = some c → c ≠ C := fun n c hc => let ⟨v, hv⟩ := i₂.cel n c hc; (ns_ne_cell hm' hv).symm
  have nn : ∀ a its, ¬ (W a ∨ O a) → s₂.heap.IsList a its → a ≠ C := fun a its _ l => list_ne_ns l hm'
  have vk : ∀ y u, VarIs env s₂.heap y u → VarIs env h' y u := fun y u q => q.but hs'.extBut (fun m _ => hCl.symm) fun c v q => (ns_ne_cell hm' q).symm
  have own : ∀ y es, (cx.bind x (.list ds)).ω = some (y, es) → ∃ a vs, VarIs env h' y (.ref a) ∧ h'.PlainList a vs.toArray ∧ RepAll h' (fun b => W b ∨ O b) vs es ∧ O a := fun y es e =>
    let ⟨a, vs, p, q, r, t⟩ := i₂.own y es e; ⟨a, vs, vk _ _ p, q.at fun o e => hs'.extBut a o (list_ne_ns q.isList hm') e, r.but hs'.extBut nn, t⟩
  refine ⟨O, cx.bind x (.list ds), ?_, Ef.base (X := fun b => b = C) k₁ (fun a e => by rw [e]; exact fC) (e₂.wide.trans Grow.refl ⟨h', s₂.toks, ⟨_, rfl, GB.refl _⟩, fun b o _ _ _ n e => hs'.extBut b o n e, fun b o n e => ⟨o, hs'.extBut b o n e⟩⟩), Grow.refl, hk⟩
  · refine ⟨i.g, i.wb, fun b o e => ⟨hs'.extBut _ _ (by rintro rfl; rw [nB] at e; cases e) (i₂.up b o e).1, (i₂.up b o e).2⟩, ⟨i.ok.globals, i.ok.builtins, i.ok.kind, i.ok.names, i.ok.cells, fun y d e => ?_, fun y es e => let ⟨a, vs, p, q, r, t⟩ := own y es e; ⟨a, vs, p, q, r, .inr t⟩⟩, own,
      fun a q => let ⟨its, l⟩ := i₂.ol a q; ⟨its, l.at fun o e => hs'.extBut a o (list_ne_ns l.isList hm') e⟩, let ⟨m, p⟩ := i₂.ns; ⟨m, p.extBut hs'.extBut hCl.symm⟩, fun n c e => let ⟨v, o, p1, p2⟩ := i₂.cel n c e; ⟨v, o, hs'.extBut c o (cl n c e) p1, p2⟩, i.apart⟩
    obtain ⟨u, p, q⟩ := i₂.ok.var y d e
    exact ⟨u, vk y u p, q.but hs'.extBut nn⟩
end
end
section
theorem cellsFrom_acc : ∀ (names : List (Str × NameKind)) (k : Nat) (acc : List (Str × Addr)) (q : Str × Addr), q ∈ acc → q ∈ cellsFrom k names acc
  | [], k, acc, q, h => h
  | (y, kd) :: r, k, acc, q, h => by
    unfold cellsFrom
    split
    · exact cellsFrom_acc r _ _ q (List.mem_cons_of_mem _ h)
    · exact cellsFrom_acc r _ _ q h
theorem cellsFrom_has : ∀ (names : List (Str × NameKind)) (k : Nat) (acc : List (Str × Addr)) (x : Str), (x, NameKind.cell) ∈ names → ∃ c, (x, c) ∈ cellsFrom k names acc
  | (y, kd) :: r, k, acc, x, h => by
    unfold cellsFrom
    rcases List.mem_cons.mp h with e | e
    · cases e
      rw [if_pos (by rfl)]
      exact ⟨_, cellsFrom_acc r _ _ _ List.mem_cons_self⟩
    · split
      · exact cellsFrom_has r _ _ x e
      · exact cellsFrom_has r _ _ x e
theorem bindL_none {k : Str → Option NameKind} : ∀ (bs : List (Str × Value)) (m : Str → Option Value) (x : Str), (∀ q ∈ bs, q.1 ≠ x) → bindL k bs m x = m x
  | [], m, x, _ => rfl
  | (y, v) :: r, m, x, h => by
    unfold bindL
    rw [bindL_none r _ x fun q hq => h q (List.mem_cons_of_mem _ hq)]
    split
    · exact if_neg (Ne.symm (h (y, v) List.mem_cons_self))
    · rfl
theorem bindC_none {k : Str → Option NameKind} : ∀ (bs : List (Str × Value)) (m : Str → Option Value) (x : Str), (∀ q ∈ bs, q.1 ≠ x) → bindC k bs m x = m x
  | [], m, x, _ => rfl
  | (y, v) :: r, m, x, h => by
    unfold bindC
    rw [bindC_none r _ x fun q hq => h q (List.mem_cons_of_mem _ hq)]
    split
    · rfl
    · exact if_neg (Ne.symm (h (y, v) List.mem_cons_self))
theorem bindL_some {k : Str → Option NameKind} : ∀ (bs : List (Str × Value)) (m : Str → Option Value) (x : Str) (v : Value), (bs.map (·.1)).Nodup → (x, v) ∈ bs → k x = some .local → bindL k bs m x = some v
  | (y, u) :: r, m, x, v, nd, h, hk => by
    unfold bindL
    rw [List.map_cons, List.nodup_cons] at nd
    rcases List.mem_cons.mp h with e | e
    · injection e with e1 e2; subst e1; subst e2
      rw [bindL_none r _ x fun q hq e => nd.1 (List.mem_map.mpr ⟨q, hq, e⟩), if_pos hk]
      simp
    · exact bindL_some r _ x v nd.2 e hk
theorem bindC_some {k : Str → Option NameKind} : ∀ (bs : List (Str × Value)) (m : Str → Option Value) (x : Str) (v : Value), (bs.map (·.1)).Nodup → (x, v) ∈ bs → k x ≠ some .local → bindC k bs m x = some v
  | (y, u) :: r, m, x, v, nd, h, hk => by
    unfold bindC
    rw [List.map_cons, List.nodup_cons] at nd
    rcases List.mem_cons.mp h with e | e
    · injection e with e1 e2; subst e1; subst e2
      rw [bindC_none r _ x fun q hq e => nd.1 (List.mem_map.mpr ⟨q, hq, e⟩), if_neg hk]
      simp
    · exact bindC_some r _ x v nd.2 e hk
theorem zip_rep {h : Heap} {W : Addr → Prop} : ∀ {xs : List Str} {vs : List Value} {ds : List Dat}, RepAll h W vs ds → ∀ {x : Str} {d : Dat}, (xs.zip ds).lookup x = some d → ∃ v, (x, v) ∈ xs.zip vs ∧ Rep h W v d
  | [], vs, ds, r, x, d, e => by cases e
  | y :: xs, [], [], .nil, x, d, e => by cases e
  | y :: xs, v :: vs, d' :: ds, .cons r rs, x, d, e => by
    rw [List.zip_cons_cons, List.lookup_cons] at e
    cases q : x == y with
    | true =>
      rw [q] at e; cases e
      rw [beq_iff_eq.mp q]
      exact ⟨v, by simp, r⟩
    | false =>
      rw [q] at e
      obtain ⟨u, h1, h2⟩ := zip_rep rs e
      exact ⟨u, by rw [List.zip_cons_cons]; exact List.mem_cons_of_mem _ h1, h2⟩
theorem zip_fst_nodup {α : Type} : ∀ {xs : List Str} {vs : List α}, xs.Nodup → ((xs.zip vs).map (·.1)).Nodup
  | [], vs, _ => by simp
  | y :: xs, [], _ => by simp
  | y :: xs, v :: vs, h => by
    rw [List.nodup_cons] at h
    rw [List.zip_cons_cons, List.map_cons, List.nodup_cons]
    refine ⟨fun q => h.1 ?_, zip_fst_nodup h.2⟩
    obtain ⟨z, hz, e⟩ := List.mem_map.mp q
    have e' : z.1 = y := e
    exact e' ▸ (List.of_mem_zip (a := z.1) (b := z.2) hz).1

structure DefOk (K : Frag) (f : Addr) (fd : FuncData) (xs : List Str) (body : List Stmt) : Prop where
  body : fd.body = .stmts body
  code : codeIn K fd.code fd.qualname = true
  clo : fd.closure = []
  globals : fd.globals = mainGlobals
  builtins : fd.builtins = builtinsNs
  kind : fd.scope.kind = .function
  co : fd.scope.isCoroutine = false
  gen : fd.scope.isGenerator = false
  binds : ∀ vs : List Value, vs.length = xs.length → bindArgs fd ⟨vs, []⟩ = pure (xs.zip vs)
  vars : ∀ x ∈ xs, fd.scope.names.lookup x = some .local ∨ (fd.scope.names.lookup x = some .cell ∧ (x == ("__classdict__" : Str)) = false)
  nodup : xs.Nodup

section
variable {w : World} {n : Nat}
theorem SC_def {f : Addr} {ob : Obj} {fd : FuncData} {body : List Stmt} {xs : List Str} {ds : List Dat} {K : Dat → Prop} (ho : (hd.heap_39 w.params).lookup f = some ob) (hdt : ob.data = .func fd)
    {sc : List (Str × NameKind)} {ρ : List (Str × Dat)} (ok : DefOk (hd.heap_39 w.params) f fd xs body) (hlen : ds.length = xs.length) (hsc : fd.scope.names = sc) (hρ : xs.zip ds = ρ)
    (h : SSs w n ⟨sc, ρ, none⟩ body (fun _ => K .none) K (fun _ => False)) : SC w (n + 1) f ds K := fun A E s W vs rm g o rs => by
  subst hsc hρ
  have hl : vs.length = xs.length := rs.length.trans hlen
  obtain ⟨X, mg, mb, mean, T⟩ := id g
  refine wpAny_call ?_
  have cellHas : ∀ x, fd.scope.names.lookup x = some .cell → ∃ c, (cellsFrom (s.heap.objs.size + 1) fd.scope.names []).lookup x = some c := fun x hx => by
    obtain ⟨c, hc⟩ := cellsFrom_has fd.scope.names (s.heap.objs.size + 1) [] x (mem_of_lookup hx)
    exact lookup_of_mem hc
  refine codeAny_call_cells (binds := xs.zip vs) rm.lt (X _ _ ho) hdt T.nolimit (codeRec_of X ok.code) ok.body (ok.binds vs hl) ok.clo (fun q hq => ?_) (fun s₁ i₁ => ?_) ok.co ok.gen ok.kind
  · have hx := (List.of_mem_zip (a := q.1) (b := q.2) hq).1
    rcases ok.vars _ hx with e | ⟨e, _⟩
    · exact .inl e
    · obtain ⟨c, hc⟩ := cellHas _ e
      exact .inr ⟨e, by rw [hc]; rfl⟩
  generalize henv : callEnvC fd s.heap.objs.size f = env at i₁ ⊢
  have kN : env.scope.names = fd.scope.names := by rw [← henv]; rfl
  have kC : env.cells = cellsFrom (s.heap.objs.size + 1) fd.scope.names [] := by rw [← henv]; rfl
  have kF : ∀ x, env.kindOf x = fd.scope.names.lookup x := fun x => by show env.scope.names.lookup x = _; rw [kN]
  have nd := zip_fst_nodup (vs := vs) ok.nodup
  have hs := i₁.toInCall.keep
  have si : SI w ⟨fd.scope.names, xs.zip ds, none⟩ s.heap W (fun _ => False) env s₁.heap := by
    refine ⟨g, o, fun b ob e => ⟨hs b ob e, Nat.ne_of_lt (Nat.lt_of_lt_of_le (Heap.lt_size e) i₁.toInCall.fresh), fun n c hc => Nat.ne_of_lt (Nat.lt_trans (Nat.lt_of_lt_of_le (Heap.lt_size e) i₁.toInCall.fresh) (i₁.above n c (mem_of_lookup hc))), id⟩,
      ⟨by rw [← henv]; exact ok.globals, by rw [← henv]; exact ok.builtins, by rw [← henv]; exact ok.kind, kN, fun x hx => ?_, fun x d hx => ?_, fun _ _ e => by cases e⟩, (fun _ _ e => by cases e), fun a q => q.elim, ⟨_, i₁.toInCall.ns⟩, fun n c hc => ⟨_, i₁.cell n c hc⟩, i₁.apart⟩
    · rw [kF] at hx; rw [kC]; exact cellHas x hx
    · obtain ⟨v, hv, rv⟩ := zip_rep rs hx
      refine ⟨v, ?_, (rv.weaken fun b q => q.elim id fun f => f.elim).keeps hs⟩
      rcases ok.vars x (List.of_mem_zip hv).1 with e | ⟨e, e2⟩
      · exact .inl ⟨(kF x).trans e, _, i₁.toInCall.ns, bindL_some _ _ x v nd hv ((kF x).trans e)⟩
      · obtain ⟨c, hc⟩ := cellHas x e
        have hk : env.kindOf x = some .cell := (kF x).trans e
        have hc' : env.cells.lookup x = some c := by rw [kC]; exact hc
        refine .inr ⟨.inl hk, e2, c, hc', ?_⟩
        have := i₁.cell x c hc'
        rwa [bindC_some _ _ x v nd hv (by rw [hk]; decide)] at this
  have sm : ∀ {s' : Shared}, Ef (fun _ => False) N0 env s₁ s' → (∀ b o, s.heap.get? b = some o → s'.heap.get? b = some o) → Kp s s' := fun e k => by
    obtain ⟨h₁, t₁, e₁⟩ := i₁.toInCall.same
    obtain ⟨h₂, t₂, ⟨gs, rfl, ab⟩, _⟩ := e
    subst e₁
    exact ⟨h₂, t₂, ⟨_, rfl, ab⟩, k⟩
  refine wpAny_mono (h _ _ env s₁ s.heap W _ rm.deeper si) (fun fl s' hf => ?_) fun _ _ q => q
  cases fl with
  | next =>
    obtain ⟨O', cx', h1, h2, h3, h4⟩ := hf
    exact ⟨.none, .nul, h4, sm h2 fun b o e => (h1.up b o e).1⟩
  | brk => obtain ⟨O', cx', h1, h2, h3, h4⟩ := hf; exact h4.elim
  | cont => exact hf.elim
  | ret v =>
    obtain ⟨d, h1, h2, h3, h4⟩ := hf
    exact ⟨d, h1, h2, sm h3 h4⟩
end
end
section
noncomputable def Cx.setω (cx : Cx) (x : Str) (ds : List Dat) : Cx := { cx with ω := some (x, ds) }
noncomputable def Cx.rel (cx : Cx) (x : Str) (ds : List Dat) : Cx := { cx with ω := none, ρ := (x, .list ds) :: cx.ρ }
/-! side conditions as Bools -/
noncomputable def notOwn (cx : Cx) (x : Str) : Bool := match cx.ω with
  | none => true
  | some (y, _) => !(y == x)
theorem notOwn_ne {cx : Cx} {x : Str} (h : notOwn cx x = true) : ∀ ds, cx.ω ≠ some (x, ds) := fun ds e => by
  unfold notOwn at h
  rw [e] at h
  simp at h
noncomputable def isVarB (cx : Cx) (x : Str) : Bool := match cx.sc.lookup x with
  | some .local => true
  | some .cell => !(x == ("__classdict__" : Str))
  | _ => false
theorem isVar_of {cx : Cx} {x : Str} (h : isVarB cx x = true) : isVar cx x := by
  unfold isVarB at h
  split at h
  · rename_i e; exact .inl e
  · rename_i e; exact .inr ⟨e, by simpa using h⟩
  · cases h
noncomputable def SubR : List (Str × Dat) → List (Str × Dat) → Prop
  | [], _ => True
  | (x, d) :: r, ρ => ρ.lookup x = some d ∧ SubR r ρ
theorem SubR.lk : ∀ {r ρ : List (Str × Dat)}, SubR r ρ → ∀ y d, r.lookup y = some d → ρ.lookup y = some d
  | [], ρ, _, y, d, h => by cases h
  | (x, e) :: r, ρ, hs, y, d, h => by
    rw [List.lookup_cons] at h
    cases q : y == x with
    | true => rw [q] at h; cases h; rw [beq_iff_eq.mp q]; exact hs.1
    | false => rw [q] at h; exact SubR.lk hs.2 y d h

section
variable {w : World} {n : Nat} {cx cx' : Cx} {pos : Pos} {k : Nat} {l r : Expr} {Kn Kb : Cx → Prop} {Kr : Dat → Prop}
theorem assign' {x : Str} {np : Pos} {e : Expr} (h1 : isVarB cx x = true) (h2 : notOwn cx x = true) (hs : ∀ env, swapsWith e (some (.Name x np)) pos.line env = pure false) (h : SE w n cx e fun d => Kn (cx.bind x d)) : SS w n cx (.Assign [.Name x np] e pos) Kn Kr Kb :=
  SS_assign (isVar_of h1) (notOwn_ne h2) hs h
theorem assign_own' {x : Str} {np : Pos} {e : Expr} (h1 : isVarB cx x = true) (hω : cx.ω = none) (hρ : cx.ρ.lookup x = none) (hs : ∀ env, swapsWith e (some (.Name x np)) pos.line env = pure false) (h : SEf w n cx e fun ds => Kn (cx.setω x ds)) : SS w n cx (.Assign [.Name x np] e pos) Kn Kr Kb :=
  SS_assign_own (isVar_of h1) hω hρ hs h
theorem aug' {x : Str} {np : Pos} {op : Operator} {e : Expr} {a : Dat} (h1 : isVarB cx x = true) (hl : cx.ρ.lookup x = some a) (h2 : notOwn cx x = true) (h : SE w n cx e fun b => O2 w n (inplaceOp op) a b fun d => Kn (cx.bind x d)) : SS w n cx (.AugAssign (.Name x np) op e pos) Kn Kr Kb :=
  SS_aug (isVar_of h1) hl (notOwn_ne h2) h
theorem forCons' {x : Str} {px : Pos} {body orelse : List Stmt} {d : Dat} {its : List Dat} (h1 : isVarB cx x = true) (h2 : notOwn cx x = true)
    (h : SSs w n (cx.bind x d) body (fun cx' => SF w n cx' (.Name x px) body orelse its Kn Kr Kb) Kr Kn) : SF w n cx (.Name x px) body orelse (d :: its) Kn Kr Kb := SF_cons (isVar_of h1) (notOwn_ne h2) h
theorem append' {x : Str} {np ap cp : Pos} {e : Expr} {ds : List Dat} (hω : cx.ω = some (x, ds)) (h : SE w n cx e fun d => ds.length ≤ sizeLine ∧ Kn (cx.setω x (ds ++ [d])))
    (hdb : (x == ("__debug__" : Str)) = false) (hbase : ∀ env, attributeBase (.Name x np) "append" env (eval (.Name x np) env) = eval (.Name x np) env)
    (hfew : ∀ env, ((backTo cp (starEach [e] env)).all (fun x => !x.1) && (backToKw cp (keywordEach [] env)).all (fun x => x.1.isSome)
      && decide (([e] : List Expr).length + ([] : List Keyword).length + (if ([] : List Keyword).isEmpty then 0 else 1) < 30)) = true)
    (hline : (ap.endLine == cp.line) = true) (htrees : ∀ env, backTo cp (starEach [e] env) = [(false, eval e env)])
    (hsw : ∀ env, swapsWith (.Call (.Attribute (.Name x np) "append" ap) [e] [] cp) none pos.line env = pure false) :
    SS w n cx (.Expr (.Call (.Attribute (.Name x np) "append" ap) [e] [] cp) pos) Kn Kr Kb := SS_append hω h hdb hbase hfew hline htrees hsw
theorem release' {y : Str} {ds : List Dat} {sts : List Stmt} (hω : cx.ω = some (y, ds)) (x : SSs w n (cx.rel y ds) sts Kn Kr Kb) : SSs w n cx sts Kn Kr Kb := SSs_release hω x
theorem forNil' {x : Str} {px : Pos} {body orelse : List Stmt} (h : SSs w n cx orelse Kn Kr Kb) : SF w n cx (.Name x px) body orelse [] Kn Kr Kb := SF_nil (fun _ _ => rfl) h
theorem weakSs {sts : List Stmt} (x : SSs w n cx' sts Kn Kr Kb) (hs : cx'.sc = cx.sc) (hr : SubR cx'.ρ cx.ρ) (ho : cx'.ω = cx.ω) : SSs w n cx sts Kn Kr Kb := SSs_weak x hs hr.lk (.inl ho)
theorem weakF {target : Expr} {body orelse : List Stmt} {its : List Dat} (x : SF w n cx' target body orelse its Kn Kr Kb) (hs : cx'.sc = cx.sc) (hr : SubR cx'.ρ cx.ρ) (ho : cx'.ω = cx.ω) : SF w n cx target body orelse its Kn Kr Kb := SF_weak x hs hr.lk (.inl ho)
theorem weakW {test : Expr} {body orelse : List Stmt} (x : SW w n cx' test body orelse Kn Kr Kb) (hs : cx'.sc = cx.sc) (hr : SubR cx'.ρ cx.ρ) (ho : cx'.ω = cx.ω) : SW w n cx test body orelse Kn Kr Kb := SW_weak x hs hr.lk (.inl ho)

/-! sum, join, split -/
theorem wpAny_setItem_plain {A : Around} {E : Value → Shared → Prop} {s : Shared} {l : Addr} {items : Array Value} {k : Int} {t : Tok} {v : Value} {Q : Unit → Shared → Prop} (hl : s.heap.PlainList l items)
    (h0 : 0 ≤ k) (hfit : k < 2 ^ 63) (hn : k < items.size)
    (hQ : ∀ h', h'.PlainList l (items.setIfInBounds k.toNat v) → Heap.SameBut l s.heap h' → Q () { s with heap := h' }) :
    wpAny (MD w) A (setItem (.ref l) (.int k t) v) Q E s := by
  obtain ⟨m, ho⟩ := id hl
  have hl' := hl.isList
  unfold setItem
  try with_reducible refine wpAny_holding ?_
  first | refine wpAny_bind (wpAny_pure ?_) | skip
  refine wpAny_bind (wpAny_sequenceKey hl'.typeIs (by decide) ?_)
  refine wpAny_bind (wpAny_callSpecial?_slot (name := Str.ofString "__setitem__") hl'.typeIs slot_list_setitem
    (wpAny_call_entry slot_list_setitem hl'.typeIs entry_list_setitem ?_ (args_list_setitem _ _ _)))
  show wpAny _ _ (Builtin.List.listSubscript? (.int k t) >>= _) _ _ s
  refine wpAny_bind (wpAny_listSubscript_int (fitsIndex_of h0 hfit) ?_)
  clear hfit
  obtain ⟨j, rfl⟩ := Int.eq_ofNat_of_zero_le h0
  have hj : j < items.size := by omega
  have hx' : items[j]? = some items[j] := Array.getElem?_eq_getElem hj
  show wpAny _ _ ((seqItemAt l j >>= fun r => pure (r.map (j, ·))) >>= _) _ _ s
  refine wpAny_bind (wpAny_bind (wpAny_seqItemAt ho rfl (wpAny_pure ?_)))
  rw [hx']
  show wpAny _ _ (setSeqItemAt l j v >>= _) _ _ s
  have hfin : (s.heap.update l (Obj.mapSeq (·.setIfInBounds j v))).PlainList l (items.setIfInBounds j v) :=
    ⟨_, Heap.get?_update_self _ ho rfl⟩
  refine wpAny_bind (wpAny_setSeqItemAt ho rfl ?_)
  first
    | exact wpAny_bind (wpAny_pure (wpAny_pure ⟨.none, rfl, wpAny_pure (hQ _ hfin (Heap.SameBut.update ..))⟩))
    | exact wpAny_pure ⟨.none, rfl, wpAny_pure (hQ _ hfin (Heap.SameBut.update ..))⟩

theorem RepAll.set {h : Heap} {W : Addr → Prop} : ∀ {vs : List Value} {ds : List Dat}, RepAll h W vs ds → ∀ (k : Nat) {v : Value} {d : Dat}, Rep h W v d → RepAll h W (vs.set k v) (ds.set k d)
  | _, _, .nil, k, v, d, r => by simp; exact .nil
  | _, _, .cons r rs, 0, v, d, r' => .cons r' rs
  | _, _, .cons r rs, k + 1, v, d, r' => .cons r (RepAll.set rs k r')

/-- x[i] op= e on one's own list -/
theorem SS_augItem {x : Str} {np tp : Pos} {op : Operator} {i e : Expr} {ds : List Dat} (hω : cx.ω = some (x, ds)) (hdb : (x == ("__debug__" : Str)) = false)
    (hi : ∀ ov iv new, augStore i ov iv new = (do holding [new, ov, iv] (setItem ov iv new); release [new, ov, iv] []; pure .next))
    (h : SE w n cx i fun di => ∃ j a, di = .int j ∧ 0 ≤ j ∧ j < 2 ^ 62 ∧ ds[j.toNat]? = some a ∧ SE w n cx e fun b => O2 w n (inplaceOp op) a b fun d => Kn (cx.setω x (ds.set j.toNat d))) :
    SS w n cx (.AugAssign (.Subscript (.Name x np) i tp) op e pos) Kn Kr Kb := fun A E env s B W O rm si => by
  obtain ⟨D, vs, p, hl, hr, hO⟩ := si.own x ds hω
  refine wpAny_AugAssign_SubscriptAny (wpAny_Name (wp_var si.ok.kind p ?_) hdb) hi
  refine wpAny_mono (h A E env s _ rm si.gh si.wok si.ok) (fun vi s₁ ⟨di, ri, ⟨j, a, hj, h0, h1, ha, h₁⟩, k₁⟩ => ?_) fun _ _ q => q
  subst hj
  cases ri with
  | int _ t =>
  have i₁ := si.keeps k₁.k
  have hl₁ : s₁.heap.PlainList D vs.toArray := hl.at fun o e => k₁.k _ _ e
  have hr₁ := hr.keeps k₁.k
  obtain ⟨u, hu, ru⟩ := hr₁.get ha
  refine wpAny_getItem_list hl₁.isList h0 (by omega) (by simpa using hu) ?_
  refine wpAny_mono (h₁ A E env s₁ _ rm i₁.gh i₁.wok i₁.ok) (fun vb s₂ ⟨b, rb, h₂, k₂⟩ => ?_) fun _ _ q => q
  have i₂ := i₁.keeps k₂.k
  refine wpAny_mono (h₂ A E s₂ _ _ _ rm i₂.gh i₂.wok (ru.keeps k₂.k) rb) (fun vd s₃ ⟨d, rd, hd, k₃⟩ => ?_) fun _ _ q => q
  have i₃ := i₂.keeps k₃.k
  have k₁₃ := (k₁.trans k₂).trans k₃
  have hl₃ : s₃.heap.PlainList D vs.toArray := hl.at fun o e => k₁₃.k _ _ e
  have hr₃ := hr.keeps k₁₃.k
  have hlt : j < vs.toArray.size := by
    rw [List.size_toArray, hr.length]
    rcases Nat.lt_or_ge j.toNat ds.length with q | q
    · omega
    · rw [List.getElem?_eq_none q] at ha; cases ha
  refine wpAny_setItem_plain hl₃ h0 (by omega) hlt fun h' hl' hs' => ?_
  have nn : ∀ a its, ¬ (W a ∨ O a) → s₃.heap.IsList a its → a ≠ D := fun a its q _ e => q (.inr (e ▸ hO))
  have vk : ∀ y u, VarIs env s₃.heap y u → VarIs env h' y u := fun y u q => q.but hs'.extBut (fun m q => (list_ne_ns hl₃.isList q).symm) fun c v q => (list_ne_cell hl₃.isList q).symm
  have own : ∀ y es, ({ cx with ω := some (x, ds.set j.toNat d) } : Cx).ω = some (y, es) → ∃ a vs, VarIs env h' y (.ref a) ∧ h'.PlainList a vs.toArray ∧ RepAll h' (fun b => W b ∨ O b) vs es ∧ O a := fun y es e => by
    cases e
    refine ⟨D, vs.set j.toNat vd, vk _ _ (p.keeps k₁₃.k), by simpa using hl', ?_, hO⟩
    exact (hr₃.but hs'.extBut nn).set _ (rd.but hs'.extBut nn)
  refine ⟨O, _, (?_ : SI w { cx with ω := some (x, ds.set j.toNat d) } B W O env h'), (Ef.kp k₁₃).trans Grow.refl ⟨h', _, ⟨_, rfl, GB.refl _⟩, fun b o n1 n2 n3 _ e => ?_, fun b o _ e => ?_⟩, Grow.refl, hd⟩
  · refine ⟨si.g, si.wb, fun b o e => ⟨hs'.extBut _ _ (fun q => (si.up b o e).2.2.2 (q ▸ hO)) (i₃.up b o e).1, (si.up b o e).2⟩, ⟨si.ok.globals, si.ok.builtins, si.ok.kind, si.ok.names, si.ok.cells, fun y d' e => ?_, fun y es e => let ⟨a, vs, p, q, r, t⟩ := own y es e; ⟨a, vs, p, q, r, .inr t⟩⟩, own,
      fun a q => ?_, let ⟨m, p⟩ := i₃.ns; ⟨m, p.extBut hs'.extBut (list_ne_ns hl₃.isList p).symm⟩, fun n c e => let ⟨v, o, p1, p2⟩ := i₃.cel n c e; ⟨v, o, hs'.extBut c o (list_ne_cell hl₃.isList ⟨o, p1, p2⟩).symm p1, p2⟩, si.apart⟩
    · obtain ⟨u, p, q⟩ := i₃.ok.var y d' e
      exact ⟨u, vk y u p, q.but hs'.extBut nn⟩
    · by_cases e : a = D
      · subst e; exact ⟨_, hl'⟩
      · obtain ⟨its, l⟩ := i₃.ol a q; exact ⟨its, l.at fun o e' => hs'.extBut a o e e'⟩
  · exact hs'.extBut b o (fun q => n3 (q ▸ hO)) e
  · by_cases q : b = D
    · subst q; obtain ⟨n, e⟩ := hl'; exact ⟨_, e⟩
    · exact ⟨o, hs'.extBut b o q e⟩

theorem OB_sum {is : List Int} {K : Dat → Prop} (h : K (.int is.sum)) : OB w n (fun vs => call (.builtin "sum") vs) [.list (is.map .int)] K := fun A E s W vs rm g o rs => by
  cases rs with
  | cons r rs =>
  cases rs
  cases r with
  | list la na ra =>
  rename_i a us
  have hu : ∀ (us : List Value) (is : List Int), RepAll s.heap W us (is.map .int) → (∀ (i : Nat) (v : Value), us[i]? = some v → ∃ t, v = .int (is[i]?.getD 0) t) := by
    intro us
    induction us with
    | nil => intro is _ i v e; simp at e
    | cons u us ih =>
      intro is r i v e
      cases is with
      | nil => cases r
      | cons j is =>
        cases r with
        | cons r rs =>
        cases r with
        | int _ t =>
        cases i with
        | zero => simp at e; exact ⟨t, by simp [← e]⟩
        | succ i => simpa using ih is rs i v (by simpa using e)
  have pre : ∀ (is : List Int) (k : Nat), k ≤ is.length → preSum (fun i => is[i]?.getD 0) k = (is.take k).sum := by
    intro is k
    induction k with
    | zero => intro _; rfl
    | succ k ih =>
      intro hk
      show preSum _ k + _ = _
      rw [ih (by omega), List.take_add_one, List.sum_append, List.getElem?_eq_getElem (show k < is.length by omega)]
      simp [List.getElem?_eq_getElem (show k < is.length by omega)]
  have hlen := ra.length
  rw [List.length_map] at hlen
  refine call_sum_walkG (wpAny_pyIter_list la.isList ⟨_, _, _, _, _, _, (fun i => is[i]?.getD 0), rfl, Walks.list (A := A.in1) rm.handled _ a ?_ us.toArray,
    ⟨⟨_, Heap.get?_push_size _ rfl, rfl, rfl⟩, la.isList.push _⟩, fun b hb => ?_, fun i v hv => hu us is ra i v (by simpa using hv), fun h' tk t' hk => ?_⟩)
  · obtain ⟨n, e⟩ := la; exact Nat.ne_of_lt (Heap.lt_size e)
  · rw [Heap.size_push]
    simp only [List.mem_cons, List.not_mem_nil, or_false] at hb
    rcases hb with rfl | rfl
    · exact Nat.lt_succ_self _
    · obtain ⟨n, e⟩ := la; exact Nat.lt_succ_of_lt (Heap.lt_size e)
  · rw [List.size_toArray, hlen, pre is is.length (Nat.le_refl _), List.take_length]
    exact ⟨_, .int _ _, h, Kp.heap s h' tk fun b ob e => hk b ob (by simpa using Nat.ne_of_lt (Heap.lt_size e)) (Heap.get?_push_of_some _ e)⟩

theorem strs_of {h : Heap} {W : Addr → Prop} : ∀ {us : List Value} {xs : List Str}, RepAll h W us (xs.map .str) → ∃ l : List (Str × Tok), us = strValues l ∧ l.map (·.1) = xs
  | [], [], _ => ⟨[], rfl, rfl⟩
  | u :: us, [], r => by cases r
  | [], x :: xs, r => by cases r
  | u :: us, x :: xs, r => by
    cases r with
    | cons r rs =>
    cases r with
    | str _ t =>
    obtain ⟨l, h1, h2⟩ := strs_of rs
    exact ⟨(x, t) :: l, by rw [h1]; rfl, by rw [List.map_cons, h2]⟩
theorem OB_join {x : Str} {xs : List Str} {K : Dat → Prop} (hok : JoinOk x xs = true) (h : K (.str (Txt.join x xs))) : OB w n (fun vs => call (.builtin "str.join") vs) [.str x, .list (xs.map .str)] K := fun A E s W vs rm g o rs => by
  cases rs with
  | cons r rs =>
  cases rs with
  | cons r₂ rs =>
  cases rs
  cases r
  cases r₂ with
  | list la na ra =>
  obtain ⟨l, h1, h2⟩ := strs_of ra
  subst h1
  exact PySem.SC.join la.isList h2 hok fun t' k => ⟨_, .str _ _, h, Kp.tok s _⟩
theorem RepAll.strs {h : Heap} {W : Addr → Prop} : ∀ l : List (Str × Tok), RepAll h W (strValues l) ((l.map (·.1)).map .str)
  | [] => .nil
  | (x, t) :: l => .cons (.str x t) (RepAll.strs l)
theorem OB_split {x y : Str} {K : Dat → Prop} (hy : (y.length == 0) = false) (hsz : x.length ≤ sizeLine) (hsz2 : (Builtin.Str.partsBetween x (Builtin.Str.occurrences x y 0 x.length (x.length + 1)) y.length).length ≤ sizeLine)
    (h : K (.list ((Txt.split x y).map .str))) : OB w n (fun vs => call (.builtin "str.split") vs) [.str x, .str y] K := fun A E s W vs rm g o rs => by
  cases rs with
  | cons r rs =>
  cases rs with
  | cons r₂ rs =>
  cases rs
  cases r
  cases r₂
  rename_i t u
  have fin : ∀ (l : List (Str × Tok)) (tk : Nat), l.map (·.1) = Txt.split x y → ∃ d, Rep (s.heap.push { cls := .type "list", data := .seq (strValues l).toArray }) W (.ref s.heap.objs.size) d ∧ K d ∧ Kp s { s with heap := s.heap.push { cls := .type "list", data := .seq (strValues l).toArray }, toks := tk } := fun l tk e =>
    ⟨_, .list ⟨_, Heap.get?_push_size _ rfl⟩ (o.fresh get_size_none) (RepAll.strs l), by rw [e]; exact h, Kp.pusht s _ _⟩
  cases h1 : (decide (x.length < y.length) || decide (Builtin.Str.strKind x < Builtin.Str.strKind y))
  · cases hf : (Builtin.Str.occurrences x y 0 x.length (x.length + 1)).isEmpty
    · refine call_meets PySem.F.slot_str_split (typeIs_str _ _ _) PySem.F.entry_str_split (PySem.F.args_str_split_2 _ _) (meets_str_split_sep x y t u h1 hy hf hsz hsz2) ?_
      show wants _ E _ { s with toks := _, heap := s.heap.push { cls := .type "list", data := .seq (strsFrom s.toks (Builtin.Str.partsBetween x (Builtin.Str.occurrences x y 0 x.length (x.length + 1)) y.length)).toArray } }
      rw [strsFrom_eq]
      exact fin (numbered s.toks _) _ ((numbered_texts _ _).trans ((if_neg (ne_true_of_eq_false h1)).trans (if_neg (ne_true_of_eq_false hf))).symm)
    · exact call_meets PySem.F.slot_str_split (typeIs_str _ _ _) PySem.F.entry_str_split (PySem.F.args_str_split_2 _ _) (meets_str_split_not_found x y t u h1 hy hf)
        (fin [(x, t)] _ ((if_neg (ne_true_of_eq_false h1)).trans (if_pos hf)).symm)
  · exact call_meets PySem.F.slot_str_split (typeIs_str _ _ _) PySem.F.entry_str_split (PySem.F.args_str_split_2 _ _) (meets_str_split_cannot_occur x y t u h1)
      (fin [(x, t)] _ (if_pos h1).symm)
end
end
section
section
variable {w : World} {n : Nat} {cx : Cx} {pos : Pos} {k : Nat} {l r : Expr}
/-- a method of a text with one argument -/
theorem SE_strm {o e : Expr} {name : Str} {ap cp : Pos} {id : String} {K : Dat → Prop} (slot : Slot "str" name id) (ty : typeOf (.builtin id) = pure (.type "method_descriptor"))
    (hbase : ∀ env, attributeBase o name env (eval o env) = eval o env) (hs : ∀ env, starEach [e] env = [(false, eval e env)]) (hline : (ap.endLine == cp.line) = true)
    (h : SE w n cx o fun a => ∃ x, a = .str x ∧ SE w n cx e fun b => OB w n (fun vs => call (.builtin id) vs) [.str x, b] K) : SE w n cx (.Call (.Attribute o name ap) [e] [] cp) K := fun A E env s W rm g ow v => by
  refine Call_method1 (hbase env) (hs env) hline (wpAny_mono (h A E env s W rm g ow v) (fun va s₁ ⟨a, ra, ⟨x, ha, h₁⟩, k₁⟩ => ?_) fun _ _ q => q)
  subst ha
  cases ra with
  | str _ t =>
  refine ⟨"str", id, PySem.F.plainAttrs_str, slot, ty, typeIs_str _ _ _, (fun _ e => nomatch e), ?_⟩
  refine Calls.callWith_builtin rfl (Calls.evalArgs_plain (Calls.spliced_cons (wpAny_mono (h₁ A E env s₁ W rm (g.keeps k₁.k) (ow.keeps k₁.k) (v.keeps k₁.k)) (fun vb s₂ ⟨b, rb, h₂, k₂⟩ => Calls.spliced_nil ?_) fun _ _ e => e)))
  exact wpAny_mono (h₂ A E s₂ W [.str x t, vb] rm (g.keeps (k₁.trans k₂).k) (ow.keeps (k₁.trans k₂).k) (.cons (.str x t) (.cons rb .nil))) (fun v s₃ ⟨d, rd, hd, k₃⟩ => ⟨d, rd, hd, (k₁.trans k₂).trans k₃⟩) fun _ _ q => q

/-- a text looked for in a table at the top -/
theorem SE_inTab {x : Expr} {y : Str} {np : Pos} {a : Addr} {es : Array DictEntry} {m : Nat} {K : Dat → Prop} (hk : cx.sc.lookup y = some .globalImplicit) (hf : nsIn (hd.heap_39 w.params) mainGlobals y = some (some (.ref a)))
    (hl : (hd.heap_39 w.params).lookup a = some ⟨.type "dict", none, .dict es m, #[]⟩) (hkeys : KeysLit w.params es.toList) (lo : (a == sysModules) = false) (hdb : (y == ("__debug__" : Str)) = false) (hm : behindInMarks .In (.Name y np) = false)
    (h : SE w n cx x fun d => ∃ t, d = .str t ∧ K (.bool (findBy Value.isStrOf es t).isSome)) : SE w n cx (.Compare x [.In] [.Name y np] pos) K := fun A E env s W rm g o v => by
  refine wpAny_Compare1 (wpAny_mono (h A E env s W rm g o v) (fun va s₁ ⟨d, rd, ⟨t, hd, hK⟩, k₁⟩ => ?_) fun _ _ q => q) hm
  subst hd
  cases rd with
  | str _ tk =>
  have g₁ := g.keeps k₁.k
  refine name_global g₁ (v.keeps k₁.k) hk hf hdb ?_
  refine wpAny_in_of (strKind_is _ w t tk) lo (mapOf_K g₁.1 hl hkeys) ?_
  exact ⟨_, .bool _, hK, k₁.trans (Kp.tok _ _)⟩

noncomputable def IntKeys : List DictEntry → Prop
  | [] => True
  | e :: r => (∃ i t, e.key = .int i t ∧ e.hash = hashInt i) ∧ IntKeys r
theorem IntKeys.all {l : List DictEntry} (h : IntKeys l) : ∀ e ∈ l, ∃ i t, e.key = .int i t ∧ e.hash = hashInt i := by
  induction l with
  | nil => intro e he; cases he
  | cons x r ih =>
    intro e he
    rcases List.mem_cons.mp he with q | q
    · rw [q]; exact h.1
    · exact ih h.2 e q
/-- get of a table at the top that has ints for keys and flat values -/
theorem SE_getTab {x e : Expr} {y : Str} {np ap cp : Pos} {a : Addr} {es : Array DictEntry} {m : Nat} {K : Dat → Prop} (hk : cx.sc.lookup y = some .globalImplicit) (hf : nsIn (hd.heap_39 w.params) mainGlobals y = some (some (.ref a)))
    (hl : (hd.heap_39 w.params).lookup a = some ⟨.type "dict", none, .dict es m, #[]⟩) (hkeys : IntKeys es.toList) (lo : (a == sysModules) = false) (hdb : (y == ("__debug__" : Str)) = false)
    (hbase : ∀ env, attributeBase (.Name y np) "get" env (eval (.Name y np) env) = eval (.Name y np) env) (hs : ∀ env, starEach [x, e] env = [(false, eval x env), (false, eval e env)]) (hline : (ap.endLine == cp.line) = true)
    (h : SE w n cx x fun d => ∃ i, d = .int i ∧ SE w n cx e fun d' => match findBy Value.isInt es i with | none => K d' | some v => ∃ d'', (∀ h W, Rep h W v d'') ∧ K d'') :
    SE w n cx (.Call (.Attribute (.Name y np) "get" ap) [x, e] [] cp) K := fun A E env s W rm g o v => by
  refine Call_method2 (hbase env) (hs env) hline (name_global g v hk hf hdb ?_)
  have mp : ∀ {h : Heap}, (hd.heap_39 w.params).In h → h.MapOf (intKind PySem.Challenge.pw_sr0045_01 w) a (fun k => findBy Value.isInt es k) := fun X =>
    ⟨_, es, m, X _ _ hl, ⟨rfl, rfl, rfl⟩, rfl, fun e he => by
      obtain ⟨i, t, e1, e2⟩ := hkeys.all e (Array.mem_toList_iff.mpr he)
      exact ⟨i, by rw [e1]; show Value.isInt i (.int i t) = true; simp [Value.isInt], e2⟩, fun _ => rfl⟩
  refine ⟨"dict", "dict.get", PySem.F.plainAttrs_dict, PySem.F.slot_dict_get, PySem.F.type_dict_get, (mp g.1).typeIs, (mp g.1).noDict, ?_⟩
  refine wpAny_dict_get2 (knd := intKind PySem.Challenge.pw_sr0045_01 w) lo (wpAny_mono (h A E env s W rm g o v) (fun va s₁ ⟨d, rd, ⟨i, hd, h₁⟩, k₁⟩ => ?_) fun _ _ q => q)
  subst hd
  cases rd with
  | int _ t =>
  refine wpAny_mono (h₁ A E env s₁ W rm (g.keeps k₁.k) (o.keeps k₁.k) (v.keeps k₁.k)) (fun vb s₂ ⟨b, rb, h₂, k₂⟩ => ?_) fun _ _ q => q
  have k := k₁.trans k₂
  refine ⟨i, _, (by show Value.isInt i (.int i t) = true; simp [Value.isInt]), mp (g.keeps k.k).1, ?_⟩
  cases hfb : findBy Value.isInt es i with
  | none =>
    simp only [hfb] at h₂
    exact ⟨b, rb, h₂, k.trans (Kp.tok _ _)⟩
  | some v =>
    simp only [hfb] at h₂
    obtain ⟨d'', hr, hK⟩ := h₂
    exact ⟨d'', hr _ _, hK, k.trans (Kp.tok _ _)⟩
theorem OB_len_seq {is : List Int} {K : Dat → Prop} (hs : (is.map Dat.int).length < 2 ^ 62) (h : K (.int (is.map Dat.int).length)) : OB w n (fun vs => call (.builtin "len") vs) [.tuple (is.map .int)] K := fun A E s W vs rm g o rs => by
  generalize hxs : is.map Dat.int = xs at *
  cases rs with
  | cons r rs =>
  cases rs
  cases r with
  | opq I => cases is with
    | nil => cases hxs
    | cons j is => cases hxs
  | seq l ne ra _ =>
  rename_i us _ _ a
  have hl := ra.length
  refine call_len_list l (by rw [List.size_toArray, hl]; omega) ?_
  rw [List.size_toArray, hl]
  exact ⟨_, .int _ _, h, Kp.tok s _⟩
theorem OG_seq {is : List Int} {i : Int} {d : Dat} {K : Dat → Prop} (h0 : 0 ≤ i) (h1 : i < 2 ^ 62) (hi : (is.map Dat.int)[i.toNat]? = some d) (h : K d) : OG w n (.tuple (is.map .int)) (.int i) K := fun A E s W va vb rm g o ra rb => by
  generalize hxs : is.map Dat.int = xs at *
  cases ra with
  | opq I => cases is with
    | nil => cases hxs
    | cons j is => cases hxs
  | seq la na ra _ =>
  cases rb
  obtain ⟨u, hu, ru⟩ := ra.get hi
  exact ⟨"list", _, slot_list_getitem.lookup, la.typeIs, wpAny_getItem_list la h0 (by omega) (by simpa using hu) ⟨d, ru, h, Kp.refl s⟩⟩
theorem O2_of_f {f : Value → Value → Sem Value} {a b : Dat} {K : Dat → Prop} (h : O2f w n f a b fun ds => K (.list ds)) : O2 w n f a b K := fun A E s W va vb rm g o ra rb =>
  wpAny_mono (h A E s W va vb rm g o ra rb) (fun _ _ ⟨a, vs, ds, h1, h2, h3, h4, h5, h6⟩ => ⟨.list ds, h1 ▸ .list h3 (o.fresh h2) h4.away, h5, h6⟩) fun _ _ q => q
theorem fmodN (a b : Nat) : (a : Int).fmod (b : Int) = ((a % b : Nat) : Int) := by
  rw [Int.fmod_eq_emod_of_nonneg _ (Int.natCast_nonneg b)]; rfl
theorem fdivN (a b : Nat) : (a : Int).fdiv (b : Int) = ((a / b : Nat) : Int) := by
  rw [Int.fdiv_eq_ediv_of_nonneg _ (Int.natCast_nonneg b)]; rfl
end
end
section
section
variable {w : World} {n : Nat} {cx : Cx} {pos : Pos}
theorem SG_map {elt : Expr} {gs : List Comprehension} {scope : Scope} {dep : Nat} {x : Str} {px ip : Pos} {ifs : List Expr} {f : Dat → Bool} {g : Dat → Dat}
    (ht : ∀ it acc env, compTurn (.ListComp elt gs scope pos) dep it acc env = turnOf x px ip ifs (.ListComp elt gs scope pos) dep it acc env (addElt elt))
    (hx : cx.sc.lookup x = some .local) (hr : cx.ρ.lookup x = none) (hω : notOwn cx x = true) :
    ∀ (its acc : List Dat), (∀ d ∈ its, STs w n (cx.bind x d) ifs fun b => b = f d) → (∀ d ∈ its, f d = true → SE w n (cx.bind x d) elt fun e => e = g d) → acc.length + its.length ≤ sizeLine →
      SG w n cx (.ListComp elt gs scope pos) dep its acc fun ds => ds = acc ++ (its.filter f).map g
  | [], acc, _, _, _ => SG_nil ht (by simp)
  | d :: its, acc, h1, h2, hs => by
    refine SG_cons ht hx hr (notOwn_ne hω) ?_
    intro A E env s W rm g0 o v
    refine wpAny_mono (h1 d List.mem_cons_self A E env s W rm g0 o v) (fun b s' ⟨hb, k⟩ => ⟨?_, k⟩) fun _ _ q => q
    rw [List.length_cons] at hs
    have ih := fun acc h => SG_map ht hx hr hω its acc (fun d hd => h1 d (List.mem_cons_of_mem _ hd)) (fun d hd => h2 d (List.mem_cons_of_mem _ hd)) h
    cases hf : f d with
    | false =>
      rw [hb, hf, if_neg (by decide)]
      rw [List.filter_cons, hf, if_neg (by decide)]
      exact ih acc (by omega)
    | true =>
      rw [hb, hf, if_pos rfl]
      rw [List.filter_cons, hf, if_pos rfl]
      refine SEm_elt ((h2 d List.mem_cons_self hf).mono fun e he => ⟨by omega, ?_⟩)
      subst he
      refine (ih (acc ++ [g d]) (by rw [List.length_append, List.length_singleton]; omega)).mono fun ds e => ?_
      rw [e, List.map_cons, List.append_assoc]; rfl
theorem SG_map2 {elt iter₂ target it0 : Expr} {gs : List Comprehension} {scope : Scope} {x y : Str} {px py ip ip₂ : Pos} {ifs ifs₂ : List Expr} {f : Dat → Bool} {h : Dat → List Dat} {g : Dat → Dat → Dat} {N : Nat}
    (ht : ∀ it acc env, compTurn (.ListComp elt gs scope pos) 0 it acc env = turnOf x px ip ifs (.ListComp elt gs scope pos) 0 it acc env (goIn (.ListComp elt gs scope pos) iter₂ 1))
    (ht₂ : ∀ it acc env, compTurn (.ListComp elt gs scope pos) 1 it acc env = turnOf y py ip₂ [] (.ListComp elt gs scope pos) 1 it acc env (addElt elt))
    (hg : gs[1]? = some ⟨target, it0, ifs₂, 0⟩) (hs : ∀ env x, foldedSetIterable iter₂ env x = pure x)
    (hx : cx.sc.lookup x = some .local) (hr : cx.ρ.lookup x = none) (hω : notOwn cx x = true)
    (hy : cx.sc.lookup y = some .local) (hry : cx.ρ.lookup y = none) (hyx : (y == x) = false) (hωy : notOwn cx y = true) :
    ∀ (its acc : List Dat), (∀ d ∈ its, STs w n (cx.bind x d) ifs fun b => b = f d) → (∀ d ∈ its, f d = true → SIt w n (cx.bind x d) iter₂ fun es => es = h d) →
      (∀ d ∈ its, f d = true → ∀ e ∈ h d, SE w n ((cx.bind x d).bind y e) elt fun v => v = g d e) → (∀ d ∈ its, f d = true → (h d).length ≤ N) → acc.length + its.length * N ≤ sizeLine →
      SG w n cx (.ListComp elt gs scope pos) 0 its acc fun ds => ds = acc ++ (its.filter f).flatMap fun d => (h d).map (g d)
  | [], acc, _, _, _, _, _ => SG_nil ht (by simp)
  | d :: its, acc, h1, h2, h3, h4, hsz => by
    refine SG_cons ht hx hr (notOwn_ne hω) ?_
    intro A E env s W rm g0 o v
    refine wpAny_mono (h1 d List.mem_cons_self A E env s W rm g0 o v) (fun b s' ⟨hb, k⟩ => ⟨?_, k⟩) fun _ _ q => q
    rw [List.length_cons, Nat.succ_mul] at hsz
    have ih := fun acc h => SG_map2 ht ht₂ hg hs hx hr hω hy hry hyx hωy its acc (fun d hd => h1 d (List.mem_cons_of_mem _ hd)) (fun d hd => h2 d (List.mem_cons_of_mem _ hd)) (fun d hd => h3 d (List.mem_cons_of_mem _ hd)) (fun d hd => h4 d (List.mem_cons_of_mem _ hd)) h
    cases hf : f d with
    | false =>
      rw [hb, hf, if_neg (by decide)]
      rw [List.filter_cons, hf, if_neg (by decide)]
      exact ih acc (by omega)
    | true =>
      rw [hb, hf, if_pos rfl]
      rw [List.filter_cons, hf, if_pos rfl]
      have hl := h4 d List.mem_cons_self hf
      refine SEm_in hg hs ?_
      intro A E env s W rm g0 o v
      refine wpAny_mono (h2 d List.mem_cons_self hf A E env s W rm g0 o v) (fun xv s₁ h₁ => wpAny_mono h₁ (fun it s₂ ⟨I, es, q1, q2, q3, q4, q5⟩ => ⟨I, es, q1, q2, q3, ?_, q5⟩) fun _ _ q => q) fun _ _ q => q
      subst q4
      have inner := SG_map (w := w) (n := n) (cx := cx.bind x d) (f := fun _ => true) (g := g d) ht₂ hy (by show ((x, d) :: cx.ρ).lookup y = none; rw [List.lookup_cons, hyx]; exact hry) hωy (h d) acc (fun e he => STs_nil rfl) (fun e he _ => h3 d List.mem_cons_self hf e he) (by omega)
      refine inner.mono fun ds e => ?_
      rw [List.filter_eq_self.mpr (fun _ _ => rfl)] at e
      subst e
      refine (ih (acc ++ (h d).map (g d)) (by rw [List.length_append, List.length_map]; omega)).mono fun ds e => ?_
      rw [e, List.flatMap_cons, List.append_assoc]
end
end
section
noncomputable def backs (s p : Nat) : List Nat := List.range' (max s (p - 3)) (p - max s (p - 3))
noncomputable def cntT (op : Nat → Nat → Bool) (s : Nat) : Nat → List Nat
  | 0 => List.replicate s 0 ++ [1]
  | m + 1 => cntT op s m ++ [(((backs s (s + m + 1)).filter fun b => op b (s + m + 1)).map fun b => (cntT op s m).getD b 0).sum]
noncomputable def nats (l : List Nat) : List Dat := l.map fun (a : Nat) => .int (a : Int)
theorem upTo_nat : ∀ (n k : Nat), upTo (k : Int) n = nats (List.range' k n)
  | 0, k => rfl
  | n + 1, k => by
    rw [List.range'_succ]
    show Dat.int k :: upTo (k + 1) n = Dat.int k :: nats (List.range' (k + 1) n)
    rw [show ((k : Int) + 1) = ((k + 1 : Nat) : Int) from rfl, upTo_nat n (k + 1)]
theorem backs_up (s p : Nat) : upTo (max (s : Int) ((p : Int) - 3)) ((p : Int) - max (s : Int) ((p : Int) - 3)).toNat = nats (backs s p) := by
  have e1 : max (s : Int) ((p : Int) - 3) = ((max s (p - 3) : Nat) : Int) := by omega
  rw [e1, upTo_nat]
  unfold backs
  congr 2
  omega
theorem backs_mem {s p b : Nat} (h : b ∈ backs s p) : s ≤ b ∧ b < p ∧ p ≤ b + 3 := by
  unfold backs at h
  rw [List.mem_range'_1] at h
  omega
theorem cntT_length (op : Nat → Nat → Bool) (s : Nat) : ∀ m, (cntT op s m).length = s + 1 + m
  | 0 => by simp [cntT]
  | m + 1 => by rw [cntT, List.length_append, cntT_length op s m]; rfl
theorem sum_cast (l : List Nat) : (l.map fun (a : Nat) => (a : Int)).sum = ((l.sum : Nat) : Int) := by
  induction l with
  | nil => rfl
  | cons a l ih => rw [List.map_cons, List.sum_cons, ih, List.sum_cons]; omega
end
section
noncomputable def wayT (op : Nat → Nat → Bool) (s fl : Nat) : Nat → List (List Nat)
  | 0 => List.replicate s [] ++ [[2 ^ (s + fl)]]
  | m + 1 => wayT op s fl m ++ [((backs s (s + m + 1)).filter fun b => op b (s + m + 1)).flatMap fun b => ((wayT op s fl m).getD b []).map fun v => v + 2 ^ (s + m + 1 + fl)]
noncomputable def lsts (t : List (List Nat)) : List Dat := t.map fun l => .list (nats l)
theorem wayT_length (op : Nat → Nat → Bool) (s fl : Nat) : ∀ m, (wayT op s fl m).length = s + 1 + m
  | 0 => by simp [wayT]
  | m + 1 => by rw [wayT, List.length_append, wayT_length op s fl m]; rfl
theorem flatMap_le {α β : Type} (f : α → List β) (N : Nat) : ∀ l : List α, (∀ a ∈ l, (f a).length ≤ N) → (l.flatMap f).length ≤ l.length * N
  | [], _ => by simp
  | a :: l, h => by
    rw [List.flatMap_cons, List.length_append, List.length_cons, Nat.succ_mul]
    have h1 := h a List.mem_cons_self
    have h2 := flatMap_le f N l fun b hb => h b (List.mem_cons_of_mem _ hb)
    omega
theorem backs_len (s p : Nat) : (backs s p).length ≤ 3 := by unfold backs; rw [List.length_range']; omega
theorem wayT_size (op : Nat → Nat → Bool) (s fl : Nat) : ∀ m k, ((wayT op s fl m).getD k []).length ≤ 3 ^ k
  | 0, k => by
    unfold wayT
    rw [List.getD_eq_getElem?_getD]
    have h1 : 1 ≤ 3 ^ k := Nat.one_le_pow _ _ (by decide)
    rcases Nat.lt_trichotomy k s with h | h | h
    · rw [List.getElem?_append_left (by rw [List.length_replicate]; exact h), List.getElem?_replicate, if_pos h]
      exact Nat.zero_le _
    · subst h
      rw [List.getElem?_append_right (by rw [List.length_replicate]; exact Nat.le_refl _), List.length_replicate, Nat.sub_self]
      exact h1
    · rw [List.getElem?_eq_none (by rw [List.length_append, List.length_replicate, List.length_singleton]; omega)]
      exact Nat.zero_le _
  | m + 1, k => by
    have hl := wayT_length op s fl m
    unfold wayT
    rw [List.getD_eq_getElem?_getD]
    rcases Nat.lt_trichotomy k (s + 1 + m) with h | h | h
    · rw [List.getElem?_append_left (by rw [hl]; exact h), ← List.getD_eq_getElem?_getD]
      exact wayT_size op s fl m k
    · rw [List.getElem?_append_right (by rw [hl]; omega), hl, h, Nat.sub_self]
      show (List.flatMap _ _).length ≤ _
      refine Nat.le_trans (flatMap_le _ (3 ^ (k - 1)) _ fun b hb => ?_) ?_
      · rw [List.length_map]
        have hb' := backs_mem (List.mem_filter.mp hb).1
        exact Nat.le_trans (wayT_size op s fl m b) (Nat.pow_le_pow_right (by decide) (by omega))
      · have h3 : (List.filter (fun b => op b (s + m + 1)) (backs s (s + m + 1))).length ≤ 3 := Nat.le_trans (List.length_filter_le _ _) (backs_len _ _)
        have e : 3 ^ (s + 1 + m) = 3 * 3 ^ (k - 1) := by rw [h, show s + 1 + m = (s + 1 + m - 1) + 1 by omega, Nat.pow_succ, Nat.mul_comm]; rfl
        rw [e]
        exact Nat.mul_le_mul_right _ h3
    · rw [List.getElem?_eq_none (by rw [List.length_append, hl, List.length_singleton]; omega)]
      exact Nat.zero_le _
theorem pow_cast (n : Nat) : (2 : Int) ^ n = ((2 ^ n : Nat) : Int) := by rw [Int.natCast_pow]; rfl
section
variable {w : World} {n : Nat} {cx : Cx} {pos : Pos}
theorem ST_inTab {x : Expr} {y : Str} {np : Pos} {a : Addr} {es : Array DictEntry} {m : Nat} {K : Bool → Prop} (hk : cx.sc.lookup y = some .globalImplicit) (hf : nsIn (hd.heap_39 w.params) mainGlobals y = some (some (.ref a)))
    (hl : (hd.heap_39 w.params).lookup a = some ⟨.type "dict", none, .dict es m, #[]⟩) (hkeys : KeysLit w.params es.toList) (lo : (a == sysModules) = false) (hdb : (y == ("__debug__" : Str)) = false) (hm : behindInMarks .In (.Name y np) = false)
    (h : SE w n cx x fun d => ∃ t, d = .str t ∧ K (findBy Value.isStrOf es t).isSome) : ST w n cx (.Compare x [.In] [.Name y np] pos) K := fun A E env s W rm g o v => by
  refine wpAny_isTrue_Compare1 (wpAny_mono (h A E env s W rm g o v) (fun va s₁ ⟨d, rd, ⟨t, hd, hK⟩, k₁⟩ => ?_) fun _ _ q => q) hm
  subst hd
  cases rd with
  | str _ tk =>
  have g₁ := g.keeps k₁.k
  refine name_global g₁ (v.keeps k₁.k) hk hf hdb ?_
  refine wpAny_in_of (strKind_is _ w t tk) lo (mapOf_K g₁.1 hl hkeys) ?_
  exact wpAny_truthy_bool ⟨hK, k₁.trans (Kp.tok _ _)⟩
end
end
section
section
variable {w : World} {n : Nat} {cx : Cx} {pos : Pos}
theorem repStrs_mem {h : Heap} {W : Addr → Prop} : ∀ {us : List Value} {xs : List Str}, RepAll h W us (xs.map .str) → ∀ y ∈ us, ∃ a t, y = .str a t
  | [], _, _, y, hy => by cases hy
  | u :: us, [], r, y, hy => by cases r
  | u :: us, x :: xs, r, y, hy => by
    cases r with
    | cons r rs =>
    cases r with
    | str _ t =>
    rcases List.mem_cons.mp hy with e | e
    · exact ⟨x, t, e⟩
    · exact repStrs_mem rs y e
noncomputable def strIs (x : Str) : Value → Bool
  | .str a _ => a == x
  | _ => false
theorem any_strIs {h : Heap} {W : Addr → Prop} (x : Str) : ∀ {us : List Value} {xs : List Str}, RepAll h W us (xs.map .str) → us.any (strIs x) = xs.any (· == x)
  | [], [], _ => rfl
  | [], _ :: _, r => by cases r
  | u :: us, [], r => by cases r
  | u :: us, y :: xs, r => by
    cases r with
    | cons r rs =>
    cases r with
    | str _ t =>
    rw [List.any_cons, List.any_cons, any_strIs x rs]; rfl
theorem Oc_InStrs {x : Str} {xs : List Str} {K : Dat → Prop} (h : K (.bool (xs.any (· == x)))) : O2 w n (compareOp .In) (.str x) (.list (xs.map .str)) K := fun A E s W va vb rm g o ra rb => by
  cases ra with
  | str _ t =>
  cases rb with
  | list la na rl =>
  rename_i a us
  refine PySem.SeqAt.in_listAt (strIs x) la.isList (fun y hy => ?_) ?_
  · obtain ⟨b, u, rfl⟩ := repStrs_mem rl y (by simpa using hy)
    exact PySem.SeqAt.EqAt.str_str b u x t
  · rw [← Array.any_toList, List.toList_toArray, any_strIs x rl]
    exact ⟨_, .bool _, h, Kp.refl s⟩
theorem Oc_EqNil {ds : List Dat} {K : Dat → Prop} (h : K (.bool ds.isEmpty)) : O2 w n (compareOp .Eq) (.list ds) (.list []) K := fun A E s W va vb rm g o ra rb => by
  cases ra with
  | list la na rl =>
  rename_i a us
  cases rb with
  | list lb nb rl₂ =>
  rename_i b us₂
  cases rl₂
  have hl := rl.length
  cases ds with
  | nil =>
    cases rl
    refine PySem.SeqAt.eq_listAt (e := fun _ => true) la.isList lb.isList rfl rm.ult (fun j h1 h2 => absurd h1 (Nat.not_lt_zero _)) ⟨_, .bool _, h, Kp.refl s⟩
  | cons d ds =>
    refine PySem.SeqAt.eq_list_lengthsAt la.isList lb.isList ?_ rm.ult ⟨_, .bool _, h, Kp.refl s⟩
    rw [List.size_toArray, hl]; rfl
theorem repInts_same {h : Heap} {W : Addr → Prop} {A : Around} {s : Shared} : ∀ {us vs : List Value} {is : List Int}, RepAll h W us (is.map .int) → RepAll h W vs (is.map .int) → ∀ j (h1 : j < us.length) (h2 : j < vs.length), PySem.SeqAt.EqAt A s us[j] vs[j] true
  | [], vs, is, _, _, j, h1, _ => absurd h1 (Nat.not_lt_zero _)
  | u :: us, [], is, _, _, j, _, h2 => absurd h2 (Nat.not_lt_zero _)
  | u :: us, v :: vs, [], r, _, _, _, _ => by cases r
  | u :: us, v :: vs, i :: is, r, r', j, h1, h2 => by
    cases r with
    | cons r rs =>
    cases r' with
    | cons r' rs' =>
    cases r with
    | int _ t =>
    cases r' with
    | int _ t' =>
    cases j with
    | zero =>
      have := PySem.SeqAt.EqAt.int_int (A := A) (s := s) i t i t'
      rw [beq_self_eq_true] at this
      exact this
    | succ j => exact repInts_same rs rs' j (by simpa using h1) (by simpa using h2)
theorem Oc_NeSame {is : List Int} {K : Dat → Prop} (h : K (.bool false)) : O2 w n (compareOp .NotEq) (.list (is.map .int)) (.list (is.map .int)) K := fun A E s W va vb rm g o ra rb => by
  cases ra with
  | list la na rl =>
  rename_i a us
  cases rb with
  | list lb nb rl₂ =>
  rename_i b us₂
  have e1 := rl.length
  have e2 := rl₂.length
  refine PySem.SeqAt.RcNeAt.lists (e := fun _ => true) la.isList lb.isList (by rw [List.size_toArray, List.size_toArray, e1, e2]) rm.ult (fun j h1 h2 => ?_) _ w E _ ?_
  · have := repInts_same (A := A.in1) (s := s) rl rl₂ j (by simpa using h1) (by simpa using h2)
    simpa using this
  · have e : (!(List.range us.toArray.size).all fun _ => true) = false := by simp
    rw [e]
    exact ⟨_, .bool _, h, Kp.refl s⟩
end
end
local macro_rules | `(tactic| walk_at "s") => `(tactic| with_reducible first
  | refine SSs_cons ?_
  | refine SSs_nil ?_
  | refine SS_return ?_
  | refine SS_if ?_
  | refine SS_break ?_
  | refine assign' (by k_dflt rfl) (by k_dflt rfl) (fun _ => by k_dflt rfl) ?_
  | refine aug' (by k_dflt rfl) (by k_dflt rfl) (by k_dflt rfl) ?_
  | refine append' (by k_dflt rfl) ?_ (by k_dflt rfl) (fun _ => by k_dflt rfl) (fun _ => by k_dflt rfl) (by k_dflt rfl) (fun _ => by k_dflt rfl) (fun _ => by k_dflt rfl)
  | refine SS_augItem (by k_dflt rfl) (by k_dflt rfl) (fun _ _ _ => by k_dflt rfl) ?_
  | refine SS_for (fun _ _ => by k_dflt rfl) ?_
  | refine SS_while ?_
  | refine SIt_range1 (by k_dflt rfl) (by k_is) ?_ (fun _ => by k_dflt rfl) (fun _ => by k_dflt rfl)
  | refine SIt_range2 (by k_dflt rfl) (by k_is) ?_ (fun _ => by k_dflt rfl) (fun _ => by k_dflt rfl)
  | refine SL_nil ?_
  | refine SL_cons ?_ (fun _ => by k_dflt rfl)
  | refine SE_cmp ?_ (by k_dflt rfl)
  | refine ST_cmp ?_ (by k_dflt rfl)
  | refine ST_not ?_
  | refine ST_bool ?_
  | refine STl_and ?_
  | refine STl_or ?_
  | refine STl_and_nil ?_
  | refine STl_or_nil ?_
  | refine SE_list ?_
  | refine SE_comp (by k_dflt rfl) ?_ (fun _ _ => by k_dflt rfl)
  | refine STs_nil ?_
  | refine STs_one ?_
  | refine SE_bin ?_
  | refine SE_un ?_
  | refine SE_int ?_
  | refine SE_str ?_
  | refine SE_none ?_
  | refine SE_bool ?_
  | refine SE_if ?_
  | refine SE_boolop ?_
  | refine SE_name (by k_dflt rfl) ?_ (by k_dflt decide)
  | refine SE_idx_own (by k_dflt rfl) ?_ (fun _ _ => ⟨_, by k_dflt rfl⟩) (by k_dflt rfl)
  | refine SE_slice ?_
  | refine SE_idx ?_ (fun _ _ => ⟨_, by k_dflt rfl⟩)
  | refine SE_blt (by k_dflt rfl) (by k_is) (by k_dflt rfl) (by k_dflt decide) (by k_dflt decide) ?_ (fun _ => by k_dflt rfl) (fun _ => by k_dflt rfl)
  | refine SE_def (by k_dflt rfl) (by k_is) (by k_is) (by k_dflt rfl) (by k_dflt decide) ?_ (fun _ => by k_dflt rfl)
  | refine SE_global (by k_dflt rfl) (by k_is) (fun _ _ => Rep.int _ _) (by k_dflt decide) ?_
  | refine SE_global (by k_dflt rfl) (by k_is) (fun _ _ => Rep.str _ _) (by k_dflt decide) ?_
  | refine SBl_one ?_
  | refine SBl_and ?_
  | refine SBl_or ?_
  | refine OT_bool ?_
  | refine SP_none ?_
  | refine SP_some ?_)
section
/-! a bytes iterator handed to a def -/
noncomputable abbrev NF : Addr → Prop := fun _ => False
noncomputable abbrev tape (I : Addr) : Dat := .tuple [.none, .int (I : Int)]
theorem rep_tape {h : Heap} {W : Addr → Prop} {v : Value} {I : Addr} (r : Rep h W v (tape I)) : v = .ref I := by
  unfold tape at r
  generalize hd : Dat.tuple [Dat.none, Dat.int (I : Int)] = d at r
  cases r with
  | nul => cases hd
  | bool => cases hd
  | int => cases hd
  | str => cases hd
  | bytes => cases hd
  | list => cases hd
  | seq l n r e =>
    rename_i is ds
    injection hd with hd
    subst hd
    cases is with
    | nil => cases e
    | cons j is => cases e
  | opq J =>
    injection hd with hd
    injection hd with _ hd
    injection hd with hd _
    injection hd with hd
    have : I = J := by exact Int.ofNat.inj hd
    rw [this]
theorem bi_flds {h : Heap} {I : Addr} {bs : Array UInt8} {tk : Tok} {i : Nat} (x : KBw.IsBytesIter h I bs tk i) : Flds h I := let ⟨o, a, _, c⟩ := x; ⟨o, _, a, c⟩
theorem bi_ef {w : World} {cx : Cx} {B : Heap} {W O : Addr → Prop} {env : Env} {s s' : Shared} {I : Addr} {bs : Array UInt8} {tk : Tok} {i : Nat} (si : SI w cx B W O env s.heap) (x : KBw.IsBytesIter s.heap I bs tk i) (e : Ef O N0 env s s') : KBw.IsBytesIter s'.heap I bs tk i := by
  obtain ⟨h, t, ⟨gs, rfl, ab⟩, k, l⟩ := e
  obtain ⟨m, hm⟩ := si.ns
  have f := bi_flds x
  obtain ⟨o, a, b, c⟩ := x
  exact ⟨o, k I o (f.ne_ns hm).symm (fun n c hc => let ⟨v, hv⟩ := si.cel n c hc; (f.ne_cell hv).symm) (fun q => let ⟨its, l⟩ := si.ol I q; f.ne_list l.isList rfl) id a, b, c⟩
noncomputable def TP (w : World) (I : Addr) (bs : Array UInt8) (tk : Tok) (Kn : Cx → Nat → Prop) (Kr : Dat → Nat → Prop) (B : Heap) (W O : Addr → Prop) (env : Env) (s : Shared) (f : Flow) (s' : Shared) : Prop := match f with
  | .next => ∃ O' cx' i', SI w cx' B W O' env s'.heap ∧ Ef O (fun b => b = I) env s s' ∧ Grow O O' (fun b => b = I) s.heap ∧ KBw.IsBytesIter s'.heap I bs tk i' ∧ Kn cx' i'
  | .ret v => ∃ d i', Rep s'.heap W v d ∧ Kr d i' ∧ Ef O (fun b => b = I) env s s' ∧ KBw.IsBytesIter s'.heap I bs tk i' ∧ ∀ b o, B.get? b = some o → s'.heap.get? b = some o
  | _ => False
theorem TP.trans {w : World} {I : Addr} {bs : Array UInt8} {tk : Tok} {Kn : Cx → Nat → Prop} {Kr : Dat → Nat → Prop} {B : Heap} {W O O' : Addr → Prop} {env : Env} {s s₁ : Shared} {f : Flow} {s' : Shared} (e : Ef O (fun b => b = I) env s s₁) (g : Grow O O' (fun b => b = I) s.heap) (h : TP w I bs tk Kn Kr B W O' env s₁ f s') : TP w I bs tk Kn Kr B W O env s f s' := by
  cases f with
  | next => obtain ⟨O'', cx', i', h1, h2, h3, h4, h5⟩ := h; exact ⟨O'', cx', i', h1, e.trans g h2, e.grow g h3, h4, h5⟩
  | brk => exact h
  | cont => exact h
  | ret v => obtain ⟨d, i', h1, h2, h3, h4, h5⟩ := h; exact ⟨d, i', h1, h2, e.trans g h3, h4, h5⟩
section
variable (w : World) (n : Nat) (I : Addr) (bs : Array UInt8) (tk : Tok)
noncomputable def TS (cx : Cx) (i : Nat) (st : Stmt) (Kn : Cx → Nat → Prop) (Kr : Dat → Nat → Prop) : Prop :=
  ∀ (A : Around) (E : Value → Shared → Prop) (env : Env) (s : Shared) (B : Heap) (W O : Addr → Prop), Rm n A → SI w cx B W O env s.heap → KBw.IsBytesIter s.heap I bs tk i → B.get? I = none → wpAny (MD w) A (exec st env) (TP w I bs tk Kn Kr B W O env s) E s
noncomputable def TSs (cx : Cx) (i : Nat) (sts : List Stmt) (Kn : Cx → Nat → Prop) (Kr : Dat → Nat → Prop) : Prop :=
  ∀ (A : Around) (E : Value → Shared → Prop) (env : Env) (s : Shared) (B : Heap) (W O : Addr → Prop), Rm n A → SI w cx B W O env s.heap → KBw.IsBytesIter s.heap I bs tk i → B.get? I = none → wpAny (MD w) A (execs sts env) (TP w I bs tk Kn Kr B W O env s) E s
noncomputable def TW (cx : Cx) (i : Nat) (test : Expr) (body : List Stmt) (Kn : Cx → Nat → Prop) (Kr : Dat → Nat → Prop) : Prop :=
  ∀ (A : Around) (R : Result → Shared → Prop) (env : Env) (s : Shared) (B : Heap) (W O : Addr → Prop), Rm n A → SI w cx B W O env s.heap → KBw.IsBytesIter s.heap I bs tk i → B.get? I = none →
    (∀ f s', TP w I bs tk Kn Kr B W O env s f s' → R (.ok f) s') → codeAny (MD w) A (.whileLoop test body [] env) R s
variable {w : World} {n : Nat} {I : Addr} {bs : Array UInt8} {tk : Tok} {cx : Cx} {i : Nat} {Kn : Cx → Nat → Prop} {Kr : Dat → Nat → Prop} {pos : Pos}
theorem TS_of {st : Stmt} (h : SS w n cx st (fun cx' => Kn cx' i) (fun d => Kr d i) (fun _ => False)) : TS w n I bs tk cx i st Kn Kr := fun A E env s B W O rm si it nb => by
  refine wpAny_mono (h A E env s B W O rm si) (fun f s' hf => ?_) fun _ _ q => q
  cases f with
  | next => obtain ⟨O', cx', h1, h2, h3, h4⟩ := hf; exact ⟨O', cx', i, h1, h2.wide, h3.wide, bi_ef si it h2, h4⟩
  | brk => obtain ⟨_, _, _, _, _, q⟩ := hf; exact q.elim
  | cont => exact hf.elim
  | ret v => obtain ⟨d, h1, h2, h3, h4⟩ := hf; exact ⟨d, i, h1, h2, h3.wide, bi_ef si it h3, h4⟩
theorem TSs_nil (h : Kn cx i) : TSs w n I bs tk cx i [] Kn Kr := fun A E env s B W O rm si it nb => wpAny_execs_nil ⟨O, cx, i, si, Ef.refl s, Grow.refl, it, h⟩
theorem TSs_cons {st : Stmt} {sts : List Stmt} (h : TS w n I bs tk cx i st (fun cx' i' => TSs w n I bs tk cx' i' sts Kn Kr) Kr) : TSs w n I bs tk cx i (st :: sts) Kn Kr := fun A E env s B W O rm si it nb => by
  refine wpAny_execs_cons (wpAny_mono (h A E env s B W O rm si it nb) (fun f s₁ h₁ => ?_) fun _ _ q => q)
  cases f with
  | next =>
    obtain ⟨O', cx', i', h1, h2, h3, h4, h5⟩ := h₁
    exact wpAny_mono (h5 A E env s₁ B W O' rm h1 h4 nb) (fun f s' h => TP.trans h2 h3 h) fun _ _ q => q
  | brk => exact h₁
  | cont => exact h₁
  | ret v => exact h₁
theorem TS_while {test : Expr} {body : List Stmt} (h : TW w n I bs tk cx i test body Kn Kr) : TS w n I bs tk cx i (.While test body [] pos) Kn Kr := fun A E env s B W O rm si it nb =>
  wpAny_While (h A _ env s B W O rm si it nb fun f s' h => h)
theorem TW_step {test : Expr} {body : List Stmt} (h : ST w n cx test fun b => if b = true then TSs w n I bs tk cx i body (fun cx' i' => TW w n I bs tk cx' i' test body Kn Kr) Kr else Kn cx i) : TW w n I bs tk cx i test body Kn Kr := fun A R env s B W O rm si it nb hR => by
  refine codeAny_of_tree ?_
  show wpAny _ A ((whileTurn test body [] env).onRaise (fun x => do noteFrame x env; theTreesLotGoes x)) _ _ s
  refine wpAny_noted ?_
  simp only [whileTurn]
  refine wpAny_bind (wpAny_mono (h A _ env s _ rm si.gh si.wok si.ok) (fun b s₁ ⟨h₁, k₁⟩ => ?_) fun _ _ h' => h')
  have si₁ := si.keeps k₁.k
  have it₁ : KBw.IsBytesIter s₁.heap I bs tk i := let ⟨o, a, b, c⟩ := it; ⟨o, k₁.k _ _ a, b, c⟩
  cases b with
  | false =>
    simp only [Bool.false_eq_true, if_false] at h₁ ⊢
    exact wpAny_bind (wpAny_execs_nil (wpAny_pure (hR .next s₁ (TP.trans (Ef.kp k₁) Grow.refl ⟨O, cx, i, si₁, Ef.refl s₁, Grow.refl, it₁, h₁⟩))))
  | true =>
    simp only [if_true] at h₁ ⊢
    refine wpAny_bind (wpAny_mono (h₁ A _ env s₁ B W O rm si₁ it₁ nb) (fun f s₃ h₃ => ?_) fun _ _ h' => h')
    cases f with
    | next =>
      obtain ⟨O', cx', i', h1, h2, h3, h4, h5⟩ := h₃
      exact wpAny_pure ⟨rfl, h5 A R env s₃ B W O' rm h1 h4 nb fun f s' h => hR f s' (TP.trans (Ef.kp k₁) Grow.refl (TP.trans h2 h3 h))⟩
    | cont => exact h₃.elim
    | brk => exact h₃.elim
    | ret v => exact wpAny_pure (hR (.ret v) s₃ (TP.trans (Kn := Kn) (f := .ret v) (Ef.kp k₁) Grow.refl h₃))
end
end
section
section
variable {w : World} {A : Around} {E : Value → Shared → Prop} {s : Shared}
theorem next_bytes {bs : Array UInt8} {tk : Tok} {I : Addr} {i : Nat} {c : UInt8} {Q : Value → Shared → Prop} (hit : KBw.IsBytesIter s.heap I bs tk i) (hx : bs[i]? = some c)
    (hQ : ∀ h', KBw.IsBytesIter h' I bs tk (i + 1) → Heap.SameBut I s.heap h' → Q (.int (c.toNat : Int) s.toks) { s with heap := h', toks := s.toks + 1 }) : wpAny (MD w) A (call (.builtin "next") [.ref I]) Q E s := by
  refine call_function_entry (by decide +kernel) (by decide +kernel) kdk_entry_next (kdk_args_next _) ?_
  unfold Builtin.«next»
  refine wpAny_bind (m := someArgs "next" 1 2 _) (wpAny_of_eq (a := [Value.ref I]) (by first | rfl | kernel_rfl!) ?_)
  dsimp only
  refine wpAny_bind (wpAny_specialOf (name := Str.ofString "__next__") (KBw.iter_typeIs hit) KBw.slot_next.lookup ?_)
  refine wpAny_ite_split (fun hab => absurd hab (by decide)) (fun _ => ?_)
  obtain ⟨o, ho, hc, hd⟩ := id hit
  refine wpAny_bind (wpAny_callSpecial?_slot (name := PySem.Str.ofString "__next__") (KBw.iter_typeIs hit) KBw.slot_next
    (wpAny_call_entry KBw.slot_next (KBw.iter_typeIs hit) KBw.entry_next ?_ (KBw.args_next _)))
  show wpAny _ _ (field (.ref I) 0 >>= _) _ _ s
  refine wpAny_bind (wpAny_field ho hd (x := .bytes bs tk) rfl ?_)
  show wpAny _ _ (if (Value.bytes bs tk == Value.none) = true then _ else _) _ _ s
  rw [if_neg (show ¬ ((Value.bytes bs tk == Value.none) = true) from Bool.false_ne_true)]
  show wpAny _ _ (field (.ref I) 1 >>= _) _ _ s
  refine wpAny_bind (wpAny_field ho hd (x := .int i 0) rfl ?_)
  refine wpAny_bind (wpAny_of_eq (a := bs) rfl ?_)
  simp only [Int.toNat_natCast, hx]
  refine wpAny_bind (wpAny_setField ho hd (by simp) (wpAny_bind (wpAny_mkInt (wpAny_pure ⟨_, rfl, wpAny_pure ⟨_, rfl, hQ _ ?_ (Heap.SameBut.update ..)⟩⟩))))
  exact ⟨_, Heap.get?_update_self _ ho (Obj.isFreed_of_fields (Obj.data_mapFields hd _)), (Obj.cls_mapFields ..).trans hc, by
    rw [Obj.data_mapFields hd]; simp [rawInt]⟩
end
section
variable {w : World} {n : Nat} {I : Addr} {bs : Array UInt8} {tk : Tok} {cx : Cx} {i : Nat} {Kn : Cx → Nat → Prop} {Kr : Dat → Nat → Prop} {pos : Pos}
theorem TS_next {x it : Str} {np fp ip cp : Pos} {c : UInt8} (h1 : isVarB cx x = true) (h2 : notOwn cx x = true) (hl : cx.ρ.lookup it = some (tape I)) (hdb : (it == ("__debug__" : Str)) = false) (hk : cx.sc.lookup (Str.ofString "next") = some .globalImplicit)
    (hf : nsIn (hd.heap_39 w.params) mainGlobals (Str.ofString "next") = some none) (hx : bs[i]? = some c) (h : Kn (cx.bind x (.int (c.toNat : Int))) (i + 1))
    (hs : ∀ env, swapsWith (.Call (.Name (Str.ofString "next") fp) [.Name it ip] [] cp) (some (.Name x np)) pos.line env = pure false) (he : ∀ env, starEach [.Name it ip] env = (false, eval (.Name it ip) env) :: starEach [] env) (hp : ∀ env, (backTo cp (starEach [] env)).any (·.1) = false) :
    TS w n I bs tk cx i (.Assign [.Name x np] (.Call (.Name (Str.ofString "next") fp) [.Name it ip] [] cp) pos) Kn Kr := fun A E env s B W O rm si bi nb => by
  refine wpAny_Assign_Name ?_ (hs env)
  refine Call_Name rfl (name_builtin si.gh si.ok hk hf boot_next (by decide) (by decide) ?_)
  have sl : SL w n cx cp [.Name it ip] (fun ds => ds = [tape I]) := SL_cons (SE_name hl (SL_nil rfl) hdb) he
  refine PyProof.Rows.callWith_builtin1 (wpAny_mono (sl A E env s _ rm si.gh si.wok si.ok) (fun vs s₁ ⟨ds, rs, e, k₁⟩ => ?_) fun _ _ q => q) (he env) (hp env)
  subst e
  cases rs with
  | cons r rs =>
  cases rs
  have ev := rep_tape r
  subst ev
  have bi₁ : KBw.IsBytesIter s₁.heap I bs tk i := let ⟨o, a, b, c⟩ := bi; ⟨o, k₁.k _ _ a, b, c⟩
  have si₁ := si.keeps k₁.k
  refine next_bytes bi₁ hx fun h' bi' hs' => ?_
  have f := bi_flds bi₁
  have si₂ : SI w cx B W O env h' := si₁.flds hs'.extBut f nb
  have e₂ : Ef O (fun b => b = I) env s₁ { s₁ with heap := h', toks := s₁.toks + 1 } := ⟨h', _, ⟨_, rfl, GB.refl _⟩, fun b o _ _ _ q e => hs'.extBut b o q e, fun b o q e => ⟨o, hs'.extBut b o q e⟩⟩
  refine store_data (s := { s₁ with heap := h', toks := s₁.toks + 1 }) si₂ (isVar_of h1) (.int _ _) (notOwn_ne h2) fun s₃ si₃ e₃ => ?_
  exact TP.trans (f := .next) (Ef.kp k₁) Grow.refl (TP.trans (f := .next) e₂ Grow.refl ⟨O, _, i + 1, si₃, e₃.wide, Grow.refl, bi_ef si₂ bi' e₃, h⟩)
end
end
section
section
variable {w : World} {n : Nat}
theorem call_tape {f : Addr} {ob : Obj} {fd : FuncData} {body : List Stmt} {xs : List Str} {I : Addr} {bs : Array UInt8} {tk : Tok} {i : Nat} {Kr : Dat → Nat → Prop} (ho : (hd.heap_39 w.params).lookup f = some ob) (hdt : ob.data = .func fd)
    {sc : List (Str × NameKind)} {ρ : List (Str × Dat)} (ok : DefOk (hd.heap_39 w.params) f fd xs body) (hlen : 1 = xs.length) (hsc : fd.scope.names = sc) (hρ : xs.zip [tape I] = ρ)
    (h : TSs w n I bs tk ⟨sc, ρ, none⟩ i body (fun _ _ => False) Kr) {A : Around} {E : Value → Shared → Prop} {s : Shared} {B : Heap} {W : Addr → Prop} (rm : Rm (n + 1) A) (g : GH w B) (o : WOk W B) (hB : ∀ b o, B.get? b = some o → s.heap.get? b = some o) (bi : KBw.IsBytesIter s.heap I bs tk i) (nb : B.get? I = none) :
    wpAny (MD w) A (call (.ref f) [.ref I]) (fun v s' => ∃ d i', Rep s'.heap W v d ∧ Kr d i' ∧ KBw.IsBytesIter s'.heap I bs tk i' ∧ ∃ h' tk', GnB s s' h' tk' ∧ ∀ b o, b ≠ I → s.heap.get? b = some o → h'.get? b = some o) E s := by
  have rs : RepAll s.heap W [Value.ref I] [tape I] := .cons (.opq I) .nil
  have hlen' : ([tape I] : List Dat).length = xs.length := hlen
  obtain ⟨vs, hvs⟩ : ∃ vs, vs = [Value.ref I] := ⟨_, rfl⟩
  rw [← hvs] at rs ⊢
  subst hsc hρ
  have hl : vs.length = xs.length := rs.length.trans hlen'
  have gs : GH w s.heap := g.keeps hB
  obtain ⟨X, mg, mb, mean, T⟩ := gs
  refine wpAny_call ?_
  have cellHas : ∀ x, fd.scope.names.lookup x = some .cell → ∃ c, (cellsFrom (s.heap.objs.size + 1) fd.scope.names []).lookup x = some c := fun x hx => by
    obtain ⟨c, hc⟩ := cellsFrom_has fd.scope.names (s.heap.objs.size + 1) [] x (mem_of_lookup hx)
    exact lookup_of_mem hc
  refine codeAny_call_cells (binds := xs.zip vs) rm.lt (X _ _ ho) hdt T.nolimit (codeRec_of X ok.code) ok.body (ok.binds vs hl) ok.clo (fun q hq => ?_) (fun s₁ i₁ => ?_) ok.co ok.gen ok.kind
  · have hx := (List.of_mem_zip (a := q.1) (b := q.2) hq).1
    rcases ok.vars _ hx with e | ⟨e, _⟩
    · exact .inl e
    · obtain ⟨c, hc⟩ := cellHas _ e
      exact .inr ⟨e, by rw [hc]; rfl⟩
  generalize henv : callEnvC fd s.heap.objs.size f = env at i₁ ⊢
  have kN : env.scope.names = fd.scope.names := by rw [← henv]; rfl
  have kC : env.cells = cellsFrom (s.heap.objs.size + 1) fd.scope.names [] := by rw [← henv]; rfl
  have kF : ∀ x, env.kindOf x = fd.scope.names.lookup x := fun x => by show env.scope.names.lookup x = _; rw [kN]
  have nd := zip_fst_nodup (vs := vs) ok.nodup
  have hs := i₁.toInCall.keep
  have si : SI w ⟨fd.scope.names, xs.zip [tape I], none⟩ B W N0 env s₁.heap := by
    refine ⟨g, o, fun b ob e => ⟨hs b ob (hB b ob e), Nat.ne_of_lt (Nat.lt_of_lt_of_le (Heap.lt_size (hB b ob e)) i₁.toInCall.fresh), fun n c hc => Nat.ne_of_lt (Nat.lt_trans (Nat.lt_of_lt_of_le (Heap.lt_size (hB b ob e)) i₁.toInCall.fresh) (i₁.above n c (mem_of_lookup hc))), id⟩,
      ⟨by rw [← henv]; exact ok.globals, by rw [← henv]; exact ok.builtins, by rw [← henv]; exact ok.kind, kN, fun x hx => ?_, fun x d hx => ?_, fun _ _ e => by cases e⟩, (fun _ _ e => by cases e), fun a q => q.elim, ⟨_, i₁.toInCall.ns⟩, fun n c hc => ⟨_, i₁.cell n c hc⟩, i₁.apart⟩
    · rw [kF] at hx; rw [kC]; exact cellHas x hx
    · obtain ⟨v, hv, rv⟩ := zip_rep rs hx
      refine ⟨v, ?_, (rv.weaken fun b q => q.elim id fun f => f.elim).keeps hs⟩
      rcases ok.vars x (List.of_mem_zip hv).1 with e | ⟨e, e2⟩
      · exact .inl ⟨(kF x).trans e, _, i₁.toInCall.ns, bindL_some _ _ x v nd hv ((kF x).trans e)⟩
      · obtain ⟨c, hc⟩ := cellHas x e
        have hk : env.kindOf x = some .cell := (kF x).trans e
        have hc' : env.cells.lookup x = some c := by rw [kC]; exact hc
        refine .inr ⟨.inl hk, e2, c, hc', ?_⟩
        have := i₁.cell x c hc'
        rwa [bindC_some _ _ x v nd hv (by rw [hk]; decide)] at this
  have bi₁ : KBw.IsBytesIter s₁.heap I bs tk i := let ⟨o, a, b, c⟩ := bi; ⟨o, hs _ _ a, b, c⟩
  refine wpAny_mono (h _ _ env s₁ B W N0 rm.deeper si bi₁ nb) (fun fl s' hf => ?_) fun _ _ q => q
  cases fl with
  | next => obtain ⟨O', cx', i', h1, h2, h3, h4, h5⟩ := hf; exact h5.elim
  | brk => exact hf.elim
  | cont => exact hf.elim
  | ret v =>
    obtain ⟨d, i', h1, h2, h3, h4, h5⟩ := hf
    refine ⟨d, i', h1, h2, h4, ?_⟩
    obtain ⟨h₁, t₁, e₁⟩ := i₁.toInCall.same
    obtain ⟨h₂, t₂, ⟨gs, rfl, ab⟩, k, _⟩ := h3
    have ks : ∀ b o, b ≠ I → s.heap.get? b = some o → h₂.get? b = some o := fun b o hb e =>
      k b o (Nat.ne_of_lt (Nat.lt_of_lt_of_le (Heap.lt_size e) i₁.toInCall.fresh)) (fun n c hc => Nat.ne_of_lt (Nat.lt_trans (Nat.lt_of_lt_of_le (Heap.lt_size e) i₁.toInCall.fresh) (i₁.above n c (mem_of_lookup hc)))) id hb (hs b o e)
    subst e₁
    exact ⟨h₂, t₂, ⟨_, rfl, ab⟩, ks⟩
end
end
section
/-! calls by hand, frames, the end of the tape -/
noncomputable abbrev E0 : Heap := ⟨#[], {}⟩
theorem e0_get (b : Addr) : E0.get? b = none := by
  show (match (#[] : Array Obj)[b]? with | some ⟨_, _, .freed, _⟩ => none | x => x) = none
  simp
/-- what the frames of a stack are -/
noncomputable abbrev FF (h : Heap) (l : List Env) : Prop := h.FunFrames E0 l
theorem FF.keeps {h h' : Heap} {l : List Env} (x : FF h l) (k : ∀ b o, h.get? b = some o → (∀ vs, o.data ≠ .fields vs) → ∃ sl, h'.get? b = some { o with slots := sl }) : FF h' l :=
  x.of_keeps fun b o e n => let ⟨sl, q⟩ := k b o e n; ⟨_, q, rfl⟩
theorem FF.base {h base : Heap} : ∀ {l : List Env}, FF h l → (∀ env ∈ l, ∀ L, env.frame = some L → base.get? L = none) → h.FunFrames base l
  | [], _, _ => trivial
  | env :: r, ⟨hk, ⟨L, o, hf, _, ho, hd⟩, hr⟩, k => ⟨hk, ⟨L, o, hf, k env (.head _) L hf, ho, hd⟩, FF.base hr fun e he => k e (.tail _ he)⟩

section
variable {w : World} {n : Nat}
theorem call_hand {f : Addr} {ob : Obj} {fd : FuncData} {body : List Stmt} {xs : List Str} {ds : List Dat} {vs : List Value} (ho : (hd.heap_39 w.params).lookup f = some ob) (hdt : ob.data = .func fd)
    {sc : List (Str × NameKind)} {ρ : List (Str × Dat)} (ok : DefOk (hd.heap_39 w.params) f fd xs body) (hlen : ds.length = xs.length) (hsc : fd.scope.names = sc) (hρ : xs.zip ds = ρ)
    {A : Around} {E : Value → Shared → Prop} {Q : Value → Shared → Prop} {s : Shared} {B : Heap} {W : Addr → Prop} (rm : Rm (n + 1) A) (g : GH w B) (o : WOk W B) (hB : ∀ b o, B.get? b = some o → s.heap.get? b = some o) (rs : RepAll s.heap W vs ds)
    (h : ∀ env s₁, SI w ⟨sc, ρ, none⟩ B W N0 env s₁.heap → env.frame = some env.locals → s.heap.get? env.locals = none → (∀ n c, env.cells.lookup n = some c → s.heap.get? c = none) → (∃ h' tk, s₁ = { s with heap := h', toks := tk }) → (∀ b o, s.heap.get? b = some o → s₁.heap.get? b = some o) → Rm n (A.deeper env) →
      wpAny (MD w) (A.deeper env) (execs body env) (fun fl s' => Q (match fl with | .ret v => v | _ => .none) s') (fun e s' => wpAny (MD w) (A.deeper env) (leaving env e) (fun _ s'' => E e s'') (fun e' s'' => E e' s'') s') s₁) :
    wpAny (MD w) A (call (.ref f) vs) Q E s := by
  subst hsc hρ
  have hl : vs.length = xs.length := rs.length.trans hlen
  have gs : GH w s.heap := g.keeps hB
  obtain ⟨X, mg, mb, mean, T⟩ := gs
  refine wpAny_call ?_
  have cellHas : ∀ x, fd.scope.names.lookup x = some .cell → ∃ c, (cellsFrom (s.heap.objs.size + 1) fd.scope.names []).lookup x = some c := fun x hx => by
    obtain ⟨c, hc⟩ := cellsFrom_has fd.scope.names (s.heap.objs.size + 1) [] x (mem_of_lookup hx)
    exact lookup_of_mem hc
  refine codeAny_call_cells (binds := xs.zip vs) rm.lt (X _ _ ho) hdt T.nolimit (codeRec_of X ok.code) ok.body (ok.binds vs hl) ok.clo (fun q hq => ?_) (fun s₁ i₁ => ?_) ok.co ok.gen ok.kind
  · have hx := (List.of_mem_zip (a := q.1) (b := q.2) hq).1
    rcases ok.vars _ hx with e | ⟨e, _⟩
    · exact .inl e
    · obtain ⟨c, hc⟩ := cellHas _ e
      exact .inr ⟨e, by rw [hc]; rfl⟩
  have hfr : (callEnvC fd s.heap.objs.size f).frame = some (callEnvC fd s.heap.objs.size f).locals := rfl
  generalize henv : callEnvC fd s.heap.objs.size f = env at i₁ hfr ⊢
  have kN : env.scope.names = fd.scope.names := by rw [← henv]; rfl
  have kC : env.cells = cellsFrom (s.heap.objs.size + 1) fd.scope.names [] := by rw [← henv]; rfl
  have kF : ∀ x, env.kindOf x = fd.scope.names.lookup x := fun x => by show env.scope.names.lookup x = _; rw [kN]
  have nd := zip_fst_nodup (vs := vs) ok.nodup
  have hs := i₁.toInCall.keep
  have si : SI w ⟨fd.scope.names, xs.zip ds, none⟩ B W N0 env s₁.heap := by
    refine ⟨g, o, fun b ob e => ⟨hs b ob (hB b ob e), Nat.ne_of_lt (Nat.lt_of_lt_of_le (Heap.lt_size (hB b ob e)) i₁.toInCall.fresh), fun n c hc => Nat.ne_of_lt (Nat.lt_trans (Nat.lt_of_lt_of_le (Heap.lt_size (hB b ob e)) i₁.toInCall.fresh) (i₁.above n c (mem_of_lookup hc))), id⟩,
      ⟨by rw [← henv]; exact ok.globals, by rw [← henv]; exact ok.builtins, by rw [← henv]; exact ok.kind, kN, fun x hx => ?_, fun x d hx => ?_, fun _ _ e => by cases e⟩, (fun _ _ e => by cases e), fun a q => q.elim, ⟨_, i₁.toInCall.ns⟩, fun n c hc => ⟨_, i₁.cell n c hc⟩, i₁.apart⟩
    · rw [kF] at hx; rw [kC]; exact cellHas x hx
    · obtain ⟨v, hv, rv⟩ := zip_rep rs hx
      refine ⟨v, ?_, (rv.weaken fun b q => q.elim id fun f => f.elim).keeps hs⟩
      rcases ok.vars x (List.of_mem_zip hv).1 with e | ⟨e, e2⟩
      · exact .inl ⟨(kF x).trans e, _, i₁.toInCall.ns, bindL_some _ _ x v nd hv ((kF x).trans e)⟩
      · obtain ⟨c, hc⟩ := cellHas x e
        have hk : env.kindOf x = some .cell := (kF x).trans e
        have hc' : env.cells.lookup x = some c := by rw [kC]; exact hc
        refine .inr ⟨.inl hk, e2, c, hc', ?_⟩
        have := i₁.cell x c hc'
        rwa [bindC_some _ _ x v nd hv (by rw [hk]; decide)] at this
  have hge : ∀ b, s.heap.objs.size ≤ b → s.heap.get? b = none := fun b hb => Heap.get?_none_of_le hb
  refine h env s₁ si hfr (hge _ i₁.toInCall.fresh) (fun n c hc => hge _ (Nat.le_trans i₁.toInCall.fresh (Nat.le_of_lt (i₁.above n c (mem_of_lookup hc))))) i₁.toInCall.same hs rm.deeper
end
end
section
section
variable {w : World} {n : Nat}
theorem code_hand {f : Addr} {ob : Obj} {fd : FuncData} {body : List Stmt} {xs : List Str} {ds : List Dat} {vs : List Value} (ho : (hd.heap_39 w.params).lookup f = some ob) (hdt : ob.data = .func fd)
    {sc : List (Str × NameKind)} {ρ : List (Str × Dat)} (ok : DefOk (hd.heap_39 w.params) f fd xs body) (hlen : ds.length = xs.length) (hsc : fd.scope.names = sc) (hρ : xs.zip ds = ρ)
    {A : Around} {R : Result → Shared → Prop} {s : Shared} {B : Heap} {W : Addr → Prop} (rm : Rm (n + 1) A) (g : GH w B) (o : WOk W B) (hB : ∀ b o, B.get? b = some o → s.heap.get? b = some o) (rs : RepAll s.heap W vs ds)
    (h : ∀ env s₁, SI w ⟨sc, ρ, none⟩ B W N0 env s₁.heap → env.frame = some env.locals → s.heap.get? env.locals = none → (∀ n c, env.cells.lookup n = some c → s.heap.get? c = none) → (∃ h' tk, s₁ = { s with heap := h', toks := tk }) → (∀ b o, s.heap.get? b = some o → s₁.heap.get? b = some o) → Rm n (A.deeper env) →
      wpAny (MD w) (A.deeper env) (execs body env) (fun fl s' => R (.ok (.ret (match fl with | .ret v => v | _ => .none))) s') (fun e s' => wpAny (MD w) (A.deeper env) (leaving env e) (fun _ s'' => R (.error e) s'') (fun e' s'' => R (.error e') s'') s') s₁) :
    codeAny (MD w) A (.call (.ref f) ⟨vs, []⟩) R s := by
  subst hsc hρ
  have hl : vs.length = xs.length := rs.length.trans hlen
  have gs : GH w s.heap := g.keeps hB
  obtain ⟨X, mg, mb, mean, T⟩ := gs
  have cellHas : ∀ x, fd.scope.names.lookup x = some .cell → ∃ c, (cellsFrom (s.heap.objs.size + 1) fd.scope.names []).lookup x = some c := fun x hx => by
    obtain ⟨c, hc⟩ := cellsFrom_has fd.scope.names (s.heap.objs.size + 1) [] x (mem_of_lookup hx)
    exact lookup_of_mem hc
  refine codeAny_call_cells (binds := xs.zip vs) rm.lt (X _ _ ho) hdt T.nolimit (codeRec_of X ok.code) ok.body (ok.binds vs hl) ok.clo (fun q hq => ?_) (fun s₁ i₁ => ?_) ok.co ok.gen ok.kind
  · have hx := (List.of_mem_zip (a := q.1) (b := q.2) hq).1
    rcases ok.vars _ hx with e | ⟨e, _⟩
    · exact .inl e
    · obtain ⟨c, hc⟩ := cellHas _ e
      exact .inr ⟨e, by rw [hc]; rfl⟩
  have hfr : (callEnvC fd s.heap.objs.size f).frame = some (callEnvC fd s.heap.objs.size f).locals := rfl
  generalize henv : callEnvC fd s.heap.objs.size f = env at i₁ hfr ⊢
  have kN : env.scope.names = fd.scope.names := by rw [← henv]; rfl
  have kC : env.cells = cellsFrom (s.heap.objs.size + 1) fd.scope.names [] := by rw [← henv]; rfl
  have kF : ∀ x, env.kindOf x = fd.scope.names.lookup x := fun x => by show env.scope.names.lookup x = _; rw [kN]
  have nd := zip_fst_nodup (vs := vs) ok.nodup
  have hs := i₁.toInCall.keep
  have si : SI w ⟨fd.scope.names, xs.zip ds, none⟩ B W N0 env s₁.heap := by
    refine ⟨g, o, fun b ob e => ⟨hs b ob (hB b ob e), Nat.ne_of_lt (Nat.lt_of_lt_of_le (Heap.lt_size (hB b ob e)) i₁.toInCall.fresh), fun n c hc => Nat.ne_of_lt (Nat.lt_trans (Nat.lt_of_lt_of_le (Heap.lt_size (hB b ob e)) i₁.toInCall.fresh) (i₁.above n c (mem_of_lookup hc))), id⟩,
      ⟨by rw [← henv]; exact ok.globals, by rw [← henv]; exact ok.builtins, by rw [← henv]; exact ok.kind, kN, fun x hx => ?_, fun x d hx => ?_, fun _ _ e => by cases e⟩, (fun _ _ e => by cases e), fun a q => q.elim, ⟨_, i₁.toInCall.ns⟩, fun n c hc => ⟨_, i₁.cell n c hc⟩, i₁.apart⟩
    · rw [kF] at hx; rw [kC]; exact cellHas x hx
    · obtain ⟨v, hv, rv⟩ := zip_rep rs hx
      refine ⟨v, ?_, (rv.weaken fun b q => q.elim id fun f => f.elim).keeps hs⟩
      rcases ok.vars x (List.of_mem_zip hv).1 with e | ⟨e, e2⟩
      · exact .inl ⟨(kF x).trans e, _, i₁.toInCall.ns, bindL_some _ _ x v nd hv ((kF x).trans e)⟩
      · obtain ⟨c, hc⟩ := cellHas x e
        have hk : env.kindOf x = some .cell := (kF x).trans e
        have hc' : env.cells.lookup x = some c := by rw [kC]; exact hc
        refine .inr ⟨.inl hk, e2, c, hc', ?_⟩
        have := i₁.cell x c hc'
        rwa [bindC_some _ _ x v nd hv (by rw [hk]; decide)] at this
  have hge : ∀ b, s.heap.objs.size ≤ b → s.heap.get? b = none := fun b hb => Heap.get?_none_of_le hb
  refine h env s₁ si hfr (hge _ i₁.toInCall.fresh) (fun n c hc => hge _ (Nat.le_trans i₁.toInCall.fresh (Nat.le_of_lt (i₁.above n c (mem_of_lookup hc))))) i₁.toInCall.same hs rm.deeper
end
end
section
section
variable {w : World} {A : Around} {E : Value → Shared → Prop} {s : Shared}
theorem next_raise {bs : Array UInt8} {tk : Tok} {I : Addr} {i : Nat} {Q : Value → Shared → Prop} (hh : A.handled = none) (hit : KBw.IsBytesIter s.heap I bs tk i) (hx : bs[i]? = none)
    (hE : ∀ hI h' e, Heap.SameBut I s.heap hI → Heap.MadeExcOf hI h' e (.type "StopIteration") [] → E (.ref e) { s with heap := h' }) : wpAny (MD w) A (call (.builtin "next") [.ref I]) Q E s := by
  refine call_function_entry (by decide +kernel) (by decide +kernel) kdk_entry_next (kdk_args_next _) ?_
  unfold Builtin.«next»
  refine wpAny_bind (m := someArgs "next" 1 2 _) (wpAny_of_eq (a := [Value.ref I]) (by first | rfl | kernel_rfl!) ?_)
  dsimp only
  refine wpAny_bind (wpAny_specialOf (name := Str.ofString "__next__") (KBw.iter_typeIs hit) KBw.slot_next.lookup ?_)
  refine wpAny_ite_split (fun hab => absurd hab (by decide)) (fun _ => ?_)
  obtain ⟨o, ho, hc, hd⟩ := id hit
  refine wpAny_bind (wpAny_callSpecial?_slot (name := PySem.Str.ofString "__next__") (KBw.iter_typeIs hit) KBw.slot_next
    (wpAny_call_entry KBw.slot_next (KBw.iter_typeIs hit) KBw.entry_next ?_ (KBw.args_next _)))
  show wpAny _ _ (field (.ref I) 0 >>= _) _ _ s
  refine wpAny_bind (wpAny_field ho hd (x := .bytes bs tk) rfl ?_)
  show wpAny _ _ (if (Value.bytes bs tk == Value.none) = true then _ else _) _ _ s
  rw [if_neg (show ¬ ((Value.bytes bs tk == Value.none) = true) from Bool.false_ne_true)]
  show wpAny _ _ (field (.ref I) 1 >>= _) _ _ s
  refine wpAny_bind (wpAny_field ho hd (x := .int i 0) rfl ?_)
  refine wpAny_bind (wpAny_of_eq (a := bs) rfl ?_)
  simp only [Int.toNat_natCast, hx]
  refine wpAny_bind (wpAny_rule (wpAny_bind (wpAny_setField ho hd (by simp) ?_)))
  show wpAny _ _ (newExc (.type "StopIteration") [] >>= _) _ _ _
  refine wpAny_bind ?_
  simp only [newExc, newTuple]
  refine wpAny_bind (wpAny_newObj_type ?_ (by size_fits))
  refine wpAny_bind (m := firstArgMember _ _) (wpAny_of_eq (a := Value.none) (by first | rfl | (simp only [firstArgMember]; rfl)) ?_)
  refine wpAny_newObj_type ?_ (by size_fits)
  simp only [raiseNew]
  refine wpAny_bind (wpAny_handled ?_)
  rw [show A.in1.handled = none from hh]
  refine wpAny_bind (wpAny_pure (wpAny_throw ?_))
  refine hE _ _ _ (Heap.SameBut.update ..) ⟨fun b o hb => Heap.get?_push_of_some _ (Heap.get?_push_of_some _ hb), Heap.get?_none_of_le (by simp), _, ?_, Heap.get?_none_of_le (Nat.le_refl _), ?_⟩
  · exact Heap.get?_push_size _ rfl
  · exact Heap.get?_push_of_some _ (Heap.get?_push_size _ rfl)
end
end
section
section
variable {w : World} {n : Nat} {I : Addr} {bs : Array UInt8} {tk : Tok} {cx : Cx} {i : Nat} {Kn : Cx → Nat → Prop} {Kr : Dat → Nat → Prop} {pos : Pos}
/-- an expression that may move the tape -/
noncomputable def TE (w : World) (n : Nat) (I : Addr) (bs : Array UInt8) (tk : Tok) (cx : Cx) (i : Nat) (e : Expr) (K : Dat → Nat → Prop) : Prop :=
  ∀ (A : Around) (E : Value → Shared → Prop) (env : Env) (s : Shared) (B : Heap) (W O : Addr → Prop), Rm n A → SI w cx B W O env s.heap → KBw.IsBytesIter s.heap I bs tk i → B.get? I = none →
    wpAny (MD w) A (eval e env) (fun v s' => ∃ d i', Rep s'.heap W v d ∧ flatD d = true ∧ K d i' ∧ KBw.IsBytesIter s'.heap I bs tk i' ∧ ∃ h' tk', GnB s s' h' tk' ∧ ∀ b o, b ≠ I → s.heap.get? b = some o → h'.get? b = some o) E s
theorem TS_append {x : Str} {np ap cp : Pos} {e : Expr} {ds : List Dat} (hω : cx.ω = some (x, ds)) (h : TE w n I bs tk cx i e fun d i' => ds.length ≤ sizeLine ∧ Kn (cx.setω x (ds ++ [d])) i')
    (hdb : (x == ("__debug__" : Str)) = false) (hbase : ∀ env, attributeBase (.Name x np) "append" env (eval (.Name x np) env) = eval (.Name x np) env)
    (hfew : ∀ env, ((backTo cp (starEach [e] env)).all (fun x => !x.1) && (backToKw cp (keywordEach [] env)).all (fun x => x.1.isSome)
      && decide (([e] : List Expr).length + ([] : List Keyword).length + (if ([] : List Keyword).isEmpty then 0 else 1) < 30)) = true)
    (hline : (ap.endLine == cp.line) = true) (htrees : ∀ env, backTo cp (starEach [e] env) = [(false, eval e env)])
    (hsw : ∀ env, swapsWith (.Call (.Attribute (.Name x np) "append" ap) [e] [] cp) none pos.line env = pure false) :
    TS w n I bs tk cx i (.Expr (.Call (.Attribute (.Name x np) "append" ap) [e] [] cp) pos) Kn Kr := fun A E env s B W O rm si bi nb => by
  obtain ⟨D, vs, p, hl, hr, hO⟩ := si.own x ds hω
  refine wpAny_Expr ?_ (by unfold interactive; rw [si.ok.kind]; rfl) (hsw env)
  refine wpAny_Call_append (hbase env) (hfew env) hline (htrees env) (wpAny_Name (wp_var si.ok.kind p ?_) hdb)
  refine ⟨D, vs.toArray, rfl, let ⟨n, e⟩ := hl; ⟨_, n, e, rfl, rfl, rfl⟩, wpAny_mono (h A E env s B W O rm si bi nb) (fun v s₁ ⟨d, i', rd, fd, ⟨hsz, hd⟩, bi₁, h₁, t₁, ⟨gs, e₁, ab⟩, k₁⟩ => ?_) fun _ _ q => q⟩
  have f := bi_flds bi
  have hk₁ : Heap.ExtBut I s.heap s₁.heap := by subst e₁; exact k₁
  have i₁ : SI w cx B W O env s₁.heap := si.flds hk₁ f nb
  have E₁ : Ef O (fun b => b = I) env s s₁ := ⟨h₁, t₁, ⟨gs, e₁, ab⟩, fun b o _ _ _ q e => k₁ b o q e, fun b o q e => ⟨o, k₁ b o q e⟩⟩
  have hl₁ : s₁.heap.PlainList D vs.toArray := hl.at fun o e => hk₁ _ _ (f.ne_list hl.isList) e
  have nI : ∀ a its, ¬ (W a ∨ O a) → s.heap.IsList a its → a ≠ I := fun a its _ l => f.ne_list l
  have hr₁ := hr.but hk₁ nI
  have p₁ : VarIs env s₁.heap x (.ref D) := p.but hk₁ (fun m q => f.ne_ns q) (fun c v q => f.ne_cell q)
  have rd' : Rep s₁.heap (fun b => W b ∨ O b) v d := rd.flat fd
  refine wpAny_list_append_plain hl₁ (fun h' hl' hs' => ?_) (by rw [List.size_toArray, hr.length]; exact hsz)
  have nn : ∀ a its, ¬ (W a ∨ O a) → s₁.heap.IsList a its → a ≠ D := fun a its q _ e => q (.inr (e ▸ hO))
  have vk : ∀ y u, VarIs env s₁.heap y u → VarIs env h' y u := fun y u q => q.but hs'.extBut (fun m q => (list_ne_ns hl₁.isList q).symm) fun c v q => (list_ne_cell hl₁.isList q).symm
  have own : ∀ y es, ({ cx with ω := some (x, ds ++ [d]) } : Cx).ω = some (y, es) → ∃ a vs, VarIs env h' y (.ref a) ∧ h'.PlainList a vs.toArray ∧ RepAll h' (fun b => W b ∨ O b) vs es ∧ O a := fun y es e => by
    cases e
    exact ⟨D, vs ++ [v], vk _ _ p₁, by simpa using hl', (hr₁.but hs'.extBut nn).append (.cons (rd'.but hs'.extBut nn) .nil), hO⟩
  have hDI : D ≠ I := f.ne_list hl.isList
  have bi₂ : KBw.IsBytesIter h' I bs tk i' := let ⟨o, a, b, c⟩ := bi₁; ⟨o, hs'.extBut _ _ (Ne.symm hDI) a, b, c⟩
  have E₂ : Ef O (fun b => b = I) env s₁ { s₁ with heap := h' } := ⟨h', _, ⟨_, rfl, GB.refl _⟩, fun b o n1 n2 n3 _ e => hs'.extBut b o (fun q => n3 (q ▸ hO)) e, fun b o _ e => by
    by_cases q : b = D
    · subst q; obtain ⟨n, e⟩ := hl'; exact ⟨_, e⟩
    · exact ⟨o, hs'.extBut b o q e⟩⟩
  refine ⟨O, _, i', (?_ : SI w { cx with ω := some (x, ds ++ [d]) } B W O env h'), E₁.trans Grow.refl E₂, Grow.refl, bi₂, hd⟩
  refine ⟨si.g, si.wb, fun b o e => ⟨hs'.extBut _ _ (fun q => (si.up b o e).2.2.2 (q ▸ hO)) (i₁.up b o e).1, (si.up b o e).2⟩, ⟨si.ok.globals, si.ok.builtins, si.ok.kind, si.ok.names, si.ok.cells, fun y d' e => ?_, fun y es e => let ⟨a, vs, p, q, r, t⟩ := own y es e; ⟨a, vs, p, q, r, .inr t⟩⟩, own,
      fun a q => ?_, let ⟨m, p⟩ := i₁.ns; ⟨m, p.extBut hs'.extBut (list_ne_ns hl₁.isList p).symm⟩, fun n c e => let ⟨v, o, p1, p2⟩ := i₁.cel n c e; ⟨v, o, hs'.extBut c o (list_ne_cell hl₁.isList ⟨o, p1, p2⟩).symm p1, p2⟩, si.apart⟩
  · obtain ⟨u, p, q⟩ := i₁.ok.var y d' e
    exact ⟨u, vk y u p, q.but hs'.extBut nn⟩
  · by_cases e : a = D
    · subst e; exact ⟨_, hl'⟩
    · obtain ⟨its, l⟩ := i₁.ol a q; exact ⟨its, l.at fun o e' => hs'.extBut a o e e'⟩
end
end
section
theorem It.efI {w : World} {cx : Cx} {B : Heap} {W O O' : Addr → Prop} {env : Env} {s s' : Shared} {I J : Addr} {its : List Dat} (i : SI w cx B W O env s.heap) (x : It s.heap (fun b => W b ∨ O b) J its) (f : Flds s.heap I) (hne : J ≠ I) (e : Ef O (fun b => b = I) env s s') (g : Grow O O' (fun b => b = I) s.heap) : It s'.heap (fun b => W b ∨ O' b) J its := by
  obtain ⟨h, t, ⟨gs, rfl, ab⟩, k, l⟩ := e
  have lk : ∀ a its, ¬ (W a ∨ O a) → s.heap.IsList a its → (∀ o, s.heap.get? a = some o → h.get? a = some o) ∧ ¬ (W a ∨ O' a) := fun a its q p => by
    obtain ⟨m, hm⟩ := i.ns
    refine ⟨fun o e => k a o (list_ne_ns p hm) (fun n c hc => let ⟨v, hv⟩ := i.cel n c hc; list_ne_cell p hv) (fun q' => q (.inr q')) (f.ne_list p) e, fun q' => ?_⟩
    rcases q' with q' | q'
    · exact q (.inl q')
    · rcases g a q' with q' | q' | q'
      · exact q (.inr q')
      · exact f.ne_list p q'
      · obtain ⟨_, e, _⟩ := p; rw [q'] at e; cases e
  have fk : ∀ o, s.heap.get? J = some o → h.get? J = some o := fun o e => by
    have f := x.flds
    obtain ⟨m, hm⟩ := i.ns
    exact k J o (f.ne_ns hm).symm (fun n c hc => let ⟨v, hv⟩ := i.cel n c hc; (f.ne_cell hv).symm) (fun q => let ⟨its, l⟩ := i.ol J q; f.ne_list l.isList rfl) hne e
  rcases x with ⟨ax, vs, j, p1, p2, p3, p4, p5⟩ | ⟨y, m, p1, p2, p3⟩
  · obtain ⟨q1, q2⟩ := lk ax _ p3 p2.isList
    exact .inl ⟨ax, vs, j, let ⟨o, a, b, c⟩ := p1; ⟨o, fk o a, b, c⟩, p2.at q1, q2, p4, p5.move lk⟩
  · exact .inr ⟨y, m, fk _ p1, p2, p3⟩
noncomputable def TX (w : World) (I : Addr) (bs : Array UInt8) (tk : Tok) (Kn : Cx → Nat → Prop) (Kr : Dat → Nat → Prop) (B : Heap) (W O X : Addr → Prop) (env : Env) (s : Shared) (f : Flow) (s' : Shared) : Prop := match f with
  | .next => ∃ O' cx' i', SI w cx' B W O' env s'.heap ∧ Ef O X env s s' ∧ Grow O O' X s.heap ∧ KBw.IsBytesIter s'.heap I bs tk i' ∧ Kn cx' i'
  | .ret v => ∃ d i', Rep s'.heap W v d ∧ Kr d i' ∧ Ef O X env s s' ∧ KBw.IsBytesIter s'.heap I bs tk i' ∧ ∀ b o, B.get? b = some o → s'.heap.get? b = some o
  | _ => False
theorem TX.trans {w : World} {I : Addr} {bs : Array UInt8} {tk : Tok} {Kn : Cx → Nat → Prop} {Kr : Dat → Nat → Prop} {B : Heap} {W O O' X : Addr → Prop} {env : Env} {s s₁ : Shared} {f : Flow} {s' : Shared} (e : Ef O X env s s₁) (g : Grow O O' X s.heap) (h : TX w I bs tk Kn Kr B W O' X env s₁ f s') : TX w I bs tk Kn Kr B W O X env s f s' := by
  cases f with
  | next => obtain ⟨O'', cx', i', h1, h2, h3, h4, h5⟩ := h; exact ⟨O'', cx', i', h1, e.trans g h2, e.grow g h3, h4, h5⟩
  | brk => exact h
  | cont => exact h
  | ret v => obtain ⟨d, i', h1, h2, h3, h4, h5⟩ := h; exact ⟨d, i', h1, h2, e.trans g h3, h4, h5⟩
theorem Ef.sub {O X X' : Addr → Prop} {env : Env} {s s' : Shared} (x : Ef O X env s s') (h : ∀ a, X a → X' a) : Ef O X' env s s' := by
  obtain ⟨h', t, g, k, l⟩ := x
  exact ⟨h', t, g, fun b o n1 n2 n3 n4 e => k b o n1 n2 n3 (fun q => n4 (h b q)) e, fun b o n e => l b o (fun q => n (h b q)) e⟩
theorem Grow.sub {O O' X X' : Addr → Prop} {h : Heap} (x : Grow O O' X h) (k : ∀ a, X a → X' a) : Grow O O' X' h := fun a q => (x a q).imp id fun r => r.imp (k a) id
/-- what is not there at the start is no loss -/
theorem Ef.drop {O X X' : Addr → Prop} {env : Env} {s s' s'' : Shared} (x : Kp s s') (n : ∀ a, X a → X' a ∨ s.heap.get? a = none) (y : Ef O X env s' s'') : Ef O X' env s s'' := by
  obtain ⟨h, t, ⟨gs, rfl, ab⟩, k⟩ := x
  obtain ⟨h', t', ⟨gs', rfl, ab'⟩, k', l'⟩ := y
  have nx : ∀ b o, s.heap.get? b = some o → ¬ X' b → ¬ X b := fun b o e n' q => by
    rcases n b q with r | r
    · exact n' r
    · rw [r] at e; cases e
  exact ⟨h', t', ⟨_, rfl, ab.trans ab'⟩, fun b o n1 n2 n3 n4 e => k' b o n1 n2 n3 (nx b o e n4) (k b o e), fun b o n4 e => l' b o (nx b o e n4) (k b o e)⟩
theorem Grow.drop {O O' X X' : Addr → Prop} {s s' : Shared} (x : Kp s s') (n : ∀ a, X a → X' a ∨ s.heap.get? a = none) (y : Grow O O' X s'.heap) : Grow O O' X' s.heap := fun a q => by
  rcases y a q with q | q | q
  · exact .inl q
  · exact (n a q).imp id id |>.elim (fun r => .inr (.inl r)) fun r => .inr (.inr r)
  · exact .inr (.inr (x.fresh q))
section
variable (w : World) (n : Nat) (I : Addr) (bs : Array UInt8) (tk : Tok)
noncomputable def TF (cx : Cx) (i : Nat) (target : Expr) (body : List Stmt) (its : List Dat) (Kn : Cx → Nat → Prop) (Kr : Dat → Nat → Prop) : Prop :=
  ∀ (A : Around) (R : Result → Shared → Prop) (env : Env) (s : Shared) (B : Heap) (W O : Addr → Prop) (J : Addr), Rm n A → SI w cx B W O env s.heap → KBw.IsBytesIter s.heap I bs tk i → B.get? I = none → It s.heap (fun b => W b ∨ O b) J its → J ≠ I → B.get? J = none →
    (∀ f s', TX w I bs tk Kn Kr B W O (fun b => b = I ∨ b = J) env s f s' → R (.ok f) s') → codeAny (MD w) A (.forLoop target (.ref J) body [] env) R s
variable {w : World} {n : Nat} {I : Addr} {bs : Array UInt8} {tk : Tok} {cx : Cx} {i : Nat} {Kn : Cx → Nat → Prop} {Kr : Dat → Nat → Prop} {pos : Pos}
theorem TF_nil {x : Str} {px : Pos} {body : List Stmt} (h : Kn cx i) : TF w n I bs tk cx i (.Name x px) body [] Kn Kr := fun A R env s B W O J rm si bi nb it hne nj hR => by
  refine loopF (It_end rm.handled it fun h' hk => ?_) (fun _ => rfl)
  have i₁ : SI w cx B W O env h' := si.flds hk it.flds nj
  have bi₁ : KBw.IsBytesIter h' I bs tk i := let ⟨o, a, b, c⟩ := bi; ⟨o, hk _ _ (Ne.symm hne) a, b, c⟩
  have e₁ : Ef O (fun b => b = I ∨ b = J) env s { s with heap := h' } := ⟨h', s.toks, ⟨_, rfl, GB.refl _⟩, fun b o _ _ _ n e => hk b o (fun q => n (.inr q)) e, fun b o n e => ⟨o, hk b o (fun q => n (.inr q)) e⟩⟩
  exact wpAny_execs_nil (hR .next _ ⟨O, cx, i, i₁, e₁, Grow.refl, bi₁, h⟩)
theorem TF_cons {x : Str} {px : Pos} {body : List Stmt} {d : Dat} {its : List Dat} (h1 : isVarB cx x = true) (h2 : notOwn cx x = true)
    (h : TSs w n I bs tk (cx.bind x d) i body (fun cx' i' => TF w n I bs tk cx' i' (.Name x px) body its Kn Kr) Kr) : TF w n I bs tk cx i (.Name x px) body (d :: its) Kn Kr := fun A R env s B W O J rm si bi nb it hne nj hR => by
  refine loopF (It_next it fun v h₁ tk₁ rv it₁ hs₁ => ?_) (fun _ => rfl)
  have i₁ : SI w cx B W O env h₁ := si.flds hs₁.extBut it.flds nj
  have bi₁ : KBw.IsBytesIter h₁ I bs tk i := let ⟨o, a, b, c⟩ := bi; ⟨o, hs₁.extBut _ _ (Ne.symm hne) a, b, c⟩
  have e₁ : Ef O (fun b => b = I ∨ b = J) env s { s with heap := h₁, toks := tk₁ } := ⟨h₁, tk₁, ⟨_, rfl, GB.refl _⟩, fun b o _ _ _ n e => hs₁.extBut b o (fun q => n (.inr q)) e, fun b o n e => ⟨o, hs₁.extBut b o (fun q => n (.inr q)) e⟩⟩
  refine wpAny_assign_Name (store_data (s := { s with heap := h₁, toks := tk₁ }) i₁ (isVar_of h1) rv (notOwn_ne h2) fun s₂ i₂ e₂ => ?_)
  have it₂ := It.ef i₁ it₁ e₂ Grow.refl
  have bi₂ := bi_ef i₁ bi₁ e₂
  refine wpAny_mono (h A _ env s₂ B W O rm i₂ bi₂ nb) (fun f s₃ h₃ => ?_) fun _ _ q => q
  cases f with
  | next =>
    obtain ⟨O', cx', i', p1, p2, p3, p4, p5⟩ := h₃
    exact p5 A R env s₃ B W O' J rm p1 p4 nb (It.efI i₂ it₂ (bi_flds bi₂) hne p2 p3) hne nj fun f s' q => hR f s' (TX.trans e₁ Grow.refl (TX.trans e₂.wide Grow.refl (TX.trans (p2.sub fun _ q => .inl q) (p3.sub fun _ q => .inl q) q)))
  | cont => exact h₃.elim
  | brk => exact h₃.elim
  | ret v =>
    obtain ⟨d, i', q1, q2, q3, q4, q5⟩ := h₃
    exact hR (.ret v) s₃ (TX.trans (Kn := Kn) (Kr := Kr) (f := .ret v) e₁ Grow.refl (TX.trans (f := .ret v) e₂.wide Grow.refl ⟨d, i', q1, q2, q3.sub fun _ q => .inl q, q4, q5⟩))
theorem TS_for {target iter : Expr} {body : List Stmt} (hs : ∀ env x, foldedSetIterable iter env x = pure x) (h : SIt w n cx iter fun its => TF w n I bs tk cx i target body its Kn Kr) : TS w n I bs tk cx i (.For target iter body [] pos) Kn Kr := fun A E env s B W O rm si bi nb => by
  refine wpAny_For (wpAny_mono (h A E env s _ rm si.gh si.wok si.ok) (fun x s₁ h₁ => wpAny_mono h₁ (fun it s₂ h₂ => ?_) fun _ _ q => q) fun _ _ q => q) (hs env)
  obtain ⟨J, its, rfl, fr, it, hF, k⟩ := h₂
  have bi₂ : KBw.IsBytesIter s₂.heap I bs tk i := let ⟨o, a, b, c⟩ := bi; ⟨o, k.k _ _ a, b, c⟩
  refine hF A _ env s₂ B W O J rm (si.keeps k.k) bi₂ nb it ?_ ?_ fun f s' h => ?_
  · rintro rfl; obtain ⟨o, a, _⟩ := bi; rw [a] at fr; cases fr
  · cases e : B.get? J with
    | none => rfl
    | some o => rw [(si.up J o e).1] at fr; cases fr
  · have n : ∀ a, (a = I ∨ a = J) → a = I ∨ s.heap.get? a = none := fun a q => q.imp id fun e => by rw [e]; exact fr
    cases f with
    | next => obtain ⟨O', cx', i', p1, p2, p3, p4, p5⟩ := h; exact ⟨O', cx', i', p1, Ef.drop k n p2, Grow.drop k n p3, p4, p5⟩
    | brk => exact h.elim
    | cont => exact h.elim
    | ret v => obtain ⟨d, i', q1, q2, q3, q4, q5⟩ := h; exact ⟨d, i', q1, q2, Ef.drop k n q3, q4, q5⟩
end
end
section
section
variable {w : World} {n : Nat}
theorem ints_of {h : Heap} {W : Addr → Prop} : ∀ {us : List Value} {is : List Int}, RepAll h W us (is.map .int) → IntsAre us is
  | [], [], _ => .nil
  | u :: us, [], r => by cases r
  | [], x :: xs, r => by cases r
  | u :: us, x :: xs, r => by
    cases r with
    | cons r rs =>
    cases r with
    | int _ t => exact .cons _ _ (ints_of rs)
theorem OB_bytes {is : List Int} {K : Dat → Prop} (hr : ∀ n ∈ is, 0 ≤ n ∧ n < 256) (hz : is.length ≤ sizeLine) (h : K (.bytes (byteArr is))) : OB w n (fun vs => call (.type "bytes") vs) [.list (is.map .int)] K := fun A E s W vs rm g o rs => by
  cases rs with
  | cons r rs =>
  cases rs
  cases r with
  | list la na ra =>
  refine call_bytes_ints la.isList (ints_of ra) hr ?_ rm.handled fun h' t k hk => ⟨_, .bytes _ _, h, Kp.heap s h' k hk⟩
  rw [ra.length, List.length_map]; exact hz
theorem call_iter_bytes {A : Around} {E : Value → Shared → Prop} {s : Shared} {b : Array UInt8} {t : Tok} {Q : Value → Shared → Prop} (hQ : Q (.ref s.heap.objs.size) { s with heap := s.heap.push { cls := .type "bytes_iterator", data := .fields #[.bytes b t, .int 0 0] } }) :
    wpAny (MD w) A (call (.builtin "iter") [.bytes b t]) Q E s := by
  refine call_function_entry (by decide +kernel) (by decide +kernel) kdk_entry_iter (by unfold argsOk; kernel_rfl) ?_
  unfold Builtin.«iter»
  refine wpAny_bind (m := someArgs "iter" 1 2 _) (wpAny_of_eq (a := [Value.bytes b t]) (by first | rfl | kernel_rfl!) ?_)
  dsimp only
  refine wpAny_bind (KBw.pyIter_bytes ?_)
  exact wpAny_pure ⟨_, rfl, hQ⟩
end
end
section
noncomputable def hiOct (n : Nat) : List Dat := if h : n = 0 then [] else hiOct (n / 64) ++ [.int ((n % 64 + 64 : Nat) : Int)]
decreasing_by omega
noncomputable def octs (n : Nat) : List Dat := hiOct (n / 64) ++ [.int ((n % 64 + 128 : Nat) : Int)]

theorem c_octets (w : World) (x : Nat) (hx : x < 64 ^ 20) : SC w 1 115 [.int (x : Int)] (fun d => d = .list (octs x)) := by
  refine SC_def (xs := [Str.ofString "number"]) (by k_is) (by rfl) ⟨by rfl, by k_is, by rfl, by rfl, by rfl, by rfl, by rfl, by rfl, ?_, by decide, by decide⟩ rfl (by dsimp only) (by dsimp only [List.zip, List.zipWith]) ?_
  · rintro (_ | ⟨v0, _ | ⟨u, vs⟩⟩) h <;> first | rfl | cases h
  · repeat walk_at "s"
    refine Ob_mod (by decide) ?_
    repeat walk_at "s"
    refine Ob_add ?_
    repeat walk_at "s"
    refine ⟨Nat.le_of_ble_eq_true (by rfl), ?_⟩
    repeat walk_at "s"
    refine Oi_fdiv (by decide) (by decide) ?_
    repeat walk_at "s"
    have e1 : (x : Int).fmod 64 + 128 = ((x % 64 + 128 : Nat) : Int) := by rw [show (64 : Int) = ((64 : Nat) : Int) from rfl, fmodN]; rfl
    have e2 : (x : Int).fdiv 64 = ((x / 64 : Nat) : Int) := fdivN x 64
    rw [e1, e2]
    generalize hy : x / 64 = y
    generalize hacc : [Dat.int ((x % 64 + 128 : Nat) : Int)] = acc
    have hF : hiOct y ++ acc = octs x := by rw [← hy, ← hacc]; rfl
    obtain ⟨m, hl, hb⟩ : ∃ m, acc.length + m ≤ 1000 ∧ y < 64 ^ m := ⟨20, by rw [← hacc]; exact Nat.le_of_ble_eq_true (by rfl), by rw [← hy]; exact Nat.lt_of_le_of_lt (Nat.div_le_self x 64) hx⟩
    generalize octs x = F at hF ⊢
    clear hy hacc hx e1 e2
    refine weakW (cx' := ⟨_, [(Str.ofString "number", .int (y : Int)), (Str.ofString "octets", .list acc)], none⟩) ?_ (by dsimp only [Cx.bind, Cx.setω, Cx.rel]) ⟨rfl, rfl, trivial⟩ rfl
    induction m generalizing y acc with
    | zero =>
      have hy0 : y = 0 := by simpa using hb
      subst hy0
      refine SW_step ?_
      repeat walk_at "s"
      refine Oc_Gt ⟨_, rfl, ?_⟩
      rw [if_neg (by decide)]
      repeat walk_at "s"
      rw [← hF]; unfold hiOct; rfl
    | succ m ih =>
      refine SW_step ?_
      repeat walk_at "s"
      refine Oc_Gt ⟨_, rfl, ?_⟩
      by_cases h0 : y = 0
      · subst h0
        rw [if_neg (by decide)]
        repeat walk_at "s"
        rw [← hF]; unfold hiOct; rfl
      · rw [if_pos (by simp; omega)]
        repeat walk_at "s"
        refine Ob_mod (by decide) ?_
        repeat walk_at "s"
        refine Ob_add ?_
        repeat walk_at "s"
        refine ⟨Nat.le_of_ble_eq_true (by rfl), ?_⟩
        repeat walk_at "s"
        refine O2_of_f (O2f_addl (by simp [sizeLine]; omega) ?_)
        repeat walk_at "s"
        refine Oi_fdiv (by decide) (by decide) ?_
        repeat walk_at "s"
        have e1 : (y : Int).fmod 64 + 64 = ((y % 64 + 64 : Nat) : Int) := by rw [show (64 : Int) = ((64 : Nat) : Int) from rfl, fmodN]; rfl
        have e2 : (y : Int).fdiv 64 = ((y / 64 : Nat) : Int) := fdivN y 64
        rw [e1, e2]
        refine weakW (cx' := ⟨_, [(Str.ofString "number", .int ((y / 64 : Nat) : Int)), (Str.ofString "octets", .list ([Dat.int ((y % 64 + 64 : Nat) : Int)] ++ acc))], none⟩) ?_ (by dsimp only [Cx.bind, Cx.setω, Cx.rel]) ⟨rfl, rfl, trivial⟩ rfl
        refine ih (y / 64) _ ?_ ?_ ?_
        · simp; omega
        · clear e1 e2; rw [Nat.pow_succ] at hb; omega
        · rw [← hF]; conv => rhs; unfold hiOct
          rw [dif_neg h0, List.append_assoc]
end
section
noncomputable def Oct : List Nat → Prop
  | [] => False
  | [o] => 128 ≤ o ∧ o < 192
  | o :: p :: r => 64 ≤ o ∧ o < 128 ∧ Oct (p :: r)
noncomputable def octVal (acc : Nat) (os : List Nat) : Nat := os.foldl (fun a o => a * 64 + o % 64) acc
noncomputable def BytesAt (bs : Array UInt8) (i : Nat) (os : List Nat) : Prop := ∀ j o, os[j]? = some o → ∃ c : UInt8, bs[i + j]? = some c ∧ c.toNat = o
theorem and63 : ∀ o, o < 192 → o &&& 63 = o % 64 := by decide +kernel
theorem and64 : ∀ o, o < 192 → 64 ≤ o → ((o &&& 64) != 0) = decide (o < 128) := by decide +kernel
theorem or_low (acc r : Nat) (hr : r < 64) : Builtin.bitOr ((acc * 64 : Nat) : Int) ((r : Nat) : Int) = ((acc * 64 + r : Nat) : Int) := by
  rw [bitOr_and, bitAnd_pp (Int.natCast_nonneg _) (Int.natCast_nonneg _), Int.toNat_natCast, Int.toNat_natCast]
  have h0 : (acc * 64) &&& r = 0 := by
    have h1 : (acc * 64) &&& r < 2 ^ 6 := Nat.lt_of_le_of_lt Nat.and_le_right hr
    rw [← Nat.mod_eq_of_lt h1, Nat.and_mod_two_pow, show acc * 64 % 2 ^ 6 = 0 by omega, Nat.zero_and]
  rw [h0]; omega
theorem weakTW {w : World} {n : Nat} {I : Addr} {bs : Array UInt8} {tk : Tok} {cx cx' : Cx} {i : Nat} {Kn : Cx → Nat → Prop} {Kr : Dat → Nat → Prop} {test : Expr} {body : List Stmt} (x : TW w n I bs tk cx' i test body Kn Kr) (hs : cx'.sc = cx.sc) (hr : SubR cx'.ρ cx.ρ) (ho : cx'.ω = cx.ω) : TW w n I bs tk cx i test body Kn Kr :=
  fun A R env s B W O rm si bi nb h => x A R env s B W O rm (si.weak hs hr.lk (.inl ho)) bi nb h
theorem c_varint (w : World) (I : Addr) (bs : Array UInt8) (tk : Tok) (i : Nat) (A : Around) (E : Value → Shared → Prop) (s : Shared) (B : Heap) (W : Addr → Prop) (rm : Rm 1 A) (g : GH w B) (o : WOk W B) (hB : ∀ b o, B.get? b = some o → s.heap.get? b = some o) (bi : KBw.IsBytesIter s.heap I bs tk i) (nb : B.get? I = none)
    (os : List Nat) (ho : Oct os) (hb : BytesAt bs i os) (hlen : os.length ≤ 10) :
    wpAny (MD w) A (call (.ref 46) [.ref I]) (fun v s' => ∃ d i', Rep s'.heap W v d ∧ (d = .int (octVal 0 os : Nat) ∧ i' = i + os.length) ∧ KBw.IsBytesIter s'.heap I bs tk i' ∧ ∃ h' tk', GnB s s' h' tk' ∧ ∀ b o, b ≠ I → s.heap.get? b = some o → h'.get? b = some o) E s := by
  refine call_tape (xs := [Str.ofString "iterator"]) (i := i) (by k_is) (by rfl) ⟨by rfl, by k_is, by rfl, by rfl, by rfl, by rfl, by rfl, by rfl, ?_, by decide, by decide⟩ rfl (by dsimp only) (by dsimp only [List.zip, List.zipWith]) ?_ rm g o hB bi nb
  · rintro (_ | ⟨v0, _ | ⟨u, vs⟩⟩) h <;> first | rfl | cases h
  · cases os with
    | nil => exact ho.elim
    | cons o r =>
    obtain ⟨c, hc, hco⟩ := hb 0 o rfl
    have ho192 : o < 192 := by cases r with
      | nil => exact ho.2
      | cons p r => have := ho.2.1; omega
    refine TSs_cons (TS_next (by rfl) (by rfl) (by rfl) (by decide) (by rfl) (by k_is) hc ?_ (fun _ => by rfl) (fun _ => by rfl) (fun _ => by rfl))
    refine TSs_cons (TS_of ?_)
    repeat walk_at "s"
    refine Ob_and ?_
    rw [hco]
    have e1 : Builtin.bitAnd (o : Int) 63 = ((o % 64 : Nat) : Int) := by
      rw [show (63 : Int) = ((63 : Nat) : Int) from rfl, bitAnd_pp (Int.natCast_nonneg _) (Int.natCast_nonneg _), Int.toNat_natCast, Int.toNat_natCast, and63 o ho192]
    rw [e1]
    refine TSs_cons (TS_while ?_)
    obtain ⟨acc, i', k, hacc, hF, hi, hk, hb'⟩ : ∃ acc i' k : Nat, acc = o % 64 ∧ octVal acc r = octVal 0 (o :: r) ∧ i' + r.length = i + (o :: r).length ∧ acc < 64 ^ k ∧ k + r.length ≤ 10 ∧ BytesAt bs i' r ∧ i' = i + 1 :=
      ⟨o % 64, i + 1, 1, rfl, by unfold octVal; simp, by simp; omega, by omega, by simp at hlen ⊢; omega, fun j p hj => by
        obtain ⟨c, h1, h2⟩ := hb (j + 1) p (by simpa using hj)
        exact ⟨c, by rw [show i + 1 + j = i + (j + 1) by omega]; exact h1, h2⟩, rfl⟩
    rw [← hacc, ← hb'.2.2]
    rw [← hF, ← hi]
    obtain ⟨hk10, hb', -⟩ := hb'
    obtain ⟨V, hV⟩ : ∃ V, octVal acc r = V := ⟨_, rfl⟩
    obtain ⟨L, hL⟩ : ∃ L, i' + r.length = L := ⟨_, rfl⟩
    rw [hV, hL]
    refine weakTW (cx' := ⟨_, [(Str.ofString "iterator", tape I), (Str.ofString "b", .int (o : Int)), (Str.ofString "val", .int (acc : Int))], none⟩) ?_ (by dsimp only [Cx.bind, Cx.setω, Cx.rel]) ⟨rfl, rfl, rfl, trivial⟩ (by dsimp only [Cx.bind, Cx.setω, Cx.rel])
    clear hacc hF hi hb hlen hc hco e1
    induction r generalizing o acc i' k with
    | nil =>
      refine TW_step ?_
      refine ST_val ?_ (fun _ _ => by rfl)
      repeat walk_at "s"
      refine Ob_and ?_
      rw [show (64 : Int) = ((64 : Nat) : Int) from rfl, bitAnd_pp (Int.natCast_nonneg _) (Int.natCast_nonneg _), Int.toNat_natCast, Int.toNat_natCast]
      refine OT_int ?_
      have h1 := and64 o ho192 (by have := ho.1; omega)
      have h2 : ((((o &&& 64 : Nat) : Int)) != 0) = false := by
        have h3 : decide (o < 128) = false := by have := ho.1; simp; omega
        rw [h3] at h1
        have h4 : o &&& 64 = 0 := by simpa using h1
        rw [h4]; rfl
      rw [h2, if_neg (by decide)]
      refine TSs_cons (TS_of ?_)
      repeat walk_at "s"
      exact ⟨by rw [← hV]; rfl, by rw [← hL]; rfl⟩
    | cons p r ih =>
      have hop := ho
      obtain ⟨o1, o2, ho3⟩ := hop
      have hp192 : p < 192 := by cases r with
        | nil => exact ho3.2
        | cons p' r => have := ho3.2.1; omega
      refine TW_step ?_
      refine ST_val ?_ (fun _ _ => by rfl)
      repeat walk_at "s"
      refine Ob_and ?_
      rw [show (64 : Int) = ((64 : Nat) : Int) from rfl, bitAnd_pp (Int.natCast_nonneg _) (Int.natCast_nonneg _), Int.toNat_natCast, Int.toNat_natCast]
      refine OT_int ?_
      have h1 := and64 o ho192 o1
      have h2 : ((((o &&& 64 : Nat) : Int)) != 0) = true := by
        have h3 : decide (o < 128) = true := by simpa using o2
        rw [h3] at h1
        have h4 : o &&& 64 ≠ 0 := by simpa using h1
        simpa using h4
      rw [h2, if_pos rfl]
      have hacc2 : acc < 2 ^ 64 := Nat.lt_of_lt_of_le hk (Nat.le_trans (Nat.pow_le_pow_right (by decide) (show k ≤ 10 by omega)) (by decide))
      refine TSs_cons (TS_of ?_)
      repeat walk_at "s"
      refine Oi_shl (by decide) (by decide) (by omega) ?_
      have e2 : (acc : Int) * 2 ^ (6 : Int).toNat = ((acc * 64 : Nat) : Int) := by rw [Int.natCast_mul]; rfl
      rw [e2]
      obtain ⟨c, hc, hcp⟩ := hb' 0 p rfl
      refine TSs_cons (TS_next (by rfl) (by rfl) (by rfl) (by decide) (by rfl) (by k_is) hc ?_ (fun _ => by rfl) (fun _ => by rfl) (fun _ => by rfl))
      rw [hcp]
      refine TSs_cons (TS_of ?_)
      repeat walk_at "s"
      refine Ob_and ?_
      rw [show (63 : Int) = ((63 : Nat) : Int) from rfl, bitAnd_pp (Int.natCast_nonneg _) (Int.natCast_nonneg _), Int.toNat_natCast, Int.toNat_natCast, and63 p hp192]
      refine (show ∀ {K : Dat → Prop}, K (.int ((acc * 64 + p % 64 : Nat) : Int)) → O2 w 0 (inplaceOp .BitOr) (.int ((acc * 64 : Nat) : Int)) (.int ((p % 64 : Nat) : Int)) K from fun hK => Oi_or (by rw [or_low _ _ (by omega)]; exact hK)) ?_
      refine TSs_nil ?_
      refine weakTW (cx' := ⟨_, [(Str.ofString "iterator", tape I), (Str.ofString "b", .int (p : Int)), (Str.ofString "val", .int ((acc * 64 + p % 64 : Nat) : Int))], none⟩) ?_ (by dsimp only [Cx.bind, Cx.setω, Cx.rel]) ⟨rfl, rfl, rfl, trivial⟩ (by dsimp only [Cx.bind, Cx.setω, Cx.rel])
      refine ih p ho3 hp192 (acc * 64 + p % 64) (i' + 1) (k + 1) ?_ ?_ ?_ ?_ ?_
      · rw [Nat.pow_succ]; omega
      · rw [List.length_cons] at hk10; omega
      · intro j q hj
        obtain ⟨c, h1, h2⟩ := hb' (j + 1) q (by simpa using hj)
        exact ⟨c, by rw [show i' + 1 + j = i' + (j + 1) by omega]; exact h1, h2⟩
      · rw [← hV]; rfl
      · rw [← hL, List.length_cons]; omega
end
section
noncomputable def hiN (n : Nat) : List Nat := if h : n = 0 then [] else hiN (n / 64) ++ [n % 64 + 64]
decreasing_by omega
noncomputable def octsN (n : Nat) : List Nat := hiN (n / 64) ++ [n % 64 + 128]
theorem hi_nats (n : Nat) : hiOct n = nats (hiN n) := by
  induction n using Nat.strongRecOn with
  | ind n ih =>
    unfold hiOct hiN
    by_cases h : n = 0
    · rw [dif_pos h, dif_pos h]; rfl
    · rw [dif_neg h, dif_neg h, ih (n / 64) (by omega)]
      unfold nats
      rw [List.map_append]; rfl
theorem octs_nats (n : Nat) : octs n = nats (octsN n) := by
  unfold octs octsN
  rw [hi_nats]
  unfold nats
  rw [List.map_append]; rfl
theorem octVal_app (a : Nat) (l m : List Nat) : octVal a (l ++ m) = octVal (octVal a l) m := by unfold octVal; rw [List.foldl_append]
theorem hi_val (n : Nat) : octVal 0 (hiN n) = n := by
  induction n using Nat.strongRecOn with
  | ind n ih =>
    unfold hiN
    by_cases h : n = 0
    · rw [dif_pos h, h]; rfl
    · rw [dif_neg h, octVal_app, ih (n / 64) (by omega)]
      show n / 64 * 64 + (n % 64 + 64) % 64 = n
      omega
theorem octs_val (n : Nat) : octVal 0 (octsN n) = n := by
  unfold octsN
  rw [octVal_app, hi_val]
  show n / 64 * 64 + (n % 64 + 128) % 64 = n
  omega
theorem hi_mem (n : Nat) : ∀ o ∈ hiN n, 64 ≤ o ∧ o < 128 := by
  induction n using Nat.strongRecOn with
  | ind n ih =>
    intro o ho
    unfold hiN at ho
    by_cases h : n = 0
    · rw [dif_pos h] at ho; cases ho
    · rw [dif_neg h] at ho
      rcases List.mem_append.mp ho with e | e
      · exact ih (n / 64) (by omega) o e
      · rw [List.mem_singleton.mp e]; omega
theorem oct_of : ∀ (l : List Nat) (z : Nat), (∀ o ∈ l, 64 ≤ o ∧ o < 128) → 128 ≤ z → z < 192 → Oct (l ++ [z])
  | [], z, _, h1, h2 => ⟨h1, h2⟩
  | [o], z, h, h1, h2 => ⟨(h o (by simp)).1, (h o (by simp)).2, h1, h2⟩
  | o :: p :: r, z, h, h1, h2 => ⟨(h o (by simp)).1, (h o (by simp)).2, oct_of (p :: r) z (fun q hq => h q (List.mem_cons_of_mem _ hq)) h1 h2⟩
theorem octs_oct (n : Nat) : Oct (octsN n) := oct_of _ _ (hi_mem _) (by omega) (by omega)
theorem hi_len : ∀ (k n : Nat), n < 64 ^ k → (hiN n).length ≤ k
  | 0, n, h => by
    have : n = 0 := by simpa using h
    subst this; unfold hiN; rw [dif_pos rfl]; exact Nat.le_refl _
  | k + 1, n, h => by
    rw [Nat.pow_succ] at h
    unfold hiN
    by_cases h0 : n = 0
    · rw [dif_pos h0]; exact Nat.zero_le _
    · rw [dif_neg h0, List.length_append, List.length_singleton]
      have := hi_len k (n / 64) (by omega)
      omega
theorem octs_len (n : Nat) (h : n < 64 ^ 9) : (octsN n).length ≤ 10 := by
  unfold octsN
  rw [List.length_append, List.length_singleton]
  have := hi_len 9 (n / 64) (by omega)
  omega
end
section
section
variable {w : World} {A : Around} {E : Value → Shared → Prop} {s : Shared}
theorem c_varint_end {bs : Array UInt8} {tk : Tok} {I : Addr} {i : Nat} {outer : List Env} {Q : Value → Shared → Prop} (rm : Rm 1 A) (hfr : A.frames = some outer) (ff : FF s.heap outer) (g : GH w s.heap) (bi : KBw.IsBytesIter s.heap I bs tk i) (hx : bs[i]? = none)
    (hE : ∀ s' h' e t tk', GnB s s' h' tk' → Heap.FlyingW (hideAll s.heap (I :: outer.filterMap (·.frame))) outer e (.type "StopIteration") (.ref t) h' → s.heap.UpToSlots h' → E (.ref e) s') :
    wpAny (MD w) A (call (.ref 46) [.ref I]) Q E s := by
  refine call_hand (xs := [Str.ofString "iterator"]) (ds := [tape I]) (B := s.heap) (W := N0) (by k_is) (by rfl) ⟨by rfl, by k_is, by rfl, by rfl, by rfl, by rfl, by rfl, by rfl, ?_, by decide, by decide⟩ rfl (by dsimp only) (by dsimp only [List.zip, List.zipWith]) rm g (fun _ q => q.elim) (fun _ _ e => e) (.cons (.opq I) .nil) ?_
  · rintro (_ | ⟨v0, _ | ⟨u, vs⟩⟩) h <;> first | rfl | cases h
  intro env s₁ si hf hL hC ⟨h₁, t₁, es⟩ hk rm₁
  refine wpAny_execs_cons (wpAny_Assign_Name ?_ rfl)
  refine Call_Name rfl (name_builtin si.gh si.ok (by rfl) (by k_is) boot_next (by decide) (by decide) ?_)
  refine PyProof.Rows.callWith_builtin1 (wpAny_mono ((SL_cons (SE_name (d := tape I) (by rfl) (SL_nil rfl) (by decide)) (fun _ => rfl) : SL w 0 _ _ _ (fun ds => ds = [tape I])) _ _ env s₁ _ rm₁ si.gh si.wok si.ok) (fun vs s₂ ⟨ds, rs, e, k₂⟩ => ?_) fun _ _ q => q) rfl rfl
  subst e
  cases rs with
  | cons r rs =>
  cases rs
  have ev := rep_tape r
  subst ev
  have k₁₂ : ∀ b o, s.heap.get? b = some o → s₂.heap.get? b = some o := fun b o e => k₂.k _ _ (hk b o e)
  have bi₂ : KBw.IsBytesIter s₂.heap I bs tk i := let ⟨o, a, b, c⟩ := bi; ⟨o, k₁₂ _ _ a, b, c⟩
  refine next_raise rm₁.handled bi₂ hx fun hI h' e sb me => ?_
  obtain ⟨m, hm⟩ := si.ns
  have hm₂ : hI.Ns env.locals m := (hm.keeps k₂.k).extBut sb.extBut ((bi_flds bi₂).ne_ns (hm.keeps k₂.k))
  have ff₂ : FF hI outer := FF.keeps ff fun b o e n => ⟨o.slots, sb.extBut b o (fun q => by subst q; obtain ⟨o', a, _, c⟩ := bi; rw [a] at e; cases e; exact n _ c) (k₁₂ b o e)⟩
  have hB : ∀ b o, (hideAll s.heap (I :: outer.filterMap (·.frame))).get? b = some o → s.heap.get? b = some o := fun b o => of_hideAll _
  refine wpAny_leaves_madeW (base := hideAll s.heap (I :: outer.filterMap (·.frame))) (h := hI) (Around.frames_deeper hfr) hf (fun b o e => ?_) (FF.base (FF.keeps (Heap.FunFrames.cons (base := E0) (by rw [si.ok.kind]; decide) hf hm₂ (e0_get _) ff₂) fun b o e _ => ⟨o.slots, e⟩) fun en he L hL' => ?_) me fun h'' t fl tu _ us => ?_
  · exact sb.extBut b o (fun q => by rw [q, hideAll_none _ (.head _)] at e; cases e) (k₁₂ b o (hB b o e))
  · rcases List.mem_cons.mp he with q | q
    · subst q
      rw [hf] at hL'; cases hL'
      cases e : (hideAll s.heap (I :: outer.filterMap (·.frame))).get? en.locals with
      | none => rfl
      | some o => rw [hB _ _ e] at hL; cases hL
    · exact hideAll_none _ (.tail _ (List.mem_filterMap.mpr ⟨en, q, hL'⟩))
  · obtain ⟨h₂, t₂, ⟨gs, e₂, ab⟩, _⟩ := k₂
    refine hE _ _ e t t₂ ?_ fl ?_
    · subst es
      subst e₂
      exact ⟨gs, rfl, ab⟩
    · refine Heap.UpToSlots.trans (h₂ := hI) (fun b o e n => ⟨o.slots, sb.extBut b o (fun q => by subst q; obtain ⟨o', a, _, c⟩ := bi; rw [a] at e; cases e; exact n _ c) (k₁₂ b o e)⟩) (Heap.UpToSlots.trans (Heap.UpToSlots.of_keeps me.keeps) us)
end
end
section
section
variable {w : World} {cx : Cx} {B : Heap} {W O : Addr → Prop} {env : Env} {h h' : Heap}
theorem VarIs.slots {x : Str} {v : Value} (y : VarIs env h x v) (u : h.UpToSlots h') (k : ∀ c v, h.IsCell c v → ∀ o, h.get? c = some o → h'.get? c = some o) : VarIs env h' x v := by
  rcases y with ⟨a, m, b, c⟩ | ⟨a, d, c, b, e⟩
  · exact .inl ⟨a, m, u.ns b, c⟩
  · refine .inr ⟨a, d, c, b, ?_⟩
    have hk := k _ _ e
    obtain ⟨o, p, q⟩ := e
    exact ⟨o, hk o p, q⟩
theorem frame_ne {base : Heap} {l : List Env} (ff : h.FunFrames base l) {b : Addr} {o : Obj} (e : base.get? b = some o) : b ∉ l.filterMap (·.frame) := fun q => by
  rw [(ff.mem q).1] at e; cases e
theorem FF.of {base : Heap} : ∀ {l : List Env}, h.FunFrames base l → FF h l
  | [], _ => trivial
  | _ :: _, ⟨hk, ⟨L, o, hf, _, ho, hd⟩, hr⟩ => ⟨hk, ⟨L, o, hf, e0_get _, ho, hd⟩, FF.of hr⟩
end

section
variable {w : World} {n : Nat} {I : Addr} {bs : Array UInt8} {tk : Tok} {cx cx' : Cx} {i : Nat} {Kn : Cx → Nat → Prop} {Kr : Dat → Nat → Prop}
theorem weakTF {target : Expr} {body : List Stmt} {its : List Dat} (x : TF w n I bs tk cx' i target body its Kn Kr) (hs : cx'.sc = cx.sc) (hr : SubR cx'.ρ cx.ρ) (ho : cx'.ω = cx.ω) : TF w n I bs tk cx i target body its Kn Kr :=
  fun A R env s B W O J rm si bi nb it hne nj h => x A R env s B W O J rm (si.weak hs hr.lk (.inl ho)) bi nb it hne nj h
theorem TE_varint {x : Str} {fp ip cp : Pos} {K : Dat → Nat → Prop} (hk : cx.sc.lookup (Str.ofString "_parse_varint") = some .globalImplicit) (hf : nsIn (hd.heap_39 w.params) mainGlobals (Str.ofString "_parse_varint") = some (some (.ref 46)))
    {ob : Obj} {fd : FuncData} (ho : (hd.heap_39 w.params).lookup 46 = some ob) (hdt : ob.data = .func fd)
    (hl : cx.ρ.lookup x = some (tape I)) (hdb : (x == ("__debug__" : Str)) = false) (os : List Nat) (hoc : Oct os) (hb : BytesAt bs i os) (hlen : os.length ≤ 10) (h : K (.int (octVal 0 os : Nat)) (i + os.length))
    (he : ∀ env, starEach [.Name x ip] env = (false, eval (.Name x ip) env) :: starEach [] env) :
    TE w (n + 1) I bs tk cx i (.Call (.Name (Str.ofString "_parse_varint") fp) [.Name x ip] [] cp) K := fun A E env s B W O rm si bi nb => by
  refine Call_Name rfl (name_global si.gh si.ok hk hf (by decide) ?_)
  have sl : SL w (n + 1) cx cp [.Name x ip] (fun ds => ds = [tape I]) := SL_cons (SE_name hl (SL_nil rfl) hdb) he
  refine callWith_def hdt (wpAny_mono (sl A E env s _ rm si.gh si.wok si.ok) (fun vs s₁ ⟨ds, rs, e, k₁⟩ => ⟨k₁.k _ _ (si.gh.1 _ _ ho), ?_⟩) fun _ _ q => q) (he env)
  subst e
  cases rs with
  | cons r rs =>
  cases rs
  have ev := rep_tape r
  subst ev
  have bi₁ : KBw.IsBytesIter s₁.heap I bs tk i := let ⟨o, a, b, c⟩ := bi; ⟨o, k₁.k _ _ a, b, c⟩
  refine wpAny_mono (c_varint w I bs tk i A E s₁ B W (rm.le (by omega)) si.g si.wb (fun b o e => k₁.k _ _ (si.up b o e).1) bi₁ nb os hoc hb hlen) (fun v s₂ ⟨d, i', rd, ⟨hd, hi⟩, bi₂, h', tk', ⟨gs, e₂, ab⟩, k₂⟩ => ?_) fun _ _ q => q
  subst hd hi
  obtain ⟨h₁, t₁, ⟨gs₁, e₁, ab₁⟩, k₁⟩ := k₁
  refine ⟨_, _, rd, rfl, h, bi₂, h', tk', ⟨gs, ?_, ?_⟩, fun b o n e => k₂ b o n ?_⟩
  · subst e₁; exact e₂
  · subst e₁; exact ab₁.trans ab
  · subst e₁; exact k₁ b o e
end

/-- the numbers' octets, written side by side -/
noncomputable def allOct (ns : List Nat) : List Nat := ns.flatMap octsN
theorem allOct_lt (ns : List Nat) : ∀ o ∈ allOct ns, o < 256 := fun o ho => by
  unfold allOct at ho
  obtain ⟨n, _, h⟩ := List.mem_flatMap.mp ho
  unfold octsN at h
  rcases List.mem_append.mp h with h | h
  · have := hi_mem _ o h; omega
  · rw [List.mem_singleton] at h; omega
theorem allOct_len (ns : List Nat) (h : ∀ n ∈ ns, n < 64 ^ 9) : (allOct ns).length ≤ ns.length * 10 := flatMap_le _ _ _ fun n hn => octs_len n (h n hn)
theorem byteArr_at (os : List Nat) (h : ∀ o ∈ os, o < 256) (i : Nat) (l r : List Nat) (e : os = l ++ r) (hi : i = l.length) (m rest : List Nat) (e2 : r = m ++ rest) : BytesAt (byteArr (os.map fun (o : Nat) => (o : Int))) i m := fun j o hj => by
  have h1 : os[i + j]? = some o := by
    rw [e, hi, List.getElem?_append_right (by omega), e2, show l.length + j - l.length = j by omega]
    obtain ⟨hjl, hjo⟩ := List.getElem?_eq_some_iff.mp hj
    rw [List.getElem?_append_left hjl]; exact hj
  refine ⟨o.toUInt8, ?_, ?_⟩
  · unfold byteArr
    rw [List.getElem?_toArray, List.getElem?_map, List.getElem?_map, h1]; rfl
  · have := h o (List.mem_of_getElem? h1)
    rw [Nat.toUInt8_eq, UInt8.toNat_ofNat']
    omega
theorem byteArr_end (os : List Nat) : (byteArr (os.map fun (o : Nat) => (o : Int)))[os.length]? = none := by
  unfold byteArr
  rw [List.getElem?_toArray]; simp
end
section
noncomputable abbrev scRead : List (Str × NameKind) := [(Str.ofString "numbers", .local), (Str.ofString "tape", .local), (Str.ofString "found", .local), (Str.ofString "k", .local), (Str.ofString "iter", .globalImplicit), (Str.ofString "bytes", .globalImplicit), (Str.ofString "range", .globalImplicit), (Str.ofString "len", .globalImplicit), (Str.ofString "_parse_varint", .globalImplicit), (Str.ofString "StopIteration", .globalImplicit)]
theorem GnB.trans {s s' s'' : Shared} {h h' : Heap} {t t' : Nat} (x : GnB s s' h t) (y : GnB s' s'' h' t') : GnB s s'' h' t' := by
  obtain ⟨gs, rfl, a⟩ := x
  obtain ⟨gs', rfl, b⟩ := y
  exact ⟨gs', rfl, a.trans b⟩
theorem Kp.gn {s s' : Shared} (x : Kp s s') : GnB s s' s'.heap s'.toks := by
  obtain ⟨h, t, ⟨gs, rfl, a⟩, _⟩ := x
  exact ⟨gs, rfl, a⟩
theorem Ef.gn {O X : Addr → Prop} {env : Env} {s s' : Shared} (x : Ef O X env s s') : GnB s s' s'.heap s'.toks := by
  obtain ⟨h, t, ⟨gs, rfl, a⟩, _⟩ := x
  exact ⟨gs, rfl, a⟩
theorem RepAll.flats {h h' : Heap} {W W' : Addr → Prop} : ∀ {vs : List Value} {ds : List Dat}, RepAll h W vs ds → (∀ d ∈ ds, flatD d = true) → RepAll h' W' vs ds
  | _, _, .nil, _ => .nil
  | _, _, .cons r rs, f => .cons (r.flat (f _ (.head _))) (RepAll.flats rs fun d q => f d (.tail _ q))
theorem nats_flat (ns : List Nat) : ∀ d ∈ nats ns, flatD d = true := fun d q => by
  obtain ⟨n, _, rfl⟩ := List.mem_map.mp q; rfl
theorem notTuple_SI : isSubtype (.type ((Manifest.find? "StopIteration").elim "type" fun x => x.metatype)) (.type "tuple") = pure false := by
  rw [isSubtype_type]; kernel_rfl
theorem isSub_SI : isSubtype (.type "StopIteration") (.type "StopIteration") = pure true := by
  rw [isSubtype_type]; kernel_rfl
section
variable {w : World} {A : Around} {E : Value → Shared → Prop} {s s₆ : Shared} {W O₆ : Addr → Prop} {outer : List Env} {Q : Value → Shared → Prop} {B₀ : Heap} {ns : List Nat} {env : Env} {I : Addr} {bs : Array UInt8} {tk : Tok} {i : Nat} {p1 p2 p3 p4 p5 p6 p7 p8 p9 p10 p11 p12 p13 p14 : Pos}
theorem read_end (rm₁ : Rm 2 (A.deeper env)) (hfr : A.frames = some outer)
    (g₀ : GH w B₀) (hB₀ : ∀ b o, B₀.get? b = some o → s.heap.get? b = some o) (ff : s.heap.FunFrames B₀ outer)
    (si₇ : SI w (Cx.setω ⟨scRead, [(Str.ofString "tape", tape I)], none⟩ (Str.ofString "found") (nats ns)) s.heap W O₆ env s₆.heap)
    (bi₆ : KBw.IsBytesIter s₆.heap I bs tk i) (hend : bs[i]? = none) (nb : s.heap.get? I = none) (hf : env.frame = some env.locals) (hL : s.heap.get? env.locals = none) (n₆ : GnB s s₆ s₆.heap s₆.toks)
    (hQ : ∀ v s' h' tk', GnB s s' h' tk' → Rep h' W v (.list (nats ns)) → (∀ b o, b ∉ outer.filterMap (·.frame) → s.heap.get? b = some o → h'.get? b = some o) → s.heap.UpToSlots h' → Q v s') (hline : (p2.endLine == p6.line) = true := by rfl) :
    wpAny (MD w) (A.deeper env) (execs [.Try [.Expr (.Call (.Attribute (.Name (Str.ofString "found") p1) (Str.ofString "append") p2) [.Call (.Name (Str.ofString "_parse_varint") p3) [.Name (Str.ofString "tape") p4] [] p5] [] p6) p7]
      [.ExceptHandler (some (.Name (Str.ofString "StopIteration") p8)) none [.Return (some (.Name (Str.ofString "found") p9)) p10] p11] [] [] p12, .Return (some (.Name (Str.ofString "found") p13)) p14] env)
      (fun fl s' => Q (match fl with | .ret v => v | _ => .none) s') E s₆ := by
  refine wpAny_execs_cons (wpAny_Try_except ?_)
  refine wpAny_execs_cons ?_
  obtain ⟨D, vs, p, hl, hr, hO⟩ := si₇.own _ _ rfl
  refine wpAny_Expr ?_ (by unfold interactive; rw [si₇.ok.kind]; rfl) (by rfl)
  refine wpAny_Call_append (by rfl) (by rfl) hline (by rfl) (wpAny_Name (wp_var si₇.ok.kind p ?_) (by decide))
  refine ⟨D, vs.toArray, rfl, let ⟨n, e⟩ := hl; ⟨_, n, e, rfl, rfl, rfl⟩, ?_⟩
  refine Call_Name rfl (name_global si₇.gh si₇.ok (by rfl) (by k_is) (by decide) ?_)
  have sl : SL w 2 (Cx.setω ⟨scRead, [(Str.ofString "tape", tape I)], none⟩ (Str.ofString "found") (nats ns)) p5 [.Name (Str.ofString "tape") p4] (fun ds => ds = [tape I]) := SL_cons (SE_name (by rfl) (SL_nil rfl) (by decide)) (fun _ => by rfl)
  obtain ⟨ob, fd, hob, hdt⟩ : ∃ ob fd, (hd.heap_39 w.params).lookup 46 = some ob ∧ ob.data = .func fd := ⟨_, _, by k_is, by rfl⟩
  refine callWith_def hdt (wpAny_mono (sl _ _ env s₆ _ rm₁ si₇.gh si₇.wok si₇.ok) (fun vs' s₇ ⟨ds, rs', e, k₇⟩ => ⟨k₇.k _ _ (si₇.gh.1 _ _ hob), ?_⟩) fun _ _ q => q) (by rfl)
  subst e
  cases rs' with
  | cons r rs' =>
  cases rs'
  have ev := rep_tape r
  subst ev
  have fr : (A.deeper env).frames = some (env :: outer) := Around.frames_deeper hfr
  have up₇ : ∀ b o, s.heap.get? b = some o → s₇.heap.get? b = some o := fun b o e => k₇.k _ _ (si₇.up b o e).1
  have ffo : s₇.heap.FunFrames B₀ outer := ff.of_keeps fun b o e _ => ⟨o, up₇ b o e, rfl⟩
  have none₀ : ∀ a, s.heap.get? a = none → B₀.get? a = none := fun a e => by
    cases q : B₀.get? a with
    | none => rfl
    | some o => rw [hB₀ _ _ q] at e; cases e
  have ffs : s₇.heap.FunFrames B₀ (env :: outer) := by
    obtain ⟨m, hm⟩ := si₇.ns
    exact Heap.FunFrames.cons (by rw [si₇.ok.kind]; decide) hf (hm.keeps k₇.k) (none₀ _ hL) ffo
  have bi₇ : KBw.IsBytesIter s₇.heap I bs tk i := let ⟨o, a, b, c⟩ := bi₆; ⟨o, k₇.k _ _ a, b, c⟩
  refine c_varint_end (outer := env :: outer) (rm₁.le (by omega)) fr (FF.of ffs) (si₇.gh.keeps k₇.k) bi₇ hend fun s₈ h₈ e t tk₈ g₈ fl us => ?_
  obtain ⟨base, hbase⟩ : ∃ base, base = hideAll s₇.heap (I :: (env :: outer).filterMap (·.frame)) := ⟨_, rfl⟩
  rw [← hbase] at fl
  have hB : B₀.StaysIn base := fun b o e => by
    rw [hbase]
    refine hideAll_get _ (up₇ _ _ (hB₀ _ _ e)) fun q => ?_
    rcases List.mem_cons.mp q with q | q
    · rw [q, none₀ _ nb] at e; cases e
    · exact frame_ne ffs e q
  have e₈ : s₈.heap = h₈ := by obtain ⟨gs, rfl, _⟩ := g₈; rfl
  rw [← e₈] at fl us
  refine wpAny_looks_onW fr hf fl fun h₉ held us₉ => ?_
  refine wpAny_landsW held fun h₁₀ fl₁₀ us₁₀ => ?_
  have ok₁₀ : EnvOk env h₁₀ N0 ⟨scRead, [], none⟩ := ⟨si₇.ok.globals, si₇.ok.builtins, si₇.ok.kind, si₇.ok.names, fun x hx => si₇.ok.cells x hx, fun _ _ e => (by cases e), fun _ _ e => (by cases e)⟩
  obtain ⟨oe, hoe, hoec⟩ := fl₁₀.there
  refine wpAny_handleBy_builtin (X := "StopIteration") (T := "StopIteration") (b := true) owsi_raise.isExc notTuple_SI isSub_SI ?_
  refine name_builtin (g₀.keeps fun b o e => fl₁₀.1 _ _ (hB b o e)) ok₁₀ (by rfl) (by k_is) PyProof.Rows.Boot.«StopIteration» (by decide) (by decide) ⟨rfl, ⟨oe, hoe, hoec⟩, ?_⟩
  refine lands_againW fl₁₀ fun h₁₁ fl₁₁ us₁₁ => ?_
  have us' : s₇.heap.UpToSlots h₁₁ := us.trans (us₉.trans (us₁₀.trans us₁₁))
  have inB : ∀ b o, s₇.heap.get? b = some o → b ≠ I → b ∉ (env :: outer).filterMap (·.frame) → h₁₁.get? b = some o := fun b o e n1 n2 => fl₁₁.1 _ _ (by
    rw [hbase]
    exact hideAll_get _ e fun q => (List.mem_cons.mp q).elim n1 n2)
  have nf : ∀ b, b ∈ (env :: outer).filterMap (·.frame) → b = env.locals ∨ ∃ o, s.heap.get? b = some o := fun b q => by
    obtain ⟨en, he, hb⟩ := List.mem_filterMap.mp q
    rcases List.mem_cons.mp he with rfl | he
    · rw [hf] at hb; cases hb; exact .inl rfl
    · obtain ⟨_, o, ho, _⟩ := ff.mem (List.mem_filterMap.mpr ⟨en, he, hb⟩)
      exact .inr ⟨o, ho⟩
  obtain ⟨m, hm⟩ := si₇.ns
  have hl₇ : s₇.heap.PlainList D vs.toArray := hl.at fun o e => k₇.k _ _ e
  have hDI : D ≠ I := (bi_flds bi₇).ne_list hl₇.isList
  have hDf : D ∉ (env :: outer).filterMap (·.frame) := fun q => by
    rcases nf D q with e | ⟨o, e⟩
    · exact list_ne_ns hl.isList hm e
    · exact (si₇.up _ _ e).2.2.2 hO
  have p₁₁ : VarIs env h₁₁ (Str.ofString "found") (.ref D) := by
    have hk : env.kindOf (Str.ofString "found") = some .local := by
      show env.scope.names.lookup _ = _
      rw [si₇.ok.names]; rfl
    rcases p with ⟨a, m', b, c⟩ | ⟨a, _⟩
    · exact .inl ⟨a, m', us'.ns (b.keeps k₇.k), c⟩
    · rw [hk] at a; rcases a with a | a <;> cases a
  refine wpAny_mono (E := fun _ _ => False) (wpAny_execs_cons (wpAny_Return_some (wpAny_Name (wp_var si₇.ok.kind p₁₁ ?_) (by decide)))) (fun _ _ q => q) fun _ _ q => q.elim
  refine hQ _ _ h₁₁ tk₈ ?_ (.list (hl₇.at fun o e => inB _ _ e hDI hDf) (si₇.nw hO) (hr.flats (nats_flat ns))) (fun b o n e => inB b o (up₇ b o e) (fun q => by rw [q, nb] at e; cases e) fun q => ?_) fun b o e n => us' b o (up₇ _ _ e) n
  · obtain ⟨gs, rfl, a⟩ := (n₆.trans k₇.gn).trans g₈
    exact ⟨gs, rfl, a⟩
  · rcases List.mem_filterMap.mp q with ⟨en, he, hb⟩
    rcases List.mem_cons.mp he with rfl | he
    · rw [hf] at hb; cases hb; rw [hL] at e; cases e
    · exact n (List.mem_filterMap.mpr ⟨en, he, hb⟩)
end
section
variable {w : World} {I : Addr} {tk : Tok} {ns : List Nat} {is : List Int} {pk p1 p2 p3 p4 p5 p6 p7 : Pos}
theorem read_loop (hline : (p2.endLine == p6.line) = true) (hns : ∀ n ∈ ns, n < 64 ^ 9) (hlen : ns.length ≤ 10000) (his : is = (allOct ns).map fun (o : Nat) => (o : Int)) : ∀ (rest done : List Nat), ns = done ++ rest → TF w 2 I (byteArr is) tk (Cx.setω ⟨scRead, [(Str.ofString "tape", tape I), (Str.ofString "numbers", .list (nats ns))], none⟩ (Str.ofString "found") (nats done)) (allOct done).length (.Name (Str.ofString "k") pk)
    [.Expr (.Call (.Attribute (.Name (Str.ofString "found") p1) (Str.ofString "append") p2) [.Call (.Name (Str.ofString "_parse_varint") p3) [.Name (Str.ofString "tape") p4] [] p5] [] p6) p7] (nats (List.range' done.length rest.length)) (fun cx' i' => (cx'.sc = scRead ∧ cx'.ρ.lookup (Str.ofString "tape") = some (tape I) ∧ cx'.ω = some (Str.ofString "found", nats ns)) ∧ i' = (allOct ns).length) (fun _ _ => False) := by
  intro rest
  induction rest with
  | nil =>
    intro done e
    rw [List.append_nil] at e
    subst e
    exact TF_nil ⟨⟨rfl, rfl, rfl⟩, rfl⟩
  | cons n rest ih =>
    intro done e
    rw [List.length_cons, List.range'_succ]
    have hn : n ∈ ns := by rw [e]; simp
    refine TF_cons (by rfl) (by rfl) ?_
    refine TSs_cons (TS_append (by rfl) (TE_varint (by rfl) (by k_is) (by k_is) (by rfl) (by rfl) (by decide) (octsN n) (octs_oct n) ?_ (octs_len n (hns n hn)) ⟨?_, ?_⟩ (fun _ => by rfl)) (by decide) (fun _ => by rfl) (fun _ => by rfl) hline (fun _ => by rfl) (fun _ => by rfl))
    · rw [his]
      refine byteArr_at (allOct ns) (allOct_lt ns) _ (allOct done) (allOct (n :: rest)) ?_ rfl (octsN n) (allOct rest) ?_
      · rw [e]; unfold allOct; rw [List.flatMap_append]
      · unfold allOct; rw [List.flatMap_cons]
    · have h1 : done.length ≤ ns.length := by rw [e]; simp
      simp only [nats, List.length_map]
      exact Nat.le_trans (Nat.le_trans h1 hlen) (by decide)
    · refine TSs_nil ?_
      refine weakTF (cx' := Cx.setω ⟨scRead, [(Str.ofString "tape", tape I), (Str.ofString "numbers", .list (nats ns))], none⟩ (Str.ofString "found") (nats (done ++ [n]))) ?_ (by dsimp only [Cx.bind, Cx.setω, Cx.rel]) ⟨rfl, rfl, trivial⟩ ?_
      · have h2 := ih (done ++ [n]) (by rw [e, List.append_assoc]; rfl)
        rw [List.length_append, List.length_singleton] at h2
        have h3 : (allOct (done ++ [n])).length = (allOct done).length + (octsN n).length := by unfold allOct; rw [List.flatMap_append, List.flatMap_singleton, List.length_append]
        rw [h3] at h2
        exact h2
      · dsimp only [Cx.bind, Cx.setω, Cx.rel]
        rw [octs_val]
        unfold nats
        rw [List.map_append]; rfl
end
section
variable {w : World}
theorem c_read {A : Around} {E : Value → Shared → Prop} {s : Shared} {W : Addr → Prop} {outer : List Env} {vs : List Value} {Q : Value → Shared → Prop} {B₀ : Heap} (ns : List Nat) (hns : ∀ n ∈ ns, n < 64 ^ 9) (hlen : ns.length ≤ 10000) (rm : Rm 3 A) (hfr : A.frames = some outer)
    (g₀ : GH w B₀) (hB₀ : ∀ b o, B₀.get? b = some o → s.heap.get? b = some o) (ff : s.heap.FunFrames B₀ outer) (o : WOk W s.heap) (rs : RepAll s.heap W vs [.list (nats ns)])
    (hQ : ∀ v s' h' tk', GnB s s' h' tk' → Rep h' W v (.list (nats ns)) → (∀ b o, b ∉ outer.filterMap (·.frame) → s.heap.get? b = some o → h'.get? b = some o) → s.heap.UpToSlots h' → Q v s') : wpAny (MD w) A (call (.ref 120) vs) Q E s := by
  have g : GH w s.heap := g₀.keeps hB₀
  refine call_hand (xs := [Str.ofString "numbers"]) (ds := [.list (nats ns)]) (B := s.heap) (W := W) (by k_is) (by rfl) ⟨by rfl, by k_is, by rfl, by rfl, by rfl, by rfl, by rfl, by rfl, ?_, by decide, by decide⟩ rfl (by dsimp only) (by dsimp only [List.zip, List.zipWith]) rm g o (fun _ _ e => e) rs ?_
  · rintro (_ | ⟨v0, _ | ⟨u, vs⟩⟩) h <;> first | rfl | cases h
  intro env s₁ si hf hL hC ⟨h₁, t₁, es⟩ hk rm₁
  obtain ⟨is, his⟩ : ∃ is : List Int, is = (allOct ns).map fun (o : Nat) => (o : Int) := ⟨_, rfl⟩
  refine wpAny_execs_cons (wpAny_Assign_Name ?_ rfl)
  refine Call_Name rfl (name_builtin si.gh si.ok (by rfl) (by k_is) PyProof.Rows.Boot.«iter» (by decide) (by decide) ?_)
  refine PyProof.Rows.callWith_builtin1 (wpAny_mono ((?_ : SL w 2 _ _ _ (fun ds => ds = [Dat.bytes (byteArr is)])) _ _ env s₁ _ rm₁ si.gh si.wok si.ok) (fun vs s₂ ⟨ds, rs, e, k₂⟩ => ?_) fun _ _ q => q) rfl rfl
  · repeat walk_at "s"
    refine SE_blt_ (by rfl) (by k_is) PyProof.Rows.Boot.«bytes» (by decide) (by decide) ?_ (fun _ => by rfl) (fun _ => by rfl)
    repeat walk_at "s"
    refine SIt_list ?_
    repeat walk_at "s"
    refine ⟨_, rfl, ?_⟩
    refine (SG_map2 (fun it acc env => turn2a _ _ _ _ _ _ _ _ _ _ _ it acc env) (fun it acc env => turn2b _ _ _ _ _ _ _ _ _ _ _ it acc env) (by rfl) (fun _ _ => by rfl) (by rfl) (by rfl) (by rfl) (by rfl) (by rfl) (by rfl) (by rfl) (nats ns) []
        (f := fun _ => true) (h := fun d => match d with | .int i => octs i.toNat | _ => []) (g := fun d v => v) (N := 10) ?_ ?_ ?_ ?_ ?_).mono ?_
    · intro d hd
      exact STs_nil rfl
    · intro d hd hf
      obtain ⟨b, hb, rfl⟩ := List.mem_map.mp hd
      refine SIt_list ?_
      repeat walk_at "s"
      refine ((c_octets w b (Nat.lt_trans (hns b hb) (by decide))).le (by decide)).mono fun d e => ?_
      subst e
      exact ⟨_, rfl, by show octs b = octs ((b : Int)).toNat; rw [Int.toNat_natCast]⟩
    · intro d hd hf v hv
      repeat walk_at "s"
      rfl
    · intro d hd hf
      obtain ⟨b, hb, rfl⟩ := List.mem_map.mp hd
      show (octs _).length ≤ _
      rw [Int.toNat_natCast, octs_nats]
      unfold nats
      rw [List.length_map]
      exact octs_len b (hns b hb)
    · unfold nats
      rw [List.length_map, List.length_nil]
      exact Nat.le_trans (by omega) (show 100000 ≤ sizeLine by decide)
    · intro ds hds
      have e1 : ds = is.map .int := by
        rw [hds, his, List.nil_append, List.filter_eq_self.mpr (fun _ _ => rfl)]
        unfold nats allOct
        rw [List.flatMap_map, List.map_flatMap, List.map_flatMap]
        refine congrArg (List.flatMap · ns) (funext fun b => ?_)
        show List.map _ (octs _) = _
        rw [Int.toNat_natCast, octs_nats]
        unfold nats
        rw [List.map_map, List.map_map]; rfl
      rw [e1]
      refine SL_nil (OB_bytes ?_ ?_ ?_)
      · rw [his]
        intro n hn
        obtain ⟨o, ho, rfl⟩ := List.mem_map.mp hn
        have := allOct_lt ns o ho
        omega
      · rw [his, List.length_map]
        have := allOct_len ns hns
        exact Nat.le_trans (by omega) (show 100000 ≤ sizeLine by decide)
      · exact SL_nil rfl
  subst e
  cases rs with
  | cons r rs =>
  cases rs
  cases r with
  | bytes bb tk =>
  refine call_iter_bytes ?_
  have fr₂ : s₂.heap.get? s₂.heap.objs.size = none := Heap.get?_none_of_le (Nat.le_refl _)
  obtain ⟨I, hI⟩ : ∃ I, I = s₂.heap.objs.size := ⟨_, rfl⟩
  obtain ⟨s₃, hs₃⟩ : ∃ s₃ : Shared, s₃ = { s₂ with heap := s₂.heap.push { cls := .type "bytes_iterator", data := .fields #[.bytes (byteArr is) tk, .int 0 0] } } := ⟨_, rfl⟩
  rw [← hs₃, ← hI]
  have k₃ : Kp s₁ s₃ := by rw [hs₃]; exact k₂.trans (Kp.push _ _)
  have si₃ := si.keeps k₃.k
  have bi₃ : KBw.IsBytesIter s₃.heap I (byteArr is) tk 0 := by rw [hs₃, hI]; exact ⟨_, Heap.get?_push_size _ rfl, rfl, rfl⟩
  have nI : s₁.heap.get? I = none := k₂.fresh (by rw [hI]; exact fr₂)
  have nb : s.heap.get? I = none := by
    cases e : s.heap.get? I with
    | none => rfl
    | some o => rw [hk _ _ e] at nI; cases nI
  refine store_data si₃ (isVar_of (by rfl)) (.opq I) (notOwn_ne (by rfl)) fun s₄ si₄ e₄ => ?_
  have bi₄ := bi_ef si₃ bi₃ e₄
  refine wpAny_execs_cons (wpAny_mono ((?_ : TS w 2 I (byteArr is) tk _ 0 _ (fun cx' i' => cx' = Cx.setω ⟨scRead, [(Str.ofString "tape", tape I), (Str.ofString "numbers", .list (nats ns))], none⟩ (Str.ofString "found") [] ∧ i' = 0) (fun _ _ => False)) _ _ env s₄ s.heap W N0 rm₁ si₄ bi₄ nb) (fun f s₅ h₅ => ?_) fun _ _ q => q)
  · refine TS_of (assign_own' (by rfl) (by rfl) (by rfl) (fun _ => by rfl) (SEf_list ?_))
    repeat walk_at "s"
    exact ⟨by decide, rfl, rfl⟩
  cases f with
  | brk => exact h₅.elim
  | cont => exact h₅.elim
  | ret v => obtain ⟨d, i', _, q, _⟩ := h₅; exact q.elim
  | next =>
  obtain ⟨O₅, cx₅, i₅, si₅, e₅, g₅, bi₅, rfl, rfl⟩ := h₅
  refine wpAny_execs_cons (wpAny_mono ((?_ : TS w 2 I (byteArr is) tk _ 0 _ (fun cx' i' => (cx'.sc = scRead ∧ cx'.ρ.lookup (Str.ofString "tape") = some (tape I) ∧ cx'.ω = some (Str.ofString "found", nats ns)) ∧ i' = (allOct ns).length) (fun _ _ => False)) _ _ env s₅ s.heap W _ rm₁ si₅ bi₅ nb) (fun f s₆ h₆ => ?_) fun _ _ q => q)
  · refine TS_for (fun _ _ => by rfl) ?_
    repeat walk_at "s"
    refine OB_len_list (by simp [nats]; omega) ?_
    repeat walk_at "s"
    refine ⟨_, rfl, by omega, by simp [nats]; omega, ?_⟩
    have hup : upTo 0 ((List.length (nats ns) : Nat) : Int).toNat = nats (List.range' 0 ns.length) := by
      rw [Int.toNat_natCast, show (nats ns).length = ns.length from List.length_map .., show (0 : Int) = ((0 : Nat) : Int) from rfl, upTo_nat]
    rw [hup]
    exact read_loop (by rfl) hns hlen his ns [] rfl
  cases f with
  | brk => exact h₆.elim
  | cont => exact h₆.elim
  | ret v => obtain ⟨d, i', _, q, _⟩ := h₆; exact q.elim
  | next =>
  obtain ⟨O₆, cx₆, i₆, si₆, e₆, g₆, bi₆, ⟨hsc, hta, hfo⟩, rfl⟩ := h₆
  have si₇ : SI w (Cx.setω ⟨scRead, [(Str.ofString "tape", tape I)], none⟩ (Str.ofString "found") (nats ns)) s.heap W O₆ env s₆.heap := si₆.weak hsc.symm (fun y d e => by
    change List.lookup y [(Str.ofString "tape", tape I)] = some d at e
    rw [List.lookup_cons] at e
    cases hy : y == Str.ofString "tape" with
    | true => rw [hy] at e; cases e; rw [beq_iff_eq.mp hy]; exact hta
    | false => rw [hy] at e; cases e) (.inl hfo.symm)
  have n₁ : GnB s s₁ s₁.heap s₁.toks := by subst es; exact ⟨_, rfl, GB.refl _⟩
  have n₆ : GnB s s₆ s₆.heap s₆.toks := (((n₁.trans k₃.gn).trans e₄.gn).trans e₅.gn).trans e₆.gn
  exact read_end rm₁ hfr g₀ hB₀ ff si₇ bi₆ (by rw [his]; exact byteArr_end _) nb hf hL n₆ hQ
end
end
section
/-! the law's own statements: one of them raises and catches within -/
section
variable {w : World} {cx : Cx} {B : Heap} {W O : Addr → Prop} {env : Env} {h h' : Heap}
theorem SI.slots (x : SI w cx B W O env h) (k : ∀ b o, b ≠ env.locals → h.get? b = some o → h'.get? b = some o) (u : h.UpToSlots h') : SI w cx B W O env h' := by
  obtain ⟨mm, hmm⟩ := x.ns
  have nc : ∀ n c, env.cells.lookup n = some c → c ≠ env.locals := fun n c hc => let ⟨v, hv⟩ := x.cel n c hc; (ns_ne_cell hmm hv).symm
  have vk : ∀ y v, VarIs env h y v → VarIs env h' y v := fun y v q => by
    rcases q with ⟨a, m, b, c⟩ | ⟨a, d, c, b, e⟩
    · exact .inl ⟨a, m, u.ns b, c⟩
    · exact .inr ⟨a, d, c, b, let ⟨o, p, q⟩ := e; ⟨o, k _ o (nc _ _ b) p, q⟩⟩
  have nls : ∀ a its, h.IsList a its → a ≠ env.locals := fun a its l => list_ne_ns l hmm
  have mv : ∀ a its, ¬ (W a ∨ O a) → h.IsList a its → (∀ o, h.get? a = some o → h'.get? a = some o) ∧ ¬ (W a ∨ O a) := fun a its q l => ⟨fun o e => k a o (nls a its l) e, q⟩
  have own : ∀ y ds, cx.ω = some (y, ds) → ∃ a vs, VarIs env h' y (.ref a) ∧ h'.PlainList a vs.toArray ∧ RepAll h' (fun b => W b ∨ O b) vs ds ∧ O a := fun y ds e =>
    let ⟨a, vs, p, q, r, t⟩ := x.own y ds e; ⟨a, vs, vk _ _ p, q.at fun o e => k a o (nls _ _ q.isList) e, r.move mv, t⟩
  exact ⟨x.g, x.wb, fun b o e => ⟨k _ _ (x.up b o e).2.1 (x.up b o e).1, (x.up b o e).2⟩, ⟨x.ok.globals, x.ok.builtins, x.ok.kind, x.ok.names, x.ok.cells, fun y d e => let ⟨v, p, q⟩ := x.ok.var y d e; ⟨v, vk y v p, q.move mv⟩,
      fun y ds e => let ⟨a, vs, p, q, r, t⟩ := own y ds e; ⟨a, vs, p, q, r, .inr t⟩⟩, own,
    fun a q => let ⟨its, l⟩ := x.ol a q; ⟨its, l.at fun o e => k a o (nls _ _ l.isList) e⟩, ⟨mm, u.ns hmm⟩, fun n c e => let ⟨v, o, p1, p2⟩ := x.cel n c e; ⟨v, o, k c o (nc _ _ e) p1, p2⟩, x.apart⟩
end
noncomputable def XSs (w : World) (n : Nat) (cx : Cx) (sts : List Stmt) (Kr : Dat → Prop) : Prop :=
  ∀ (A : Around) (E : Value → Shared → Prop) (env : Env) (s : Shared) (B : Heap) (W O : Addr → Prop), Rm n A → A.frames = some [env] → env.frame = some env.locals → SI w cx B W O env s.heap → wpAny (MD w) A (execs sts env) (PF w (fun _ => False) Kr (fun _ => False) B W O N0 env s) E s
section
variable {w : World} {n : Nat} {cx : Cx} {Kr : Dat → Prop}
theorem XSs_of {sts : List Stmt} (h : SSs w n cx sts (fun _ => False) Kr (fun _ => False)) : XSs w n cx sts Kr := fun A E env s B W O rm _ _ si => h A E env s B W O rm si
theorem XSs_cons {st : Stmt} {sts : List Stmt} (h : SS w n cx st (fun cx' => XSs w n cx' sts Kr) Kr (fun _ => False)) : XSs w n cx (st :: sts) Kr := fun A E env s B W O rm hfr hf si => by
  refine wpAny_execs_cons (wpAny_mono (h A E env s B W O rm si) (fun f s₁ h₁ => ?_) fun _ _ q => q)
  cases f with
  | next =>
    obtain ⟨O', cx', h1, h2, h3, h4⟩ := h₁
    exact wpAny_mono (h4 A E env s₁ B W O' rm hfr hf h1) (fun f s' h => PF.trans h2 h3 h) fun _ _ q => q
  | brk => obtain ⟨_, _, _, _, _, q⟩ := h₁; exact q.elim
  | cont => exact h₁
  | ret v => exact h₁
theorem XSs_read {x y : Str} {np fp ip cp pos : Pos} {sts : List Stmt} {ns : List Nat} (hk : cx.sc.lookup (Str.ofString "_law_read") = some .globalImplicit) (hfn : nsIn (hd.heap_39 w.params) mainGlobals (Str.ofString "_law_read") = some (some (.ref 120)))
    (ho : ∃ ob fd, (hd.heap_39 w.params).lookup 120 = some ob ∧ ob.data = .func fd) (hl : cx.ρ.lookup y = some (.list (nats ns))) (hdb : (y == ("__debug__" : Str)) = false) (hns : ∀ n ∈ ns, n < 64 ^ 9) (hlen : ns.length ≤ 10000) (h1 : isVarB cx x = true) (h2 : notOwn cx x = true)
    (hst : ∀ env, starEach [.Name y ip] env = (false, eval (.Name y ip) env) :: starEach [] env) (hsw : ∀ env, swapsWith (.Call (.Name (Str.ofString "_law_read") fp) [.Name y ip] [] cp) (some (.Name x np)) pos.line env = pure false)
    (h : XSs w (n + 3) (cx.bind x (.list (nats ns))) sts Kr) : XSs w (n + 3) cx (.Assign [.Name x np] (.Call (.Name (Str.ofString "_law_read") fp) [.Name y ip] [] cp) pos :: sts) Kr := fun A E env s B W O rm hfr hf si => by
  refine wpAny_execs_cons (wpAny_Assign_Name ?_ (hsw env))
  refine Call_Name rfl (name_global si.gh si.ok hk hfn (by decide) ?_)
  have sl : SL w (n + 3) cx cp [.Name y ip] (fun ds => ds = [.list (nats ns)]) := SL_cons (SE_name hl (SL_nil rfl) hdb) hst
  obtain ⟨ob, fd, hob, hdt⟩ := ho
  refine callWith_def hdt (wpAny_mono (sl A E env s _ rm si.gh si.wok si.ok) (fun vs s₁ ⟨ds, rs, e, k₁⟩ => ⟨k₁.k _ _ (si.gh.1 _ _ hob), ?_⟩) fun _ _ q => q) (hst env)
  subst e
  have si₁ := si.keeps k₁.k
  obtain ⟨mm, hmm⟩ := si₁.ns
  have hBl : B.get? env.locals = none := by
    cases q : B.get? env.locals with
    | none => rfl
    | some o => exact absurd rfl (si.up _ _ q).2.1
  refine c_read (outer := [env]) (B₀ := B) (W := fun b => W b ∨ O b) ns hns hlen (rm.le (by omega)) hfr si.g (fun b o e => (si₁.up b o e).1) (Heap.FunFrames.cons (by rw [si.ok.kind]; decide) hf hmm hBl trivial) si₁.wok rs fun v s' h' tk' gn rv hkp us => ?_
  have hkp' : ∀ b o, b ≠ env.locals → s₁.heap.get? b = some o → h'.get? b = some o := fun b o n e => hkp b o (fun q => by
    obtain ⟨en, he, hb⟩ := List.mem_filterMap.mp q
    rw [List.mem_singleton] at he; subst he
    rw [hf] at hb; cases hb; exact n rfl) e
  have si₂ : SI w cx B W O env h' := si₁.slots hkp' us
  obtain ⟨gs, rfl, ab⟩ := gn
  refine store_data (s := { s₁ with heap := h', toks := tk', gens := gs }) si₂ (isVar_of h1) rv (notOwn_ne h2) fun s₃ si₃ e₃ => ?_
  have e₂ : Ef O N0 env s₁ { s₁ with heap := h', toks := tk', gens := gs } := ⟨h', tk', ⟨gs, rfl, ab⟩, fun b o n1 _ _ _ e => hkp' b o n1 e, fun b o _ e => by
    by_cases q : b = env.locals
    · subst q
      obtain ⟨o', es, ep, p1, p2, _⟩ := us.ns hmm
      exact ⟨o', p1⟩
    · exact ⟨o, hkp' b o q e⟩⟩
  exact wpAny_mono (h A E env s₃ B W O rm hfr hf si₃) (fun f s' h => PF.trans (Ef.kp k₁) Grow.refl (PF.trans e₂ Grow.refl (PF.trans e₃ Grow.refl h))) fun _ _ q => q
end
end
section
/-! the plain law: ways and their number -/
section
variable (op : Nat → Nat → Bool) (fl : Nat)
noncomputable def backs0 (k : Nat) : List Nat := List.range' (k - 3) (k - (k - 3))
theorem backs_split {s k : Nat} (h : s ≤ k) : backs0 k = List.range' (k - 3) (max s (k - 3) - (k - 3)) ++ backs s k := by
  unfold backs0 backs
  rw [show k - (k - 3) = (max s (k - 3) - (k - 3)) + (k - max s (k - 3)) by omega, ← List.range'_append_1, show (k - 3) + (max s (k - 3) - (k - 3)) = max s (k - 3) by omega]
theorem flat_congr {α β : Type} {f g : α → List β} : ∀ {l : List α}, (∀ a ∈ l, f a = g a) → l.flatMap f = l.flatMap g
  | [], _ => rfl
  | a :: l, h => by rw [List.flatMap_cons, List.flatMap_cons, h a List.mem_cons_self, flat_congr fun b hb => h b (List.mem_cons_of_mem _ hb)]
noncomputable def Nn (s k : Nat) : Nat := if k < s then 0 else (cntT op s (k - s)).getD k 0
noncomputable def Ww (s k : Nat) : List Nat := if k < s then [] else (wayT op s fl (k - s)).getD k []
theorem cntT_stable (s : Nat) : ∀ (d m k : Nat), k < s + 1 + m → (cntT op s (m + d)).getD k 0 = (cntT op s m).getD k 0
  | 0, m, k, _ => rfl
  | d + 1, m, k, h => by
    rw [show m + (d + 1) = (m + d) + 1 from rfl]
    conv => lhs; unfold cntT
    rw [List.getD_eq_getElem?_getD, List.getElem?_append_left (by rw [cntT_length]; omega), ← List.getD_eq_getElem?_getD]
    exact cntT_stable s d m k h
theorem wayT_stable (s : Nat) : ∀ (d m k : Nat), k < s + 1 + m → (wayT op s fl (m + d)).getD k [] = (wayT op s fl m).getD k []
  | 0, m, k, _ => rfl
  | d + 1, m, k, h => by
    rw [show m + (d + 1) = (m + d) + 1 from rfl]
    conv => lhs; unfold wayT
    rw [List.getD_eq_getElem?_getD, List.getElem?_append_left (by rw [wayT_length]; omega), ← List.getD_eq_getElem?_getD]
    exact wayT_stable s d m k h
theorem Nn_lt {s k : Nat} (h : k < s) : Nn op s k = 0 := by unfold Nn; rw [if_pos h]
theorem Ww_lt {s k : Nat} (h : k < s) : Ww op fl s k = [] := by unfold Ww; rw [if_pos h]
theorem Nn_self (s : Nat) : Nn op s s = 1 := by
  unfold Nn
  rw [if_neg (Nat.lt_irrefl s), Nat.sub_self]
  unfold cntT
  rw [List.getD_eq_getElem?_getD, List.getElem?_append_right (by rw [List.length_replicate]; exact Nat.le_refl _), List.length_replicate, Nat.sub_self]
  rfl
theorem Ww_self (s : Nat) : Ww op fl s s = [2 ^ (s + fl)] := by
  unfold Ww
  rw [if_neg (Nat.lt_irrefl s), Nat.sub_self]
  unfold wayT
  rw [List.getD_eq_getElem?_getD, List.getElem?_append_right (by rw [List.length_replicate]; exact Nat.le_refl _), List.length_replicate, Nat.sub_self]
  rfl
theorem sum_zero : ∀ l : List Nat, (∀ a ∈ l, a = 0) → l.sum = 0
  | [], _ => rfl
  | a :: l, h => by rw [List.sum_cons, h a List.mem_cons_self, sum_zero l fun b hb => h b (List.mem_cons_of_mem _ hb)]
theorem flat_nil {α β : Type} (f : α → List β) : ∀ l : List α, (∀ a ∈ l, f a = []) → l.flatMap f = []
  | [], _ => rfl
  | a :: l, h => by rw [List.flatMap_cons, h a List.mem_cons_self, flat_nil f l fun b hb => h b (List.mem_cons_of_mem _ hb)]; rfl
theorem low_mem {s k b : Nat} (h : b ∈ List.range' (k - 3) (max s (k - 3) - (k - 3))) : b < s := by
  rw [List.mem_range'_1] at h; omega
theorem mem_backs0 {k b : Nat} (h : b ∈ backs0 k) : b < k := by unfold backs0 at h; rw [List.mem_range'_1] at h; omega
theorem Nn_step {s k : Nat} (h : k ≠ s) : Nn op s k = (((backs0 k).filter fun b => op b k).map (Nn op s)).sum := by
  rcases Nat.lt_or_gt_of_ne h with h | h
  · rw [Nn_lt op h]
    refine (sum_zero _ fun a ha => ?_).symm
    obtain ⟨b, hb, rfl⟩ := List.mem_map.mp ha
    exact Nn_lt op (Nat.lt_trans (mem_backs0 (List.mem_filter.mp hb).1) h)
  · obtain ⟨m, rfl⟩ : ∃ m, k = s + m + 1 := ⟨k - s - 1, by omega⟩
    rw [backs_split (s := s) (by omega), List.filter_append, List.map_append, List.sum_append]
    rw [sum_zero (List.map (Nn op s) (List.filter (fun b => op b (s + m + 1)) (List.range' (s + m + 1 - 3) (max s (s + m + 1 - 3) - (s + m + 1 - 3))))) fun a ha => by
      obtain ⟨b, hb, rfl⟩ := List.mem_map.mp ha
      exact Nn_lt op (low_mem (List.mem_filter.mp hb).1)]
    rw [Nat.zero_add]
    unfold Nn
    rw [if_neg (by omega), show s + m + 1 - s = m + 1 by omega]
    conv => lhs; unfold cntT
    rw [List.getD_eq_getElem?_getD, List.getElem?_append_right (by rw [cntT_length]; omega), cntT_length, show s + m + 1 - (s + 1 + m) = 0 by omega]
    show List.sum _ = _
    congr 1
    refine List.map_congr_left fun b hb => ?_
    have hb' := backs_mem (List.mem_filter.mp hb).1
    rw [if_neg (by omega)]
    obtain ⟨d, hd⟩ : ∃ d, m = (b - s) + d := ⟨m - (b - s), by omega⟩
    conv => lhs; rw [hd]
    exact cntT_stable op s d (b - s) b (by omega)
theorem Ww_step {s k : Nat} (h : k ≠ s) : Ww op fl s k = ((backs0 k).filter fun b => op b k).flatMap fun b => (Ww op fl s b).map (· + 2 ^ (k + fl)) := by
  rcases Nat.lt_or_gt_of_ne h with h | h
  · rw [Ww_lt op fl h]
    refine (flat_nil _ _ fun b hb => ?_).symm
    rw [Ww_lt op fl (Nat.lt_trans (mem_backs0 (List.mem_filter.mp hb).1) h)]; rfl
  · obtain ⟨m, rfl⟩ : ∃ m, k = s + m + 1 := ⟨k - s - 1, by omega⟩
    rw [backs_split (s := s) (by omega), List.filter_append, List.flatMap_append]
    rw [flat_nil _ (List.filter (fun b => op b (s + m + 1)) (List.range' (s + m + 1 - 3) (max s (s + m + 1 - 3) - (s + m + 1 - 3)))) fun b hb => by
      rw [Ww_lt op fl (low_mem (List.mem_filter.mp hb).1)]; rfl]
    rw [List.nil_append]
    conv => lhs; unfold Ww
    rw [if_neg (by omega), show s + m + 1 - s = m + 1 by omega]
    conv => lhs; unfold wayT
    rw [List.getD_eq_getElem?_getD, List.getElem?_append_right (by rw [wayT_length]; omega), wayT_length, show s + m + 1 - (s + 1 + m) = 0 by omega]
    show List.flatMap _ _ = _
    refine flat_congr fun b hb => ?_
    have hb' := backs_mem (List.mem_filter.mp hb).1
    unfold Ww
    rw [if_neg (by omega)]
    obtain ⟨d, hd⟩ : ∃ d, m = (b - s) + d := ⟨m - (b - s), by omega⟩
    conv => lhs; rw [hd]
    rw [wayT_stable op fl s d (b - s) b (by omega)]
    rw [show s + (b - s + d) + 1 = s + m + 1 by omega]
end
end
section
/-! pairs of ways without a common place -/
noncomputable def pc (A B : List Nat) : Nat := (A.map fun p => (B.filter fun q => p &&& q == 0).length).sum
theorem pc_nil (B : List Nat) : pc [] B = 0 := rfl
theorem pc_cons (p : Nat) (A B : List Nat) : pc (p :: A) B = (B.filter fun q => p &&& q == 0).length + pc A B := by unfold pc; rw [List.map_cons, List.sum_cons]
theorem pc_nil' : ∀ A : List Nat, pc A [] = 0
  | [] => rfl
  | p :: A => by rw [pc_cons, pc_nil' A]; rfl
theorem pc_app' (B C : List Nat) : ∀ A : List Nat, pc A (B ++ C) = pc A B + pc A C
  | [] => rfl
  | p :: A => by rw [pc_cons, pc_cons, pc_cons, pc_app' B C A, List.filter_append, List.length_append]; omega
theorem pc_app (B : List Nat) : ∀ A A' : List Nat, pc (A ++ A') B = pc A B + pc A' B
  | [], A' => by rw [List.nil_append, pc_nil, Nat.zero_add]
  | p :: A, A' => by rw [List.cons_append, pc_cons, pc_cons, pc_app B A A']; omega
theorem pc_flat' {α : Type} (A : List Nat) (f : α → List Nat) : ∀ l : List α, pc A (l.flatMap f) = (l.map fun a => pc A (f a)).sum
  | [] => by rw [List.flatMap_nil, pc_nil']; rfl
  | a :: l => by rw [List.flatMap_cons, pc_app', pc_flat' A f l, List.map_cons, List.sum_cons]
theorem pc_flat {α : Type} (B : List Nat) (f : α → List Nat) : ∀ l : List α, pc (l.flatMap f) B = (l.map fun a => pc (f a) B).sum
  | [] => rfl
  | a :: l => by rw [List.flatMap_cons, pc_app, pc_flat B f l, List.map_cons, List.sum_cons]
theorem pc_map' {A B : List Nat} {f : Nat → Nat} (h : ∀ p ∈ A, ∀ q ∈ B, p &&& f q = p &&& q) : pc A (B.map f) = pc A B := by
  unfold pc
  congr 1
  refine List.map_congr_left fun p hp => ?_
  rw [List.filter_map, List.length_map]
  congr 1
  refine List.filter_congr fun q hq => ?_
  show (p &&& f q == 0) = _
  rw [h p hp q hq]
theorem pc_map {A B : List Nat} {f : Nat → Nat} (h : ∀ p ∈ A, ∀ q ∈ B, f p &&& q = p &&& q) : pc (A.map f) B = pc A B := by
  unfold pc
  rw [List.map_map]
  congr 1
  refine List.map_congr_left fun p hp => ?_
  show (B.filter fun q => f p &&& q == 0).length = _
  congr 1
  refine List.filter_congr fun q hq => ?_
  rw [h p hp q hq]
theorem and_high {p q n : Nat} (hp : p < 2 ^ n) (hq : q < 2 ^ n) : p &&& (q + 2 ^ n) = p &&& q := by
  have h1 : p &&& (q + 2 ^ n) < 2 ^ n := Nat.lt_of_le_of_lt Nat.and_le_left hp
  rw [← Nat.mod_eq_of_lt h1, Nat.and_mod_two_pow, Nat.add_mod_right, Nat.mod_eq_of_lt hp, Nat.mod_eq_of_lt hq]
theorem and_high' {p q n : Nat} (hp : p < 2 ^ n) (hq : q < 2 ^ n) : (p + 2 ^ n) &&& q = p &&& q := by
  rw [Nat.and_comm, and_high hq hp, Nat.and_comm]
theorem and_bit {p n : Nat} (hp : p < 2 ^ n) : p &&& 2 ^ n = 0 := by
  have := and_high hp (Nat.two_pow_pos n)
  rw [Nat.zero_add, Nat.and_zero] at this
  exact this
theorem and_both {p q n : Nat} (hp : p < 2 ^ n) (hq : q < 2 ^ n) : (p + 2 ^ n) &&& (q + 2 ^ n) ≠ 0 := by
  intro h
  have h1 : ((p + 2 ^ n) &&& (q + 2 ^ n)).testBit n = true := by
    rw [Nat.testBit_and, Nat.testBit_eq_decide_div_mod_eq, Nat.testBit_eq_decide_div_mod_eq, Nat.add_div_right _ (Nat.two_pow_pos n), Nat.add_div_right _ (Nat.two_pow_pos n), Nat.div_eq_of_lt hp, Nat.div_eq_of_lt hq]
    rfl
  rw [h, Nat.zero_testBit] at h1
  cases h1

section
variable (op : Nat → Nat → Bool) (fl : Nat)
theorem Ww_bound (s : Nat) : ∀ k, ∀ p ∈ Ww op fl s k, p < 2 ^ (k + 1 + fl) ∧ ∃ r, r < 2 ^ (k + fl) ∧ p = r + 2 ^ (k + fl) := by
  intro k
  induction k using Nat.strongRecOn with
  | ind k ih =>
    intro p hp
    have e : 2 ^ (k + 1 + fl) = 2 ^ (k + fl) + 2 ^ (k + fl) := by rw [show k + 1 + fl = (k + fl) + 1 by omega, Nat.pow_succ]; omega
    have fin : ∀ r, r < 2 ^ (k + fl) → p = r + 2 ^ (k + fl) → p < 2 ^ (k + 1 + fl) ∧ ∃ r, r < 2 ^ (k + fl) ∧ p = r + 2 ^ (k + fl) := fun r h1 h2 => ⟨by omega, r, h1, h2⟩
    by_cases hk : k = s
    · subst hk
      rw [Ww_self] at hp
      exact fin 0 (Nat.two_pow_pos _) (by rw [List.mem_singleton.mp hp, Nat.zero_add])
    · rw [Ww_step op fl hk] at hp
      obtain ⟨b, hb, hp⟩ := List.mem_flatMap.mp hp
      obtain ⟨r, hr, rfl⟩ := List.mem_map.mp hp
      have hb' := mem_backs0 (List.mem_filter.mp hb).1
      have h1 := (ih b hb' r hr).1
      exact fin r (Nat.lt_of_lt_of_le h1 (Nat.pow_le_pow_right (by decide) (by omega))) rfl
theorem Ww_len (s : Nat) : ∀ k, (Ww op fl s k).length = Nn op s k := by
  intro k
  induction k using Nat.strongRecOn with
  | ind k ih =>
    by_cases hk : k = s
    · subst hk; rw [Ww_self, Nn_self]; rfl
    · rw [Ww_step op fl hk, Nn_step op hk, List.length_flatMap]
      congr 1
      refine List.map_congr_left fun b hb => ?_
      rw [List.length_map]
      exact ih b (mem_backs0 (List.mem_filter.mp hb).1)
theorem Ww_low {s k n : Nat} (h : k < n) : ∀ p ∈ Ww op fl s k, p < 2 ^ (n + fl) := fun p hp => Nat.lt_of_lt_of_le (Ww_bound op fl s k p hp).1 (Nat.pow_le_pow_right (by decide) (by omega))

/-- the last step of the second way -/
theorem pc_right {x y i j : Nat} (hij : i < j) (hj : j ≠ y) : pc (Ww op fl x i) (Ww op fl y j) = (((backs0 j).filter fun b => op b j).map fun b => pc (Ww op fl x i) (Ww op fl y b)).sum := by
  rw [Ww_step op fl hj, pc_flat']
  congr 1
  refine List.map_congr_left fun b hb => ?_
  have hb' := mem_backs0 (List.mem_filter.mp hb).1
  exact pc_map' fun p hp q hq => and_high (Ww_low op fl hij p hp) (Ww_low op fl hb' q hq)
theorem pc_left {x y i j : Nat} (hij : i < j) (hj : j ≠ x) : pc (Ww op fl x j) (Ww op fl y i) = (((backs0 j).filter fun b => op b j).map fun b => pc (Ww op fl x b) (Ww op fl y i)).sum := by
  rw [Ww_step op fl hj, pc_flat]
  congr 1
  refine List.map_congr_left fun b hb => ?_
  have hb' := mem_backs0 (List.mem_filter.mp hb).1
  exact pc_map fun p hp q hq => and_high' (Ww_low op fl hb' p hp) (Ww_low op fl hij q hq)
theorem pc_one {A : List Nat} {n : Nat} (h : ∀ p ∈ A, p < 2 ^ n) : pc A [2 ^ n] = A.length := by
  induction A with
  | nil => rfl
  | cons p A ih =>
    rw [pc_cons, ih fun q hq => h q (List.mem_cons_of_mem _ hq), List.length_cons]
    have := and_bit (h p List.mem_cons_self)
    rw [List.filter_cons, this, if_pos (by decide)]
    simp; omega
theorem pc_one' {B : List Nat} {n : Nat} (h : ∀ p ∈ B, p < 2 ^ n) : pc [2 ^ n] B = B.length := by
  rw [pc_cons, pc_nil, Nat.add_zero]
  congr 1
  refine List.filter_eq_self.mpr fun q hq => ?_
  have := and_bit (h q hq)
  rw [Nat.and_comm] at this
  rw [this]; rfl
theorem pc_same (x y i : Nat) : pc (Ww op fl x i) (Ww op fl y i) = 0 := by
  unfold pc
  refine sum_zero _ fun a ha => ?_
  obtain ⟨p, hp, rfl⟩ := List.mem_map.mp ha
  rw [List.length_eq_zero_iff, List.filter_eq_nil_iff]
  intro q hq
  obtain ⟨_, r, hr, rfl⟩ := Ww_bound op fl x i p hp
  obtain ⟨_, t, ht, rfl⟩ := Ww_bound op fl y i q hq
  have := and_both hr ht
  simpa using this

theorem sum_sub_map {α : Type} (f g : α → Nat) (u v : Int) (n m : α → Nat) : ∀ l : List α, (∀ a ∈ l, (f a : Int) - (g a : Int) = u * (n a : Int) - (m a : Int) * v) →
    (((l.map f).sum : Nat) : Int) - (((l.map g).sum : Nat) : Int) = u * (((l.map n).sum : Nat) : Int) - (((l.map m).sum : Nat) : Int) * v
  | [], _ => by simp
  | a :: l, h => by
    have ih := sum_sub_map f g u v n m l fun b hb => h b (List.mem_cons_of_mem _ hb)
    have h1 := h a List.mem_cons_self
    simp only [List.map_cons, List.sum_cons, Int.natCast_add, Int.mul_add, Int.add_mul]
    omega

/-- two ways that do not meet, told by a determinant -/
theorem two_ways {x y : Nat} (hxy : x ≠ y) : ∀ (t i j : Nat), i + j = t → (pc (Ww op fl x i) (Ww op fl y j) : Int) - (pc (Ww op fl x j) (Ww op fl y i) : Int) = (Nn op x i : Int) * (Nn op y j : Int) - (Nn op x j : Int) * (Nn op y i : Int) := by
  intro t
  induction t using Nat.strongRecOn with
  | ind t ih =>
    have main : ∀ i j, i < j → i + j = t → (pc (Ww op fl x i) (Ww op fl y j) : Int) - (pc (Ww op fl x j) (Ww op fl y i) : Int) = (Nn op x i : Int) * (Nn op y j : Int) - (Nn op x j : Int) * (Nn op y i : Int) := by
      intro i j hij ht
      by_cases hjy : j = y
      · subst hjy
        have hyi : Ww op fl j i = [] := Ww_lt op fl hij
        rw [Ww_self, pc_one (Ww_low op fl hij), Ww_len, hyi, pc_nil', Nn_self, Nn_lt op hij]
        simp
      · by_cases hjx : j = x
        · subst hjx
          have hxi : Ww op fl j i = [] := Ww_lt op fl hij
          rw [Ww_self, pc_one' (Ww_low op fl hij), Ww_len, hxi, pc_nil, Nn_self, Nn_lt op hij]
          simp
        · rw [pc_right op fl hij hjy, pc_left op fl hij hjx, Nn_step op hjy, Nn_step op hjx]
          refine sum_sub_map _ _ _ _ _ _ _ fun b hb => ?_
          have hb' := mem_backs0 (List.mem_filter.mp hb).1
          exact ih (i + b) (by omega) i b rfl
    intro i j ht
    rcases Nat.lt_trichotomy i j with h | h | h
    · exact main i j h ht
    · subst h; rw [pc_same]; omega
    · have := main j i h (by omega)
      omega
end
end
section
open StrLaws Builtin.Str in
theorem at_char {x : Str} {sep : Str} {c : Nat} {rest : List Nat} (hs : sep.cps.toList = c :: rest) {k : Nat} (h : At x sep x.length k) : x.cps.toList[k]? = some c := by
  have h2 := h.2
  rw [subAt_eq] at h2
  have h3 := eq_of_beq h2
  rw [hs] at h3
  have : ((x.cps.toList.drop k).take sep.length)[0]? = some c := by rw [h3]; rfl
  rw [List.getElem?_take_of_lt (by show 0 < sep.cps.size; rw [← Array.length_toList, hs]; exact Nat.succ_pos _), List.getElem?_drop, Nat.add_zero] at this
  exact this
open StrLaws Builtin.Str in
theorem parts_of {sep : Str} {c : Nat} {rest : List Nat} (hs : sep.cps.toList = c :: rest) : ∀ (xs : List Str) (x pre : Str) (cuts : List Nat) (f : Nat), xs ≠ [] → (∀ z ∈ xs, c ∉ z.cps.toList) → x = pre ++ Str.join sep xs →
    ChainG x sep x.length pre.length cuts f → (∀ k, f ≤ k → ¬ At x sep x.length k) → partsFrom x sep.length pre.length cuts = xs
  | [], x, pre, cuts, f, hne, _, _, _, _ => absurd rfl hne
  | [z], x, pre, cuts, f, _, hf, hx, hc, ht => by
    have hx' : x.cps.toList = pre.cps.toList ++ z.cps.toList := by rw [hx]; show (pre.cps ++ z.cps).toList = _; rw [Array.toList_append]
    have hp : pre.length = pre.cps.toList.length := by simp [Str.length]
    have no : ∀ k, pre.length ≤ k → ¬ At x sep x.length k := by
      intro k hk h
      have := at_char hs h
      rw [hx', List.getElem?_append_right (by omega)] at this
      exact hf z List.mem_cons_self (List.mem_of_getElem? this)
    cases cuts with
    | cons c0 r => exact absurd hc.2.1 (no c0 hc.1)
    | nil =>
      show [strSub x pre.length x.length] = [z]
      congr 1
      apply Str.ext'
      apply Array.toList_inj.mp
      rw [strSub_toList, hx', hp, List.drop_left]
      refine List.take_of_length_le ?_
      have : x.length = x.cps.toList.length := by simp [Str.length]
      rw [this, hx', List.length_append]; omega
  | z :: y :: r, x, pre, cuts, f, _, hf, hx, hc, ht => by
    have hj : Str.join sep (z :: y :: r) = z ++ sep ++ Str.join sep (y :: r) := rfl
    have hx2 : x = (pre ++ z ++ sep) ++ Str.join sep (y :: r) := by rw [hx, hj]; simp only [Str.append_assoc]
    have hx' : x.cps.toList = pre.cps.toList ++ (z.cps.toList ++ (sep.cps.toList ++ (Str.join sep (y :: r)).cps.toList)) := by
      rw [hx2]
      show (((pre.cps ++ z.cps) ++ sep.cps) ++ (Str.join sep (y :: r)).cps).toList = _
      simp only [Array.toList_append, List.append_assoc]
    have hp : pre.length = pre.cps.toList.length := by simp [Str.length]
    have hz : z.length = z.cps.toList.length := by simp [Str.length]
    have hsl : sep.length = sep.cps.toList.length := by simp [Str.length]
    have hxl : x.length = x.cps.toList.length := by simp [Str.length]
    have here : At x sep x.length (pre.length + z.length) := by
      refine ⟨?_, ?_⟩
      · rw [hxl, hx', List.length_append, List.length_append, List.length_append]; omega
      · rw [subAt_eq, hx', hp, hz, ← List.drop_drop, List.drop_left, List.drop_left, hsl, List.take_left]
        exact beq_self_eq_true _
    have no : ∀ k, pre.length ≤ k → k < pre.length + z.length → ¬ At x sep x.length k := by
      intro k hk hk2 h
      have := at_char hs h
      rw [hx', List.getElem?_append_right (by omega), List.getElem?_append_left (by omega)] at this
      exact hf z List.mem_cons_self (List.mem_of_getElem? this)
    cases cuts with
    | nil =>
      have e : f = pre.length := hc
      exact absurd here (ht _ (by omega))
    | cons c0 r' =>
      have hc0 : c0 = pre.length + z.length := by
        rcases Nat.lt_trichotomy c0 (pre.length + z.length) with h | h | h
        · exact absurd hc.2.1 (no c0 hc.1 h)
        · exact h
        · exact absurd here (hc.2.2.1 _ (by omega) h)
      subst hc0
      have hl : (pre ++ z ++ sep).length = pre.length + z.length + sep.length := by rw [Str.length_append, Str.length_append]
      have ih := parts_of hs (y :: r) x (pre ++ z ++ sep) r' f (by simp) (fun w hw => hf w (List.mem_cons_of_mem _ hw)) hx2 (by rw [hl]; exact hc.2.2.2) ht
      rw [hl] at ih
      show strSub x pre.length (pre.length + z.length) :: partsFrom x sep.length (pre.length + z.length + sep.length) r' = _
      rw [ih]
      congr 1
      apply Str.ext'
      apply Array.toList_inj.mp
      rw [strSub_toList, hx', hp, List.drop_left, Nat.add_sub_cancel_left, hz, List.take_left]
open StrLaws Builtin.Str in
theorem split_join {sep : Str} {c : Nat} {rest : List Nat} (hs : sep.cps.toList = c :: rest) (hk : Builtin.Str.strKind sep = 1) (xs : List Str) (hne : xs ≠ []) (hf : ∀ z ∈ xs, c ∉ z.cps.toList) : Txt.split (Txt.join sep xs) sep = xs := by
  have hjoin : Txt.join sep xs = Str.join sep xs := glued_eq_join sep xs
  rw [hjoin]
  generalize hx : Str.join sep xs = x
  have hw : 1 ≤ sep.length := by show 1 ≤ sep.cps.size; rw [← Array.length_toList, hs]; exact Nat.succ_le_succ (Nat.zero_le _)
  obtain ⟨f, h1, h2⟩ := occ_tight x sep hw
  have hx0 : x = Str.empty ++ Str.join sep xs := by rw [hx, Str.empty_append]
  have key := parts_of hs xs x Str.empty _ f hne hf hx0 h1 h2
  have he : (Str.empty).length = 0 := rfl
  rw [he] at key
  have hkx : ¬ Builtin.Str.strKind x < 1 := by
    unfold Builtin.Str.strKind
    split
    · decide
    · split <;> decide
  unfold Txt.split
  split
  · rename_i h
    simp only [hk, Bool.or_eq_true, decide_eq_true_eq] at h
    rcases h with h | h
    · have hn : ∀ k, ¬ At x sep x.length k := fun k hA => by have := hA.1; omega
      cases ho : occurrences x sep 0 x.length (x.length + 1) with
      | nil => rw [ho] at key; rw [← key]; show [x] = [strSub x 0 x.length]; rw [sub_whole]
      | cons c0 r => rw [ho] at h1; exact absurd h1.2.1 (hn c0)
    · exact absurd h hkx
  · split
    · rename_i h
      rw [List.isEmpty_iff] at h
      rw [h] at key
      rw [← key]; show [x] = [strSub x 0 x.length]; rw [sub_whole]
    · rw [partsBetween_eq]; exact key
end
section
noncomputable def strL (l : List Str) : Dat := .list (l.map .str)
noncomputable def meets (one other : List Str) : Bool := one.any fun x => other.any (· == x)
noncomputable def partIn (one : List Str) (os : List (List Str)) : Nat := (os.filter fun o => !meets one o).length
noncomputable def partAll (some others : List (List Str)) : Nat := (some.map fun one => partIn one others).sum

theorem c_parted (w : World) (some others : List (List Str)) (h1 : ∀ l ∈ some, l.length ≤ 1000) :
    SC w 1 142 [.list (some.map strL), .list (others.map strL)] (fun d => d = .int (partAll some others : Nat)) := by
  refine SC_def (xs := [Str.ofString "some", Str.ofString "others"]) (by k_is) (by rfl) ⟨by rfl, by k_is, by rfl, by rfl, by rfl, by rfl, by rfl, by rfl, ?_, by decide, by decide⟩ rfl (by dsimp only) (by dsimp only [List.zip, List.zipWith]) ?_
  · rintro (_ | ⟨v0, _ | ⟨v1, _ | ⟨u, vs⟩⟩⟩) h <;> first | rfl | cases h
  · repeat walk_at "s"
    refine SIt_list ?_
    repeat walk_at "s"
    refine ⟨_, rfl, ?_⟩
    obtain ⟨k, hk0, hk⟩ : ∃ k : Nat, Dat.int 0 = Dat.int (k : Int) ∧ k + partAll some others = partAll some others := ⟨0, rfl, Nat.zero_add _⟩
    rw [hk0]
    obtain ⟨F, hF⟩ : ∃ F, partAll some others = F := ⟨_, rfl⟩
    rw [hF]
    have hk' : k + partAll some others = F := by rw [← hF]; exact hk
    clear hk hF hk0
    refine weakF (cx' := ⟨_, [(Str.ofString "others", .list (others.map strL)), (Str.ofString "pairs", .int (k : Int))], none⟩) ?_ (by dsimp only [Cx.bind, Cx.setω, Cx.rel]) ⟨rfl, rfl, trivial⟩ (by dsimp only [Cx.bind, Cx.setω, Cx.rel])
    induction some generalizing k with
    | nil =>
      refine forNil' (SSs_nil ?_)
      repeat walk_at "s"
      rw [← hk']; simp [partAll]
    | cons one some ih =>
      refine forCons' (by rfl) (by rfl) ?_
      walk_at "s"
      walk_at "s"
      refine SIt_list ?_
      repeat walk_at "s"
      refine ⟨_, rfl, ?_⟩
      have hk2 : k + partIn one others + partAll some others = F := by rw [← hk']; simp [partAll]; omega
      have h1' : one.length ≤ 1000 := h1 one List.mem_cons_self
      have ih' := fun k => ih (fun l hl => h1 l (List.mem_cons_of_mem _ hl)) k
      obtain ⟨os, hos⟩ : ∃ os, os = others := ⟨_, rfl⟩
      have hk3 : k + partIn one os + partAll some others = F := by rw [hos]; exact hk2
      rw [show others.map strL = os.map strL by rw [hos]]
      refine weakF (cx' := ⟨_, [(Str.ofString "one", strL one), (Str.ofString "others", .list (others.map strL)), (Str.ofString "pairs", .int (k : Int))], none⟩) ?_ (by dsimp only [Cx.bind, Cx.setω, Cx.rel]) ⟨rfl, by rw [hos]; rfl, rfl, trivial⟩ (by dsimp only [Cx.bind, Cx.setω, Cx.rel])
      clear hos hk2 hk' ih h1
      induction os generalizing k with
      | nil =>
        refine forNil' (SSs_nil ?_)
        refine SSs_nil ?_
        refine weakF (cx' := ⟨_, [(Str.ofString "others", .list (others.map strL)), (Str.ofString "pairs", .int (k : Int))], none⟩) ?_ (by dsimp only [Cx.bind, Cx.setω, Cx.rel]) ⟨rfl, rfl, trivial⟩ (by dsimp only [Cx.bind, Cx.setω, Cx.rel])
        exact ih' k (by rw [← hk3]; simp [partIn])
      | cons o os ih2 =>
        refine forCons' (by rfl) (by rfl) ?_
        walk_at "s"
        walk_at "s"
        walk_at "s"
        walk_at "s"
        refine SIt_list ?_
        repeat walk_at "s"
        refine ⟨_, rfl, ?_⟩
        refine (SG_map (fun it acc env => turn1 _ _ _ _ _ _ _ it acc env) (by rfl) (by rfl) (by rfl) (one.map .str) [] (f := fun d => match d with | .str x => o.any (· == x) | _ => false) (g := fun d => d) ?_ ?_ ?_).mono ?_
        · intro d hd
          obtain ⟨b, hb, rfl⟩ := List.mem_map.mp hd
          refine STs_one ?_
          repeat walk_at "s"
          exact Oc_InStrs ⟨_, rfl, rfl⟩
        · intro d hd _
          repeat walk_at "s"
          rfl
        · simp [sizeLine]; omega
        · intro ds hds
          have hemp : ds.isEmpty = !meets one o := by
            rw [hds, List.nil_append, List.filter_map, List.map_map]
            unfold meets
            rw [List.isEmpty_map, Bool.eq_iff_iff, List.isEmpty_iff, List.filter_eq_nil_iff, Bool.not_eq_true', List.any_eq_false]
            rfl
          repeat walk_at "s"
          refine ⟨by decide, ?_⟩
          refine Oc_EqNil ⟨_, rfl, ?_⟩
          rw [hemp]
          cases hm : meets one o with
          | true =>
            rw [if_neg (by decide)]
            refine SSs_nil (SSs_nil ?_)
            refine weakF (cx' := ⟨_, [(Str.ofString "one", strL one), (Str.ofString "others", .list (others.map strL)), (Str.ofString "pairs", .int (k : Int))], none⟩) ?_ (by dsimp only [Cx.bind, Cx.setω, Cx.rel]) ⟨rfl, rfl, rfl, trivial⟩ (by dsimp only [Cx.bind, Cx.setω, Cx.rel])
            refine ih2 k ?_
            rw [← hk3]; simp [partIn, hm]
          | false =>
            rw [if_pos (by decide)]
            repeat walk_at "s"
            refine Oi_add ?_
            refine SSs_nil (SSs_nil ?_)
            rw [show ((k : Int) + 1) = ((k + 1 : Nat) : Int) from rfl]
            refine weakF (cx' := ⟨_, [(Str.ofString "one", strL one), (Str.ofString "others", .list (others.map strL)), (Str.ofString "pairs", .int ((k + 1 : Nat) : Int))], none⟩) ?_ (by dsimp only [Cx.bind, Cx.setω, Cx.rel]) ⟨rfl, rfl, rfl, trivial⟩ (by dsimp only [Cx.bind, Cx.setω, Cx.rel])
            refine ih2 (k + 1) ?_
            rw [← hk3]; simp [partIn, hm]; omega
end
section
noncomputable def flagNames : List Str := ["OPTIMIZED", "NEWLOCALS", "VARARGS", "VARKEYWORDS", "NESTED", "GENERATOR", "NOFREE", "COROUTINE", "ITERABLE_COROUTINE", "ASYNC_GENERATOR"].map Str.ofString
noncomputable def nm (i : Nat) : Str := (flagNames[i]?).getD (baseText "0x" 16 ((2 ^ i : Nat) : Int))
noncomputable def bitNames : Nat → Nat → Nat → List Str
  | 0, i, q => [baseText "0x" 16 ((2 ^ i * q : Nat) : Int)]
  | r + 1, i, q => if q % 2 = 1 then nm i :: (if q / 2 = 0 then [] else bitNames r (i + 1) (q / 2)) else bitNames r (i + 1) (q / 2)
theorem bitNames_len : ∀ r i q, (bitNames r i q).length ≤ r + 1
  | 0, i, q => Nat.le_refl _
  | r + 1, i, q => by
    unfold bitNames
    have := bitNames_len r (i + 1) (q / 2)
    split
    · split
      · simp
      · rw [List.length_cons]; omega
    · omega
theorem lt32 : ∀ i : Nat, i < 32 → (i = 0 ∨ i = 1 ∨ i = 2 ∨ i = 3 ∨ i = 4 ∨ i = 5 ∨ i = 6 ∨ i = 7 ∨ i = 8 ∨ i = 9 ∨ i = 10 ∨ i = 11 ∨ i = 12 ∨ i = 13 ∨ i = 14 ∨ i = 15 ∨ i = 16 ∨ i = 17 ∨ i = 18 ∨ i = 19 ∨ i = 20 ∨ i = 21 ∨ i = 22 ∨ i = 23 ∨ i = 24 ∨ i = 25 ∨ i = 26 ∨ i = 27 ∨ i = 28 ∨ i = 29 ∨ i = 30 ∨ i = 31) := by decide +kernel
theorem tab_32 (w : World) : ∃ es m, (hd.heap_39 w.params).lookup 32 = some ⟨.type "dict", none, .dict es m, #[]⟩ ∧ IntKeys es.toList ∧ ∀ i : Nat, i < 32 → match findBy Value.isInt es (((2 ^ i : Nat) : Int)) with
    | none => flagNames[i]? = none
    | some v => ∃ x t, v = .str x t ∧ flagNames[i]? = some x := by
  refine ⟨_, _, by k_is, by repeat (first | exact True.intro | refine And.intro ⟨_, _, rfl, rfl⟩ ?_), fun i hi => ?_⟩
  have h := lt32 i hi
  rcases h with rfl | rfl | rfl | rfl | rfl | rfl | rfl | rfl | rfl | rfl | rfl | rfl | rfl | rfl | rfl | rfl | rfl | rfl | rfl | rfl | rfl | rfl | rfl | rfl | rfl | rfl | rfl | rfl | rfl | rfl | rfl | rfl
  all_goals first | exact rfl | exact ⟨_, _, rfl, rfl⟩
theorem nm_len (i : Nat) (hi : i < 32) : (baseText "0x" 16 ((2 ^ i : Nat) : Int)).length ≤ 50 ∧ (nm i).length ≤ 50 := by
  have h := lt32 i hi
  rcases h with rfl | rfl | rfl | rfl | rfl | rfl | rfl | rfl | rfl | rfl | rfl | rfl | rfl | rfl | rfl | rfl | rfl | rfl | rfl | rfl | rfl | rfl | rfl | rfl | rfl | rfl | rfl | rfl | rfl | rfl | rfl | rfl
  all_goals exact ⟨by decide +kernel, by decide +kernel⟩
theorem joinOk_of (sep : Str) (hs : sep.length ≤ 50) : ∀ xs : List Str, (∀ x ∈ xs, x.length ≤ 50) → xs.length ≤ 1000 → JoinOk sep xs = true := by
  intro xs hx hl
  have h : ∀ (l : List Str) (k : Nat), (∀ x ∈ l, x.length ≤ 50) → l.foldl (fun a x => a + x.length + sep.length) k ≤ k + 100 * l.length := by
    intro l
    induction l with
    | nil => intro k _; simp
    | cons x l ih =>
      intro k h
      rw [List.foldl_cons, List.length_cons]
      have h1 := h x List.mem_cons_self
      have h2 := ih (k + x.length + sep.length) fun y hy => h y (List.mem_cons_of_mem _ hy)
      omega
  unfold JoinOk Builtin.Str.tooLong
  rw [List.foldl_toArray]
  have := h xs 0 hx
  simp only [Bool.not_eq_true', decide_eq_false_iff_not, Nat.not_lt]
  refine Nat.le_trans this ?_
  have : 0 + 100 * xs.length ≤ 100000 := by omega
  exact Nat.le_trans this (by decide)
theorem bitNames_small : ∀ r i q, i + r ≤ 32 → q ≠ 0 → q < 2 ^ r → ∀ x ∈ bitNames r i q, x.length ≤ 50
  | 0, i, q, _, h0, hq, x, hx => by simp at hq; exact absurd hq h0
  | r + 1, i, q, hi, h0, hq, x, hx => by
    unfold bitNames at hx
    rw [Nat.pow_succ] at hq
    split at hx
    · rcases List.mem_cons.mp hx with e | e
      · rw [e]; exact (nm_len i (by omega)).2
      · split at e
        · cases e
        · rename_i h; exact bitNames_small r (i + 1) (q / 2) (by omega) h (by omega) x e
    · rename_i h; exact bitNames_small r (i + 1) (q / 2) (by omega) (by omega) (by omega) x hx

theorem and_nat (i q : Nat) : (2 ^ i * q) &&& (2 ^ i) = q % 2 * 2 ^ i := by
  apply Nat.eq_of_testBit_eq
  intro j
  rw [Nat.testBit_and, Nat.testBit_two_pow]
  by_cases h : i = j
  · subst h
    rw [Nat.testBit_two_pow_mul]
    rcases Nat.mod_two_eq_zero_or_one q with h | h <;> rw [h] <;> simp [Nat.testBit_two_pow, h]
  · rcases Nat.mod_two_eq_zero_or_one q with h2 | h2 <;> rw [h2] <;> simp [Nat.testBit_two_pow, h]
theorem and_step (i q : Nat) : Builtin.bitAnd ((2 ^ i * q : Nat) : Int) ((2 ^ i : Nat) : Int) = ((q % 2 * 2 ^ i : Nat) : Int) := by
  rw [bitAnd_pp (Int.natCast_nonneg _) (Int.natCast_nonneg _), Int.toNat_natCast, Int.toNat_natCast, and_nat]
theorem xor_step (i q : Nat) (h : q % 2 = 1) : Builtin.bitXor ((2 ^ i * q : Nat) : Int) ((2 ^ i : Nat) : Int) = ((2 ^ (i + 1) * (q / 2) : Nat) : Int) := by
  unfold Builtin.bitXor
  rw [bitOr_and, and_step, h]
  have e : 2 ^ i * q = 2 ^ (i + 1) * (q / 2) + 2 ^ i := by
    have h2 : q = 2 * (q / 2) + 1 := by omega
    conv => lhs; rw [h2]
    rw [Nat.pow_succ, Nat.mul_add, Nat.mul_one, Nat.mul_assoc]
  rw [e]; omega

theorem c_pretty (w : World) (F : Nat) (hF0 : F ≠ 0) (hF : F < 2 ^ 32) :
    SC w 1 39 [.int (F : Int)] (fun d => d = .str (Txt.join (Str.ofString ", ") (bitNames 32 0 F))) := by
  obtain ⟨es, md, ht1, ht2, ht3⟩ := tab_32 w
  refine SC_def (xs := [Str.ofString "flags"]) (by k_is) (by rfl) ⟨by rfl, by k_is, by rfl, by rfl, by rfl, by rfl, by rfl, by rfl, ?_, by decide, by decide⟩ rfl (by dsimp only) (by dsimp only [List.zip, List.zipWith]) ?_
  · rintro (_ | ⟨v0, _ | ⟨u, vs⟩⟩) h <;> first | rfl | cases h
  · walk_at "s"
    refine assign_own' (by rfl) (by rfl) (by rfl) (fun _ => by rfl) (SEf_list (SL_nil ⟨by decide, ?_⟩))
    repeat walk_at "s"
    refine ⟨_, rfl, by decide, by decide, ?_⟩
    obtain ⟨r, i, q, ns, hir, hi0, hq, hq0, hqr, hns, hF', hsm, hln⟩ : ∃ (r i q : Nat) (ns : List Str), i + r = 32 ∧ upTo 0 (32 : Int).toNat = upTo (i : Int) r ∧ F = 2 ^ i * q ∧ q ≠ 0 ∧ q < 2 ^ r ∧ ([] : List Dat) = ns.map .str ∧
      ns ++ bitNames r i q = bitNames 32 0 F ∧ (∀ x ∈ ns, x.length ≤ 50) ∧ ns.length ≤ i := ⟨32, 0, F, [], rfl, rfl, by omega, hF0, hF, rfl, rfl, (fun _ h => by cases h), Nat.le_refl _⟩
    rw [hi0, hns, hq]
    rw [← hq]
    generalize hG : bitNames 32 0 F = G at hF' ⊢
    refine weakF (cx' := Cx.setω ⟨_, [(Str.ofString "flags", .int ((2 ^ i * q : Nat) : Int))], none⟩ (Str.ofString "names") (ns.map .str)) ?_ (by dsimp only [Cx.bind, Cx.setω, Cx.rel]) ⟨by rw [← hq]; rfl, trivial⟩ (by dsimp only [Cx.bind, Cx.setω, Cx.rel])
    clear hi0 hns hq hG hF hF0
    have fin : ∀ (ns : List Str) (cx : Cx) (pos : Pos), (∀ x ∈ ns, x.length ≤ 50) → ns.length ≤ 1000 → JoinOk (Str.ofString ", ") ns = true := fun ns _ _ h1 h2 => joinOk_of _ (by decide) ns h1 h2
    induction r generalizing i q ns with
    | zero => simp at hqr; exact absurd hqr hq0
    | succ r ih =>
      rw [Nat.pow_succ] at hqr
      refine forCons' (by rfl) (by rfl) ?_
      repeat walk_at "s"
      refine Ob_shl (by omega) (by omega) (by decide) ?_
      have e1 : (1 : Int) * 2 ^ (i : Int).toNat = ((2 ^ i : Nat) : Int) := by rw [Int.one_mul, Int.toNat_natCast, pow_cast]
      rw [e1]
      walk_at "s"
      walk_at "s"
      refine ST_val ?_ (fun _ _ => by rfl)
      repeat walk_at "s"
      refine Ob_and ?_
      rw [and_step]
      refine OT_int ?_
      rw [show (((i : Int)) + 1) = ((i + 1 : Nat) : Int) from rfl]
      have hir' : i + 1 + r = 32 := by omega
      by_cases hb : q % 2 = 1
      · have hne : ((q % 2 * 2 ^ i : Nat) : Int) ≠ 0 := by
          rw [hb, Nat.one_mul]; have := Nat.two_pow_pos i; omega
        rw [if_pos (by simpa using hne)]
        walk_at "s"
        walk_at "s"
        refine SE.mono (K := fun d => d = .str (nm i)) ?_ (fun d hd => ?_)
        · refine SE_getTab (by rfl) (by k_is) ht1 ht2 (by decide) (by decide) (fun _ => by rfl) (fun _ => by rfl) (by rfl) ?_
          repeat walk_at "s"
          refine ⟨_, rfl, ?_⟩
          repeat walk_at "s"
          refine OB_hex (Nat.le_trans (nm_len i (by omega)).1 (by decide)) ?_
          have h3 := ht3 i (by omega)
          cases hfb : findBy Value.isInt es ((2 ^ i : Nat) : Int) with
          | none =>
            rw [hfb] at h3
            show Dat.str _ = Dat.str _
            unfold nm; rw [h3]; rfl
          | some v =>
            rw [hfb] at h3
            obtain ⟨x, t, rfl, hx⟩ := h3
            exact ⟨.str x, fun _ _ => Rep.str _ _, by unfold nm; rw [hx]; rfl⟩
        subst hd
        refine ⟨by simp [sizeLine]; omega, ?_⟩
        repeat walk_at "s"
        refine (show ∀ {K : Dat → Prop}, K (.int ((2 ^ (i + 1) * (q / 2) : Nat) : Int)) → O2 w 0 (inplaceOp .BitXor) (.int ((2 ^ i * q : Nat) : Int)) (.int ((2 ^ i : Nat) : Int)) K from fun hK => Oi_xor (by rw [xor_step i q hb]; exact hK)) ?_
        have e2 : ns.map Dat.str ++ [Dat.str (nm i)] = (ns ++ [nm i]).map Dat.str := by rw [List.map_append]; rfl
        rw [e2]
        have hsm' : ∀ x ∈ ns ++ [nm i], x.length ≤ 50 := fun x hx => by
          rcases List.mem_append.mp hx with e | e
          · exact hsm x e
          · rw [List.mem_singleton.mp e]; exact (nm_len i (by omega)).2
        have hln' : (ns ++ [nm i]).length ≤ i + 1 := by rw [List.length_append, List.length_singleton]; omega
        unfold bitNames at hF'
        rw [if_pos hb] at hF'
        walk_at "s"
        walk_at "s"
        walk_at "s"
        refine ST_val ?_ (fun _ _ => by rfl)
        walk_at "s"
        refine OT_int ?_
        by_cases hz : q / 2 = 0
        · rw [if_pos hz] at hF'
          rw [hz, Nat.mul_zero, if_pos (by decide)]
          refine SSs_cons (SS_break ?_)
          refine release' (by rfl) ?_
          repeat walk_at "s"
          refine SE_strm PySem.F.slot_str_join PySem.F.type_str_join (fun _ => by rfl) (fun _ => by rfl) (by rfl) ?_
          repeat walk_at "s"
          refine ⟨_, rfl, ?_⟩
          repeat walk_at "s"
          refine OB_join (joinOk_of _ (by decide) _ hsm' (by omega)) ?_
          rw [← hF']
        · rw [if_neg hz] at hF'
          have hz' : ((2 ^ (i + 1) * (q / 2) : Nat) : Int) ≠ 0 := by
            have := Nat.mul_pos (Nat.two_pow_pos (i + 1)) (Nat.pos_of_ne_zero hz); omega
          have hz2 : ((((2 ^ (i + 1) * (q / 2) : Nat) : Int)) != 0) = true := by simpa using hz'
          rw [hz2, if_neg (by decide)]
          refine SSs_nil (SSs_nil (SSs_nil ?_))
          refine weakF (cx' := Cx.setω ⟨_, [(Str.ofString "flags", .int ((2 ^ (i + 1) * (q / 2) : Nat) : Int))], none⟩ (Str.ofString "names") ((ns ++ [nm i]).map .str)) ?_ (by dsimp only [Cx.bind, Cx.setω, Cx.rel]) ⟨rfl, trivial⟩ (by dsimp only [Cx.bind, Cx.setω, Cx.rel])
          have hF2 : (ns ++ [nm i]) ++ bitNames r (i + 1) (q / 2) = G := by rw [List.append_assoc]; exact hF'
          refine ih (i + 1) (q / 2) (ns ++ [nm i]) ?_ ?_ ?_ ?_ ?_ ?_ <;> first | exact hF2 | exact hsm' | exact hln' | omega
      · have hb0 : q % 2 = 0 := by omega
        rw [hb0, Nat.zero_mul, if_neg (by decide)]
        unfold bitNames at hF'
        rw [if_neg hb] at hF'
        refine SSs_nil (SSs_nil ?_)
        have e3 : 2 ^ i * q = 2 ^ (i + 1) * (q / 2) := by
          have h2 : q = 2 * (q / 2) := by omega
          conv => lhs; rw [h2]
          rw [Nat.pow_succ, Nat.mul_assoc]
        refine weakF (cx' := Cx.setω ⟨_, [(Str.ofString "flags", .int ((2 ^ (i + 1) * (q / 2) : Nat) : Int))], none⟩ (Str.ofString "names") (ns.map .str)) ?_ (by dsimp only [Cx.bind, Cx.setω, Cx.rel]) ⟨by rw [← e3]; rfl, trivial⟩ (by dsimp only [Cx.bind, Cx.setω, Cx.rel])
        refine ih (i + 1) (q / 2) ns ?_ ?_ ?_ ?_ ?_ ?_ <;> first | exact hF' | exact hsm | omega
end
section
noncomputable def bits : Nat → Nat → Nat → List Nat
  | 0, _, _ => []
  | r + 1, i, q => if q % 2 = 1 then i :: bits r (i + 1) (q / 2) else bits r (i + 1) (q / 2)
theorem bits_zero : ∀ r i, bits r i 0 = []
  | 0, _ => rfl
  | r + 1, i => by unfold bits; rw [if_neg (by decide)]; exact bits_zero r (i + 1)
theorem bitNames_bits : ∀ r i q, q ≠ 0 → q < 2 ^ r → bitNames r i q = (bits r i q).map nm
  | 0, i, q, h0, h => by simp at h; exact absurd h h0
  | r + 1, i, q, h0, h => by
    rw [Nat.pow_succ] at h
    unfold bitNames bits
    by_cases hb : q % 2 = 1
    · rw [if_pos hb, if_pos hb, List.map_cons]
      by_cases hz : q / 2 = 0
      · rw [if_pos hz, hz, bits_zero]; rfl
      · rw [if_neg hz, bitNames_bits r (i + 1) (q / 2) hz (by omega)]
    · rw [if_neg hb, if_neg hb]
      exact bitNames_bits r (i + 1) (q / 2) (by omega) (by omega)
theorem bits_filter : ∀ r i q, bits r i q = (List.range' i r).filter fun j => q.testBit (j - i)
  | 0, i, q => rfl
  | r + 1, i, q => by
    have ih := bits_filter r (i + 1) (q / 2)
    have e : (List.range' (i + 1) r).filter (fun j => q.testBit (j - i)) = (List.range' (i + 1) r).filter fun j => (q / 2).testBit (j - (i + 1)) := by
      refine List.filter_congr fun j hj => ?_
      rw [List.mem_range'_1] at hj
      rw [show j - i = (j - (i + 1)) + 1 by omega, Nat.testBit_succ]
    have e0 : q.testBit (i - i) = decide (q % 2 = 1) := by rw [Nat.sub_self, Nat.testBit_zero]
    rw [List.range'_succ, List.filter_cons, e0, e, ← ih]
    conv => lhs; unfold bits
    by_cases hb : q % 2 = 1
    · rw [if_pos hb, if_pos (by simpa using hb)]
    · rw [if_neg hb, if_neg (by simpa using hb)]
theorem nm_inj : ∀ i, i < 32 → ∀ j, j < 32 → nm i = nm j → i = j := by decide +kernel
theorem nm_comma : ∀ i, i < 32 → ¬ 44 ∈ (nm i).cps.toList := by decide +kernel
noncomputable def wn (p : Nat) : List Str := bitNames 32 0 p
theorem wn_eq {p : Nat} (h0 : p ≠ 0) (h : p < 2 ^ 32) : wn p = ((List.range' 0 32).filter fun j => p.testBit j).map nm := by
  unfold wn
  rw [bitNames_bits 32 0 p h0 h, bits_filter]
  rfl
theorem wn_ne {p : Nat} (h0 : p ≠ 0) (h : p < 2 ^ 32) : wn p ≠ [] := by
  intro e
  rw [wn_eq h0 h, List.map_eq_nil_iff, List.filter_eq_nil_iff] at e
  refine h0 (Nat.eq_of_testBit_eq fun j => ?_)
  rw [Nat.zero_testBit]
  by_cases hj : j < 32
  · have := e j (by rw [List.mem_range'_1]; omega)
    simpa using this
  · exact Nat.testBit_lt_two_pow (Nat.lt_of_lt_of_le h (Nat.pow_le_pow_right (by decide) (by omega)))
theorem wn_split {p : Nat} (h0 : p ≠ 0) (h : p < 2 ^ 32) : Txt.split (Txt.join (Str.ofString ", ") (wn p)) (Str.ofString ", ") = wn p := by
  refine split_join (c := 44) (rest := [32]) (by decide +kernel) (by decide +kernel) _ (wn_ne h0 h) fun z hz => ?_
  rw [wn_eq h0 h] at hz
  obtain ⟨j, hj, rfl⟩ := List.mem_map.mp hz
  have := (List.mem_filter.mp hj).1
  rw [List.mem_range'_1] at this
  exact nm_comma j (by omega)
theorem wn_meets {p q : Nat} (hp0 : p ≠ 0) (hp : p < 2 ^ 32) (hq0 : q ≠ 0) (hq : q < 2 ^ 32) : (!meets (wn p) (wn q)) = (p &&& q == 0) := by
  rw [wn_eq hp0 hp, wn_eq hq0 hq]
  rw [Bool.eq_iff_iff, Bool.not_eq_true', beq_iff_eq]
  unfold meets
  rw [List.any_eq_false]
  constructor
  · intro h
    refine Nat.eq_of_testBit_eq fun j => ?_
    rw [Nat.zero_testBit, Nat.testBit_and]
    by_cases hj : j < 32
    · cases h1 : p.testBit j with
      | false => rfl
      | true =>
        cases h2 : q.testBit j with
        | false => rfl
        | true =>
          refine absurd ?_ (h (nm j) (List.mem_map_of_mem (List.mem_filter.mpr ⟨by rw [List.mem_range'_1]; omega, h1⟩)))
          rw [List.any_eq_true]
          exact ⟨nm j, List.mem_map_of_mem (List.mem_filter.mpr ⟨by rw [List.mem_range'_1]; omega, h2⟩), beq_self_eq_true _⟩
    · rw [Nat.testBit_lt_two_pow (Nat.lt_of_lt_of_le hp (Nat.pow_le_pow_right (by decide) (by omega)))]; rfl
  · intro h x hx hany
    obtain ⟨j, hj, rfl⟩ := List.mem_map.mp hx
    obtain ⟨y, hy, hyx⟩ := List.any_eq_true.mp hany
    obtain ⟨k, hk, rfl⟩ := List.mem_map.mp hy
    obtain ⟨j1, j2⟩ := List.mem_filter.mp hj
    obtain ⟨k1, k2⟩ := List.mem_filter.mp hk
    rw [List.mem_range'_1] at j1 k1
    have e := nm_inj k (by omega) j (by omega) (eq_of_beq hyx)
    subst e
    have : (p &&& q).testBit k = true := by rw [Nat.testBit_and, j2, k2]; rfl
    rw [h, Nat.zero_testBit] at this
    cases this
theorem part_pc (A B : List Nat) (hA : ∀ p ∈ A, p ≠ 0 ∧ p < 2 ^ 32) (hB : ∀ p ∈ B, p ≠ 0 ∧ p < 2 ^ 32) : partAll (A.map wn) (B.map wn) = pc A B := by
  unfold partAll pc
  rw [List.map_map]
  congr 1
  refine List.map_congr_left fun p hp => ?_
  show partIn (wn p) (B.map wn) = _
  unfold partIn
  rw [List.filter_map, List.length_map]
  congr 1
  refine List.filter_congr fun q hq => ?_
  exact wn_meets (hA p hp).1 (hA p hp).2 (hB q hq).1 (hB q hq).2
theorem filter_none {α : Type} {f : α → Bool} {l : List α} (h : ∀ a ∈ l, f a = false) : l.filter f = [] := List.filter_eq_nil_iff.mpr fun a ha => by rw [h a ha]; decide
theorem wn_run {a b : Nat} (hab : a < b) (hb : b ≤ 31) : wn (2 ^ b - 2 ^ a) = (List.range' a (b - a)).map nm := by
  have e : 2 ^ b - 2 ^ a = 2 ^ a * (2 ^ (b - a) - 1) := by
    rw [Nat.mul_sub, Nat.mul_one, ← Nat.pow_add, Nat.add_sub_cancel' (Nat.le_of_lt hab)]
  have hlt : 2 ^ a < 2 ^ b := Nat.pow_lt_pow_right (by decide) hab
  have hb32 : 2 ^ b ≤ 2 ^ 31 := Nat.pow_le_pow_right (by decide) hb
  have hpos := Nat.two_pow_pos a
  have hlt2 : 2 ^ b - 2 ^ a < 2 ^ 32 := Nat.lt_of_le_of_lt (Nat.sub_le _ _) (Nat.lt_of_le_of_lt hb32 (by decide))
  rw [wn_eq (by omega) hlt2]
  congr 1
  have tb : ∀ j, (2 ^ b - 2 ^ a).testBit j = (decide (a ≤ j) && decide (j < b)) := by
    intro j
    rw [e, Nat.testBit_two_pow_mul, Nat.testBit_two_pow_sub_one]
    rw [Bool.eq_iff_iff]
    simp only [Bool.and_eq_true, decide_eq_true_eq]
    omega
  rw [show (32 : Nat) = a + ((b - a) + (32 - b)) by omega, ← List.range'_append_1, ← List.range'_append_1, List.filter_append, List.filter_append]
  rw [filter_none (l := List.range' 0 a) fun j hj => by rw [List.mem_range'_1] at hj; rw [tb]; simp; omega]
  rw [filter_none (l := List.range' (0 + a + (b - a)) (32 - b)) fun j hj => by rw [List.mem_range'_1] at hj; rw [tb]; simp; omega]
  rw [List.nil_append, List.append_nil, Nat.zero_add]
  refine List.filter_eq_self.mpr fun j hj => ?_
  rw [List.mem_range'_1] at hj
  rw [tb]; simp; omega
end
section
noncomputable def ch (a : Nat) : Str := ⟨#[a]⟩
noncomputable def opb1 (a : Nat) : Bool := Txt.contains (Str.ofString "*=.<>/-(") (ch a)
noncomputable def opb2 (a b : Nat) : Bool := ((ch b == Str.ofString "=") && Txt.contains (Str.ofString "*=<>/-") (ch a)) || ((ch a == ch b) && Txt.contains (Str.ofString "*<>/") (ch a)) || ((⟨#[a, b]⟩ : Str) == Str.ofString "->")
noncomputable def opb3 (a b c : Nat) : Bool := ((⟨#[a, b, c]⟩ : Str) == Str.ofString "...") || ((ch a == ch b) && Txt.contains (Str.ofString "*<>/") (ch a) && (ch c == Str.ofString "="))
theorem ch_eq (a b : Nat) : ((⟨#[a]⟩ : Str) == ⟨#[b]⟩) = decide (a = b) := by
  rw [Bool.eq_iff_iff, beq_iff_eq, decide_eq_true_iff]
  constructor
  · intro h; injection h with h; simpa using h
  · rintro rfl; rfl
theorem len_n (k : Nat) (a : Array Nat) (h : a.size = k) : ((⟨a⟩ : Str).length : Int) = (k : Int) := by rw [← h]; rfl

theorem c_isop1 (w : World) (a : Nat) : SC w 1 127 [.str ⟨#[a]⟩] (fun d => d = .bool (opb1 a)) := by
  refine SC_def (xs := [Str.ofString "piece"]) (by k_is) (by rfl) ⟨by rfl, by k_is, by rfl, by rfl, by rfl, by rfl, by rfl, by rfl, ?_, by decide, by decide⟩ rfl (by dsimp only) (by dsimp only [List.zip, List.zipWith]) ?_
  · rintro (_ | ⟨v0, _ | ⟨u, vs⟩⟩) h <;> first | rfl | cases h
  · repeat walk_at "s"
    refine OB_len_str (show (1 : Nat) < 2 ^ 62 by decide) ?_
    repeat walk_at "s"
    refine Oc_Eq ⟨_, rfl, ?_⟩
    rw [if_pos (by rfl)]
    repeat walk_at "s"
    refine Oc_Ins ?_
    rfl
theorem c_isop2 (w : World) (a b : Nat) : SC w 1 127 [.str ⟨#[a, b]⟩] (fun d => d = .bool (opb2 a b)) := by
  refine SC_def (xs := [Str.ofString "piece"]) (by k_is) (by rfl) ⟨by rfl, by k_is, by rfl, by rfl, by rfl, by rfl, by rfl, by rfl, ?_, by decide, by decide⟩ rfl (by dsimp only) (by dsimp only [List.zip, List.zipWith]) ?_
  · rintro (_ | ⟨v0, _ | ⟨u, vs⟩⟩) h <;> first | rfl | cases h
  · repeat walk_at "s"
    refine OB_len_str (show (2 : Nat) < 2 ^ 62 by decide) ?_
    repeat walk_at "s"
    refine Oc_Eq ⟨_, rfl, ?_⟩
    rw [len_n 2 #[a, b] rfl, if_neg (by decide)]
    repeat walk_at "s"
    refine OB_len_str (show (2 : Nat) < 2 ^ 62 by decide) ?_
    repeat walk_at "s"
    refine Oc_Eq ⟨_, rfl, ?_⟩
    rw [len_n 2 #[a, b] rfl, if_pos (by decide)]
    repeat' (first | walk_at "s" | refine OG_str (by decide) (by decide) (by rfl) ?_ | refine Oc_Eqs ?_ | refine Oc_Ins ?_ | split)
    all_goals simp_all [opb2, ch, ch_eq]
theorem c_isop3 (w : World) (a b c : Nat) : SC w 1 127 [.str ⟨#[a, b, c]⟩] (fun d => d = .bool (opb3 a b c)) := by
  refine SC_def (xs := [Str.ofString "piece"]) (by k_is) (by rfl) ⟨by rfl, by k_is, by rfl, by rfl, by rfl, by rfl, by rfl, by rfl, ?_, by decide, by decide⟩ rfl (by dsimp only) (by dsimp only [List.zip, List.zipWith]) ?_
  · rintro (_ | ⟨v0, _ | ⟨u, vs⟩⟩) h <;> first | rfl | cases h
  · repeat walk_at "s"
    refine OB_len_str (show (3 : Nat) < 2 ^ 62 by decide) ?_
    repeat walk_at "s"
    refine Oc_Eq ⟨_, rfl, ?_⟩
    rw [len_n 3 #[a, b, c] rfl, if_neg (by decide)]
    repeat walk_at "s"
    refine OB_len_str (show (3 : Nat) < 2 ^ 62 by decide) ?_
    repeat walk_at "s"
    refine Oc_Eq ⟨_, rfl, ?_⟩
    rw [len_n 3 #[a, b, c] rfl, if_neg (by decide)]
    repeat' (first | walk_at "s" | refine OG_str (by decide) (by decide) (by rfl) ?_ | refine Oc_Eqs ?_ | refine Oc_Ins ?_ | split)
    all_goals simp_all [opb3, ch, ch_eq]
end
section
noncomputable def tokKeys : List Str := ["!", "!=", "%", "%=", "&", "&=", "(", ")", "*", "**", "**=", "*=", "+", "+=", ",", "-", "-=", "->", ".", "...", "/", "//", "//=", "/=", ":", ":=", ";", "<", "<<", "<<=", "<=", "=", "==", ">", ">=", ">>", ">>=", "@", "@=", "[", "]", "^", "^=", "{", "|", "|=", "}", "~"].map Str.ofString
noncomputable def tokB (x : Str) : Bool := tokKeys.any fun k => k == x
theorem find_any (x : Str) : ∀ es : List DictEntry, (findBy Value.isStrOf es.toArray x).isSome = es.any fun e => Value.isStrOf x e.key := by
  intro es
  unfold findBy
  rw [Option.isSome_map, List.find?_toArray, Bool.eq_iff_iff, List.find?_isSome, List.any_eq_true]
theorem tab_78 (w : World) : ∃ es m, (hd.heap_39 w.params).lookup 78 = some ⟨.type "dict", none, .dict es m, #[]⟩ ∧ KeysLit w.params es.toList ∧ ∀ x, (findBy Value.isStrOf es x).isSome = tokB x := by
  refine ⟨_, _, by k_is, by k_keys, fun x => ?_⟩
  rw [find_any]
  rfl

theorem c_ways (w : World) (word : Str) (s e fl : Nat) (hse : s ≤ e) (he : e ≤ 7) (hfl : fl ≤ 1000) (op : Nat → Nat → Bool)
    (hop : ∀ i j, s ≤ i → i < j → j ≤ e → j ≤ i + 3 → tokB (Txt.slice word (some (i : Int)) (some (j : Int))) = op i j) (hw : word.length ≤ 1000) :
    SC w 2 137 [.str word, .int (s : Int), .int (e : Int), .int (fl : Int)] (fun d => d = .list (nats ((wayT op s fl (e - s)).getD e []))) := by
  obtain ⟨es, md, ht1, ht2, ht3⟩ := tab_78 w
  refine SC_def (xs := [Str.ofString "word", Str.ofString "start", Str.ofString "end", Str.ofString "flag"]) (by k_is) (by rfl) ⟨by rfl, by k_is, by rfl, by rfl, by rfl, by rfl, by rfl, by rfl, ?_, by decide, by decide⟩ rfl (by dsimp only) (by dsimp only [List.zip, List.zipWith]) ?_
  · rintro (_ | ⟨v0, _ | ⟨v1, _ | ⟨v2, _ | ⟨v3, _ | ⟨u, vs⟩⟩⟩⟩⟩) h <;> first | rfl | cases h
  · walk_at "s"
    refine assign_own' (by rfl) (by rfl) (by rfl) (fun _ => by rfl) (SEf_bin ?_)
    repeat walk_at "s"
    refine ⟨_, rfl, by omega, by omega, ?_⟩
    rw [Int.toNat_natCast]
    have u0 : upTo 0 s = nats (List.range' 0 s) := upTo_nat s 0
    rw [u0]
    refine (SG_map (fun it acc env => turn1 _ _ _ _ _ _ _ it acc env) (by rfl) (by rfl) (by rfl) (nats (List.range' 0 s)) [] (f := fun _ => true) (g := fun _ => .list []) ?_ ?_ ?_).mono ?_
    · intro d hd
      exact STs_nil rfl
    · intro d hd _
      repeat walk_at "s"
      exact ⟨by decide, rfl⟩
    · simp [nats, sizeLine]; omega
    intro ds hds
    have hds' : ds = lsts (List.replicate s []) := by
      rw [hds, List.nil_append, List.filter_eq_self.mpr (fun _ _ => rfl), nats, List.map_map]
      unfold lsts
      rw [List.map_replicate]
      refine List.eq_replicate_iff.mpr ⟨by simp, fun b hb => ?_⟩
      obtain ⟨_, _, rfl⟩ := List.mem_map.mp hb
      rfl
    clear hds
    repeat walk_at "s"
    refine Ob_add ?_
    refine Ob_pow (by omega) (by omega) (by decide) ?_
    repeat walk_at "s"
    refine ⟨Nat.le_of_ble_eq_true (by rfl), ?_⟩
    repeat walk_at "s"
    refine ⟨Nat.le_of_ble_eq_true (by rfl), ?_⟩
    refine O2f_addl (by rw [hds']; simp [lsts, sizeLine]; omega) ?_
    repeat walk_at "s"
    refine Ob_add ?_
    repeat walk_at "s"
    refine Ob_add ?_
    repeat walk_at "s"
    refine ⟨_, _, rfl, by omega, by omega, by omega, by omega, ?_⟩
    obtain ⟨r, hr⟩ : ∃ r, ((e : Int) + 1 - ((s : Int) + 1)).toNat = r := ⟨_, rfl⟩
    rw [hr]
    obtain ⟨m, hm0, hmr⟩ : ∃ m, m = 0 ∧ m + r = e - s := ⟨0, rfl, by omega⟩
    have e0 : ds ++ [Dat.list [Dat.int (2 ^ ((s : Int) + (fl : Int)).toNat)]] = lsts (wayT op s fl m) := by
      rw [hds', hm0, show ((s : Int) + (fl : Int)).toNat = s + fl by omega, pow_cast]
      unfold wayT lsts
      rw [List.map_append]; rfl
    rw [e0, show ((s : Int) + 1) = ((s + m + 1 : Nat) : Int) by omega]
    clear hm0 hr e0 hds' u0
    refine weakF (cx' := Cx.setω ⟨_, [(Str.ofString "word", .str word), (Str.ofString "start", .int (s : Int)), (Str.ofString "end", .int (e : Int)), (Str.ofString "flag", .int (fl : Int))], none⟩ (Str.ofString "ways") (lsts (wayT op s fl m))) ?_ (by dsimp only [Cx.bind, Cx.setω, Cx.rel]) ⟨rfl, rfl, rfl, rfl, trivial⟩ (by dsimp only [Cx.bind, Cx.setω, Cx.rel])
    induction r generalizing m with
    | zero =>
      refine forNil' (SSs_nil ?_)
      refine release' (by rfl) ?_
      repeat walk_at "s"
      have hm : m = e - s := by omega
      subst hm
      have hl : e < (wayT op s fl (e - s)).length := by rw [wayT_length]; omega
      refine OG_list (by omega) (by omega) (by rw [Int.toNat_natCast]; unfold lsts; rw [List.getElem?_map, List.getElem?_eq_getElem hl]; rfl) ?_
      rw [List.getD_eq_getElem?_getD, List.getElem?_eq_getElem hl]; rfl
    | succ r ih =>
      refine forCons' (by rfl) (by rfl) ?_
      repeat walk_at "s"
      refine Ob_add ?_
      refine Ob_pow (by omega) (by omega) (by decide) ?_
      repeat walk_at "s"
      refine Ob_sub ?_
      repeat walk_at "s"
      refine OB_max ?_
      repeat walk_at "s"
      refine ⟨_, _, rfl, by omega, by omega, by omega, by omega, ?_⟩
      rw [backs_up]
      rw [show (((s + m + 1 : Nat) : Int) + (fl : Int)).toNat = s + m + 1 + fl by omega, pow_cast]
      refine (SG_map2 (fun it acc env => turn2a _ _ _ _ _ _ _ _ _ _ _ it acc env) (fun it acc env => turn2b _ _ _ _ _ _ _ _ _ _ _ it acc env) (by rfl) (fun _ _ => by rfl) (by rfl) (by rfl) (by rfl) (by rfl) (by rfl) (by rfl) (by rfl) (nats (backs s (s + m + 1))) []
        (f := fun d => match d with | .int i => op i.toNat (s + m + 1) | _ => false) (h := fun d => match d with | .int i => nats ((wayT op s fl m).getD i.toNat []) | _ => []) (g := fun d v => match v with | .int i => .int (i + ((2 ^ (s + m + 1 + fl) : Nat) : Int)) | _ => v) (N := 3 ^ 7) ?_ ?_ ?_ ?_ ?_).mono ?_
      · intro d hd
        obtain ⟨b, hb, rfl⟩ := List.mem_map.mp hd
        have hb' := backs_mem hb
        refine STs_one ?_
        refine ST_inTab (by rfl) (by k_is) ht1 ht2 (by decide) (by decide) (by rfl) ?_
        repeat walk_at "s"
        refine ⟨_, rfl, ?_⟩
        repeat walk_at "s"
        refine ⟨_, rfl, ?_⟩
        refine OS_str (Nat.le_trans hw (by decide)) ⟨_, rfl, ?_⟩
        rw [ht3, hop b (s + m + 1) (by omega) (by omega) (by omega) (by omega)]
        rfl
      · intro d hd hf
        obtain ⟨b, hb, rfl⟩ := List.mem_map.mp hd
        have hb' := backs_mem hb
        have hl : b < (wayT op s fl m).length := by rw [wayT_length]; omega
        refine SIt_list ?_
        repeat walk_at "s"
        refine ⟨_, _, rfl, by omega, by omega, by rw [Int.toNat_natCast]; unfold lsts; rw [List.getElem?_map, List.getElem?_eq_getElem hl]; rfl, _, rfl, ?_⟩
        show nats _ = nats _
        rw [Int.toNat_natCast, List.getD_eq_getElem?_getD, List.getElem?_eq_getElem hl]; rfl
      · intro d hd hf v hv
        obtain ⟨b, hb, rfl⟩ := List.mem_map.mp hd
        obtain ⟨a, ha, rfl⟩ := List.mem_map.mp hv
        repeat walk_at "s"
        refine Ob_add ?_
        rfl
      · intro d hd hf
        obtain ⟨b, hb, rfl⟩ := List.mem_map.mp hd
        have hb' := backs_mem hb
        show (nats _).length ≤ _
        unfold nats
        rw [List.length_map, Int.toNat_natCast]
        exact Nat.le_trans (wayT_size op s fl m b) (Nat.pow_le_pow_right (by decide) (by omega))
      · simp only [nats, List.length_map, List.length_nil]
        have := backs_len s (s + m + 1)
        have h2 : (backs s (s + m + 1)).length * 3 ^ 7 ≤ 3 * 3 ^ 7 := Nat.mul_le_mul_right _ this
        exact Nat.le_trans (by omega) (show 3 * 3 ^ 7 ≤ sizeLine by decide)
      · intro ds hds
        have e1 : ds = nats (((backs s (s + m + 1)).filter fun b => op b (s + m + 1)).flatMap fun b => ((wayT op s fl m).getD b []).map fun v => v + 2 ^ (s + m + 1 + fl)) := by
          rw [hds, List.nil_append]
          unfold nats
          rw [List.filter_map, List.flatMap_map, List.map_flatMap]
          congr 1
          funext b
          show List.map _ (List.map _ _) = List.map _ (List.map _ _)
          rw [List.map_map, List.map_map]
          rfl
        rw [e1]
        refine ⟨by simp [lsts, wayT_length, sizeLine]; omega, ?_⟩
        have e2 : lsts (wayT op s fl m) ++ [Dat.list (nats (((backs s (s + m + 1)).filter fun b => op b (s + m + 1)).flatMap fun b => ((wayT op s fl m).getD b []).map fun v => v + 2 ^ (s + m + 1 + fl)))] = lsts (wayT op s fl (m + 1)) := by
          conv => rhs; unfold wayT
          unfold lsts
          rw [List.map_append]; rfl
        rw [e2]
        repeat walk_at "s"
        rw [show (((s + m + 1 : Nat) : Int) + 1) = ((s + (m + 1) + 1 : Nat) : Int) by omega]
        refine weakF (cx' := Cx.setω ⟨_, [(Str.ofString "word", .str word), (Str.ofString "start", .int (s : Int)), (Str.ofString "end", .int (e : Int)), (Str.ofString "flag", .int (fl : Int))], none⟩ (Str.ofString "ways") (lsts (wayT op s fl (m + 1)))) ?_ (by dsimp only [Cx.bind, Cx.setω, Cx.rel]) ⟨rfl, rfl, rfl, rfl, trivial⟩ (by dsimp only [Cx.bind, Cx.setω, Cx.rel])
        exact ih (m + 1) (by omega)
end
section
noncomputable def alpha : List Nat := [42, 61, 46, 60, 62, 47, 45, 40]
theorem ag1 : ∀ a ∈ alpha, opb1 a = tokB ⟨#[a]⟩ := by decide +kernel
theorem ag2 : ∀ a ∈ alpha, ∀ b ∈ alpha, opb2 a b = tokB ⟨#[a, b]⟩ := by decide +kernel
theorem ag3 : ∀ a ∈ alpha, ∀ b ∈ alpha, ∀ c ∈ alpha, opb3 a b c = tokB ⟨#[a, b, c]⟩ := by decide +kernel
end
section
theorem c_count (w : World) (word : Str) (s e : Nat) (hse : s ≤ e) (he : e ≤ 1000) (op : Nat → Nat → Bool)
    (hop : ∀ i j, s ≤ i → i < j → j ≤ e → j ≤ i + 3 → SC w 1 127 [.str (Txt.slice word (some (i : Int)) (some (j : Int)))] fun d => d = .bool (op i j)) (hw : word.length ≤ 1000) :
    SC w 2 132 [.str word, .int (s : Int), .int (e : Int)] (fun d => d = .int (((cntT op s (e - s)).getD e 0 : Nat) : Int)) := by
  refine SC_def (xs := [Str.ofString "word", Str.ofString "start", Str.ofString "end"]) (by k_is) (by rfl) ⟨by rfl, by k_is, by rfl, by rfl, by rfl, by rfl, by rfl, by rfl, ?_, by decide, by decide⟩ rfl (by dsimp only) (by dsimp only [List.zip, List.zipWith]) ?_
  · rintro (_ | ⟨v0, _ | ⟨v1, _ | ⟨v2, _ | ⟨u, vs⟩⟩⟩⟩) h <;> first | rfl | cases h
  · walk_at "s"
    refine assign_own' (by rfl) (by rfl) (by rfl) (fun _ => by rfl) (SEf_bin ?_)
    repeat walk_at "s"
    refine ⟨by decide, ?_⟩
    repeat walk_at "s"
    refine O2_of_f (O2f_mull (by omega) (by omega) (by simp; omega) (by simp) ?_)
    repeat walk_at "s"
    refine ⟨by decide, ?_⟩
    refine O2f_addl (by simp [sizeLine]; omega) ?_
    repeat walk_at "s"
    refine Ob_add ?_
    repeat walk_at "s"
    refine Ob_add ?_
    repeat walk_at "s"
    refine ⟨_, _, rfl, by omega, by omega, by omega, by omega, ?_⟩
    obtain ⟨r, hr⟩ : ∃ r, ((e : Int) + 1 - ((s : Int) + 1)).toNat = r := ⟨_, rfl⟩
    rw [hr]
    obtain ⟨m, hm0, hmr⟩ : ∃ m, m = 0 ∧ m + r = e - s := ⟨0, rfl, by omega⟩
    have e0 : (List.replicate (s : Int).toNat [Dat.int 0]).flatten ++ [Dat.int 1] = nats (cntT op s m) := by
      rw [Int.toNat_natCast, hm0, List.flatten_replicate_singleton]
      simp [cntT, nats]
    rw [e0, show ((s : Int) + 1) = ((s + m + 1 : Nat) : Int) by omega]
    clear hm0 hr e0
    refine weakF (cx' := Cx.setω ⟨_, [(Str.ofString "word", .str word), (Str.ofString "start", .int (s : Int)), (Str.ofString "end", .int (e : Int))], none⟩ (Str.ofString "ways") (nats (cntT op s m))) ?_ (by dsimp only [Cx.bind, Cx.setω, Cx.rel]) ⟨rfl, rfl, rfl, trivial⟩ (by dsimp only [Cx.bind, Cx.setω, Cx.rel])
    induction r generalizing m with
    | zero =>
      refine forNil' (SSs_nil ?_)
      refine release' (by rfl) ?_
      repeat walk_at "s"
      have hm : m = e - s := by omega
      subst hm
      have hl : e < (cntT op s (e - s)).length := by rw [cntT_length]; omega
      refine OG_list (by omega) (by omega) (by rw [Int.toNat_natCast]; unfold nats; rw [List.getElem?_map, List.getElem?_eq_getElem hl]; rfl) ?_
      rw [List.getD_eq_getElem?_getD, List.getElem?_eq_getElem hl]; rfl
    | succ r ih =>
      refine forCons' (by rfl) (by rfl) ?_
      repeat walk_at "s"
      refine Ob_sub ?_
      repeat walk_at "s"
      refine OB_max ?_
      repeat walk_at "s"
      refine ⟨_, _, rfl, by omega, by omega, by omega, by omega, ?_⟩
      rw [backs_up]
      refine (SG_map (fun it acc env => turn1 _ _ _ _ _ _ _ it acc env) (by rfl) (by rfl) (by rfl) (nats (backs s (s + m + 1))) [] (f := fun d => match d with | .int i => op i.toNat (s + m + 1) | _ => false) (g := fun d => match d with | .int i => .int (((cntT op s m).getD i.toNat 0 : Nat) : Int) | _ => d) ?_ ?_ ?_).mono ?_
      · intro d hd
        obtain ⟨b, hb, rfl⟩ := List.mem_map.mp hd
        have hb' := backs_mem hb
        refine STs_one (ST_val ?_ (fun _ _ => by rfl))
        repeat walk_at "s"
        refine ⟨_, rfl, ?_⟩
        repeat walk_at "s"
        refine ⟨_, rfl, ?_⟩
        refine OS_str (Nat.le_trans hw (by decide)) ?_
        repeat walk_at "s"
        refine (hop b (s + m + 1) (by omega) (by omega) (by omega) (by omega)).mono fun d hd => ?_
        subst hd
        exact OT_bool rfl
      · intro d hd hf
        obtain ⟨b, hb, rfl⟩ := List.mem_map.mp hd
        have hb' := backs_mem hb
        have hl : b < (cntT op s m).length := by rw [cntT_length]; omega
        repeat walk_at "s"
        refine ⟨_, _, rfl, by omega, by omega, by rw [Int.toNat_natCast]; unfold nats; rw [List.getElem?_map, List.getElem?_eq_getElem hl]; rfl, ?_⟩
        show Dat.int _ = Dat.int _
        rw [Int.toNat_natCast, List.getD_eq_getElem?_getD, List.getElem?_eq_getElem hl]; rfl
      · simp [nats, backs, sizeLine]; omega
      · intro ds hds
        have e1 : ds = (((((backs s (s + m + 1)).filter fun b => op b (s + m + 1)).map fun b => (cntT op s m).getD b 0).map fun (a : Nat) => (a : Int)).map Dat.int) := by
          rw [hds, List.nil_append, nats, List.filter_map, List.map_map, List.map_map, List.map_map]
          rfl
        rw [e1]
        repeat walk_at "s"
        refine OB_sum ?_
        rw [sum_cast]
        refine ⟨by simp [nats, cntT_length, sizeLine]; omega, ?_⟩
        have e2 : nats (cntT op s m) ++ [Dat.int (((((backs s (s + m + 1)).filter fun b => op b (s + m + 1)).map fun b => (cntT op s m).getD b 0).sum : Nat) : Int)] = nats (cntT op s (m + 1)) := by
          conv => rhs; unfold cntT
          unfold nats
          rw [List.map_append]; rfl
        rw [e2]
        repeat walk_at "s"
        rw [show (((s + m + 1 : Nat) : Int) + 1) = ((s + (m + 1) + 1 : Nat) : Int) by omega]
        refine weakF (cx' := Cx.setω ⟨_, [(Str.ofString "word", .str word), (Str.ofString "start", .int (s : Int)), (Str.ofString "end", .int (e : Int))], none⟩ (Str.ofString "ways") (nats (cntT op s (m + 1)))) ?_ (by dsimp only [Cx.bind, Cx.setω, Cx.rel]) ⟨rfl, rfl, rfl, trivial⟩ (by dsimp only [Cx.bind, Cx.setω, Cx.rel])
        exact ih (m + 1) (by omega)
end
section
noncomputable def opOf (word : Str) (i j : Nat) : Bool := tokB (Txt.slice word (some (i : Int)) (some (j : Int)))
theorem cut_nat {α : Type} (l : List α) {i j : Nat} (hij : i ≤ j) (hj : j ≤ l.length) : cut l (some (i : Int)) (some (j : Int)) = (l.drop i).take (j - i) := by
  unfold cut cl
  simp only
  have e1 : (max 0 (min (if (i : Int) < 0 then (i : Int) + (l.length : Nat) else (i : Int)) ((l.length : Nat) : Int))).toNat = i := by
    rw [if_neg (by omega)]; omega
  have e2 : (max 0 (min (if (j : Int) < 0 then (j : Int) + (l.length : Nat) else (j : Int)) ((l.length : Nat) : Int))).toNat = j := by
    rw [if_neg (by omega)]; omega
  rw [e1, e2]
theorem c_isop (w : World) (word : Str) (ha : ∀ c ∈ word.cps.toList, c ∈ alpha) (i j : Nat) (hij : i < j) (h3 : j ≤ i + 3) (hj : j ≤ word.length) :
    SC w 1 127 [.str (Txt.slice word (some (i : Int)) (some (j : Int)))] fun d => d = .bool (opOf word i j) := by
  unfold opOf
  have hl : word.length = word.cps.toList.length := by simp [Str.length]
  rw [slice_cut, cut_nat _ (Nat.le_of_lt hij) (by omega)]
  have hlen : ((word.cps.toList.drop i).take (j - i)).length = j - i := by rw [List.length_take, List.length_drop]; omega
  have hmem : ∀ c ∈ (word.cps.toList.drop i).take (j - i), c ∈ alpha := fun c hc => ha c (List.mem_of_mem_drop (List.mem_of_mem_take hc))
  generalize (word.cps.toList.drop i).take (j - i) = l at hlen hmem
  match l, hlen, hmem with
  | [], h, _ => simp at h; omega
  | [a], _, hm => 
    have := ag1 a (hm a (by simp))
    rw [show tokB ⟨[a].toArray⟩ = opb1 a from this.symm]
    exact c_isop1 w a
  | [a, b], _, hm =>
    have := ag2 a (hm a (by simp)) b (hm b (by simp))
    rw [show tokB ⟨[a, b].toArray⟩ = opb2 a b from this.symm]
    exact c_isop2 w a b
  | [a, b, c], _, hm =>
    have := ag3 a (hm a (by simp)) b (hm b (by simp)) c (hm c (by simp))
    rw [show tokB ⟨[a, b, c].toArray⟩ = opb3 a b c from this.symm]
    exact c_isop3 w a b c
  | a :: b :: c :: d :: r, h, _ => simp at h; omega
end
section
section
variable {w : World} {n : Nat} {cx : Cx} {pos : Pos} {Kn Kb : Cx → Prop} {Kr : Dat → Prop}
theorem draw_it {A : Around} {E : Value → Shared → Prop} {W : Addr → Prop} {I : Addr} : ∀ (ds : List Dat) (s : Shared) (Q : List Value → Shared → Prop), It s.heap W I ds →
    (∀ vs h' tk, RepAll h' W vs ds → It h' W I [] → Heap.ExtBut I s.heap h' → Q vs { s with heap := h', toks := tk }) → wpAny (MD w) A (draw (.ref I) ds.length) Q E s
  | [], s, Q, i, hQ => by
    show wpAny _ _ (pure []) Q E s
    exact wpAny_pure (hQ [] s.heap s.toks .nil i (fun _ _ _ e => e))
  | d :: ds, s, Q, i, hQ => by
    show wpAny _ _ (pyNext (.ref I) >>= _) Q E s
    refine wpAny_bind (It_next i fun v h₁ tk rv i₁ hs₁ => ?_)
    refine wpAny_bind (wpAny_holding (draw_it ds { s with heap := h₁, toks := tk } _ i₁ fun vs h₂ tk₂ rs i₂ hs₂ => wpAny_pure ?_))
    exact hQ (v :: vs) h₂ tk₂ (.cons (rv.but hs₂ fun _ _ _ l => i₁.flds.ne_list l) rs) i₂ (hs₁.extBut.trans hs₂)
theorem unpack_list {A : Around} {E : Value → Shared → Prop} {s : Shared} {W : Addr → Prop} {v : Value} {ds : List Dat} {Q : List Value → Shared → Prop} (hh : A.handled = none) (o : WOk W s.heap) (r : Rep s.heap W v (.list ds))
    (hQ : ∀ vs s', RepAll s'.heap W vs ds → Kp s s' → Q vs s') : wpAny (MD w) A (unpackItems v ds.length none) Q E s := by
  cases r with
  | list la na ra =>
  rename_i a us
  unfold unpackItems notIterableAtAll
  refine wpAny_bind (wpAny_bind (wpAny_specialOf la.isList.typeIs slot_list_iter.lookup ?_))
  refine wpAny_pure ?_
  simp only [Bool.false_eq_true, if_false]
  have fI : s.heap.get? s.heap.objs.size = none := get_size_none
  refine wpAny_bind (wpAny_holding (wpAny_pyIter_list la.isList ?_))
  have it : It (s.heap.push { cls := .type "list_iterator", data := .fields #[.ref a, .int 0 0] }) W s.heap.objs.size ds :=
    Or.inl ⟨a, us, 0, ⟨_, Heap.get?_push_size _ rfl, rfl, rfl⟩, la.at fun o e => Heap.get?_push_of_some _ e, na, Nat.zero_le _, by rw [List.drop_zero]; exact ra.keeps fun b o e => Heap.get?_push_of_some _ e⟩
  refine wpAny_bind (wpAny_holding (draw_it ds { s with heap := s.heap.push { cls := .type "list_iterator", data := .fields #[.ref a, .int 0 0] } } _ it fun vs h₁ tk rs i₁ hs₁ => ?_))
  rw [if_neg (by rw [rs.length]; omega)]
  refine wpAny_bind (wpAny_holding (It_end (s := { s with heap := h₁, toks := tk }) hh i₁ fun h₂ hs₂ => ?_))
  simp only [Option.isSome_none, Bool.false_eq_true, if_false]
  refine wpAny_pure (hQ vs _ (rs.but hs₂ fun _ _ _ l => i₁.flds.ne_list l) ⟨h₂, tk, ⟨_, rfl, GB.refl _⟩, fun b ob e => ?_⟩)
  have nb : b ≠ s.heap.objs.size := Nat.ne_of_lt (Heap.lt_size e)
  exact hs₂ b ob nb (hs₁ b ob nb (Heap.get?_push_of_some _ e))
theorem RepAll.ef {B : Heap} {W O : Addr → Prop} {env : Env} {s s' : Shared} {vs : List Value} {ds : List Dat} (i : SI w cx B W O env s.heap) (r : RepAll s.heap (fun b => W b ∨ O b) vs ds) (e : Ef O N0 env s s') : RepAll s'.heap (fun b => W b ∨ O b) vs ds := by
  obtain ⟨h, t, ⟨gs, rfl, ab⟩, k, l⟩ := e
  obtain ⟨m, hm⟩ := i.ns
  exact r.move fun a its q p => ⟨fun o e => k a o (list_ne_ns p hm) (fun n c hc => let ⟨v, hv⟩ := i.cel n c hc; list_ne_cell p hv) (fun q' => q (.inr q')) id e, q⟩
noncomputable def bindAll (cx : Cx) : List (Str × Pos) → List Dat → Cx
  | (x, _) :: xs, d :: ds => bindAll (cx.bind x d) xs ds
  | _, _ => cx
noncomputable def allVars (cx : Cx) (xs : List (Str × Pos)) : Bool := xs.all fun q => isVarB cx q.1 && notOwn cx q.1
theorem assign_names {A : Around} {E : Value → Shared → Prop} {env : Env} {B : Heap} {W O : Addr → Prop} (xs : List (Str × Pos)) : ∀ (ds : List Dat) (vs : List Value) (cx : Cx) (s : Shared) (Q : Unit → Shared → Prop), SI w cx B W O env s.heap → RepAll s.heap (fun b => W b ∨ O b) vs ds → xs.length = ds.length → allVars cx xs = true →
    (∀ s', SI w (bindAll cx xs ds) B W O env s'.heap → Ef O N0 env s s' → Q () s') → wpAny (MD w) A (assignInOrder (xs.map fun q => assign (.Name q.1 q.2) env) vs) Q E s := by
  induction xs with
  | nil =>
    intro ds vs cx s Q i r hl hv h
    cases ds with
    | nil =>
      show wpAny _ _ (pure ()) Q E s
      exact wpAny_pure (h s i (Ef.refl s))
    | cons d ds => cases hl
  | cons q xs ih =>
    intro ds vs cx s Q i r hl hv h
    obtain ⟨x, p⟩ := q
    cases ds with
    | nil => cases hl
    | cons d ds =>
    cases vs with
    | nil => cases r
    | cons v vs =>
    cases r with
    | cons r rs =>
    have hv' : (isVarB cx x && notOwn cx x && xs.all fun q => isVarB cx q.1 && notOwn cx q.1) = true := hv
    rw [Bool.and_eq_true, Bool.and_eq_true] at hv'
    obtain ⟨⟨h1, h2⟩, h3⟩ := hv'
    show wpAny _ _ (holding vs (assign (.Name x p) env v) >>= fun _ => assignInOrder (xs.map fun q => assign (.Name q.1 q.2) env) vs) Q E s
    refine wpAny_bind (wpAny_holding (wpAny_assign_Name (store_data i (isVar_of h1) r (notOwn_ne h2) fun s₁ i₁ e₁ => ?_)))
    exact ih ds vs (cx.bind x d) s₁ Q i₁ (RepAll.ef i rs e₁) (by simpa using hl) h3 fun s' i' e' => h s' i' (e₁.trans Grow.refl e')
theorem SS_unpack {elts : List Expr} {xs : List (Str × Pos)} {tk : Nat} {tp : Pos} {value : Expr} (he : ∀ env, assignEach elts env = xs.map fun q => (false, assign (.Name q.1 q.2) env)) (hv : allVars cx xs = true)
    (hs : ∀ env, swapsWithSole [.Tuple elts tk tp] value pos.line env = pure false) (hw : ∀ env, swappedStores [.Tuple elts tk tp] value env = pure none) (ha : ∀ env, (assignEach [.Tuple elts tk tp] env).map (·.2) = [assign (.Tuple elts tk tp) env])
    (h : SE w n cx value fun d => ∃ ds, d = .list ds ∧ ds.length = xs.length ∧ Kn (bindAll cx xs ds)) : SS w n cx (.Assign [.Tuple elts tk tp] value pos) Kn Kr Kb := fun A E env s B W O rm i => by
  refine wpAny_Assign_stores (wpAny_mono (h A E env s _ rm i.gh i.wok i.ok) (fun v s₁ ⟨d, rd, ⟨ds, e, hl, hk⟩, k₁⟩ => ?_) fun _ _ q => q) (hs env) (hw env)
  subst e
  rw [ha]
  show wpAny _ A (assign (.Tuple elts tk tp) env v) _ E s₁
  rw [arm_assign_Tuple]
  refine wpAny_bind (wpAny_standAt ?_)
  unfold unpack
  have i₁ := i.keeps k₁.k
  have hn : (assignEach elts env).length = ds.length := by rw [he, List.length_map, hl]
  have hst : (assignEach elts env).findIdx? (·.1) = none := by
    rw [he, List.findIdx?_eq_none_iff]
    intro q hq
    obtain ⟨_, _, rfl⟩ := List.mem_map.mp hq
    rfl
  rw [hn, hst]
  refine wpAny_bind (wpAny_holding (unpack_list rm.handled i₁.wok rd fun vs s₂ rs k₂ => ?_))
  rw [he, List.map_map]
  exact assign_names xs ds vs cx s₂ _ (i₁.keeps k₂.k) rs hl.symm hv fun s' i' e' => PF.kp (k₁.trans k₂) ⟨O, _, i', e', Grow.refl, hk⟩

/-! `is` of bools -/
theorem Oc_IsBool {a b : Bool} {K : Dat → Prop} (h : K (.bool (a == b))) : O2 w n (compareOp .Is) (.bool a) (.bool b) K := fun A E s W va vb rm g o ra rb => by
  cases ra; cases rb
  exact PyProof.Rows.is_bool ⟨_, .bool _, h, Kp.refl s⟩
end
end
section
/-! a def that yields: its pieces -/
noncomputable def GBg (g : Nat) (a b : Array GenState) : Prop := (AllBare a → AllBare b) ∧ ∀ (k : Nat) x, k ≠ g → a[k]? = some x → b[k]? = some x
theorem GBg.of {g : Nat} {a b : Array GenState} (x : GB a b) : GBg g a b := ⟨x.1, fun k y _ e => x.2 k y e⟩
theorem GBg.trans {g : Nat} {a b c : Array GenState} (x : GBg g a b) (y : GBg g b c) : GBg g a c := ⟨fun q => y.1 (x.1 q), fun k z n e => y.2 k z n (x.2 k z n e)⟩
theorem GBg.set {g : Nat} {a : Array GenState} {x : GenState} (hx : x.bare = true) : GBg g a (a.setIfInBounds g x) := ⟨fun q y hy => by
  obtain ⟨i, hi, e⟩ := Array.mem_iff_getElem.mp hy
  by_cases h : g = i
  · subst h; simp at e; rw [← e]; exact hx
  · have hi' : i < a.size := by simpa using hi
    rw [Array.getElem_setIfInBounds_ne hi' h] at e
    exact q y (e ▸ Array.getElem_mem _), fun k y n e => by simp [Ne.symm n, e]⟩

noncomputable def afterRun (K : Flow → Sem Fin) (H : Value → Sem Fin) (gd : Bool → Bool) (lv : List Value → List Value) (env : Env) : Result → Sem Fin := fun r => ((match r with | .ok f => (.pure f : Sem Flow) | .error e => .raise e).onRaise fun (x : Value) => do
        if (← field x 1) == Value.none then unsupported "frame.own-activation:exception-without-traceback"
        setFlight x env.frame).wrap K H gd lv
section
variable {M : Model} {A : Around} {R : GenEnd} {Y : Protocol} {n : Nat} {s₀ : Shared} {c : Code} {fs : List Frame} {s : Shared} {env : Env}
  {K : Flow → Sem Fin} {H : Value → Sem Fin} {gd : Bool → Bool} {lv : List Value → List Value}
theorem seg_plain {st : Stmt} (h : wpAny M (A.over c fs) (exec st env) (fun f s' => Seg M A R Y n s₀ c (K f) fs s') (fun _ _ => False) s) : Seg M A R Y n s₀ c ((exec st env).wrap K H gd lv) fs s :=
  seg_wrap (wpAny_mono h (fun _ _ x => x) fun _ _ x => x.elim)
theorem seg_If {test : Expr} {body orelse : List Stmt} {pos : Pos}
    (h : wpAny M (A.over c fs) (isTrue test env (eval test env)) (fun b s' => if b = true then Seg M A R Y n s₀ c ((execs body env).wrap K H gd lv) fs s' else Seg M A R Y n s₀ c ((execs orelse env).wrap K H gd lv) fs s') (fun _ _ => False) s) :
    Seg M A R Y n s₀ c ((exec (.If test body orelse pos) env).wrap K H gd lv) fs s := by
  rw [exec_If]
  refine seg_bind_wrap (wpAny_standAt (seg_bind_wrap (wpAny_mono h (fun b s' h => ?_) fun _ _ x => x.elim)))
  cases b with
  | true => exact h
  | false => exact h
theorem seg_For {target iter : Expr} {body orelse : List Stmt} {pos : Pos} (hs : ∀ x, foldedSetIterable iter env x = pure x)
    (h : wpAny M (A.over c fs) (eval iter env) (fun x s₁ => wpAny M (A.over c fs) (pyIter x) (fun it s₂ => ∀ p, Seg M A R Y n s₀ (.forLoop target it body orelse env) (M.den (.forLoop target it body orelse env))
      (.ret (afterRun K H gd lv env) none (gd false) (lv []) c p [] :: fs) s₂) (fun _ _ => False) s₁) (fun _ _ => False) s) :
    Seg M A R Y n s₀ c ((exec (.For target iter body orelse pos) env).wrap K H gd lv) fs s := by
  rw [exec_For]
  refine seg_bind_wrap (wpAny_standAt (seg_bind_wrap (wpAny_mono h (fun x s₁ h₁ => ?_) fun _ _ x => x.elim)))
  refine seg_bind_wrap (wpAny_of_eq (hs x) (seg_bind_wrap (wpAny_standAt (seg_bind_wrap (wpAny_holding (wpAny_mono h₁ (fun it s₂ h₂ => ?_) fun _ _ x => x.elim))))))
  exact seg_call h₂
end
section
variable {prog : Program} {w : World} {A : Around} {R : GenEnd} {Y : Protocol} {n : Nat} {s₀ : Shared} {fs : List Frame} {s : Shared} {env : Env}
noncomputable def loopK (target : Expr) (it : Value) (body orelse : List Stmt) (env : Env) : Flow → Sem Fin := fun f => match f with
  | .next | .cont => .pure (.again (.forLoop target it body orelse env))
  | .brk => .pure (.done .next)
  | .ret v => .pure (.done (.ret v))
noncomputable def loopH (env : Env) : Value → Sem Fin := fun e => (do noteFrame e env; theTreesLotGoes e : Sem Unit).wrap (fun _ => .raise e) .raise id id
theorem seg_forLoop {target : Expr} {it : Value} {body orelse : List Stmt}
    (h : wpAny (model prog w) (A.over (.forLoop target it body orelse env) fs) (pyNext it) (fun r s₁ => match r with
      | none => Seg (model prog w) A R Y n s₀ (.block orelse env) ((model prog w).den (.block orelse env)) fs s₁
      | some v => wpAny (model prog w) (A.over (.forLoop target it body orelse env) fs) (letOwnedTupleGo target it v) (fun _ s₁' => wpAny (model prog w) (A.over (.forLoop target it body orelse env) fs) (assign target env v) (fun _ s₂ =>
          Seg (model prog w) A R Y n s₀ (.forLoop target it body orelse env) ((execs body env).wrap (loopK target it body orelse env) (loopH env) id id) fs s₂) (fun _ _ => False) s₁') (fun _ _ => False) s₁) (fun _ _ => False) s) :
    Seg (model prog w) A R Y n s₀ (.forLoop target it body orelse env) ((model prog w).den (.forLoop target it body orelse env)) fs s := by
  show Seg _ A R Y n s₀ _ ((forTurn target it body orelse env).onRaise (fun x => do noteFrame x env; theTreesLotGoes x)) fs s
  unfold forTurn
  rw [Sem.onRaise_eq_wrap]
  refine seg_bind_wrap (wpAny_standAt (seg_bind_wrap (wpAny_onRaise (wpAny_mono h (fun r s₁ h₁ => ?_) fun _ _ x => x.elim))))
  cases r with
  | none => exact seg_again rfl h₁
  | some v =>
    refine seg_bind_wrap (wpAny_mono h₁ (fun _ s₁' h₁' => ?_) fun _ _ x => x.elim)
    refine seg_bind_wrap (wpAny_mono h₁' (fun _ s₂ h₂ => ?_) fun _ _ x => x.elim)
    rw [Sem.bind_eq_wrap', Sem.wrap_wrap]
    rw [Sem.wrap_congr (execs body env) _ _ (K' := loopK target it body orelse env) (H' := loopH env) (fun f => by cases f <;> rfl)
      (fun e => by show (do noteFrame e env; theTreesLotGoes e : Sem Unit).bind (fun _ => .raise e) = _; rw [Sem.bind_eq_wrap]; rfl)]
    exact h₂
end
section
variable {A : Around} {body b₂ : List Stmt} {env : Env}
theorem Rm.overF {m : Nat} (x : Rm (m + 1) A) : Rm m (A.over (.func body env) []) := ⟨x.handled, by
    have := x.depth
    show A.depth + 0 + 1 + m < _
    omega, by
    have := x.units
    show A.units + 0 + 3 + 8 * m < _
    omega⟩
theorem Rm.overL {m : Nat} {target : Expr} {it : Value} {k : Result → Sem Fin} {gd : Bool} {l kp : List Value} {p : Pos} (x : Rm (m + 1) A) : Rm m (A.over (.forLoop target it body [] env) [.ret k none gd l (.func b₂ env) p kp]) := ⟨x.handled, by
    have := x.depth
    show A.depth + (1 + 0) + 0 + m < _
    omega, by
    have := x.units
    show A.units + (3 + 0) + 0 + 8 * m < _
    omega⟩
end
end
section
/-! a generator as what a for goes through -/
section
variable {w : World} {cx : Cx} {B : Heap} {W O : Addr → Prop} {env : Env} {h h' : Heap} {X : Addr → Prop}
theorem SI.butX (x : SI w cx B W O env h) (k : ∀ b o, ¬ X b → h.get? b = some o → h'.get? b = some o) (nB : ∀ b o, B.get? b = some o → ¬ X b) (nl : ¬ X env.locals) (nc : ∀ n c, env.cells.lookup n = some c → ¬ X c) (nls : ∀ b its, h.IsList b its → ¬ X b) : SI w cx B W O env h' := by
  have vk : ∀ y u, VarIs env h y u → VarIs env h' y u := fun y u q => by
    rcases q with ⟨a, m, b, c⟩ | ⟨a, d, c, b, e⟩
    · exact .inl ⟨a, m, b.at fun o e => k _ o nl e, c⟩
    · exact .inr ⟨a, d, c, b, let ⟨o, p, q⟩ := e; ⟨o, k _ o (nc _ _ b) p, q⟩⟩
  have mv : ∀ a its, ¬ (W a ∨ O a) → h.IsList a its → (∀ o, h.get? a = some o → h'.get? a = some o) ∧ ¬ (W a ∨ O a) := fun a its q l => ⟨fun o e => k a o (nls a its l) e, q⟩
  have own : ∀ y ds, cx.ω = some (y, ds) → ∃ a vs, VarIs env h' y (.ref a) ∧ h'.PlainList a vs.toArray ∧ RepAll h' (fun b => W b ∨ O b) vs ds ∧ O a := fun y ds e =>
    let ⟨a, vs, p, q, r, t⟩ := x.own y ds e; ⟨a, vs, vk _ _ p, q.at fun o e => k a o (nls _ _ q.isList) e, r.move mv, t⟩
  exact ⟨x.g, x.wb, fun b o e => ⟨k _ _ (nB b o e) (x.up b o e).1, (x.up b o e).2⟩, ⟨x.ok.globals, x.ok.builtins, x.ok.kind, x.ok.names, x.ok.cells, fun y d e => let ⟨u, p, q⟩ := x.ok.var y d e; ⟨u, vk y u p, q.move mv⟩,
      fun y ds e => let ⟨a, vs, p, q, r, t⟩ := own y ds e; ⟨a, vs, p, q, r, .inr t⟩⟩, own,
    fun a q => let ⟨its, l⟩ := x.ol a q; ⟨its, l.at fun o e => k a o (nls _ _ l.isList) e⟩, let ⟨m, p⟩ := x.ns; ⟨m, p.at fun o e => k _ o nl e⟩, fun n c e => let ⟨v, o, p1, p2⟩ := x.cel n c e; ⟨v, o, k c o (nc _ _ e) p1, p2⟩, x.apart⟩
theorem SI.agree {sc : List (Str × NameKind)} {ρ : List (Str × Dat)} (x : SI w ⟨sc, ρ, none⟩ B W N0 env h) (hl : ∀ o, h.get? env.locals = some o → h'.get? env.locals = some o) (hc : env.cells = []) (hB : ∀ b o, B.get? b = some o → h'.get? b = some o)
    (hf : ∀ y d, ρ.lookup y = some d → flatD d = true) : SI w ⟨sc, ρ, none⟩ B W N0 env h' := by
  have nc : ∀ n c, env.cells.lookup n = some c → False := fun n c e => by rw [hc] at e; cases e
  refine ⟨x.g, x.wb, fun b o e => ⟨hB b o e, (x.up b o e).2⟩, ⟨x.ok.globals, x.ok.builtins, x.ok.kind, x.ok.names, x.ok.cells, fun y d e => ?_, fun _ _ e => by cases e⟩, fun _ _ e => (by cases e), fun a q => q.elim,
    let ⟨m, p⟩ := x.ns; ⟨m, p.at hl⟩, fun n c e => (nc n c e).elim, x.apart⟩
  obtain ⟨u, p, q⟩ := x.ok.var y d e
  refine ⟨u, ?_, q.flat (hf y d e)⟩
  rcases p with ⟨a, m, b, c⟩ | ⟨a, d, c, b, e⟩
  · exact .inl ⟨a, m, b.at hl, c⟩
  · exact (nc _ _ b).elim
end

noncomputable def enumish (v : Value) : Prop := v = .type "enumerate" ∨ v = .type "str_ascii_iterator" ∨ v = .type "str_iterator"
/-- what is a generator's own: its names and its iterators, none of them there before -/
noncomputable def XS (H : Heap) (L : Addr) (h : Heap) (b : Addr) : Prop := H.get? b = none ∧ (b = L ∨ ∃ o, h.get? b = some o ∧ enumish o.cls)
theorem XS.same {H h h' : Heap} {L b : Addr} {o : Obj} (x : XS H L h' b) (e : h.get? b = some o) (e' : h'.get? b = some o) : XS H L h b :=
  ⟨x.1, x.2.imp id fun ⟨o', p, q⟩ => ⟨o, e, by rw [e'] at p; cases p; exact q⟩⟩
noncomputable def Agree (H : Heap) (L : Addr) (B : Heap) (s s' : Shared) : Prop := (∀ b o, XS H L s.heap b → s.heap.get? b = some o → s'.heap.get? b = some o) ∧ (∀ b o, B.get? b = some o → s'.heap.get? b = some o) ∧ ∀ b o, H.get? b = some o → ∃ o', s'.heap.get? b = some o'
noncomputable def Since (H : Heap) (L : Addr) (s s' : Shared) : Prop := ∃ h tk, GnB s s' h tk ∧ (∀ b o, ¬ XS H L s.heap b → s.heap.get? b = some o → h.get? b = some o) ∧ ∀ b o, s.heap.get? b = some o → ∃ o', h.get? b = some o'
noncomputable def SinceG (g : Nat) (H : Heap) (L : Addr) (s s' : Shared) : Prop := ∃ h tk gs, s' = { s with heap := h, toks := tk, gens := gs } ∧ GBg g s.gens gs ∧ (∀ b o, ¬ XS H L s.heap b → s.heap.get? b = some o → h.get? b = some o) ∧ ∀ b o, s.heap.get? b = some o → ∃ o', h.get? b = some o'
section
variable {H B : Heap} {L : Addr} {s s' s'' : Shared} {g : Nat}
theorem ns_nls {h : Heap} {m : Str → Option Value} (x : h.Ns L m) : ∀ b its, h.IsList b its → ¬ XS H L h b := fun b its l ⟨_, q⟩ => by
  rcases q with q | ⟨o, e, q⟩
  · exact list_ne_ns l x q
  · obtain ⟨o', e', c, _⟩ := l
    rw [e] at e'; cases e'
    change o.cls = .type "list" at c
    rw [c] at q
    rcases q with q | q | q <;> exact absurd q (by decide)
theorem Since.refl (s : Shared) : Since H L s s := ⟨s.heap, s.toks, ⟨_, rfl, GB.refl _⟩, fun _ _ _ e => e, fun _ o e => ⟨o, e⟩⟩
theorem Since.trans (x : Since H L s s') (y : Since H L s' s'') : Since H L s s'' := by
  obtain ⟨h, t, ⟨gs, rfl, ab⟩, k, l⟩ := x
  obtain ⟨h', t', ⟨gs', rfl, ab'⟩, k', l'⟩ := y
  exact ⟨h', t', ⟨_, rfl, ab.trans ab'⟩, fun b o n e => k' b o (fun q => n (q.same e (k b o n e))) (k b o n e), fun b o e => let ⟨o', e'⟩ := l b o e; l' b o' e'⟩
theorem Since.ef {env : Env} (x : Ef N0 N0 env s s') (h1 : env.locals = L) (h0 : H.get? L = none) (h2 : env.cells = []) : Since H L s s' := by
  obtain ⟨h, t, gn, k, l⟩ := x
  exact ⟨h, t, gn, fun b o n e => k b o (fun q => n (by rw [q, h1]; exact ⟨h0, .inl rfl⟩)) (fun n' c hc => by rw [h2] at hc; cases hc) id id e, fun b o e => l b o id e⟩
theorem Since.kp (x : Kp s s') : Since H L s s' := by
  obtain ⟨h, t, gn, k⟩ := x
  exact ⟨h, t, gn, fun b o _ e => k b o e, fun b o e => ⟨o, k b o e⟩⟩
theorem SinceG.of {x : GenState} (hx : x.bare = true) (y : Since H L (s.setGen g .running) s') : SinceG g H L s (s'.setGen g x) := by
  obtain ⟨h, t, ⟨gs, rfl, ab⟩, k, l⟩ := y
  exact ⟨h, t, gs.setIfInBounds g x, rfl, (GBg.set (x := .running) rfl).trans ((GBg.of ab).trans (GBg.set hx)), k, l⟩
end

noncomputable def PairIs (h : Heap) (v : Value) (d : Nat × Str) : Prop := ∃ a t u, v = .ref a ∧ h.IsTuple a #[.int d.1 t, .str d.2 u]
noncomputable def genY (H : Heap) (L : Addr) (B : Heap) (all : List (Nat × Str)) : Protocol := fun m s₀ v s₁ kap =>
  (∃ done d rest, all = done ++ d :: rest ∧ rest.length = m ∧ PairIs s₁.heap v d) ∧ (Since H L s₀ s₁ ∧ ∃ m, s₁.heap.Ns L m) ∧ ∀ s'', Agree H L B s₁ s'' → kap (.send .none) s''
noncomputable def genR (H : Heap) (L : Addr) : GenEnd := fun n s₀ r s₁ => r = .ok (.ret .none) ∧ (n = 0 ∧ Since H L s₀ s₁)
noncomputable def GenAt (w : World) (A : Around) (H : Heap) (L : Addr) (B : Heap) (all : List (Nat × Str)) (a : Addr) (g : Nat) (its : List (Nat × Str)) (s : Shared) : Prop :=
  s.heap.IsGen a g ∧ (∃ m, s.heap.Ns L m) ∧ (∃ done, all = done ++ its) ∧ ∃ gs, s.gens[g]? = some gs ∧ ∀ s'', Agree H L B s s'' → gs.Goes (MD w) A.in1 (genR H L) (genY H L B all) its.length (.send .none) s''
theorem gen_nx {H : Heap} {L : Addr} {h : Heap} {a : Addr} {g : Nat} {m : Str → Option Value} (x : h.IsGen a g) (y : h.Ns L m) : ¬ XS H L h a := fun ⟨_, q⟩ => by
  obtain ⟨o, nm, qn, ho, hc, hd, _⟩ := x
  rcases q with q | ⟨o', e, q⟩
  · subst q
    obtain ⟨o', es, ep, ho', hd', _⟩ := y
    rw [ho] at ho'; cases ho'
    rw [hd] at hd'; cases hd'
  · rw [ho] at e; cases e
    rw [hc] at q
    rcases q with q | q | q <;> exact absurd q (by decide)
theorem GenAt.keeps {w : World} {A : Around} {H : Heap} {L : Addr} {B : Heap} {all : List (Nat × Str)} {a : Addr} {g : Nat} {its : List (Nat × Str)} {s s' : Shared} (x : GenAt w A H L B all a g its s) (ka : ∀ o, s.heap.get? a = some o → s'.heap.get? a = some o)
    (kl : ∀ o, s.heap.get? L = some o → s'.heap.get? L = some o) (kx : ∀ b o, XS H L s.heap b → s.heap.get? b = some o → s'.heap.get? b = some o) (kg : ∀ (k : Nat) y, s.gens[k]? = some y → s'.gens[k]? = some y) : GenAt w A H L B all a g its s' := by
  obtain ⟨⟨o, nm, qn, ho, r⟩, ⟨m, x2⟩, x3, gs, x4, x5⟩ := x
  exact ⟨⟨o, nm, qn, ka o ho, r⟩, ⟨m, x2.at kl⟩, x3, gs, kg _ _ x4, fun s'' ⟨p, q⟩ => x5 s'' ⟨fun b o hb e => p b o (hb.same (kx b o hb e) e) (kx b o hb e), q⟩⟩
section
variable {w : World} {A : Around} {E : Value → Shared → Prop} {s : Shared} {H : Heap} {L : Addr} {B : Heap} {all : List (Nat × Str)} {a : Addr} {g : Nat}
theorem pyNext_genQ {n : Nat} {gs : GenState} {P : Nat → Shared → Shared → Prop} {Y : Protocol} {Q : Option Value → Shared → Prop} (hh : A.handled = none)
    (hl : s.heap.NoLimit) (hroom : A.depth < recursionLimit)
    (hg : s.heap.IsGen a g) (hgs : s.gens[g]? = some gs)
    (hgo : gs.Goes (MD w) A.in1 (fun n s₀ r s₁ => r = .ok (.ret .none) ∧ P n s₀ s₁) Y n (.send .none) (s.setGen g .running))
    (hY : ∀ v s₁ gs', gs'.bare = true → Y (n - 1) (s.setGen g .running) v s₁ (fun r' s'' => match n with
        | 0 => False
        | m + 1 => gs'.Goes (MD w) A.in1 (fun n s₀ r s₁ => r = .ok (.ret .none) ∧ P n s₀ s₁) Y m r' s'') → Q (some v) (s₁.setGen g gs'))
    (hP : ∀ s₁, P n (s.setGen g .running) s₁ → ∀ h', (∀ b o, s₁.heap.get? b = some o → h'.get? b = some o) → Q none { s₁.setGen g .finished with heap := h' }) :
    wpAny (MD w) A (pyNext (.ref a)) Q E s := by
  unfold pyNext
  refine wpAny_bind (wpAny_attempt (wpAny_callSpecial?_slot (name := Str.ofString "__next__") hg.typeIs slot_gen_next
    (wpAny_call_entry slot_gen_next hg.typeIs entry_gen_next ?_ (args_gen_next _))))
  show wpAny _ A.in1 (Builtin.Generator.genWake (.ref a) (.send .none)) _ _ s
  unfold Builtin.Generator.genWake
  refine wpAny_bind (wpAny_holding (wpAny_genNumber hg (wpAny_bind (wpAny_genState hgs ?_))))
  cases gs with
  | running => exact hgo.elim
  | finished => exact hgo.elim
  | _ =>
    refine wpAny_bind (wpAny_roomToWake hl hroom ?_)
    show wpAny _ A.in1 (.resume g (.send .none) [] _) _ _ s
    refine wpAny_resumeQ hgs hgo (fun x s₁ hx => ?_) (fun v s₁ gs' hb hv => ?_)
    · obtain ⟨rfl, hp⟩ := hx
      show wpAny _ A.in1 (newExc (.type "StopIteration") [] >>= _) _ _ _
      refine wpAny_bind ?_
      simp only [newExc, newTuple]
      refine wpAny_bind (wpAny_newObj_type ?_ (by size_fits))
      refine wpAny_bind (m := firstArgMember _ _) (wpAny_of_eq (a := Value.none) (by first | rfl | (simp only [firstArgMember]; rfl)) ?_)
      refine wpAny_newObj_type ?_ (by size_fits)
      simp only [raiseNew]
      refine wpAny_bind (wpAny_bind (wpAny_handled ?_))
      first | rw [show A.in1.handled = none from hh] | rw [hh]
      refine wpAny_throw ?_
      refine wpAny_bind (wpAny_isInstance (T := "StopIteration") (b := true) ⟨_, Heap.get?_push_size _ rfl, rfl⟩ isSubtype_stop ?_)
      exact wpAny_pure (hP s₁ hp _ fun b o hb => Heap.get?_push_of_some _ (Heap.get?_push_of_some _ hb))
    · exact wpAny_pure ⟨v, rfl, wpAny_pure (hY v s₁ gs' hb hv)⟩
theorem gen_next {d : Nat × Str} {its : List (Nat × Str)} {Q : Option Value → Shared → Prop} (hh : A.handled = none) (hl : s.heap.NoLimit) (hroom : A.depth < recursionLimit) (x : GenAt w A H L B all a g (d :: its) s)
    (hB : ∀ b o, B.get? b = some o → s.heap.get? b = some o) (hH : ∀ b o, H.get? b = some o → ∃ o', s.heap.get? b = some o') (hQ : ∀ v s', PairIs s'.heap v d → GenAt w A H L B all a g its s' → SinceG g H L s s' → Q (some v) s') : wpAny (MD w) A (pyNext (.ref a)) Q E s := by
  obtain ⟨x1, ⟨m, x2⟩, ⟨done, x3⟩, gs, x4, x5⟩ := x
  refine pyNext_genQ (P := fun n s₀ s₁ => n = 0 ∧ Since H L s₀ s₁) hh hl hroom x1 x4 (x5 (s.setGen g .running) ⟨fun _ _ _ e => e, hB, hH⟩) (fun v s₁ gs' hb hv => ?_) fun s₁ hp h' hk => ?_
  · obtain ⟨⟨done', d', rest, e1, e2, e3⟩, ⟨e4, e5⟩, e6⟩ := hv
    have e7 : d' = d ∧ rest = its := by
      have := List.append_inj' (e1.symm.trans x3) (by simp at e2 ⊢; omega)
      simpa using this.2
    obtain ⟨rfl, rfl⟩ := e7
    have sg : SinceG g H L s (s₁.setGen g gs') := SinceG.of hb e4
    refine hQ v (s₁.setGen g gs') e3 ⟨?_, e5, ⟨done ++ [d'], by rw [x3]; simp⟩, gs', ?_, fun s'' ag => e6 s'' ag⟩ sg
    · have na := gen_nx (H := H) x1 x2
      obtain ⟨h, tk, gs₂, e, _, k, _⟩ := sg
      obtain ⟨o, nm, qn, ho, r⟩ := x1
      have : (s₁.setGen g gs').heap = h := by rw [e]
      exact ⟨o, nm, qn, by rw [this]; exact k a o na ho, r⟩
    · obtain ⟨h, tk, ⟨gs₂, rfl, ab⟩, k, _⟩ := e4
      exact setGen_self (gs := .running) (ab.2 g .running (setGen_self x4))
  · exact absurd hp.1 (Nat.succ_ne_zero _)
theorem gen_done {Q : Option Value → Shared → Prop} (hh : A.handled = none) (hl : s.heap.NoLimit) (hroom : A.depth < recursionLimit) (x : GenAt w A H L B all a g [] s)
    (hB : ∀ b o, B.get? b = some o → s.heap.get? b = some o) (hH : ∀ b o, H.get? b = some o → ∃ o', s.heap.get? b = some o') (nB : ∀ b o, B.get? b = some o → ¬ XS H L s.heap b) (hQ : ∀ s', SinceG g H L s s' → Q none s') : wpAny (MD w) A (pyNext (.ref a)) Q E s := by
  obtain ⟨x1, x2, ⟨done, x3⟩, gs, x4, x5⟩ := x
  refine pyNext_genQ (P := fun n s₀ s₁ => n = 0 ∧ Since H L s₀ s₁) hh hl hroom x1 x4 (x5 (s.setGen g .running) ⟨fun _ _ _ e => e, hB, hH⟩) (fun v s₁ gs' hb hv => ?_) fun s₁ hp h' hk => ?_
  · obtain ⟨_, ⟨⟨h, tk, ⟨gs₂, rfl, ab⟩, k, l⟩, _⟩, e6⟩ := hv
    exact (e6 _ ⟨fun _ _ _ e => e, fun b o e => k b o (nB b o e) (hB b o e), fun b o e => let ⟨o', e'⟩ := hH b o e; l b o' e'⟩).elim
  · refine hQ _ ?_
    obtain ⟨h, t, gs', e, ab, k, l⟩ := SinceG.of (x := .finished) rfl hp.2
    have e' : { s₁.setGen g .finished with heap := h' } = { s with heap := h', toks := t, gens := gs' } := by rw [e]
    have eh : s₁.heap = h := by
      have := congrArg Shared.heap e
      exact this
    exact ⟨h', t, gs', e', ab, fun b o n q => hk b o (by rw [eh]; exact k b o n q), fun b o q => let ⟨o', q'⟩ := l b o q; ⟨o', hk b o' (by rw [eh]; exact q')⟩⟩
theorem letGo_gen {elts : List Expr} {x1 : Nat} {pos : Pos} {T : Addr} {Q : Unit → Shared → Prop} (hg : s.heap.IsGen a g) (hQ : Q () s) :
    wpAny (MD w) A (letOwnedTupleGo (.Tuple elts x1 pos) (.ref a) (.ref T)) Q E s := by
  obtain ⟨o, nm, qn, ho, hc, hd, _⟩ := hg
  unfold letOwnedTupleGo
  refine wpAny_bind (wpAny_load ho ?_)
  rw [hc, hd]
  show wpAny _ A (if (["enumerate", "zip", "dict_itemiterator", "dict_reverseitemiterator", "odict_iterator", "itertools.zip_longest", "itertools.pairwise"].contains "generator" &&
      (#[.int g 0, nm, qn] : Array Value)[0]? == some (rawInt T)) = true then _ else _) Q E s
  rw [if_neg (by
    intro h
    rw [show (["enumerate", "zip", "dict_itemiterator", "dict_reverseitemiterator", "odict_iterator", "itertools.zip_longest", "itertools.pairwise"].contains "generator") = false from by decide, Bool.false_and] at h
    cases h)]
  exact wpAny_pure hQ
end
section
variable {w : World} {A : Around} {E : Value → Shared → Prop} {s : Shared} {cx : Cx} {B : Heap} {W O : Addr → Prop} {env : Env}
theorem assign_pair {x1 x2 : Str} {p1 p2 pt : Pos} {k : Nat} {a : Addr} {v1 v2 : Value} {d1 d2 : Dat} {Q : Unit → Shared → Prop} (hh : A.handled = none) (si : SI w cx B W O env s.heap) (ht : s.heap.IsTuple a #[v1, v2])
    (r1 : Rep s.heap (fun b => W b ∨ O b) v1 d1) (r2 : Rep s.heap (fun b => W b ∨ O b) v2 d2) (hv : allVars cx [(x1, p1), (x2, p2)] = true)
    (h : ∀ s', SI w ((cx.bind x1 d1).bind x2 d2) B W O env s'.heap → Ef O N0 env s s' → Q () s') : wpAny (MD w) A (assign (.Tuple [.Name x1 p1, .Name x2 p2] k pt) env (.ref a)) Q E s := by
  refine wpAny_assign_Tuple hh ht rfl rfl fun h' eb => ?_
  have kp : Kp s { s with heap := h' } := ⟨h', s.toks, ⟨_, rfl, GB.refl _⟩, fun b o e => eb b o (fun q => by rw [q, Heap.get?_none_of_le (Nat.le_refl _)] at e; cases e) e⟩
  exact assign_names [(x1, p1), (x2, p2)] [d1, d2] [v1, v2] cx { s with heap := h' } Q (si.keeps kp.k) (.cons (r1.keeps kp.k) (.cons (r2.keeps kp.k) .nil)) rfl hv fun s' i' e' => h s' i' ((Ef.kp kp).trans Grow.refl e')
end
end
section
/-- what a loop around a generator may change -/
noncomputable def Efg (O : Addr → Prop) (H : Heap) (L : Addr) (g : Nat) (env : Env) (s s' : Shared) : Prop := ∃ h tk gs, s' = { s with heap := h, toks := tk, gens := gs } ∧ GBg g s.gens gs ∧
  (∀ b o, b ≠ env.locals → (∀ n c, env.cells.lookup n = some c → b ≠ c) → ¬ O b → ¬ XS H L s.heap b → s.heap.get? b = some o → h.get? b = some o) ∧ (∀ b o, s.heap.get? b = some o → ∃ o', h.get? b = some o')
section
variable {O O' O'' : Addr → Prop} {H : Heap} {L : Addr} {g : Nat} {env : Env} {s s' s'' : Shared}
theorem Efg.of (x : Ef O N0 env s s') : Efg O H L g env s s' := by
  obtain ⟨h, t, ⟨gs, rfl, ab⟩, k, l⟩ := x
  exact ⟨h, t, gs, rfl, .of ab, fun b o n1 n2 n3 _ e => k b o n1 n2 n3 id e, fun b o e => l b o id e⟩
theorem Efg.since (x : SinceG g H L s s') : Efg O H L g env s s' := by
  obtain ⟨h, t, gs, rfl, ab, k, l⟩ := x
  exact ⟨h, t, gs, rfl, ab, fun b o _ _ _ n e => k b o n e, l⟩
theorem Efg.trans (x : Efg O H L g env s s') (gr : Grow O O' N0 s.heap) (y : Efg O' H L g env s' s'') : Efg O H L g env s s'' := by
  obtain ⟨h, t, gs, rfl, ab, k, l⟩ := x
  obtain ⟨h', t', gs', rfl, ab', k', l'⟩ := y
  refine ⟨h', t', gs', rfl, ab.trans ab', fun b o n1 n2 n3 n4 e => k' b o n1 n2 (fun q => ?_) (fun q => n4 (q.same e (k b o n1 n2 n3 n4 e))) (k b o n1 n2 n3 n4 e), fun b o e => let ⟨o', e'⟩ := l b o e; l' b o' e'⟩
  rcases gr b q with q | q | q
  · exact n3 q
  · exact q
  · rw [q] at e; cases e
theorem Efg.grow (x : Efg O H L g env s s') (gr : Grow O O' N0 s.heap) (y : Grow O' O'' N0 s'.heap) : Grow O O'' N0 s.heap := fun a q => by
  rcases y a q with q | q | q
  · exact gr a q
  · exact q.elim
  · refine .inr (.inr ?_)
    obtain ⟨h, t, gs, rfl, ab, k, l⟩ := x
    cases e : s.heap.get? a with
    | none => rfl
    | some o => obtain ⟨o', e'⟩ := l a o e; rw [q] at e'; cases e'
theorem Efg.base (x : Kp s s') (n : ∀ b o, s.heap.get? b = some o → ¬ XS H L s'.heap b) (ng : s.gens[g]? = none) (y : Efg O H L g env s' s'') : Ef O N0 env s s'' := by
  obtain ⟨h, t, ⟨gs, rfl, ab⟩, k⟩ := x
  obtain ⟨h', t', gs', rfl, ab', k', l'⟩ := y
  exact ⟨h', t', ⟨gs', rfl, fun q => ab'.1 (ab.1 q), fun i y e => ab'.2 i y (fun q => by subst q; rw [ng] at e; cases e) (ab.2 i y e)⟩, fun b o n1 n2 n3 _ e => k' b o n1 n2 n3 (n b o e) (k b o e), fun b o _ e => l' b o (k b o e)⟩
end
section
variable {w : World} {A : Around} {H : Heap} {L : Addr} {all its : List (Nat × Str)} {a : Addr} {g : Nat} {cx : Cx} {B : Heap} {W O O' : Addr → Prop} {env : Env} {s s' : Shared}
theorem gen_flds {h : Heap} (x : h.IsGen a g) : Flds h a := let ⟨o, _, _, ho, _, hd, _⟩ := x; ⟨o, _, ho, hd⟩
theorem GenAt.ef (si : SI w cx B W O env s.heap) (x : GenAt w A H L B all a g its s) (nl : ¬ XS H L s.heap env.locals) (nc : ∀ n c, env.cells.lookup n = some c → ¬ XS H L s.heap c) (hL : H.get? L = none) (e : Ef O N0 env s s') : GenAt w A H L B all a g its s' := by
  have f := gen_flds x.1
  obtain ⟨m', hm'⟩ := x.2.1
  have nls : ∀ b its, s.heap.IsList b its → ¬ XS H L s.heap b := ns_nls hm'
  obtain ⟨h, t, ⟨gs, rfl, ab⟩, k, l⟩ := e
  obtain ⟨m, hm⟩ := si.ns
  have kx : ∀ b o, XS H L s.heap b → s.heap.get? b = some o → h.get? b = some o := fun b o q e =>
    k b o (fun q' => nl (q' ▸ q)) (fun n c hc q' => nc n c hc (q' ▸ q)) (fun q' => let ⟨its, l⟩ := si.ol b q'; nls b _ l.isList q) id e
  exact x.keeps (fun o e => k a o (f.ne_ns hm).symm (fun n c hc => let ⟨v, hv⟩ := si.cel n c hc; (f.ne_cell hv).symm) (fun q => let ⟨its, l⟩ := si.ol a q; f.ne_list l.isList rfl) id e) (fun o e => kx L o ⟨hL, .inl rfl⟩ e) kx ab.2
end

section
variable {w : World} {n : Nat} {cx : Cx} {pos : Pos} {Kn Kb : Cx → Prop} {Kr : Dat → Prop}
theorem loopG {A : Around} {R : Result → Shared → Prop} {s : Shared} {target : Expr} {it : Value} {body orelse : List Stmt} {env : Env}
    (h : wpAny (MD w) A (pyNext it) (fun r s₁ => match r with
      | none => wpAny (MD w) A (execs orelse env) (fun f s₃ => R (.ok f) s₃) (notedBy (MD w) A env fun e s' => R (.error e) s') s₁
      | some v => wpAny (MD w) A (letOwnedTupleGo target it v) (fun _ s₁' => wpAny (MD w) A (assign target env v) (fun _ s₂ => wpAny (MD w) A (execs body env) (fun f s₃ => match f with
          | .next | .cont => codeAny (MD w) A (.forLoop target it body orelse env) R s₃
          | .brk => R (.ok .next) s₃
          | .ret v => R (.ok (.ret v)) s₃) (notedBy (MD w) A env fun e s' => R (.error e) s') s₂) (notedBy (MD w) A env fun e s' => R (.error e) s') s₁') (notedBy (MD w) A env fun e s' => R (.error e) s') s₁) (notedBy (MD w) A env fun e s' => R (.error e) s') s)
    : codeAny (MD w) A (.forLoop target it body orelse env) R s := by
  refine codeAny_of_tree ?_
  show wpAny _ A ((forTurn target it body orelse env).onRaise (fun x => do noteFrame x env; theTreesLotGoes x)) _ _ s
  refine wpAny_noted ?_
  simp only [forTurn]
  refine wpAny_bind (wpAny_standAt (wpAny_bind (wpAny_onRaise (wpAny_mono h (fun r s₁ h₁ => ?_) fun _ _ h' => wpAny_standAt h'))))
  cases r with
  | none => exact wpAny_pure ⟨rfl, codeAny_block h₁⟩
  | some v =>
    refine wpAny_bind (wpAny_mono h₁ (fun _ s₁' h₁' => ?_) fun _ _ h' => h')
    refine wpAny_bind (wpAny_mono h₁' (fun _ s₂ h₂ => wpAny_bind (wpAny_mono h₂ (fun f s₃ h₃ => ?_) fun _ _ h' => h')) fun _ _ h' => h')
    cases f with
    | next => exact wpAny_pure ⟨rfl, h₃⟩
    | cont => exact wpAny_pure ⟨rfl, h₃⟩
    | brk => exact wpAny_pure h₃
    | ret v => exact wpAny_pure h₃
/-- H has what stood there before the generator -/
structure Old (H : Heap) (L : Addr) (B : Heap) (env : Env) (h : Heap) : Prop where
  l : H.get? L = none
  b : ∀ b o, B.get? b = some o → ∃ o', H.get? b = some o'
  loc : ∃ o, H.get? env.locals = some o
  cel : ∀ n c, env.cells.lookup n = some c → ∃ o, H.get? c = some o
  up : ∀ b o, H.get? b = some o → ∃ o', h.get? b = some o'
section
variable {H h h' : Heap} {L : Addr} {B : Heap} {env : Env}
theorem Old.nB (x : Old H L B env h) : ∀ b o, B.get? b = some o → ¬ XS H L h' b := fun b o e q => by obtain ⟨o', e'⟩ := x.b b o e; rw [q.1] at e'; cases e'
theorem Old.nl (x : Old H L B env h) : ¬ XS H L h' env.locals := fun q => by obtain ⟨o', e'⟩ := x.loc; rw [q.1] at e'; cases e'
theorem Old.nc (x : Old H L B env h) : ∀ n c, env.cells.lookup n = some c → ¬ XS H L h' c := fun n c hc q => by obtain ⟨o', e'⟩ := x.cel n c hc; rw [q.1] at e'; cases e'
theorem Old.move (x : Old H L B env h) (k : ∀ b o, h.get? b = some o → ∃ o', h'.get? b = some o') : Old H L B env h' := ⟨x.l, x.b, x.loc, x.cel, fun b o e => let ⟨o', e'⟩ := x.up b o e; k b o' e'⟩
end
theorem Efg.ex {O : Addr → Prop} {H : Heap} {L : Addr} {g : Nat} {env : Env} {s s' : Shared} (x : Efg O H L g env s s') : ∀ b o, s.heap.get? b = some o → ∃ o', s'.heap.get? b = some o' := by
  obtain ⟨h, t, gs, rfl, _, _, l⟩ := x; exact l
noncomputable def GF (w : World) (n : Nat) (H : Heap) (L : Addr) (all : List (Nat × Str)) (a : Addr) (g : Nat) (cx : Cx) (target : Expr) (body : List Stmt) (its : List (Nat × Str)) (Kn : Cx → Prop) : Prop :=
  ∀ (A : Around) (R : Result → Shared → Prop) (env : Env) (s : Shared) (B : Heap) (W O : Addr → Prop), Rm n A → SI w cx B W O env s.heap → GenAt w A H L B all a g its s → Old H L B env s.heap →
    (∀ s', (∃ O' cx', SI w cx' B W O' env s'.heap ∧ Efg O H L g env s s' ∧ Grow O O' N0 s.heap ∧ Kn cx') → R (.ok .next) s') → codeAny (MD w) A (.forLoop target (.ref a) body [] env) R s
variable {H : Heap} {L : Addr} {all its : List (Nat × Str)} {a : Addr} {g : Nat}
theorem GF_weak {cx' : Cx} {target : Expr} {body : List Stmt} (x : GF w n H L all a g cx' target body its Kn) (hs : cx'.sc = cx.sc) (hr : SubR cx'.ρ cx.ρ) (ho : cx'.ω = cx.ω) : GF w n H L all a g cx target body its Kn :=
  fun A R env s B W O rm si => x A R env s B W O rm (si.weak hs hr.lk (.inl ho))
theorem GF_nil {target : Expr} {body : List Stmt} (h : Kn cx) : GF w n H L all a g cx target body [] Kn := fun A R env s B W O rm si ga old hR => by
  obtain ⟨_, mg, mb, mean, T⟩ := si.gh
  refine loopG (gen_done rm.handled T.nolimit rm.lt ga (fun b o e => (si.up b o e).1) old.up old.nB fun s' sg => ?_)
  obtain ⟨m, hm⟩ := ga.2.1
  refine wpAny_execs_nil (hR _ ⟨O, cx, ?_, Efg.since sg, Grow.refl, h⟩)
  obtain ⟨h', t, gs, rfl, ab, k, l⟩ := sg
  exact si.butX k old.nB old.nl old.nc (ns_nls hm)
theorem GF_cons {x1 x2 : Str} {p1 p2 pt : Pos} {k : Nat} {d : Nat × Str} {body : List Stmt} (hv : allVars cx [(x1, p1), (x2, p2)] = true)
    (h : SSs w n ((cx.bind x1 (.int d.1)).bind x2 (.str d.2)) body (fun cx' => GF w n H L all a g cx' (.Tuple [.Name x1 p1, .Name x2 p2] k pt) body its Kn) (fun _ => False) (fun _ => False)) :
    GF w n H L all a g cx (.Tuple [.Name x1 p1, .Name x2 p2] k pt) body (d :: its) Kn := fun A R env s B W O rm si ga old hR => by
  obtain ⟨_, mg, mb, mean, T⟩ := si.gh
  refine loopG (gen_next rm.handled T.nolimit rm.lt ga (fun b o e => (si.up b o e).1) old.up fun v s₁ pr ga₁ sg => ?_)
  have si₁ : SI w cx B W O env s₁.heap := by
    obtain ⟨m, hm⟩ := ga.2.1
    obtain ⟨h', t, gs, rfl, ab, k, l⟩ := sg
    exact si.butX k old.nB old.nl old.nc (ns_nls hm)
  obtain ⟨t, u1, u2, rfl, ht⟩ := pr
  have f₁ : Efg O H L g env s s₁ := Efg.since sg
  refine letGo_gen ga₁.1 (assign_pair rm.handled si₁ ht (.int _ _) (.str _ _) hv fun s₂ si₂ e₂ => ?_)
  have ga₂ := GenAt.ef si₁ ga₁ old.nl old.nc old.l e₂
  have f₂ : Efg O H L g env s₁ s₂ := Efg.of e₂
  refine wpAny_mono (h A _ env s₂ B W O rm si₂) (fun f s₃ h₃ => ?_) fun _ _ q => q
  cases f with
  | next =>
    obtain ⟨O', cx', si₃, e₃, g₃, q⟩ := h₃
    have f₃ : Efg O H L g env s₂ s₃ := Efg.of e₃
    have f₁₂ := f₁.trans Grow.refl f₂
    have f₁₃ := f₁₂.trans Grow.refl f₃
    have g₁₃ : Grow O O' N0 s.heap := f₁₂.grow Grow.refl g₃
    refine q A R env s₃ B W O' rm si₃ (GenAt.ef si₂ ga₂ old.nl old.nc old.l e₃) (old.move f₁₃.ex) fun s' ⟨O'', cx'', si', e', g', q'⟩ => hR s' ⟨O'', cx'', si', f₁₃.trans g₁₃ e', f₁₃.grow g₁₃ g', q'⟩
  | cont => exact h₃.elim
  | brk => obtain ⟨_, _, _, _, _, q⟩ := h₃; exact q.elim
  | ret v => obtain ⟨_, _, q, _⟩ := h₃; exact q.elim
/-- the value of an expression: a new generator -/
noncomputable def SGen (w : World) (n : Nat) (cx : Cx) (e : Expr) (all : List (Nat × Str)) : Prop :=
  ∀ (A : Around) (E : Value → Shared → Prop) (env : Env) (s : Shared) (B : Heap) (W O : Addr → Prop), Rm n A → SI w cx B W O env s.heap →
    wpAny (MD w) A (eval e env) (fun v s' => ∃ L a g, v = .ref a ∧ GenAt w A s.heap L B all a g all s' ∧ s.heap.get? L = none ∧ s.gens[g]? = none ∧ Kp s s') E s
theorem SS_forgen {target iter : Expr} {body : List Stmt} (hs : ∀ env x, foldedSetIterable iter env x = pure x) (h : SGen w n cx iter all) (hb : ∀ H L a g, GF w n H L all a g cx target body all Kn) : SS w n cx (.For target iter body [] pos) Kn Kr Kb := fun A E env s B W O rm si => by
  refine wpAny_For (wpAny_mono (h A E env s B W O rm si) (fun v s₁ ⟨L, a, g, e, ga, fr, ng, k⟩ => ?_) fun _ _ q => q) (hs env)
  subst e
  refine wpAny_pyIter_gen ga.1 ?_
  obtain ⟨m, om, _, _, hm, _⟩ := si.ns
  have old : Old s.heap L B env s₁.heap := ⟨fr, fun b o e => ⟨o, (si.up b o e).1⟩, ⟨om, hm⟩, fun n c hc => let ⟨v, o, ho, _⟩ := si.cel n c hc; ⟨o, ho⟩, fun b o e => ⟨o, k.k b o e⟩⟩
  refine hb s.heap L a g A _ env s₁ B W O rm (si.keeps k.k) ga old fun s' ⟨O', cx', si', e', g', q'⟩ => ?_
  refine ⟨O', cx', si', Efg.base k (fun b o e q => by rw [q.1] at e; cases e) ng e', ?_, q'⟩
  intro b q
  rcases g' b q with q | q | q
  · exact .inl q
  · exact q.elim
  · exact .inr (.inr (k.fresh q))
end
end
section
section
variable {w : World}
theorem call_gen {f : Addr} {ob : Obj} {fd : FuncData} {body : List Stmt} {xs : List Str} {ds : List Dat} {vs : List Value} (ho : (hd.heap_39 w.params).lookup f = some ob) (hdt : ob.data = .func fd)
    (hbody : fd.body = .stmts body) (hcode : codeIn (hd.heap_39 w.params) fd.code fd.qualname = true) (hclo : fd.closure = []) (hgl : fd.globals = mainGlobals) (hbl : fd.builtins = builtinsNs) (hkind : fd.scope.kind = .function) (hco : fd.scope.isCoroutine = false) (hgen : fd.scope.isGenerator = true)
    (hbinds : bindArgs fd ⟨vs, []⟩ = pure (xs.zip vs)) (hvars : ∀ x ∈ xs, fd.scope.names.lookup x = some .local) (nodup : xs.Nodup) (hcells : ∀ k, cellsFrom k fd.scope.names [] = [])
    {A : Around} {E : Value → Shared → Prop} {Q : Value → Shared → Prop} {s : Shared} {B : Heap} (rm : Rm 1 A) (g : GH w B) (hB : ∀ b o, B.get? b = some o → s.heap.get? b = some o) (rs : RepAll s.heap N0 vs ds) (hlen : ds.length = xs.length)
    (h : ∀ env s₁ a, SI w ⟨fd.scope.names, xs.zip ds, none⟩ B N0 N0 env s₁.heap → env.cells = [] → s.heap.get? env.locals = none → env.scope.isCoroutine = false → s₁.heap.IsGen a s.gens.size → s₁.gens[s.gens.size]? = some (.fresh (.func body env)) → Kp s s₁ → Q (.ref a) s₁) :
    wpAny (MD w) A (call (.ref f) vs) Q E s := by
  have hl : vs.length = xs.length := rs.length.trans hlen
  obtain ⟨X, mg, mb, mean, T⟩ := g.keeps hB
  refine wpAny_call ?_
  refine codeAny_call_generator rm.lt (X _ _ ho) hdt hco hgen hbody (codeRec_of X hcode) ?_
  rw [hbinds, hclo]
  refine wpAny_pure (wpAny_newFunctionEnv_cells hkind (fun q hq => .inl (hvars _ (List.of_mem_zip (a := q.1) (b := q.2) hq).1)) fun env he s₁ i₁ => ?_)
  have hs := i₁.toInCall.keep
  refine ⟨T.nolimit.keeps hs, ?_⟩
  have kN : env.scope.names = fd.scope.names := by rw [he]; rfl
  have kC : env.cells = [] := by rw [he]; exact hcells _
  have kF : ∀ x, env.kindOf x = fd.scope.names.lookup x := fun x => by show env.scope.names.lookup x = _; rw [kN]
  have nd := zip_fst_nodup (vs := vs) nodup
  have si : SI w ⟨fd.scope.names, xs.zip ds, none⟩ B N0 N0 env s₁.heap := by
    refine ⟨g, fun _ q => q.elim, fun b ob e => ⟨hs b ob (hB b ob e), Nat.ne_of_lt (Nat.lt_of_lt_of_le (Heap.lt_size (hB b ob e)) i₁.toInCall.fresh), fun n c hc => (by rw [kC] at hc; cases hc), id⟩,
      ⟨by rw [he]; exact hgl, by rw [he]; exact hbl, by rw [he]; exact hkind, kN, fun x hx => ?_, fun x d hx => ?_, fun _ _ e => (by cases e)⟩, (fun _ _ e => by cases e), fun a q => q.elim, ⟨_, i₁.toInCall.ns⟩, fun n c hc => (by rw [kC] at hc; cases hc), i₁.apart⟩
    · rw [kF] at hx
      obtain ⟨c, hc⟩ := cellsFrom_has fd.scope.names 0 [] x (mem_of_lookup hx)
      rw [hcells] at hc; cases hc
    · obtain ⟨v, hv, rv⟩ := zip_rep rs hx
      have e := hvars x (List.of_mem_zip hv).1
      exact ⟨v, .inl ⟨(kF x).trans e, _, i₁.toInCall.ns, bindL_some _ _ x v nd hv ((kF x).trans e)⟩, (rv.weaken fun b q => q.elim id id).keeps hs⟩
  obtain ⟨h₁, t₁, e₁⟩ := i₁.toInCall.same
  have eg : s₁.gens = s.gens := by rw [e₁]
  have pk : ∀ b o, s₁.heap.get? b = some o → (s₁.heap.push { cls := .type "generator", data := .fields #[.int s₁.gens.size 0, .str fd.name s₁.toks, .str fd.qualname (s₁.toks + 1)] }).get? b = some o := fun b o e => Heap.get?_push_of_some _ e
  refine h env _ _ (si.keeps pk) kC (Heap.get?_none_of_le i₁.toInCall.fresh) (by rw [he]; exact hco) ?_ ?_ ?_
  · rw [← eg]
    exact ⟨_, _, _, Heap.get?_push_size _ rfl, rfl, rfl, rfl⟩
  · show (s₁.gens.push _)[s.gens.size]? = _
    rw [← eg]
    simp
  · subst e₁
    refine ⟨_, _, ⟨_, rfl, fun q => q.push rfl, fun k x e => ?_⟩, fun b o e => pk b o (hs b o e)⟩
    show (s.gens.push _)[k]? = some x
    rw [Array.getElem?_push]
    have hk : k < s.gens.size := (Array.getElem?_eq_some_iff.mp e).1
    rw [if_neg (by omega)]
    exact e
theorem draws_str {A : Around} (hh : A.handled = none) (it : Addr) (x : Str) (t : Tok) :
    Draws PySem.Challenge.pw_sr0045_01 w A it [it] x.cps.size (fun i v => ∃ c u, x.cps[i]? = some c ∧ v = .str ⟨#[c]⟩ u) (fun i h => h.IsStrIter it (strIterType x) x t i) := by
  cases ha : x.cps.all (· < 128)
  · have := Draws.strWide (prog := PySem.Challenge.pw_sr0045_01) (w := w) hh it x t
    simpa [strIterType, ha] using this
  · have := Draws.strAscii (prog := PySem.Challenge.pw_sr0045_01) (w := w) hh it x t
    simpa [strIterType, ha] using this
end
/-- what _iter_escaped_chars gives of these signs -/
noncomputable def outs : Nat → Bool → List Nat → List (Nat × Str)
  | _, _, [] => []
  | k, true, c :: r => (k, Str.ofString "\\" ++ ⟨#[c]⟩) :: outs (k + 1) false r
  | k, false, c :: r => if (⟨#[c]⟩ : Str) == Str.ofString "\\" then outs (k + 1) true r else (k, ⟨#[c]⟩) :: outs (k + 1) false r
noncomputable def escEnd : Bool → List Nat → Bool
  | b, [] => b
  | true, _ :: r => escEnd false r
  | false, c :: r => escEnd ((⟨#[c]⟩ : Str) == Str.ofString "\\") r
noncomputable abbrev scG : List (Str × NameKind) := [(Str.ofString "addr", .local), (Str.ofString "pos", .local), (Str.ofString "escape", .local), (Str.ofString "ch", .local), (Str.ofString "enumerate", .globalImplicit)]
noncomputable abbrev cxG (x : Str) (esc : Bool) : Cx := ⟨scG, [(Str.ofString "escape", .bool esc), (Str.ofString "addr", .str x)], none⟩
theorem cxG_flat (x : Str) (esc : Bool) : ∀ y d, List.lookup y [(Str.ofString "escape", Dat.bool esc), (Str.ofString "addr", Dat.str x)] = some d → flatD d = true := fun y d e => by
  rw [List.lookup_cons] at e
  cases h1 : y == Str.ofString "escape" with
  | true => rw [h1] at e; cases e; rfl
  | false =>
    rw [h1] at e
    change List.lookup y [(Str.ofString "addr", Dat.str x)] = some d at e
    rw [List.lookup_cons] at e
    cases h2 : y == Str.ofString "addr" with
    | true => rw [h2] at e; cases e; rfl
    | false => rw [h2] at e; cases e
theorem strIter_enumish (x : Str) : enumish (.type (strIterType x)) := by
  unfold strIterType enumish
  split
  · exact .inr (.inl rfl)
  · exact .inr (.inr rfl)
end
section
section
variable {prog : Program} {w : World} {A : Around} {E : Value → Shared → Prop} {s : Shared}
theorem nextOf_ascii_end {it : Addr} {x : Str} {t : Tok} {i : Nat} {Q : Value → Shared → Prop} (hh : A.handled = none)
    (hit : s.heap.IsStrIter it "str_ascii_iterator" x t i) (hx : x.cps[i]? = none)
    (hE : ∀ h' e, Heap.ExtBut it s.heap h' → (∃ o, h'.get? it = some o) → (∃ o, h'.get? e = some o ∧ o.cls = .type "StopIteration") → E (.ref e) { s with heap := h' }) :
    wpAny (model prog w) A (Builtin.SmallTypes.nextOf (.ref it)) Q E s := by
  obtain ⟨o, ho, hc, hd⟩ := id hit
  unfold Builtin.SmallTypes.nextOf
  refine wpAny_bind (wpAny_callSpecial?_slot (name := Str.ofString "__next__") hit.typeIs F.slot_str_ascii_iterator_next
    (wpAny_call_entry F.slot_str_ascii_iterator_next hit.typeIs F.entry_str_ascii_iterator_next ?_ (F.args_str_ascii_iterator_next_1 _)))
  show wpAny _ _ (field (.ref it) 0 >>= _) _ _ s
  refine wpAny_bind (wpAny_field ho hd (x := .str x t) rfl ?_)
  show wpAny _ _ (field (.ref it) 1 >>= _) _ _ s
  refine wpAny_bind (wpAny_field ho hd (x := .int i 0) rfl ?_)
  simp only [Int.toNat_natCast, hx]
  refine wpAny_bind (wpAny_rule (wpAny_bind (wpAny_setField ho hd (by simp) (wpAny_bind (wpAny_letGo ?_)))))
  show wpAny _ _ (newExc (.type "StopIteration") [] >>= _) _ _ _
  refine wpAny_bind ?_
  simp only [newExc, newTuple]
  refine wpAny_bind (wpAny_newObj_type ?_ (by size_fits))
  refine wpAny_bind (m := firstArgMember _ _) (wpAny_of_eq (a := Value.none) (by first | rfl | (simp only [firstArgMember]; rfl)) ?_)
  refine wpAny_newObj_type ?_ (by size_fits)
  simp only [raiseNew]
  refine wpAny_bind (wpAny_handled ?_)
  first | rw [show A.in1.handled = none from hh] | rw [hh]
  refine wpAny_bind (wpAny_pure (wpAny_throw ?_))
  exact hE _ _ (((Heap.SameBut.update ..).extBut.push _).push _) ⟨_, Heap.get?_push_of_some _ (Heap.get?_push_of_some _ (Heap.get?_update_self _ ho (Obj.isFreed_of_fields (Obj.data_mapFields hd _))))⟩ ⟨_, Heap.get?_push_size _ rfl, rfl⟩
theorem nextOf_wide_end {it : Addr} {x : Str} {t : Tok} {i : Nat} {Q : Value → Shared → Prop} (hh : A.handled = none)
    (hit : s.heap.IsStrIter it "str_iterator" x t i) (hx : x.cps[i]? = none)
    (hE : ∀ h' e, Heap.ExtBut it s.heap h' → (∃ o, h'.get? it = some o) → (∃ o, h'.get? e = some o ∧ o.cls = .type "StopIteration") → E (.ref e) { s with heap := h' }) :
    wpAny (model prog w) A (Builtin.SmallTypes.nextOf (.ref it)) Q E s := by
  obtain ⟨o, ho, hc, hd⟩ := id hit
  unfold Builtin.SmallTypes.nextOf
  refine wpAny_bind (wpAny_callSpecial?_slot (name := Str.ofString "__next__") hit.typeIs F.slot_str_iterator_next
    (wpAny_call_entry F.slot_str_iterator_next hit.typeIs F.entry_str_iterator_next ?_ (F.args_str_iterator_next_1 _)))
  show wpAny _ _ (field (.ref it) 0 >>= _) _ _ s
  refine wpAny_bind (wpAny_field ho hd (x := .str x t) rfl ?_)
  show wpAny _ _ (field (.ref it) 1 >>= _) _ _ s
  refine wpAny_bind (wpAny_field ho hd (x := .int i 0) rfl ?_)
  simp only [Int.toNat_natCast, hx]
  refine wpAny_bind (wpAny_rule (wpAny_bind (wpAny_setField ho hd (by simp) (wpAny_bind (wpAny_letGo ?_)))))
  show wpAny _ _ (newExc (.type "StopIteration") [] >>= _) _ _ _
  refine wpAny_bind ?_
  simp only [newExc, newTuple]
  refine wpAny_bind (wpAny_newObj_type ?_ (by size_fits))
  refine wpAny_bind (m := firstArgMember _ _) (wpAny_of_eq (a := Value.none) (by first | rfl | (simp only [firstArgMember]; rfl)) ?_)
  refine wpAny_newObj_type ?_ (by size_fits)
  simp only [raiseNew]
  refine wpAny_bind (wpAny_handled ?_)
  first | rw [show A.in1.handled = none from hh] | rw [hh]
  refine wpAny_bind (wpAny_pure (wpAny_throw ?_))
  exact hE _ _ (((Heap.SameBut.update ..).extBut.push _).push _) ⟨_, Heap.get?_push_of_some _ (Heap.get?_push_of_some _ (Heap.get?_update_self _ ho (Obj.isFreed_of_fields (Obj.data_mapFields hd _))))⟩ ⟨_, Heap.get?_push_size _ rfl, rfl⟩
theorem pyNext_enum_end {e it : Addr} {x : Str} {t : Tok} {i : Nat} {k : Int} {old : Value} {Q : Option Value → Shared → Prop} (hh : A.handled = none) (he : IsEnum s.heap e it k old) (hit : s.heap.IsStrIter it (strIterType x) x t i) (hx : x.cps[i]? = none)
    (hQ : ∀ h', Heap.ExtBut it s.heap h' → (∃ o, h'.get? it = some o) → Q none { s with heap := h' }) : wpAny (model prog w) A (pyNext (.ref e)) Q E s := by
  have hT : s.TypeIs (.ref e) "enumerate" := ⟨_, he, rfl⟩
  unfold pyNext
  refine wpAny_bind (wpAny_attempt (wpAny_callSpecial?_slot (name := Str.ofString "__next__") hT F.slot_enumerate_next
    (wpAny_call_entry F.slot_enumerate_next hT F.entry_enumerate_next ?_ (F.args_enumerate_next_1 _))))
  show wpAny _ _ (field (.ref e) 2 >>= _) _ _ _
  refine wpAny_bind (wpAny_field he rfl (x := .ref it) rfl ?_)
  refine wpAny_bind ?_
  cases ha : x.cps.all (· < 128)
  · have hit' : s.heap.IsStrIter it "str_iterator" x t i := by simpa [strIterType, ha] using hit
    refine nextOf_wide_end hh hit' hx fun h' y he' ex hx' => ?_
    obtain ⟨o, ho, hc⟩ := hx'
    refine wpAny_bind (wpAny_isInstance (T := "StopIteration") (b := true) ⟨o, ho, hc⟩ isSubtype_stop ?_)
    exact wpAny_pure (hQ _ he' ex)
  · have hit' : s.heap.IsStrIter it "str_ascii_iterator" x t i := by simpa [strIterType, ha] using hit
    refine nextOf_ascii_end hh hit' hx fun h' y he' ex hx' => ?_
    obtain ⟨o, ho, hc⟩ := hx'
    refine wpAny_bind (wpAny_isInstance (T := "StopIteration") (b := true) ⟨o, ho, hc⟩ isSubtype_stop ?_)
    exact wpAny_pure (hQ _ he' ex)
end
theorem outs_cons (k : Nat) (esc : Bool) (c : Nat) (r : List Nat) : outs k esc (c :: r) = outs k esc [c] ++ outs (k + 1) (escEnd esc [c]) r := by
  cases esc with
  | true => rfl
  | false =>
    show (if ((⟨#[c]⟩ : Str) == Str.ofString "\\") = true then outs (k + 1) true r else (k, ⟨#[c]⟩) :: outs (k + 1) false r) = (if ((⟨#[c]⟩ : Str) == Str.ofString "\\") = true then [] else [(k, ⟨#[c]⟩)]) ++ outs (k + 1) ((⟨#[c]⟩ : Str) == Str.ofString "\\") r
    cases h : ((⟨#[c]⟩ : Str) == Str.ofString "\\") with
    | true => rw [if_pos rfl, if_pos rfl]; rfl
    | false => rw [if_neg (by decide), if_neg (by decide)]; rfl
theorem escEnd_cons (esc : Bool) (c : Nat) (r : List Nat) : escEnd esc (c :: r) = escEnd (escEnd esc [c]) r := by
  cases esc <;> rfl
structure Mid (e it : Addr) (x : Str) (t : Tok) (k : Nat) (h : Heap) : Prop where
  en : ∃ old, IsEnum h e it (k : Int) old
  st : h.IsStrIter it (strIterType x) x t k
section
variable {w : World} {A : Around} {H B : Heap} {L e it : Addr} {all : List (Nat × Str)} {x : Str} {t : Tok} {env : Env} {kF : Result → Sem Fin} {gd : Bool} {lv kp : List Value} {p pt p1 p2 : Pos} {kx : Nat} {gbody lbody : List Stmt}
theorem gen_loop (rm : Rm 3 A) (hloc : env.locals = L) (hL : H.get? L = none) (hce : env.cells = []) (he : H.get? e = none) (hi : H.get? it = none) (hne : e ≠ it) (hBH : ∀ b o, B.get? b = some o → ∃ o', H.get? b = some o')
    (hturn : ∀ (m k : Nat) (esc : Bool) (c : Nat) (done rest : List (Nat × Str)) (s₀ s : Shared), SI w (((cxG x esc).bind (Str.ofString "pos") (.int (k : Int))).bind (Str.ofString "ch") (.str ⟨#[c]⟩)) B N0 N0 env s.heap → Mid e it x t (k + 1) s.heap → Since H L s₀ s →
      all = done ++ outs k esc [c] ++ rest → rest.length = m →
      (∀ s₀' s', SI w (cxG x (escEnd esc [c])) B N0 N0 env s'.heap → Mid e it x t (k + 1) s'.heap → Since H L s₀' s' →
        Seg (MD w) A (genR H L) (genY H L B all) m s₀' (.forLoop (.Tuple [.Name (Str.ofString "pos") p1, .Name (Str.ofString "ch") p2] kx pt) (.ref e) lbody [] env) (.pure (.again (.forLoop (.Tuple [.Name (Str.ofString "pos") p1, .Name (Str.ofString "ch") p2] kx pt) (.ref e) lbody [] env))) [.ret kF none gd lv (.func gbody env) p kp] s') →
      Seg (MD w) A (genR H L) (genY H L B all) (m + (outs k esc [c]).length) s₀ (.forLoop (.Tuple [.Name (Str.ofString "pos") p1, .Name (Str.ofString "ch") p2] kx pt) (.ref e) lbody [] env) ((execs lbody env).wrap (loopK (.Tuple [.Name (Str.ofString "pos") p1, .Name (Str.ofString "ch") p2] kx pt) (.ref e) lbody [] env) (loopH env) id id) [.ret kF none gd lv (.func gbody env) p kp] s)
    (hend : ∀ s₀ s, SI w (cxG x false) B N0 N0 env s.heap → Since H L s₀ s → Seg (MD w) A (genR H L) (genY H L B all) 0 s₀ (.func gbody env) (kF (.ok .next)) [] s) :
    ∀ (rest : List Nat) (k : Nat) (esc : Bool) (done : List (Nat × Str)) (s₀ s : Shared), (∀ j : Nat, rest[j]? = x.cps[k + j]?) → k + rest.length = x.cps.size → escEnd esc rest = false → all = done ++ outs k esc rest →
      SI w (cxG x esc) B N0 N0 env s.heap → Mid e it x t k s.heap → Since H L s₀ s →
      Seg (MD w) A (genR H L) (genY H L B all) (outs k esc rest).length s₀ (.forLoop (.Tuple [.Name (Str.ofString "pos") p1, .Name (Str.ofString "ch") p2] kx pt) (.ref e) lbody [] env) ((MD w).den (.forLoop (.Tuple [.Name (Str.ofString "pos") p1, .Name (Str.ofString "ch") p2] kx pt) (.ref e) lbody [] env)) [.ret kF none gd lv (.func gbody env) p kp] s := by
  intro rest
  have rmo : Rm 2 (A.over (.forLoop (.Tuple [.Name (Str.ofString "pos") p1, .Name (Str.ofString "ch") p2] kx pt) (.ref e) lbody [] env) [.ret kF none gd lv (.func gbody env) p kp]) := rm.overL
  have xse : ∀ {h : Heap} {k : Nat}, Mid e it x t k h → XS H L h e := fun m => ⟨he, .inr (let ⟨old, q⟩ := m.en; ⟨_, q, .inl rfl⟩)⟩
  have xsi : ∀ {h : Heap} {k : Nat}, Mid e it x t k h → XS H L h it := fun m => ⟨hi, .inr (let ⟨o, q, c, _⟩ := m.st; ⟨o, q, by rw [c]; exact strIter_enumish x⟩)⟩
  induction rest with
  | nil =>
    intro k esc done s₀ s hx hk hesc hall si mid since
    have hk' : k = x.cps.size := by simpa using hk
    change esc = false at hesc
    subst hesc
    refine seg_forLoop ?_
    obtain ⟨old, hen⟩ := mid.en
    refine pyNext_enum_end rmo.handled hen mid.st (by rw [hk']; simp) fun h' hk₂ hex => ?_
    show Seg _ A _ _ _ s₀ _ (leafOf (.ok .next)) _ _
    refine seg_leaf (.ok .next) (hend _ _ ?_ (since.trans ?_))
    · have f : Flds s.heap it := let ⟨o, a, b, c⟩ := mid.st; ⟨o, _, a, c⟩
      exact si.flds hk₂ f (by
        cases q : B.get? it with
        | none => rfl
        | some o => obtain ⟨o', e'⟩ := hBH _ _ q; rw [hi] at e'; cases e')
    · refine ⟨h', s.toks, ⟨_, rfl, GB.refl _⟩, fun b o n q => hk₂ b o (fun e' => n (e' ▸ xsi mid)) q, fun b o q => ?_⟩
      by_cases h2 : b = it
      · subst h2; exact hex
      · exact ⟨o, hk₂ b o h2 q⟩
  | cons c r ih =>
    intro k esc done s₀ s hx hk hesc hall si mid since
    have hc : x.cps[k]? = some c := by have := hx 0; simpa using this.symm
    have hlt : k < x.cps.size := (Array.getElem?_eq_some_iff.mp hc).1
    refine seg_forLoop ?_
    obtain ⟨old, hen⟩ := mid.en
    have D := draws_str (w := w) (A := (A.over (.forLoop (.Tuple [.Name (Str.ofString "pos") p1, .Name (Str.ofString "ch") p2] kx pt) (.ref e) lbody [] env) [.ret kF none gd lv (.func gbody env) p kp]).in1) rmo.handled it x t
    refine wpAny_pyNext_enum_itemD D hen mid.st hlt hne (by simpa using hne) fun v h' tk ⟨c', u, hc', hv⟩ heo st' htup hsz hkeep => ?_
    rw [hc] at hc'; cases hc'
    subst hv
    refine wpAny_letOwnedTupleGo_enum heo fun h₂ he₂ hs₂ => ?_
    replace hs₂ : Heap.SameBut e h' h₂ := hs₂
    have hkeep₂ : ∀ b o, b ≠ e → b ≠ it → s.heap.get? b = some o → h₂.get? b = some o := fun b o n1 n2 q => hs₂.extBut b o n1 (hkeep b o n1 n2 q)
    have fe : Flds s.heap e := ⟨_, _, hen, rfl⟩
    have fi : Flds s.heap it := let ⟨o, a, b, c⟩ := mid.st; ⟨o, _, a, c⟩
    obtain ⟨mm, hmm⟩ := si.ns
    have si₂ : SI w (cxG x esc) B N0 N0 env h₂ := si.butX (X := fun b => b = e ∨ b = it) (fun b o n q => hkeep₂ b o (fun q' => n (.inl q')) (fun q' => n (.inr q')) q)
      (fun b o q q' => by
        obtain ⟨o', e'⟩ := hBH _ _ q
        rcases q' with rfl | rfl
        · rw [he] at e'; cases e'
        · rw [hi] at e'; cases e')
      (fun q => q.elim (fe.ne_ns hmm) (fi.ne_ns hmm)) (fun n c hc => by rw [hce] at hc; cases hc) (fun b its l q => q.elim (fe.ne_list l) (fi.ne_list l))
    have ht₂ : h₂.IsTuple s.heap.objs.size #[.int (k : Int) tk, .str ⟨#[c]⟩ u] := ⟨_, hs₂.extBut _ _ (Nat.ne_of_gt (Heap.lt_size hen)) htup, rfl, _, rfl⟩
    have mid₂ : Mid e it x t (k + 1) h₂ := ⟨⟨_, by simpa using he₂⟩, st'.extBut hs₂.extBut (Ne.symm hne)⟩
    have since₂ : Since H L s { s with heap := h₂, toks := tk + 1 } := ⟨h₂, tk + 1, ⟨_, rfl, GB.refl _⟩, fun b o n q => hkeep₂ b o (fun e' => n (e' ▸ xse mid)) (fun e' => n (e' ▸ xsi mid)) q, fun b o q => by
      by_cases h1 : b = e
      · subst h1; exact ⟨_, he₂⟩
      · by_cases h2 : b = it
        · subst h2; obtain ⟨o', q', _⟩ := mid₂.st; exact ⟨o', q'⟩
        · exact ⟨o, hkeep₂ b o h1 h2 q⟩⟩
    refine assign_pair (s := { s with heap := h₂, toks := tk + 1 }) rmo.handled si₂ ht₂ (.int _ _) (.str _ _) (by rfl) fun s₃ si₃ e₃ => ?_
    have mid₃ : Mid e it x t (k + 1) s₃.heap := by
      obtain ⟨h₃, t₃, ⟨gs, rfl, ab⟩, k₃, _⟩ := e₃
      obtain ⟨mm, hmm⟩ := si₂.ns
      have kk : ∀ b o, Flds h₂ b → h₂.get? b = some o → h₃.get? b = some o := fun b o f q => k₃ b o (f.ne_ns hmm).symm (fun n c hc => by rw [hce] at hc; cases hc) id id q
      obtain ⟨old₂, hen₂⟩ := mid₂.en
      obtain ⟨o, a, b, c⟩ := mid₂.st
      exact ⟨⟨old₂, kk _ _ ⟨_, _, hen₂, rfl⟩ hen₂⟩, ⟨o, kk _ _ ⟨_, _, a, c⟩ a, b, c⟩⟩
    have since₃ : Since H L s₀ s₃ := (since.trans since₂).trans (Since.ef e₃ hloc hL hce)
    rw [outs_cons] at hall ⊢
    rw [escEnd_cons] at hesc
    rw [List.length_append, Nat.add_comm]
    refine hturn _ k esc c done (outs (k + 1) (escEnd esc [c]) r) s₀ s₃ si₃ mid₃ since₃ (by rw [hall, List.append_assoc]) rfl fun s₀' s' si' mid' since' => ?_
    refine seg_again rfl (ih (k + 1) (escEnd esc [c]) (done ++ outs k esc [c]) s₀' s' (fun j => ?_) ?_ hesc (by rw [hall, List.append_assoc]) si' mid' since')
    · have := hx (j + 1)
      simpa [Nat.add_assoc, Nat.add_comm 1 j] using this
    · rw [List.length_cons] at hk; omega
end
end
section
section
variable {w : World} {A : Around} {n nn : Nat} {H B : Heap} {L : Addr} {all : List (Nat × Str)} {env : Env} {c : Code} {fs : List Frame} {s₀ s : Shared} {K : Flow → Sem Fin} {Hr : Value → Sem Fin} {gd : Bool → Bool} {lv : List Value → List Value}
theorem SI.flat0 {sc : List (Str × NameKind)} {ρ : List (Str × Dat)} {W O : Addr → Prop} {h : Heap} (x : SI w ⟨sc, ρ, none⟩ B W O env h) (hf : ∀ y d, ρ.lookup y = some d → flatD d = true) : SI w ⟨sc, ρ, none⟩ B N0 N0 env h :=
  ⟨x.g, fun _ q => q.elim, fun b o e => ⟨(x.up b o e).1, (x.up b o e).2.1, (x.up b o e).2.2.1, id⟩, ⟨x.ok.globals, x.ok.builtins, x.ok.kind, x.ok.names, x.ok.cells, fun y d e => let ⟨u, p, q⟩ := x.ok.var y d e; ⟨u, p, q.flat (hf y d e)⟩, fun _ _ e => (by cases e)⟩, fun _ _ e => (by cases e), fun a q => q.elim, x.ns, x.cel, x.apart⟩
theorem lookup_flat : ∀ {ρ : List (Str × Dat)}, ρ.all (fun q => flatD q.2) = true → ∀ y d, ρ.lookup y = some d → flatD d = true
  | [], _, _, _, e => by cases e
  | (z, d') :: ρ, h, y, d, e => by
    rw [List.all_cons, Bool.and_eq_true] at h
    rw [List.lookup_cons] at e
    cases hy : y == z with
    | true => rw [hy] at e; cases e; exact h.1
    | false => rw [hy] at e; exact lookup_flat h.2 y d e
theorem seg_SS {R : GenEnd} {Y : Protocol} {st : Stmt} {rest : List Stmt} {cx : Cx} {Kn : Cx → Prop} {W O : Addr → Prop} (rm : Rm n (A.over c fs)) (si : SI w cx B W O env s.heap) (h : SS w n cx st Kn (fun _ => False) (fun _ => False))
    (k : ∀ O' cx' s', SI w cx' B W O' env s'.heap → Ef O N0 env s s' → Kn cx' → Seg (MD w) A R Y nn s₀ c ((execs rest env).wrap K Hr gd lv) fs s') : Seg (MD w) A R Y nn s₀ c ((execs (st :: rest) env).wrap K Hr gd lv) fs s := by
  refine seg_execs_cons (seg_plain (wpAny_mono (h _ _ env s B W O rm si) (fun f s' hf => ?_) fun _ _ q => q))
  cases f with
  | next => obtain ⟨O', cx', p1, p2, p3, p4⟩ := hf; exact k O' cx' s' p1 p2 p4
  | brk => obtain ⟨_, _, _, _, _, q⟩ := hf; exact q.elim
  | cont => exact hf.elim
  | ret v => obtain ⟨_, _, q, _⟩ := hf; exact q.elim
theorem seg_yield_pair {e1 e2 : Expr} {kx : Nat} {tp yp pos : Pos} {cx : Cx} {k m : Nat} {y : Str} {done rest : List (Nat × Str)} {W O : Addr → Prop} (hfs : splitAtGen fs = none) (hgd : gd false = false) (hfg : fs.any Frame.guarded = false) (rm : Rm n (A.over c fs)) (si : SI w cx B W O env s.heap) (hco : env.scope.isCoroutine = false)
    (sl : SL w n cx tp [e1, e2] fun ds => ds = [.int (k : Int), .str y]) (since : Since H L s₀ s) (hns : ∃ mm, s.heap.Ns L mm) (hall : all = done ++ (k, y) :: rest) (hm : rest.length = m)
    (hk : ∀ s'', (∀ b o, XS H L s.heap b → s.heap.get? b = some o → s''.heap.get? b = some o) → (∀ b o, B.get? b = some o → s''.heap.get? b = some o) → (∀ b o, H.get? b = some o → ∃ o', s''.heap.get? b = some o') → Seg (MD w) A (genR H L) (genY H L B all) m s'' c (K .next) fs s'') :
    Seg (MD w) A (genR H L) (genY H L B all) (m + 1) s₀ c ((exec (.Expr (.Yield (some (.Tuple [e1, e2] kx tp)) yp) pos) env).wrap K Hr gd lv) fs s := by
  refine seg_Expr_Yield hfs hgd hfg (wpAny_Tuple (wpAny_mono (sl _ _ env s _ rm si.gh si.wok si.ok) (fun vs s₁ ⟨ds, rs, e, k₁⟩ => ?_) fun _ _ q => q)) hco (by unfold interactive; rw [si.ok.kind]; rfl)
  · subst e
    cases rs with
    | cons r1 rs =>
    cases rs with
    | cons r2 rs =>
    cases rs
    cases r1 with
    | int _ t1 =>
    cases r2 with
    | str _ t2 =>
    refine ⟨(by show 2 ≤ sizeLine; decide), fun kap hkap => ⟨⟨done, (k, y), rest, hall, hm, ⟨_, t1, t2, rfl, ⟨_, Heap.get?_push_size _ rfl, rfl, _, rfl⟩⟩⟩, ⟨since.trans (Since.kp (k₁.trans (Kp.push _ _))), ?_⟩, fun s'' ag => hkap .none s'' (hk s'' (fun b o hb e => ?_) ag.2.1 ag.2.2)⟩⟩
    · obtain ⟨mm, h⟩ := hns
      exact ⟨mm, (h.keeps k₁.k).keeps fun b o e => Heap.get?_push_of_some _ e⟩
    · have e' : (s₁.heap.push { cls := .type "tuple", data := .seq [Value.int (k : Int) t1, Value.str y t2].toArray }).get? b = some o := Heap.get?_push_of_some _ (k₁.k b o e)
      exact ag.1 b o ⟨hb.1, hb.2.imp id fun ⟨o', p, q⟩ => ⟨o, e', by rw [e] at p; cases p; exact q⟩⟩ e'
end
section
variable {w : World} {e it : Addr} {x : Str} {t : Tok} {k : Nat} {h h' H : Heap} {L : Addr}
theorem Mid.keeps (m : Mid e it x t k h) (ke : ∀ o, h.get? e = some o → h'.get? e = some o) (ki : ∀ o, h.get? it = some o → h'.get? it = some o) : Mid e it x t k h' :=
  ⟨let ⟨old, q⟩ := m.en; ⟨old, ke _ q⟩, let ⟨o, a, b, c⟩ := m.st; ⟨o, ki _ a, b, c⟩⟩
theorem Mid.agree (m : Mid e it x t k h) (he : H.get? e = none) (hi : H.get? it = none) (hx : ∀ b o, XS H L h b → h.get? b = some o → h'.get? b = some o) : Mid e it x t k h' :=
  m.keeps (fun o => hx e o ⟨he, .inr (let ⟨old, q⟩ := m.en; ⟨_, q, .inl rfl⟩)⟩) (fun o => hx it o ⟨hi, .inr (let ⟨o, q, c, _⟩ := m.st; ⟨o, q, by rw [c]; exact strIter_enumish x⟩)⟩)
theorem Mid.ef {cx : Cx} {B : Heap} {W : Addr → Prop} {env : Env} {s s' : Shared} (si : SI w cx B W N0 env s.heap) (m : Mid e it x t k s.heap) (hce : env.cells = []) (y : Ef N0 N0 env s s') : Mid e it x t k s'.heap := by
  obtain ⟨h₃, t₃, ⟨gs, rfl, ab⟩, k₃, _⟩ := y
  obtain ⟨mm, hmm⟩ := si.ns
  have kk : ∀ b o, Flds s.heap b → s.heap.get? b = some o → h₃.get? b = some o := fun b o f q => k₃ b o (f.ne_ns hmm).symm (fun n c hc => by rw [hce] at hc; cases hc) id id q
  exact m.keeps (fun o q => kk _ _ (let ⟨old, q⟩ := m.en; ⟨_, _, q, rfl⟩) q) (fun o q => kk _ _ (let ⟨o, a, b, c⟩ := m.st; ⟨o, _, a, c⟩) q)
end
section
variable {w : World}
theorem g_iter {cx : Cx} {x y : Str} {fp ip cp : Pos} (hk : cx.sc.lookup (Str.ofString "_iter_escaped_chars") = some .globalImplicit) (hf : nsIn (hd.heap_39 w.params) mainGlobals (Str.ofString "_iter_escaped_chars") = some (some (.ref 53)))
    (hl : cx.ρ.lookup y = some (.str x)) (hdb : (y == ("__debug__" : Str)) = false) (hsz : x.cps.size ≤ 1000) (hesc : escEnd false x.cps.toList = false) (hst : ∀ env, starEach [.Name y ip] env = (false, eval (.Name y ip) env) :: starEach [] env) :
    SGen w 5 cx (.Call (.Name (Str.ofString "_iter_escaped_chars") fp) [.Name y ip] [] cp) (outs 0 false x.cps.toList) := by
  intro A E env₀ s B W O rm si
  refine Call_Name rfl (name_global si.gh si.ok hk hf (by decide) ?_)
  have sl : SL w 5 cx cp [.Name y ip] (fun ds => ds = [.str x]) := SL_cons (SE_name hl (SL_nil rfl) hdb) hst
  obtain ⟨ob, fd, hob, hdt⟩ : ∃ ob fd, (hd.heap_39 w.params).lookup 53 = some ob ∧ ob.data = .func fd := ⟨_, _, by k_is, by rfl⟩
  refine callWith_def hdt (wpAny_mono (sl A E env₀ s _ rm si.gh si.wok si.ok) (fun vs s₁ ⟨ds, rs, e, k₁⟩ => ⟨k₁.k _ _ (si.gh.1 _ _ hob), ?_⟩) fun _ _ q => q) (hst env₀)
  clear hob hdt ob fd
  subst e
  cases rs with
  | cons r rs =>
  cases rs
  cases r with
  | str _ t =>
  have hB₁ : ∀ b o, B.get? b = some o → s₁.heap.get? b = some o := fun b o e => k₁.k _ _ (si.up b o e).1
  refine call_gen (xs := [Str.ofString "addr"]) (ds := [.str x]) (by k_is) (by rfl) (by rfl) (by k_is) (by rfl) (by rfl) (by rfl) (by rfl) (by rfl) (by rfl) (by rfl) (by decide) (by decide) (fun k => by rfl) (rm.le (by omega)) si.g hB₁ (.cons (.str x t) .nil) rfl fun env s₂ a sig hcel hloc hcor hgen hgs k₂ => ?_
  obtain ⟨H, hH⟩ : ∃ H, H = s.heap := ⟨_, rfl⟩
  have hL : H.get? env.locals = none := by rw [hH]; exact k₁.fresh hloc
  have hBH : ∀ b o, B.get? b = some o → ∃ o', H.get? b = some o' := fun b o e => ⟨o, by rw [hH]; exact (si.up b o e).1⟩
  rw [← hH]
  refine ⟨env.locals, a, s₁.gens.size, rfl, ⟨hgen, sig.ns, ⟨[], rfl⟩, _, hgs, fun s'' ag => ⟨rfl, seg_func ?_⟩⟩, hL, ?_, k₁.trans k₂⟩
  · have rmF : ∀ {body : List Stmt}, Rm 3 (A.in1.over (.func body env) []) := fun {body} => Rm.overF (rm.in1)
    have si'' : SI w ⟨scG, [(Str.ofString "addr", .str x)], none⟩ B N0 N0 env s''.heap := SI.agree sig (fun o e => ag.1 _ o ⟨hL, .inl rfl⟩ e) hcel ag.2.1 (lookup_flat (by rfl))
    refine seg_SS (Kn := fun cx' => cx' = ⟨scG, [(Str.ofString "pos", .int 0), (Str.ofString "addr", .str x)], none⟩) rmF si'' ?_ fun O₃ cx₃ s₃ si₃ e₃ q₃ => ?_
    · repeat walk_at "s"
      rfl
    subst q₃
    refine seg_SS (Kn := fun cx' => cx' = ⟨scG, [(Str.ofString "escape", .bool false), (Str.ofString "pos", .int 0), (Str.ofString "addr", .str x)], none⟩) rmF (si₃.flat0 (lookup_flat (by rfl))) ?_ fun O₄ cx₄ s₄ si₄ e₄ q₄ => ?_
    · repeat walk_at "s"
      rfl
    subst q₄
    have si₅ : SI w (cxG x false) B N0 N0 env s₄.heap := (si₄.flat0 (lookup_flat (by rfl))).weak rfl (SubR.lk ⟨rfl, rfl, trivial⟩) (.inl rfl)
    have since₄ : Since H env.locals s'' s₄ := (Since.ef e₃ rfl hL hcel).trans (Since.ef e₄ rfl hL hcel)
    have ex₄ : ∀ b o, H.get? b = some o → ∃ o', s₄.heap.get? b = some o' := fun b o e => by
      obtain ⟨o', e'⟩ := ag.2.2 b o e
      obtain ⟨h, tk, ⟨gs, rfl, _⟩, _, l⟩ := since₄
      exact l b o' e'
    refine seg_execs_cons (seg_For (fun _ => rfl) (Call_Name rfl (name_builtin si₅.gh si₅.ok (by rfl) (by k_is) PyProof.Rows.Boot.«enumerate» (by decide) (by decide) ?_)))
    refine PyProof.Rows.callWith_type1 (wpAny_mono ((?_ : SL w 3 _ _ _ (fun ds => ds = [Dat.str x])) _ _ env s₄ _ rmF si₅.gh si₅.wok si₅.ok) (fun vs s₅ ⟨ds, rs, e, k₅⟩ => ?_) fun _ _ q => q) rfl rfl
    · repeat walk_at "s"
      exact rfl
    subst e
    cases rs with
    | cons r rs =>
    cases rs
    cases r with
    | str _ t' =>
    refine call_enumerate_str fun h' hen hit hsz' hk' => wpAny_pyIter_enum hen fun p => ?_
    obtain ⟨e, he⟩ : ∃ e, e = s₅.heap.objs.size + 1 := ⟨_, rfl⟩
    obtain ⟨it, hi⟩ : ∃ it, it = s₅.heap.objs.size := ⟨_, rfl⟩
    rw [← he, ← hi] at hen
    rw [← hi] at hit
    rw [← he]
    have ex₅ : ∀ b o, H.get? b = some o → ∃ o', s₅.heap.get? b = some o' := fun b o e => let ⟨o', e'⟩ := ex₄ b o e; ⟨o', k₅.k _ _ e'⟩
    have out : ∀ b, s₅.heap.objs.size ≤ b → H.get? b = none := fun b hb => by
      cases q : H.get? b with
      | none => rfl
      | some o => obtain ⟨o', e'⟩ := ex₅ b o q; rw [Heap.get?_none_of_le hb] at e'; cases e'
    have k₆ : Kp s₅ { s₅ with heap := h' } := ⟨h', s₅.toks, ⟨_, rfl, GB.refl _⟩, hk'⟩
    refine gen_loop (x := x) (t := t') (e := e) (it := it) (H := H) (L := env.locals) (B := B) (A := A.in1) (rm.in1.le (by decide)) rfl hL hcel (out _ (by omega)) (out _ (by omega)) (by rw [he, hi]; exact Nat.succ_ne_self _) hBH ?_ ?_ x.cps.toList 0 false [] s'' { s₅ with heap := h' } (fun j => by simp) (by simp) hesc rfl (si₅.keeps fun b o e => hk' _ _ (k₅.k _ _ e)) ⟨⟨.none, hen⟩, hit⟩ (since₄.trans ((Since.kp k₅).trans (Since.kp k₆)))
    · intro m k esc c done rest s₀ s' si mid since hall hm hk
      refine seg_execs_cons (seg_If (wpAny_mono ((?_ : ST w 2 _ _ (fun b => b = esc)) _ _ env s' _ (rm.in1.le (by decide) : Rm 3 A.in1).overL si.gh si.wok si.ok) (fun b s₂ ⟨hb, k₂⟩ => ?_) fun _ _ q => q))
      · refine ST_val ?_ (fun _ _ => by rfl)
        repeat walk_at "s"
        rfl
      subst hb
      have since₂ := since.trans (Since.kp (H := H) (L := env.locals) k₂)
      have mid₂ : Mid e it x t' (k + 1) s₂.heap := mid.keeps (k₂.k _) (k₂.k _)
      have si₂ := si.keeps k₂.k
      have he0 : H.get? e = none := out _ (by omega)
      have hi0 : H.get? it = none := out _ (by omega)
      cases b with
      | true =>
        rw [if_pos rfl]
        refine seg_execs_cons (seg_yield_pair (k := k) (y := Str.ofString "\\" ++ ⟨#[c]⟩) (done := done) (rest := rest) rfl rfl rfl (rm.in1.le (by decide) : Rm 3 A.in1).overL si₂ hcor ?_ since₂ si₂.ns (by rw [hall, List.append_assoc]; rfl) hm fun s₃ hx hB hH => ?_)
        · repeat walk_at "s"
          refine Ob_adds (by show 1 + 1 ≤ sizeLine; decide) ?_
          repeat walk_at "s"
          rfl
        · show Seg _ _ _ _ _ _ _ ((execs _ env).wrap _ _ _ _) _ _
          have si₃ := SI.agree (sc := scG) (ρ := [(Str.ofString "ch", .str ⟨#[c]⟩), (Str.ofString "pos", .int (k : Int)), (Str.ofString "escape", .bool true), (Str.ofString "addr", .str x)]) si₂ (fun o => hx env.locals o ⟨hL, .inl rfl⟩) hcel hB (lookup_flat (by rfl))
          have mid₃ := mid₂.agree he0 hi0 hx
          refine seg_SS (Kn := fun cx' => cx' = ⟨scG, [(Str.ofString "escape", .bool false), (Str.ofString "ch", .str ⟨#[c]⟩), (Str.ofString "pos", .int (k : Int)), (Str.ofString "escape", .bool true), (Str.ofString "addr", .str x)], none⟩) ((rm.in1.le (by decide) : Rm 3 A.in1).overL) si₃ ?_ fun O₄ cx₄ s₄ si₄ e₄ q₄ => ?_
          · repeat walk_at "s"
            rfl
          subst q₄
          refine seg_execs_nil ?_
          show Seg _ _ _ _ _ _ _ ((execs [] env).wrap _ _ _ _) _ _
          refine seg_execs_nil ?_
          exact hk s₃ s₄ ((si₄.flat0 (lookup_flat (by rfl))).weak rfl (SubR.lk ⟨rfl, rfl, trivial⟩) (.inl rfl)) (mid₃.ef si₃ hcel e₄) (Since.ef e₄ rfl hL hcel)
      | false =>
        rw [if_neg (by decide)]
        obtain ⟨q, hq⟩ : ∃ q, q = ((⟨#[c]⟩ : Str) == Str.ofString "\\") := ⟨_, rfl⟩
        have ho : outs k false [c] = if q = true then [] else [(k, ⟨#[c]⟩)] := by rw [hq]; rfl
        have hE : escEnd false [c] = q := hq.symm
        rw [ho] at hall ⊢
        rw [hE] at hk
        refine seg_execs_cons (seg_If (wpAny_mono ((?_ : ST w 2 _ _ (fun b => b = q)) _ _ env s₂ _ (rm.in1.le (by decide) : Rm 3 A.in1).overL si₂.gh si₂.wok si₂.ok) (fun b s₃ ⟨hb, k₃⟩ => ?_) fun _ _ q => q))
        · repeat walk_at "s"
          refine Oc_Eqs ?_
          exact ⟨_, rfl, hq.symm⟩
        subst hb
        have since₃ := since₂.trans (Since.kp (H := H) (L := env.locals) k₃)
        have mid₃ : Mid e it x t' (k + 1) s₃.heap := mid₂.keeps (k₃.k _) (k₃.k _)
        have si₃ := si₂.keeps k₃.k
        cases b with
        | true =>
          rw [if_pos rfl]
          refine seg_SS (Kn := fun cx' => cx' = ⟨scG, [(Str.ofString "escape", .bool true), (Str.ofString "ch", .str ⟨#[c]⟩), (Str.ofString "pos", .int (k : Int)), (Str.ofString "escape", .bool false), (Str.ofString "addr", .str x)], none⟩) ((rm.in1.le (by decide) : Rm 3 A.in1).overL) si₃ ?_ fun O₄ cx₄ s₄ si₄ e₄ q₄ => ?_
          · repeat walk_at "s"
            rfl
          subst q₄
          refine seg_execs_nil ?_
          show Seg _ _ _ _ _ _ _ ((execs [] env).wrap _ _ _ _) _ _
          refine seg_execs_nil ?_
          show Seg _ _ _ _ _ _ _ ((execs [] env).wrap _ _ _ _) _ _
          refine seg_execs_nil ?_
          exact hk s₀ s₄ ((si₄.flat0 (lookup_flat (by rfl))).weak rfl (SubR.lk ⟨rfl, rfl, trivial⟩) (.inl rfl)) (mid₃.ef si₃ hcel e₄) (since₃.trans (Since.ef e₄ rfl hL hcel))
        | false =>
          rw [if_neg (by decide)]
          rw [if_neg (by decide)] at hall ⊢
          refine seg_execs_cons (seg_yield_pair (k := k) (y := ⟨#[c]⟩) (done := done) (rest := rest) rfl rfl rfl (rm.in1.le (by decide) : Rm 3 A.in1).overL si₃ hcor ?_ since₃ si₃.ns (by rw [hall, List.append_assoc]; rfl) hm fun s₄ hx hB hH => ?_)
          · repeat walk_at "s"
            rfl
          · show Seg _ _ _ _ _ _ _ ((execs _ env).wrap _ _ _ _) _ _
            refine seg_execs_nil ?_
            show Seg _ _ _ _ _ _ _ ((execs [] env).wrap _ _ _ _) _ _
            refine seg_execs_nil ?_
            show Seg _ _ _ _ _ _ _ ((execs [] env).wrap _ _ _ _) _ _
            refine seg_execs_nil ?_
            have si₄ := SI.agree (sc := scG) (ρ := [(Str.ofString "ch", .str ⟨#[c]⟩), (Str.ofString "pos", .int (k : Int)), (Str.ofString "escape", .bool false), (Str.ofString "addr", .str x)]) si₃ (fun o => hx env.locals o ⟨hL, .inl rfl⟩) hcel hB (lookup_flat (by rfl))
            exact hk s₄ s₄ (si₄.weak rfl (SubR.lk ⟨rfl, rfl, trivial⟩) (.inl rfl)) (mid₃.agree he0 hi0 hx) (Since.refl _)
    · intro s₀ s' si since
      show Seg _ _ _ _ _ _ _ ((execs _ env).wrap _ _ _ _) _ _
      refine seg_execs_cons (seg_If (wpAny_mono ((?_ : ST w 2 _ _ (fun b => b = false)) _ _ env s' _ (rmF.le (by decide)) si.gh si.wok si.ok) (fun b s₂ ⟨hb, k₂⟩ => ?_) fun _ _ q => q))
      · refine ST_val ?_ (fun _ _ => by rfl)
        repeat walk_at "s"
        rfl
      subst hb
      rw [if_neg (by decide)]
      refine seg_execs_nil ?_
      show Seg _ _ _ _ _ _ _ ((execs [] env).wrap _ _ _ _) _ _
      refine seg_execs_nil ?_
      exact seg_end (.ok (.ret .none)) ⟨rfl, rfl, since.trans (Since.kp k₂)⟩
  · obtain ⟨h₁, t₁, ⟨gs₁, rfl, ab⟩, _⟩ := k₁
    cases e : s.gens[gs₁.size]? with
    | none => rfl
    | some z =>
      have := ab.2 _ _ e
      simp at this
end
end
section
noncomputable def stripF (x : Str) : List (Nat × Str) → Nat → Option Nat → List Str → Nat × Option Nat × List Str
  | [], st, op, res => (st, op, res)
  | (p, y) :: r, st, op, res => if (y == Str.ofString "\"") = true then (match op with
      | none => stripF x r st (some p) res
      | some q => stripF x r (p + 1) none (if (((st : Int)) != (q : Int)) = true then res ++ [Txt.slice x (some (st : Int)) (some (q : Int))] else res)) else stripF x r st op res
noncomputable def stripped (x : Str) : Str :=
  let F := stripF x (outs 0 false x.cps.toList) 0 none []
  Txt.join (Str.ofString "") (if ((F.1 : Nat) : Int) < (x.length : Int) then F.2.2 ++ [Txt.slice x (some (F.1 : Int)) none] else F.2.2)
theorem stripF_res (x : Str) (hx : x.length ≤ 50) : ∀ (its : List (Nat × Str)) (st : Nat) (op : Option Nat) (res : List Str), (∀ y ∈ res, y.length ≤ 50) → (∀ y ∈ (stripF x its st op res).2.2, y.length ≤ 50) ∧ (stripF x its st op res).2.2.length ≤ res.length + its.length
  | [], st, op, res, h => ⟨h, Nat.le_refl _⟩
  | (p, y) :: r, st, op, res, h => by
    unfold stripF
    split
    · split
      · have := stripF_res x hx r st (some p) res h
        exact ⟨this.1, by rw [List.length_cons]; omega⟩
      · rename_i q
        split
        · have := stripF_res x hx r (p + 1) none (res ++ [Txt.slice x (some (st : Int)) (some (q : Int))]) (fun y hy => by
            rcases List.mem_append.mp hy with hy | hy
            · exact h y hy
            · rw [List.mem_singleton] at hy; subst hy; exact Nat.le_trans (Txt.slice_le x _ _) hx)
          refine ⟨this.1, ?_⟩
          have h2 := this.2
          rw [List.length_append, List.length_singleton] at h2
          rw [List.length_cons]; omega
        · have := stripF_res x hx r (p + 1) none res h
          exact ⟨this.1, by rw [List.length_cons]; omega⟩
    · have := stripF_res x hx r st op res h
      exact ⟨this.1, by rw [List.length_cons]; omega⟩
theorem outs_len : ∀ (l : List Nat) (k : Nat) (b : Bool), (outs k b l).length ≤ l.length
  | [], _, _ => by unfold outs; exact Nat.le_refl _
  | c :: r, k, true => by
    have := outs_len r (k + 1) false
    show ((k, _) :: outs (k + 1) false r).length ≤ _
    rw [List.length_cons, List.length_cons]; omega
  | c :: r, k, false => by
    have h1 := outs_len r (k + 1) true
    have h2 := outs_len r (k + 1) false
    show (if _ then outs (k + 1) true r else (k, _) :: outs (k + 1) false r).length ≤ _
    split
    · rw [List.length_cons]; omega
    · rw [List.length_cons, List.length_cons]; omega
noncomputable def optD : Option Nat → Dat
  | none => .none
  | some q => .int (q : Int)
noncomputable abbrev sc60 : List (Str × NameKind) := [(Str.ofString "addr", .local), (Str.ofString "start", .local), (Str.ofString "open_pos", .local), (Str.ofString "result", .local), (Str.ofString "pos", .local), (Str.ofString "ch", .local), (Str.ofString "_iter_escaped_chars", .globalImplicit), (Str.ofString "len", .globalImplicit)]
noncomputable abbrev cxS (x : Str) (st : Nat) (op : Option Nat) (res : List Str) : Cx := Cx.setω ⟨sc60, [(Str.ofString "open_pos", optD op), (Str.ofString "start", .int (st : Int)), (Str.ofString "addr", .str x)], none⟩ (Str.ofString "result") (res.map .str)
section
variable {w : World} {n : Nat} {H : Heap} {L : Addr} {all : List (Nat × Str)} {a : Addr} {g : Nat} {cx : Cx} {target : Expr} {body : List Stmt} {Kn : Cx → Prop}
theorem GF_gen {its its' : List (Nat × Str)} {cx' : Cx} (h : its = its') (hc : cx = cx') (x : GF w n H L all a g cx target body its Kn) : GF w n H L all a g cx' target body its' Kn := h ▸ hc ▸ x
end
theorem c_strip (w : World) (x : Str) (hq : Txt.contains x (Str.ofString "\"") = true) (hsz : x.length ≤ 50) (hesc : escEnd false x.cps.toList = false) : SC w 6 60 [.str x] (fun d => d = .str (stripped x)) := by
  refine SC_def (xs := [Str.ofString "addr"]) (by k_is) (by rfl) ⟨by rfl, by k_is, by rfl, by rfl, by rfl, by rfl, by rfl, by rfl, ?_, by decide, by decide⟩ rfl (by dsimp only) (by dsimp only [List.zip, List.zipWith]) ?_
  · rintro (_ | ⟨v0, _ | ⟨u, vs⟩⟩) h <;> first | rfl | cases h
  · repeat walk_at "s"
    refine Oc_NotIns ⟨_, rfl, ?_⟩
    rw [hq, if_neg (by decide)]
    refine SSs_nil ?_
    refine SSs_cons (assign' (by rfl) (by rfl) (fun _ => by rfl) (SE_int ?_))
    refine SSs_cons (assign' (by rfl) (by rfl) (fun _ => by rfl) (SE_none ?_))
    refine SSs_cons (assign_own' (by rfl) (by rfl) (by rfl) (fun _ => by rfl) (SEf_list (SL_nil ⟨by decide, ?_⟩)))
    have hx1 : x.cps.size ≤ 1000 := Nat.le_trans hsz (by decide)
    refine SSs_cons (SS_forgen (fun _ _ => by rfl) (g_iter (by rfl) (by k_is) (by rfl) (by decide) hx1 hesc (fun _ => by rfl)) fun H L a g => ?_)
    unfold stripped
    obtain ⟨F, hF⟩ : ∃ F, F = stripF x (outs 0 false x.cps.toList) 0 none [] := ⟨_, rfl⟩
    rw [← hF]
    dsimp only
    have hres := stripF_res x hsz (outs 0 false x.cps.toList) 0 none [] (fun _ h => by cases h)
    rw [← hF] at hres
    obtain ⟨hr1, hr2⟩ := hres
    have hol := outs_len x.cps.toList 0 false
    have hr3 : F.2.2.length ≤ 50 := by
      have h1 : x.cps.toList.length ≤ 50 := by rw [Array.length_toList]; exact hsz
      simp at hr2; omega
    refine GF_weak (cx' := cxS x 0 none []) ?_ (by rfl) ⟨rfl, rfl, rfl, trivial⟩ (by rfl)
    obtain ⟨its, hits⟩ : ∃ its, its = outs 0 false x.cps.toList := ⟨_, rfl⟩
    obtain ⟨st, hst⟩ : ∃ st, st = 0 := ⟨_, rfl⟩
    obtain ⟨op, hop⟩ : ∃ op : Option Nat, op = none := ⟨_, rfl⟩
    obtain ⟨res, hrs⟩ : ∃ res : List Str, res = [] := ⟨_, rfl⟩
    refine GF_gen (cx := cxS x st op res) hits (by rw [hst, hop, hrs]) ?_
    rw [← hits, ← hst, ← hop, ← hrs] at hF
    have hrl : res.length + its.length ≤ 50 := by
      rw [hrs, hits]; have h1 : x.cps.toList.length ≤ 50 := by rw [Array.length_toList]; exact hsz
      simp only [List.length_nil]; omega
    clear hits hst hop hrs hr2 hol
    generalize outs 0 false x.cps.toList = all
    clear hesc hq hx1
    induction its generalizing st op res with
    | nil =>
      refine GF_nil ?_
      change F = (st, op, res) at hF
      rw [hF] at hr1 hr3 ⊢
      dsimp only at hr1 hr3 ⊢
      repeat walk_at "s"
      refine OB_len_str (by omega) ?_
      repeat walk_at "s"
      refine Oc_Lt ⟨_, rfl, ?_⟩
      have mem : ∀ y ∈ res ++ [Txt.slice x (some (st : Int)) none], y.length ≤ 50 := fun y hy => by
        rcases List.mem_append.mp hy with hy | hy
        · exact hr1 y hy
        · rw [List.mem_singleton] at hy; subst hy; exact Nat.le_trans (Txt.slice_le x _ _) hsz
      by_cases hlt : (st : Int) < (x.length : Int)
      · rw [if_pos (by simpa using hlt), if_pos hlt]
        repeat walk_at "s"
        refine ⟨_, rfl, ?_⟩
        repeat walk_at "s"
        refine OS_str (Nat.le_trans hsz (by decide)) ⟨by rw [List.length_map]; exact Nat.le_trans hr3 (by decide), ?_⟩
        walk_at "s"
        refine release' (by rfl) ?_
        repeat walk_at "s"
        refine SE_strm PySem.F.slot_str_join PySem.F.type_str_join (fun _ => by rfl) (fun _ => by rfl) (by rfl) ?_
        repeat walk_at "s"
        refine ⟨_, rfl, ?_⟩
        repeat walk_at "s"
        have e1 : res.map Dat.str ++ [Dat.str (Txt.slice x (some (st : Int)) none)] = (res ++ [Txt.slice x (some (st : Int)) none]).map Dat.str := by rw [List.map_append]; rfl
        rw [e1]
        refine OB_join (joinOk_of _ (by decide) _ mem (by rw [List.length_append, List.length_singleton]; omega)) ?_
        rfl
      · rw [if_neg (by simpa using hlt), if_neg hlt]
        walk_at "s"
        refine release' (by rfl) ?_
        repeat walk_at "s"
        refine SE_strm PySem.F.slot_str_join PySem.F.type_str_join (fun _ => by rfl) (fun _ => by rfl) (by rfl) ?_
        repeat walk_at "s"
        refine ⟨_, rfl, ?_⟩
        repeat walk_at "s"
        refine OB_join (joinOk_of _ (by decide) _ hr1 (by omega)) ?_
        rfl
    | cons d its ih =>
      obtain ⟨p, y⟩ := d
      refine GF_cons (by rfl) ?_
      repeat walk_at "s"
      refine Oc_Eqs ⟨_, rfl, ?_⟩
      by_cases hy : (y == Str.ofString "\"") = true
      · rw [if_pos hy]
        repeat walk_at "s"
        cases op with
        | none =>
          refine Oc_IsNone ⟨true, rfl, ?_⟩
          rw [if_pos rfl]
          repeat walk_at "s"
          refine GF_weak (cx' := cxS x st (some p) res) ?_ (by rfl) ⟨rfl, rfl, rfl, trivial⟩ (by rfl)
          refine ih st (some p) res ?_ (by rw [List.length_cons] at hrl; omega)
          rw [hF]; conv => lhs; unfold stripF
          rw [if_pos hy]
        | some q =>
          refine Oc_IsNone ⟨false, rfl, ?_⟩
          rw [if_neg Bool.false_ne_true]
          repeat walk_at "s"
          refine Oc_NotEq ⟨_, rfl, ?_⟩
          by_cases hne : ((st : Int) != (q : Int)) = true
          · rw [if_pos hne]
            repeat walk_at "s"
            refine ⟨_, rfl, ?_⟩
            repeat walk_at "s"
            refine ⟨_, rfl, ?_⟩
            refine OS_str (Nat.le_trans hsz (by decide)) ⟨by rw [List.length_map]; exact Nat.le_trans (show res.length ≤ 50 by omega) (by decide), ?_⟩
            repeat walk_at "s"
            refine Ob_add ?_
            repeat walk_at "s"
            refine GF_weak (cx' := cxS x (p + 1) none (res ++ [Txt.slice x (some (st : Int)) (some (q : Int))])) ?_ (by rfl) ⟨rfl, by rfl, rfl, trivial⟩ ?_
            · refine ih (p + 1) none _ ?_ (by rw [List.length_cons] at hrl; rw [List.length_append, List.length_singleton]; omega)
              rw [hF]; conv => lhs; unfold stripF
              rw [if_pos hy]; dsimp only; rw [if_pos hne]
            · show some (_, _) = some (_, _)
              rw [List.map_append]; rfl
          · rw [if_neg hne]
            repeat walk_at "s"
            refine Ob_add ?_
            repeat walk_at "s"
            refine GF_weak (cx' := cxS x (p + 1) none res) ?_ (by rfl) ⟨rfl, by rfl, rfl, trivial⟩ (by rfl)
            refine ih (p + 1) none res ?_ (by rw [List.length_cons] at hrl; omega)
            rw [hF]; conv => lhs; unfold stripF
            rw [if_pos hy]; dsimp only; rw [if_neg hne]
      · rw [if_neg hy]
        repeat walk_at "s"
        refine GF_weak (cx' := cxS x st op res) ?_ (by rfl) ⟨rfl, rfl, rfl, trivial⟩ (by rfl)
        refine ih st op res ?_ (by rw [List.length_cons] at hrl; omega)
        rw [hF]; conv => lhs; unfold stripF
        rw [if_neg hy]
end
section
noncomputable def clean (l : List Nat) : Prop := ∀ c ∈ l, c ≠ 34 ∧ c ≠ 92
theorem one_ne {c d : Nat} (h : c ≠ d) : ((⟨#[c]⟩ : Str) == ⟨#[d]⟩) = false := by
  rw [beq_eq_false_iff_ne]
  intro e
  injection e with e
  have := congrArg Array.toList e
  simp at this
  exact h this
theorem bs_eq : Str.ofString "\\" = ⟨#[92]⟩ := by decide +kernel
theorem qt_eq : Str.ofString "\"" = ⟨#[34]⟩ := by decide +kernel
theorem outs_plain {c : Nat} (h : c ≠ 92) (k : Nat) (r : List Nat) : outs k false (c :: r) = (k, ⟨#[c]⟩) :: outs (k + 1) false r := by
  show (if ((⟨#[c]⟩ : Str) == Str.ofString "\\") = true then _ else _) = _
  rw [bs_eq, one_ne h, if_neg (by decide)]
theorem outs_bs (k : Nat) (c : Nat) (r : List Nat) : outs k false (92 :: c :: r) = (k + 1, Str.ofString "\\" ++ ⟨#[c]⟩) :: outs (k + 2) false r := by
  show (if ((⟨#[92]⟩ : Str) == Str.ofString "\\") = true then _ else _) = _
  rw [bs_eq, if_pos (by decide)]; rfl
theorem strip_clean (x : Str) : ∀ (l r : List Nat) (k st : Nat) (op : Option Nat) (res : List Str), clean l → stripF x (outs k false (l ++ r)) st op res = stripF x (outs (k + l.length) false r) st op res
  | [], r, k, st, op, res, _ => rfl
  | c :: l, r, k, st, op, res, h => by
    rw [List.cons_append, outs_plain (h c (.head _)).2]
    conv => lhs; unfold stripF
    rw [qt_eq, one_ne (h c (.head _)).1, if_neg (by decide), strip_clean x l r (k + 1) st op res fun d q => h d (.tail _ q), List.length_cons]
    congr 2; omega
theorem esc_clean : ∀ (l r : List Nat), clean l → escEnd false (l ++ r) = escEnd false r
  | [], _, _ => rfl
  | c :: l, r, h => by
    show escEnd ((⟨#[c]⟩ : Str) == Str.ofString "\\") (l ++ r) = _
    rw [bs_eq, one_ne (h c (.head _)).2]
    exact esc_clean l r fun d q => h d (.tail _ q)
theorem esc_qt (r : List Nat) : escEnd false (34 :: r) = escEnd false r := by
  show escEnd ((⟨#[34]⟩ : Str) == Str.ofString "\\") r = _
  rw [bs_eq, one_ne (by decide)]
theorem esc_bs (c : Nat) (r : List Nat) : escEnd false (92 :: c :: r) = escEnd false r := by
  show escEnd ((⟨#[92]⟩ : Str) == Str.ofString "\\") (c :: r) = _
  rw [bs_eq, show ((⟨#[92]⟩ : Str) == ⟨#[92]⟩) = true by decide]
  rfl
noncomputable def isMid (m : List Nat) : Prop := m = [] ∨ m = [46] ∨ m = [92, 34, 61] ∨ m = [92, 92]
theorem esc_mid {m : List Nat} (h : isMid m) (r : List Nat) : escEnd false (m ++ r) = escEnd false r := by
  rcases h with rfl | rfl | rfl | rfl
  · rfl
  · exact esc_clean [46] r (by intro c hc; simp at hc; subst hc; decide)
  · show escEnd false (92 :: 34 :: ([61] ++ r)) = _
    rw [esc_bs]
    exact esc_clean [61] r (by intro c hc; simp at hc; subst hc; decide)
  · exact esc_bs 92 r
theorem strip_mid (x : Str) {m : List Nat} (h : isMid m) (r : List Nat) (k st : Nat) (op : Option Nat) (res : List Str) : stripF x (outs k false (m ++ r)) st op res = stripF x (outs (k + m.length) false r) st op res := by
  rcases h with rfl | rfl | rfl | rfl
  · rfl
  · exact strip_clean x [46] r k st op res (by intro c hc; simp at hc; subst hc; decide)
  · show stripF x (outs k false (92 :: 34 :: ([61] ++ r))) st op res = _
    rw [outs_bs]
    conv => lhs; unfold stripF
    rw [if_neg (by rw [qt_eq, bs_eq]; decide)]
    exact strip_clean x [61] r (k + 2) st op res (by intro c hc; simp at hc; subst hc; decide)
  · show stripF x (outs k false (92 :: 92 :: r)) st op res = _
    rw [outs_bs]
    conv => lhs; unfold stripF
    rw [if_neg (by rw [qt_eq, bs_eq]; decide)]
    rfl
theorem strip_qt (x : Str) (r : List Nat) (k st : Nat) (op : Option Nat) (res : List Str) : stripF x (outs k false (34 :: r)) st op res = (match op with
      | none => stripF x (outs (k + 1) false r) st (some k) res
      | some q => stripF x (outs (k + 1) false r) (k + 1) none (if (((st : Int)) != (q : Int)) = true then res ++ [Txt.slice x (some (st : Int)) (some (q : Int))] else res)) := by
  rw [outs_plain (by decide)]
  conv => lhs; unfold stripF
  rw [if_pos (by rw [qt_eq]; decide)]
  all_goals (cases op <;> rfl)
theorem cut_from {α : Type} (l : List α) {i : Nat} (hi : i ≤ l.length) : cut l (some (i : Int)) none = l.drop i := by
  unfold cut
  have h1 : cl (some (i : Int)) 0 l.length = i := by show (max 0 (min (if (i : Int) < 0 then (i : Int) + l.length else (i : Int)) (l.length : Int))).toNat = i; omega
  rw [h1]
  show (l.drop i).take (l.length - i) = _
  rw [List.take_of_length_le (by rw [List.length_drop]; exact Nat.le_refl _)]
theorem join0_one (a : Str) : Txt.join (Str.ofString "") [a] = a := by
  unfold Txt.join
  rw [StrLaws.glued_eq_join]; rfl
theorem join0_two (a b : List Nat) : Txt.join (Str.ofString "") [⟨a.toArray⟩, ⟨b.toArray⟩] = ⟨(a ++ b).toArray⟩ := by
  unfold Txt.join
  rw [StrLaws.glued_eq_join]
  show (⟨a.toArray ++ #[] ++ b.toArray⟩ : Str) = _
  simp
theorem strip_nil (x : Str) (k st : Nat) (op : Option Nat) (res : List Str) : stripF x (outs k false []) st op res = (st, op, res) := rfl
theorem stripped_ok {pre mid post : List Nat} (h1 : clean pre) (h2 : clean post) (hm : isMid mid) (hp : post ≠ []) : stripped ⟨(pre ++ 34 :: (mid ++ 34 :: post)).toArray⟩ = ⟨(pre ++ post).toArray⟩ := by
  unfold stripped
  obtain ⟨x, hx⟩ : ∃ x : Str, x = ⟨(pre ++ 34 :: (mid ++ 34 :: post)).toArray⟩ := ⟨_, rfl⟩
  rw [← hx]
  have hl : x.cps.toList = pre ++ 34 :: (mid ++ 34 :: post) := by rw [hx]
  have hF : stripF x (outs 0 false x.cps.toList) 0 none [] = (0 + pre.length + 1 + mid.length + 1, none, if (((0 : Nat) : Int) != ((0 + pre.length : Nat) : Int)) = true then [] ++ [Txt.slice x (some ((0 : Nat) : Int)) (some ((0 + pre.length : Nat) : Int))] else []) := by
    rw [hl, strip_clean x pre _ 0 0 none [] h1, strip_qt]
    dsimp only
    rw [strip_mid x hm, strip_qt]
    dsimp only
    have := strip_clean x post [] (0 + pre.length + 1 + mid.length + 1) (0 + pre.length + 1 + mid.length + 1) none (if (((0 : Nat) : Int) != ((0 + pre.length : Nat) : Int)) = true then [] ++ [Txt.slice x (some ((0 : Nat) : Int)) (some ((0 + pre.length : Nat) : Int))] else []) h2
    rw [List.append_nil] at this
    rw [this, strip_nil]
  have hlen : x.length = pre.length + 1 + mid.length + 1 + post.length := by
    show x.cps.size = _
    rw [← Array.length_toList, hl]; simp; omega
  have hpl : 0 < post.length := List.length_pos_iff.mpr hp
  rw [hF]
  dsimp only
  rw [if_pos (by rw [hlen]; omega)]
  have hs1 : Txt.slice x (some ((0 + pre.length + 1 + mid.length + 1 : Nat) : Int)) none = ⟨post.toArray⟩ := by
    rw [slice_cut, hl, cut_from _ (by simp; omega)]
    have e : pre ++ 34 :: (mid ++ 34 :: post) = (pre ++ [34] ++ mid ++ [34]) ++ post := by simp
    have e2 : 0 + pre.length + 1 + mid.length + 1 = (pre ++ [34] ++ mid ++ [34]).length := by simp; omega
    rw [e, e2, List.drop_left]
  rw [hs1]
  cases pre with
  | nil =>
    rw [if_neg (by decide), List.nil_append, join0_one, List.nil_append]
  | cons c pre =>
    have hne : (((0 : Nat) : Int) != ((0 + (c :: pre).length : Nat) : Int)) = true := by simp; omega
    have hs2 : Txt.slice x (some ((0 : Nat) : Int)) (some ((0 + (c :: pre).length : Nat) : Int)) = ⟨(c :: pre).toArray⟩ := by
      rw [slice_cut, hl, cut_nat _ (Nat.zero_le _) (by simp), List.drop_zero, Nat.sub_zero, Nat.zero_add, List.take_left]
    rw [if_pos hne, hs2, List.nil_append]
    exact join0_two (c :: pre) post
theorem has_quote {pre mid post : List Nat} : Txt.contains ⟨(pre ++ 34 :: (mid ++ 34 :: post)).toArray⟩ (Str.ofString "\"") = true := by
  unfold Txt.contains
  rw [qt_eq, StrLaws.found_one]
  simp
theorem esc_ok {pre mid post : List Nat} (h1 : clean pre) (h2 : clean post) (hm : isMid mid) : escEnd false (pre ++ 34 :: (mid ++ 34 :: post)) = false := by
  rw [esc_clean pre _ h1, esc_qt, esc_mid hm, esc_qt]
  have := esc_clean post [] h2
  rw [List.append_nil] at this
  exact this
theorem c_stripped (w : World) {pre mid post : List Nat} (h1 : clean pre) (h2 : clean post) (hm : isMid mid) (hp : post ≠ []) (hl : pre.length + post.length ≤ 40) :
    SC w 6 60 [.str ⟨(pre ++ 34 :: (mid ++ 34 :: post)).toArray⟩] (fun d => d = .str ⟨(pre ++ post).toArray⟩) := by
  have hml : mid.length ≤ 3 := by rcases hm with rfl | rfl | rfl | rfl <;> simp
  refine (c_strip w _ has_quote (by show (pre ++ 34 :: (mid ++ 34 :: post)).toArray.size ≤ 50; simp; omega) (by exact esc_ok h1 h2 hm)).mono fun d e => ?_
  rw [e, stripped_ok h1 h2 hm hp]
end
section
theorem mulOk {a : Nat} (h : a < 2 ^ 63) (b : Int) : IntMulOk (a : Int) b := by
  refine IntMulOk.of_left ?_
  unfold Builtin.Int.intBits
  split
  · omega
  · rename_i hz
    have h0 : a ≠ 0 := fun e => hz (by rw [e]; rfl)
    rw [Int.natAbs_natCast]
    have := (Nat.log2_lt h0).mpr h
    omega
theorem sum_le (N : Nat) : ∀ l : List Nat, (∀ a ∈ l, a ≤ N) → l.sum ≤ l.length * N
  | [], _ => Nat.zero_le _
  | a :: l, h => by
    have h1 := h a (.head _)
    have h2 := sum_le N l fun b q => h b (.tail _ q)
    rw [List.sum_cons, List.length_cons, Nat.succ_mul]; omega
theorem wn_join_len {p : Nat} (h0 : p ≠ 0) (h : p < 2 ^ 32) : (Txt.join (Str.ofString ", ") (wn p)).length ≤ 2000 := by
  unfold Txt.join
  rw [StrLaws.glued_eq_join]
  refine Nat.le_trans (StrLaws.join_length_le _ _) ?_
  have h1 := bitNames_small 32 0 p (by omega) h0 h
  have h2 := bitNames_len 32 0 p
  have h3 := sum_le 50 ((wn p).map (·.length)) fun a ha => by
    obtain ⟨x, hx, rfl⟩ := List.mem_map.mp ha
    exact h1 x hx
  rw [List.length_map] at h3
  have h4 : (wn p).length ≤ 33 := h2
  have h5 : (Str.ofString ", ").length = 2 := by decide +kernel
  rw [h5]
  omega
theorem wn_len (p : Nat) : (wn p).length ≤ 33 := bitNames_len 32 0 p
theorem split_parts_le {x y : Str} (hx : x.length ≤ 2000) : (Builtin.Str.partsBetween x (Builtin.Str.occurrences x y 0 x.length (x.length + 1)) y.length).length ≤ sizeLine := by
  rw [PyProof.Rows.len_partsBetween]
  have := StrLaws.occ_length_le x y 0 x.length (x.length + 1)
  exact Nat.le_trans (by omega) (show 2002 ≤ sizeLine by decide)
theorem cut_to {α : Type} (l : List α) {i : Nat} (hi : i ≤ l.length) : cut l none (some (i : Int)) = l.take i := by
  unfold cut
  have h1 : cl (some (i : Int)) l.length l.length = i := by show (max 0 (min (if (i : Int) < 0 then (i : Int) + l.length else (i : Int)) (l.length : Int))).toNat = i; omega
  rw [h1]
  show (l.drop 0).take (i - 0) = _
  rw [List.drop_zero, Nat.sub_zero]
theorem nats_ints (l : List Nat) : nats l = (l.map fun (a : Nat) => (a : Int)).map .int := by
  unfold nats; rw [List.map_map]; rfl
section
variable {w : World} {n : Nat}
theorem Oc_NeNats {l : List Nat} {K : Dat → Prop} (h : K (.bool false)) : O2 w n (compareOp .NotEq) (.list (nats l)) (.list (nats l)) K := by
  rw [nats_ints]; exact Oc_NeSame h
end
section
variable {α : Type}
theorem cutA (a b c d : List α) : cut (a ++ b ++ c ++ d) none (some (a.length : Int)) = a := by
  rw [cut_to _ (by simp <;> omega), List.append_assoc, List.append_assoc, List.take_left]
theorem cutB (a b c d : List α) : cut (a ++ b ++ c ++ d) (some (a.length : Int)) (some ((a.length + b.length : Nat) : Int)) = b := by
  rw [cut_nat _ (by omega) (by simp <;> omega), List.append_assoc, List.append_assoc, List.drop_left, Nat.add_sub_cancel_left, List.take_left]
theorem cutC (a b c d : List α) : cut (a ++ b ++ c ++ d) (some ((a.length + b.length : Nat) : Int)) (some ((a.length + b.length + c.length : Nat) : Int)) = c := by
  rw [cut_nat _ (by omega) (by simp <;> omega), List.append_assoc (a ++ b), ← List.length_append (as := a), List.drop_left, Nat.add_sub_cancel_left, List.take_left]
theorem cutD (a b c d : List α) : cut (a ++ b ++ c ++ d) (some ((a.length + b.length + c.length : Nat) : Int)) none = d := by
  rw [cut_from _ (by simp <;> omega), ← List.length_append (as := a), ← List.length_append (as := a ++ b), List.drop_left]
end
end
section
set_option pp.maxSteps 20000
set_option pp.deepTerms true




theorem c_ISEOF (w : World) (x : Int) : SC w 1 94 [.int x] (fun d => d = .bool (x == 0)) := by
  refine SC_def (xs := [Str.ofString "x"]) (by k_is) (by rfl) ⟨by rfl, by k_is, by rfl, by rfl, by rfl, by rfl, by rfl, by rfl, ?_, by decide, by decide⟩ rfl (by rfl) (by rfl) ?_
  · rintro (_ | ⟨v, _ | ⟨u, vs⟩⟩) h <;> first | rfl | cases h
  · repeat walk_at "s"
    exact Oc_Eq (by rfl)
theorem c_ISTERMINAL (w : World) (x : Int) : SC w 1 87 [.int x] (fun d => d = .bool (decide (x < 256))) := by
  refine SC_def (xs := [Str.ofString "x"]) (by k_is) (by rfl) ⟨by rfl, by k_is, by rfl, by rfl, by rfl, by rfl, by rfl, by rfl, ?_, by decide, by decide⟩ rfl (by rfl) (by rfl) ?_
  · rintro (_ | ⟨v, _ | ⟨u, vs⟩⟩) h <;> first | rfl | cases h
  · repeat walk_at "s"
    exact Oc_Lt (by rfl)
end
section
theorem c_figures (w : World) (x : Int) : SC w 1 108 [.int x] (fun d => d = .list [.int (x.fmod 7), .int ((x.fdiv 7).fmod 4), .int (((x.fdiv 7).fdiv 4).fmod 8), .int ((((x.fdiv 7).fdiv 4).fdiv 8).fmod 3), .int (((((x.fdiv 7).fdiv 4).fdiv 8).fdiv 3).fmod 2), .int ((((((x.fdiv 7).fdiv 4).fdiv 8).fdiv 3).fdiv 2).fmod 2), .int (((((((x.fdiv 7).fdiv 4).fdiv 8).fdiv 3).fdiv 2).fdiv 2).fmod 3)]) := by
  refine SC_def (xs := [Str.ofString "number"]) (by k_is) (by rfl) ⟨by rfl, by k_is, by rfl, by rfl, by rfl, by rfl, by rfl, by rfl, ?_, by decide, by decide⟩ rfl (by rfl) (by rfl) ?_
  · rintro (_ | ⟨v, _ | ⟨u, vs⟩⟩) h <;> first | rfl | cases h
  · refine SSs_cons (assign_own' (by rfl) (by rfl) (by rfl) (fun _ => by rfl) (SEf_list (SL_nil ⟨by decide, ?_⟩)))
    refine SSs_cons (SS_for (fun _ _ => by rfl) (SIt_list (SE.of_f (SEf_list ?_))))
    repeat walk_at "s"
    refine ⟨by decide, _, rfl, ?_⟩
    iterate 7
      refine forCons' (by rfl) (by rfl) ?_
      refine SSs_cons ?_
      walk_at "s"
      walk_at "s"
      walk_at "s"
      walk_at "s"
      refine Ob_mod (by decide) ⟨Nat.le_of_ble_eq_true (by rfl), ?_⟩
      walk_at "s"
      walk_at "s"
      walk_at "s"
      refine Oi_fdiv (by decide) (by decide) ?_
      walk_at "s"
    refine forNil' (SSs_nil ?_)
    refine release' (by rfl) ?_
    repeat walk_at "s"
    rfl
end
section
theorem c_numbers (w : World) (is : List Int) (his : is.length < 2 ^ 62) : SC w 1 101 [.tuple (is.map .int)] (fun d => ∃ ns : List Nat, ns.length = 7 ∧ d = .list (ns.map fun (a : Nat) => .int (a : Int))) := by
  refine SC_def (xs := [Str.ofString "script"]) (by k_is) (by rfl) ⟨by rfl, by k_is, by rfl, by rfl, by rfl, by rfl, by rfl, by rfl, ?_, by decide, by decide⟩ rfl (by dsimp only) (by dsimp only [List.zip, List.zipWith]) ?_
  · rintro (_ | ⟨v0, _ | ⟨u, vs⟩⟩) h <;> first | rfl | cases h
  · walk_at "s"
    refine assign_own' (by rfl) (by rfl) (by rfl) (fun _ => by rfl) (SEf_list ?_)
    repeat walk_at "s"
    refine ⟨by decide, ?_⟩
    repeat walk_at "s"
    refine OB_len_seq (by simpa using his) ?_
    repeat walk_at "s"
    refine OB_min ?_
    repeat walk_at "s"
    refine ⟨_, rfl, by omega, by omega, ?_⟩
    obtain ⟨m, hm⟩ : ∃ m : Nat, (min (((is.map Dat.int).length : Nat) : Int) 63).toNat = m := ⟨_, rfl⟩
    rw [hm]
    obtain ⟨ns, hns, hds⟩ : ∃ ns : List Nat, ns.length = 7 ∧ [Dat.int 2, Dat.int 0, Dat.int 8, Dat.int 1, Dat.int 9, Dat.int 17, Dat.int 632] = ns.map fun (a : Nat) => Dat.int (a : Int) := ⟨[2, 0, 8, 1, 9, 17, 632], rfl, rfl⟩
    rw [hds]
    obtain ⟨k, hk0, hkm⟩ : ∃ k : Nat, (k : Int) = 0 ∧ k + m ≤ is.length := ⟨0, rfl, by rw [List.length_map] at hm; omega⟩
    have eU : upTo 0 m = upTo (k : Int) m := by rw [hk0]
    rw [eU]
    clear eU hk0 hds hm
    refine weakF (cx' := Cx.setω ⟨_, [(Str.ofString "script", .tuple (is.map .int))], none⟩ (Str.ofString "numbers") (ns.map fun (a : Nat) => .int (a : Int))) ?_ (by dsimp only [Cx.bind, Cx.setω, Cx.rel]) ⟨rfl, trivial⟩ (by dsimp only [Cx.bind, Cx.setω, Cx.rel])
    induction m generalizing k ns with
    | zero =>
      refine forNil' (SSs_nil ?_)
      refine release' (by rfl) ?_
      repeat walk_at "s"
      exact ⟨ns, hns, rfl⟩
    | succ m ih =>
      have hk : k < is.length := by omega
      refine forCons' (by rfl) (by rfl) ?_
      repeat walk_at "s"
      refine Ob_mod (by decide) ?_
      have e7 : (k : Int).fmod 7 = ((k % 7 : Nat) : Int) := fmodN k 7
      rw [e7]
      have h7 : k % 7 < ns.length := by rw [hns]; omega
      refine ⟨_, _, rfl, by omega, by omega, by rw [Int.toNat_natCast, List.getElem?_map, List.getElem?_eq_getElem h7]; rfl, ?_⟩
      repeat walk_at "s"
      refine OG_seq (by omega) (by omega) (by rw [Int.toNat_natCast, List.getElem?_map, List.getElem?_eq_getElem hk]; rfl) ?_
      repeat walk_at "s"
      refine Ob_mod (by decide) ?_
      refine Oi_add ?_
      have hnn : 0 ≤ (is[k]).fmod 1000000 := by rw [Int.fmod_eq_emod_of_nonneg _ (by decide)]; exact Int.emod_nonneg _ (by decide)
      obtain ⟨b, hb⟩ := Int.eq_ofNat_of_zero_le hnn
      rw [hb, Int.toNat_natCast]
      have e : (ns.map fun (a : Nat) => Dat.int (a : Int)).set (k % 7) (.int ((ns[k % 7] : Int) + (b : Int))) = (ns.set (k % 7) (ns[k % 7] + b)).map fun (a : Nat) => Dat.int (a : Int) := by
        rw [List.map_set]; rfl
      rw [e]
      repeat walk_at "s"
      rw [show ((k : Int) + 1) = ((k + 1 : Nat) : Int) from rfl]
      refine weakF (cx' := Cx.setω ⟨_, [(Str.ofString "script", .tuple (is.map .int))], none⟩ (Str.ofString "numbers") ((ns.set (k % 7) (ns[k % 7] + b)).map fun (a : Nat) => .int (a : Int))) ?_ (by dsimp only [Cx.bind, Cx.setω, Cx.rel]) ⟨rfl, trivial⟩ (by dsimp only [Cx.bind, Cx.setω, Cx.rel])
      exact ih _ (by rw [List.length_set]; exact hns) (k + 1) (by omega)
end
section
theorem told_eq : Txt.split (Str.ofString "OPTIMIZED NEWLOCALS VARARGS VARKEYWORDS NESTED GENERATOR NOFREE COROUTINE ITERABLE_COROUTINE ASYNC_GENERATOR") (Str.ofString " ") = flagNames := by
  decide +kernel
theorem told_size : (Builtin.Str.partsBetween (Str.ofString "OPTIMIZED NEWLOCALS VARARGS VARKEYWORDS NESTED GENERATOR NOFREE COROUTINE ITERABLE_COROUTINE ASYNC_GENERATOR") (Builtin.Str.occurrences (Str.ofString "OPTIMIZED NEWLOCALS VARARGS VARKEYWORDS NESTED GENERATOR NOFREE COROUTINE ITERABLE_COROUTINE ASYNC_GENERATOR") (Str.ofString " ") 0 (Str.ofString "OPTIMIZED NEWLOCALS VARARGS VARKEYWORDS NESTED GENERATOR NOFREE COROUTINE ITERABLE_COROUTINE ASYNC_GENERATOR").length ((Str.ofString "OPTIMIZED NEWLOCALS VARARGS VARKEYWORDS NESTED GENERATOR NOFREE COROUTINE ITERABLE_COROUTINE ASYNC_GENERATOR").length + 1)) (Str.ofString " ").length).length ≤ sizeLine := by
  decide +kernel
theorem c_names (w : World) (a b : Nat) (hab : a ≤ b) (hb : b ≤ 32) :
    SC w 1 147 [.int (a : Int), .int (b : Int)] (fun d => d = .str (Txt.join (Str.ofString ", ") ((List.range' a (b - a)).map nm))) := by
  refine SC_def (xs := [Str.ofString "first", Str.ofString "behind"]) (by k_is) (by rfl) ⟨by rfl, by k_is, by rfl, by rfl, by rfl, by rfl, by rfl, by rfl, ?_, by decide, by decide⟩ rfl (by dsimp only) (by dsimp only [List.zip, List.zipWith]) ?_
  · rintro (_ | ⟨v0, _ | ⟨v1, _ | ⟨u, vs⟩⟩⟩) h <;> first | rfl | cases h
  · walk_at "s"
    walk_at "s"
    refine SE_strm PySem.F.slot_str_split PySem.F.type_str_split (fun _ => by rfl) (fun _ => by rfl) (by rfl) ?_
    repeat walk_at "s"
    refine ⟨_, rfl, ?_⟩
    repeat walk_at "s"
    refine OB_split (by rfl) (by decide) told_size ?_
    rw [told_eq]
    repeat walk_at "s"
    refine SE_strm PySem.F.slot_str_join PySem.F.type_str_join (fun _ => by rfl) (fun _ => by rfl) (by rfl) ?_
    repeat walk_at "s"
    refine ⟨_, rfl, ?_⟩
    repeat walk_at "s"
    refine ⟨_, _, rfl, by omega, by omega, by omega, by omega, ?_⟩
    rw [show ((b : Int) - (a : Int)).toNat = b - a by omega, upTo_nat]
    refine (SG_map (fun it acc env => turn1 _ _ _ _ _ _ _ it acc env) (by rfl) (by rfl) (by rfl) (nats (List.range' a (b - a))) [] (f := fun _ => true) (g := fun d => match d with | .int i => .str (nm i.toNat) | _ => d) ?_ ?_ ?_).mono ?_
    · intro d hd
      exact STs_nil rfl
    · intro d hd _
      obtain ⟨k, hk, rfl⟩ := List.mem_map.mp hd
      rw [List.mem_range'_1] at hk
      repeat walk_at "s"
      refine Oc_Lt ⟨_, rfl, ?_⟩
      show if _ then _ else _
      by_cases h10 : k < 10
      · rw [if_pos (by simpa using (by omega : (k : Int) < 10))]
        repeat walk_at "s"
        have hl : k < flagNames.length := h10
        refine OG_list (by omega) (by omega) (by rw [Int.toNat_natCast, List.getElem?_map, List.getElem?_eq_getElem hl]; rfl) ?_
        show Dat.str _ = Dat.str _
        unfold nm
        rw [Int.toNat_natCast, List.getElem?_eq_getElem hl]; rfl
      · rw [if_neg (by simpa using (by omega : ¬ (k : Int) < 10))]
        repeat walk_at "s"
        refine Ob_pow (by omega) (by omega) (by decide) ?_
        rw [Int.toNat_natCast, pow_cast]
        repeat walk_at "s"
        refine OB_hex (Nat.le_trans (nm_len k (by omega)).1 (by decide)) ?_
        show Dat.str _ = Dat.str _
        unfold nm
        rw [Int.toNat_natCast, List.getElem?_eq_none (by show 10 ≤ k; omega)]; rfl
    · simp [nats, sizeLine]; omega
    · intro ds hds
      have e1 : ds = ((List.range' a (b - a)).map nm).map Dat.str := by
        rw [hds, List.nil_append, List.filter_eq_self.mpr (fun _ _ => rfl), nats, List.map_map, List.map_map]; rfl
      rw [e1]
      refine OB_join (joinOk_of _ (by decide) _ ?_ (by simp; omega)) rfl
      intro x hx
      obtain ⟨k, hk, rfl⟩ := List.mem_map.mp hx
      rw [List.mem_range'_1] at hk
      exact (nm_len k (by omega)).2
end
section
namespace RX
theorem slot_sub : Slot "re.Pattern" "sub" "re.Pattern.sub" :=
  .of (owner := "re.Pattern") (n := "sub") (by rw [typeLookup_type, builtinLookup_eq_fast]; kernel_rfl) (by decide +kernel) (by decide +kernel) (by decide +kernel)
    (by first | exact .inl (by decide +kernel) | exact .inr (by decide +kernel)) (by rw [isSubtype_type]; kernel_rfl)
theorem type_sub : typeOf (.builtin "re.Pattern.sub") = pure (.type "method_descriptor") := by show builtinType _ = _; rw [builtinType_eq_fast]; kernel_rfl
theorem entry_sub : entryFor table "re.Pattern.sub" = some Builtin.«re.Pattern.sub» := by first | exact entryFor_of_fast (by kernel_rfl) | exact entryFor_of_tree (by kernel_rfl)
theorem entry_loop : entryFor table "re.Pattern.sub.loop" = some Builtin.«re.Pattern.sub.loop» := by first | exact entryFor_of_fast (by kernel_rfl) | exact entryFor_of_tree (by kernel_rfl)
theorem plain_loop : plainId "re.Pattern.sub.loop" = true := by decide +kernel
theorem args_sub (a b c : Value) : argsOk "re.Pattern.sub" ⟨[a, b, c], []⟩ := by unfold argsOk; kernel_rfl
theorem plainAttrs : PlainAttrs "re.Pattern" := by
  refine ⟨by first | exact ⟨"object.__getattribute__", by rw [typeLookup_type, builtinLookup_eq_fast]; kernel_rfl, by decide +kernel⟩ | exact ⟨"re.Pattern.__getattribute__", by rw [typeLookup_type, builtinLookup_eq_fast]; kernel_rfl, by decide +kernel⟩, by rw [typeLookup_type, builtinLookup_eq_fast]; kernel_rfl⟩
end RX
end
section
open PySem.Sre
noncomputable def code2 : Array Nat := #[14, 9, 4, 1, 2, 16, 10, 16, 13, 0, 7, 7, 16, 13, 16, 10, 15, 18, 5, 16, 10, 15, 13, 11, 16, 13, 5, 5, 0, 16, 10, 1, 15, 2, 0, 1]
noncomputable def code1 : Array Nat := #[14, 4, 0, 1, 1, 6, 1, 16, 46, 1]
theorem run_zero (m : M) : M.runFor 0 m = m := rfl
theorem run_none {n : Nat} {m : M} (h : m.outcome = none) : M.runFor (n + 1) m = M.runFor n m.step := by
  show (if m.outcome.isSome = true then m else M.runFor n m.step) = _
  rw [h]; rfl
theorem run_some {n : Nat} {m : M} (h : m.outcome.isSome = true) : M.runFor n m = m := by
  cases n with
  | zero => rfl
  | succ n => show (if m.outcome.isSome = true then m else M.runFor n m.step) = _; rw [if_pos h]
theorem run_add (b : Nat) : ∀ (a : Nat) (m : M), M.runFor (a + b) m = M.runFor b (M.runFor a m)
  | 0, m => by rw [Nat.zero_add]; rfl
  | a + 1, m => by
    rw [show a + 1 + b = (a + b) + 1 by omega]
    cases h : m.outcome with
    | none => rw [run_none h, run_none h, run_add b a]
    | some o =>
      have h' : m.outcome.isSome = true := by rw [h]; rfl
      rw [run_some h', run_some h', run_some h']
/-- the machine ends -/
noncomputable def Ends (m : M) (N : Nat) (P : M → Prop) : Prop := ∃ m', M.runFor N m = m' ∧ m'.outcome.isSome = true ∧ P m'
theorem Ends.step {m m1 : M} {N : Nat} {P : M → Prop} (ho : m.outcome = none) (h : m.step = m1) (x : Ends m1 N P) : Ends m (N + 1) P := by
  obtain ⟨m', h1, h2, h3⟩ := x
  exact ⟨m', by rw [run_none ho, h]; exact h1, h2, h3⟩
theorem Ends.le {m : M} {N N' : Nat} {P : M → Prop} (x : Ends m N P) (h : N ≤ N') : Ends m N' P := by
  obtain ⟨m', h1, h2, h3⟩ := x
  refine ⟨m', ?_, h2, h3⟩
  rw [show N' = N + (N' - N) by omega, run_add, h1, run_some h2]
theorem Ends.now {m : M} {P : M → Prop} (ho : m.outcome.isSome = true) (h : P m) : Ends m 0 P := ⟨m, rfl, ho, h⟩

/-- one character that is told -/
theorem step_lit {m : M} (ho : m.outcome = none) (ha : m.answer = none) (hpc : m.pc < m.code.size) (hop : ops[m.word 0]? = some .LITERAL) (hcode : ops[m.code.getD m.pc 0]? = some .LITERAL) :
    (m.pos < m.lim → m.text.getD m.pos 0 = m.word 1 → ∃ sn, m.step = { m with seen := sn, pc := m.pc + 2, pos := m.pos + 1 }) ∧
    ((m.pos ≥ m.lim ∨ m.text.getD m.pos 0 ≠ m.word 1) → ∃ sn, m.step = { m with seen := sn, answer := some false }) := by
  have e0 : m.step = m.exec := by
    unfold M.step
    rw [ho, ha]
    simp only [Option.isSome_none, Bool.false_eq_true, if_false, hpc, if_true]
  have acc : ∀ c sn, accepts m.code m.pc c sn = .ok (c == m.word 1, sn) := by
    intro c sn
    unfold accepts
    rw [hcode]; rfl
  have wid : itemWidth m.code m.pc = 2 := by unfold itemWidth; rw [hcode]
  refine ⟨fun hp hx => ?_, fun h => ?_⟩
  · rw [e0]
    unfold M.exec
    rw [hop]
    simp only
    rw [if_neg (by show ¬ m.pos ≥ m.lim; omega)]
    show ∃ sn, (match accepts m.code m.pc (m.text.getD m.pos 0) (m.seen.add (m.word 0)) with
      | .error why => M.stick { m with seen := m.seen.add (m.word 0) } why
      | .ok (false, seen) => M.say { m with seen } false
      | .ok (true, seen) => { m with seen, pc := m.pc + itemWidth m.code m.pc, pos := m.pos + 1 }) = _
    rw [acc, hx, beq_self_eq_true, wid]
    exact ⟨_, rfl⟩
  · rw [e0]
    unfold M.exec
    rw [hop]
    simp only
    by_cases hp : m.pos ≥ m.lim
    · rw [if_pos (by show m.pos ≥ m.lim; exact hp)]
      exact ⟨_, rfl⟩
    · rw [if_neg (by show ¬ m.pos ≥ m.lim; exact hp)]
      have hx : (m.text.getD m.pos 0 == m.word 1) = false := by
        rcases h with h | h
        · exact absurd h hp
        · simpa using h
      show ∃ sn, (match accepts m.code m.pc (m.text.getD m.pos 0) (m.seen.add (m.word 0)) with
        | .error why => M.stick { m with seen := m.seen.add (m.word 0) } why
        | .ok (false, seen) => M.say { m with seen } false
        | .ok (true, seen) => { m with seen, pc := m.pc + itemWidth m.code m.pc, pos := m.pos + 1 }) = _
      rw [acc, hx]
      exact ⟨_, rfl⟩

noncomputable def S (code t : Array Nat) (lim st ls pc pos hd : Nat) (out : Bool) (fr : List PySem.Sre.Frame) (wt : Nat) (ans : Option Bool) (sn : PySem.Sre.Seen) : M :=
  { code, text := t, lim, start := st, lastStart := ls, pc, pos, handed := hd, outermost := out, marks := #[], frames := fr, weight := wt, answer := ans, seen := sn }
noncomputable def F0 (pc e : Nat) (out : Bool) : PySem.Sre.Frame := { wait := .nextStart, pc, pos := e, outermost := out }
noncomputable def FB (pc e : Nat) : PySem.Sre.Frame := { wait := .nextBranch, pc, pos := e, outermost := true }
theorem lit_yes {code t : Array Nat} {lim st ls pc pos hd : Nat} {out : Bool} {fr : List PySem.Sre.Frame} {wt : Nat} {sn : PySem.Sre.Seen} {c : Nat} {N : Nat} {P : M → Prop} (hpc : pc < code.size) (hop : ops[code.getD pc 0]? = some .LITERAL) (hc : code.getD (pc + 1) 0 = c)
    (hp : pos < lim) (hx : t.getD pos 0 = c) (h : ∀ sn, Ends (S code t lim st ls (pc + 2) (pos + 1) hd out fr wt none sn) N P) : Ends (S code t lim st ls pc pos hd out fr wt none sn) (N + 1) P := by
  obtain ⟨sn', e⟩ := (step_lit (m := S code t lim st ls pc pos hd out fr wt none sn) rfl rfl hpc hop hop).1 hp (hx.trans hc.symm)
  exact Ends.step rfl e (h sn')
theorem lit_no {code t : Array Nat} {lim st ls pc pos hd : Nat} {out : Bool} {fr : List PySem.Sre.Frame} {wt : Nat} {sn : PySem.Sre.Seen} {c : Nat} {N : Nat} {P : M → Prop} (hpc : pc < code.size) (hop : ops[code.getD pc 0]? = some .LITERAL) (hc : code.getD (pc + 1) 0 = c)
    (hx : pos ≥ lim ∨ t.getD pos 0 ≠ c) (h : ∀ sn, Ends (S code t lim st ls pc pos hd out fr wt (some false) sn) N P) : Ends (S code t lim st ls pc pos hd out fr wt none sn) (N + 1) P := by
  obtain ⟨sn', e⟩ := (step_lit (m := S code t lim st ls pc pos hd out fr wt none sn) rfl rfl hpc hop hop).2 (hx.imp id fun q => fun q' => q (q'.trans hc))
  exact Ends.step rfl e (h sn')

/-- what is found -/
noncomputable def Hit (e hd : Nat) (m : M) : Prop := m.outcome = some .matched ∧ m.start = e ∧ m.handed = hd
noncomputable def Miss (m : M) : Prop := m.outcome = some .failed
section
variable (t : Array Nat) (e : Nat) (sn : PySem.Sre.Seen)
theorem tail2 {lim st ls hd p : Nat} : Ends (S code2 t lim st ls 35 p hd true [FB 11 e, F0 10 e true] 2 none sn) 4 (Hit st p) ∧ Ends (S code2 t lim st ls 35 p hd true [FB 18 e, F0 10 e true] 2 none sn) 4 (Hit st p) ∧ Ends (S code2 t lim st ls 35 p hd true [FB 23 e, F0 10 e true] 2 none sn) 4 (Hit st p) := by
  refine ⟨?_, ?_, ?_⟩ <;>
  exact Ends.step rfl rfl (Ends.step rfl rfl (Ends.step rfl rfl (Ends.step rfl rfl (Ends.now rfl ⟨rfl, rfl, rfl⟩))))
theorem hit_lf (h : t.getD e 0 = 10) {ls : Nat} : Ends (S code2 t (e + 1) e ls 10 e e true [F0 10 e true] 1 none sn) 20 (Hit e (e + 1)) := by
  refine Ends.le (N := 9) (Ends.step (m1 := S code2 t (e + 1) e ls 12 e e true [FB 11 e, F0 10 e true] 2 none _) rfl rfl ?_) (by decide)
  refine lit_no (c := 13) (by decide) rfl rfl (.inr (by rw [h]; decide)) fun sn => ?_
  refine Ends.step (m1 := S code2 t (e + 1) e ls 19 e e true [FB 18 e, F0 10 e true] 2 none _) rfl rfl ?_
  refine lit_yes (c := 10) (by decide) rfl rfl (Nat.lt_succ_self e) h fun sn => ?_
  exact Ends.step (m1 := S code2 t (e + 1) e ls 35 (e + 1) e true [FB 18 e, F0 10 e true] 2 none _) rfl rfl (tail2 t e _).2.1
theorem hit_crlf (h : t.getD e 0 = 13) (h2 : t.getD (e + 1) 0 = 10) {ls : Nat} : Ends (S code2 t (e + 2) e ls 10 e e true [F0 10 e true] 1 none sn) 20 (Hit e (e + 2)) := by
  refine Ends.le (N := 8) (Ends.step (m1 := S code2 t (e + 2) e ls 12 e e true [FB 11 e, F0 10 e true] 2 none _) rfl rfl ?_) (by decide)
  refine lit_yes (c := 13) (by decide) rfl rfl (by omega) h fun sn => ?_
  refine lit_yes (c := 10) (by decide) rfl rfl (by omega) h2 fun sn => ?_
  exact Ends.step (m1 := S code2 t (e + 2) e ls 35 (e + 2) e true [FB 11 e, F0 10 e true] 2 none _) rfl rfl (tail2 t e _).1
theorem hit_cr (h : t.getD e 0 = 13) {ls : Nat} : Ends (S code2 t (e + 1) e ls 10 e e true [F0 10 e true] 1 none sn) 30 (Hit e (e + 1)) := by
  refine Ends.le (N := 15) (Ends.step (m1 := S code2 t (e + 1) e ls 12 e e true [FB 11 e, F0 10 e true] 2 none _) rfl rfl ?_) (by decide)
  refine lit_yes (c := 13) (by decide) rfl rfl (by omega) h fun sn => ?_
  refine lit_no (c := 10) (by decide) rfl rfl (.inl (Nat.le_refl _)) fun sn => ?_
  refine Ends.step (m1 := S code2 t (e + 1) e ls 19 e e true [FB 18 e, F0 10 e true] 2 none _) rfl rfl ?_
  refine lit_no (c := 10) (by decide) rfl rfl (.inr (by rw [h]; decide)) fun sn => ?_
  refine Ends.step (m1 := S code2 t (e + 1) e ls 24 e e true [FB 23 e, F0 10 e true] 2 none _) rfl rfl ?_
  refine lit_yes (c := 13) (by decide) rfl rfl (by omega) h fun sn => ?_
  refine Ends.step (m1 := S code2 t (e + 1) e ls 29 (e + 1) (e + 1) false [{ wait := .lookNot, pc := 26, pos := e + 1, outermost := true }, FB 23 e, F0 10 e true] 3 none _) rfl rfl ?_
  refine lit_no (c := 10) (by decide) rfl rfl (.inl (Nat.le_refl _)) fun sn => ?_
  refine Ends.step (m1 := S code2 t (e + 1) e ls 32 (e + 1) (e + 1) true [FB 23 e, F0 10 e true] 2 none _) rfl rfl ?_
  exact Ends.step (m1 := S code2 t (e + 1) e ls 35 (e + 1) (e + 1) true [FB 23 e, F0 10 e true] 2 none _) rfl rfl (tail2 t e _).2.2
end
end
section
open PySem.Sre
theorem inSet_lit (code : Array Nat) (c fuel i : Nat) (yes : Bool) (sn : PySem.Sre.Seen) (h : ops[code.getD i 0]? = some .LITERAL) : ∃ sn', inSet code c (fuel + 1) i yes sn = if c == code.getD (i + 1) 0 then .ok (yes, sn') else inSet code c fuel (i + 2) yes sn' := by
  refine ⟨sn.add (code.getD i 0), ?_⟩
  conv => lhs; unfold inSet
  simp only [Nat.add_zero, h]
theorem inSet_fail (code : Array Nat) (c fuel i : Nat) (yes : Bool) (sn : PySem.Sre.Seen) (h : ops[code.getD i 0]? = some .FAILURE) : ∃ sn', inSet code c (fuel + 1) i yes sn = .ok (!yes, sn') := by
  unfold inSet
  simp only [Nat.add_zero, h]
  exact ⟨_, rfl⟩
theorem set_no (c : Nat) (sn : PySem.Sre.Seen) (h1 : c ≠ 10) (h2 : c ≠ 13) : ∃ sn', inSet code2 c code2.size 5 true sn = .ok (false, sn') := by
  obtain ⟨s1, e1⟩ := inSet_lit code2 c 35 5 true sn rfl
  obtain ⟨s2, e2⟩ := inSet_lit code2 c 34 7 true s1 rfl
  obtain ⟨s3, e3⟩ := inSet_fail code2 c 33 9 true s2 rfl
  refine ⟨s3, ?_⟩
  show inSet code2 c (35 + 1) 5 true sn = _
  rw [e1, if_neg (by show ¬ (c == 10) = true; simpa using h1)]
  show inSet code2 c (34 + 1) 7 true s1 = _
  rw [e2, if_neg (by show ¬ (c == 13) = true; simpa using h2)]
  exact e3
theorem set_yes (c : Nat) (sn : PySem.Sre.Seen) (h : c = 10 ∨ c = 13) : ∃ sn', inSet code2 c code2.size 5 true sn = .ok (true, sn') := by
  obtain ⟨s1, e1⟩ := inSet_lit code2 c 35 5 true sn rfl
  obtain ⟨s2, e2⟩ := inSet_lit code2 c 34 7 true s1 rfl
  rcases h with rfl | rfl
  · exact ⟨s1, by show inSet code2 10 (35 + 1) 5 true sn = _; rw [e1]; rfl⟩
  · exact ⟨s2, by show inSet code2 13 (35 + 1) 5 true sn = _; rw [e1, if_neg (by decide)]; show inSet code2 13 (34 + 1) 7 true s1 = _; rw [e2]; rfl⟩
section
variable (t : Array Nat)
theorem admitted_to (m : M) (hc : m.code = code2) (ht : m.text = t) (e : Nat) (he : e < m.lim) (hy : t.getD e 0 = 10 ∨ t.getD e 0 = 13) : ∀ (fuel s : Nat) (sn : PySem.Sre.Seen), e - s < fuel → s ≤ e → (∀ k, s ≤ k → k < e → t.getD k 0 ≠ 10 ∧ t.getD k 0 ≠ 13) →
    ∃ sn', M.admitted m fuel s sn = .ok (some e, sn')
  | 0, s, sn, hf, _, _ => absurd hf (Nat.not_lt_zero _)
  | fuel + 1, s, sn, hf, hs, hn => by
    unfold M.admitted
    rw [if_neg (by omega), hc, ht]
    by_cases h : s = e
    · subst h
      obtain ⟨s1, e1⟩ := set_yes (t.getD s 0) sn hy
      rw [e1]
      exact ⟨s1, rfl⟩
    · obtain ⟨h1, h2⟩ := hn s (Nat.le_refl s) (by omega)
      obtain ⟨s1, e1⟩ := set_no (t.getD s 0) sn h1 h2
      rw [e1]
      exact admitted_to m hc ht e he hy fuel (s + 1) s1 (by omega) (by omega) fun k hk hk2 => hn k (by omega) hk2
theorem search2 {lim e : Nat} {N : Nat} {P : M → Prop} (he : e < lim) (hy : t.getD e 0 = 10 ∨ t.getD e 0 = 13) (hn : ∀ k, k < e → t.getD k 0 ≠ 10 ∧ t.getD k 0 ≠ 13)
    (h : ∀ sn, Ends (S code2 t lim e lim 10 e e true [F0 10 e true] 1 none sn) N P) : Ends (forSearch code2 t 0 0 lim false) N P := by
  have hc : (decide (0 > lim) || decide (lim - 0 < 1)) = false := by
    rw [Bool.or_eq_false_iff]; constructor <;> simp <;> omega
  have e0 : forSearch code2 t 0 0 lim false = (S code2 t lim 0 lim 10 0 0 true [] 0 none (({} : PySem.Sre.Seen).add 14)).attemptFrom 0 true := by
    unfold forSearch
    show (if (decide (0 > lim) || decide (lim - 0 < 1)) = true then _ else _) = _
    rw [hc, if_neg Bool.false_ne_true]
    rfl
  rw [e0]
  obtain ⟨sn, ha⟩ := admitted_to t (S code2 t lim 0 lim 10 0 0 true [] 0 none (({} : PySem.Sre.Seen).add 14)) rfl rfl e he hy (lim + 1 - 0) 0 (({} : PySem.Sre.Seen).add 14) (by omega) (Nat.zero_le _) fun k _ hk => hn k hk
  have e1 : (S code2 t lim 0 lim 10 0 0 true [] 0 none (({} : PySem.Sre.Seen).add 14)).attemptFrom 0 true = S code2 t lim e lim 10 e e true [F0 10 e true] 1 none sn := by
    unfold M.attemptFrom
    show (match M.admitted (S code2 t lim 0 lim 10 0 0 true [] 0 none (({} : PySem.Sre.Seen).add 14)) (lim + 1 - 0) 0 (({} : PySem.Sre.Seen).add 14) with
      | .ok (some s, seen) => M.attemptAt _ s true
      | .ok (none, seen) => M.say _ false
      | .error why => M.stick _ why) = _
    rw [ha]
    rfl
  rw [e1]
  exact h sn
theorem search_end (code : Array Nat) (hh : (header code).1 = 1) (lim : Nat) (must : Bool) : Ends (forSearch code t 0 lim lim must) 1 Miss := by
  have hc : (decide (lim > lim) || decide (lim - lim < 1)) = true := by
    rw [Nat.sub_self]; simp
  have e0 : ∃ m : M, forSearch code t 0 lim lim must = m ∧ m.outcome = none ∧ m.answer = some false ∧ m.frames = [] := by
    unfold forSearch
    rw [hh]
    show ∃ m : M, (if (decide (lim > lim) || decide (lim - lim < 1)) = true then _ else _) = m ∧ _
    rw [hc, if_pos rfl]
    exact ⟨_, rfl, rfl, rfl, rfl⟩
  obtain ⟨m, e, h1, h2, h3⟩ := e0
  rw [e]
  refine Ends.step h1 (m1 := { m with outcome := some .failed }) ?_ (Ends.now rfl rfl)
  unfold M.step
  rw [h1, h2, h3]
  rfl
/-- the first pattern -/
theorem at_step {lim st ls pos hd : Nat} {out : Bool} {fr : List PySem.Sre.Frame} {wt : Nat} {sn : PySem.Sre.Seen} {N : Nat} {P : M → Prop}
    (h : if (pos == 0 || t.getD (pos - 1) 0 == 10) = true then ∀ sn, Ends (S code1 t lim st ls 7 pos hd out fr wt none sn) N P else ∀ sn, Ends (S code1 t lim st ls 5 pos hd out fr wt (some false) sn) N P) :
    Ends (S code1 t lim st ls 5 pos hd out fr wt none sn) (N + 1) P := by
  have e0 : (S code1 t lim st ls 5 pos hd out fr wt none sn).step = (if (pos == 0 || t.getD (pos - 1) 0 == 10) = true then S code1 t lim st ls 7 pos hd out fr wt none ((sn.add 6).add 44) else S code1 t lim st ls 5 pos hd out fr wt (some false) ((sn.add 6).add 44)) := by
    rfl
  split at h
  · rename_i q
    rw [if_pos q] at e0
    exact Ends.step rfl e0 (h _)
  · rename_i q
    rw [if_neg q] at e0
    exact Ends.step rfl e0 (h _)
theorem next_step {lim st pc pos hd s : Nat} {out : Bool} {sn : PySem.Sre.Seen} {N : Nat} {P : M → Prop} (hs : s < lim) (h : Ends (S code1 t lim (s + 1) lim 5 (s + 1) (s + 1) false [F0 5 (s + 1) false] 1 none sn) N P) :
    Ends (S code1 t lim st lim pc pos hd out [F0 5 s out] 1 (some false) sn) (N + 1) P := by
  refine Ends.step rfl ?_ h
  show (if s < lim then M.attemptFrom (S code1 t lim st lim 5 s hd out [] 0 none sn) (s + 1) false else _) = _
  rw [if_pos hs]
  rfl
theorem last_step {lim st pc pos hd s : Nat} {out : Bool} {sn : PySem.Sre.Seen} (hs : ¬ s < lim) : Ends (S code1 t lim st lim pc pos hd out [F0 5 s out] 1 (some false) sn) 2 Miss := by
  have e0 : (S code1 t lim st lim pc pos hd out [F0 5 s out] 1 (some false) sn).step = S code1 t lim st lim 5 s hd out [] 0 (some false) sn := by
    show (if s < lim then _ else M.say (S code1 t lim st lim 5 s hd out [] 0 none sn) false) = _
    rw [if_neg hs]
    rfl
  exact Ends.step rfl e0 (Ends.step rfl rfl (Ends.now rfl rfl))
noncomputable def NoAt (k : Nat) : Prop := (k ≠ 0 ∧ t.getD (k - 1) 0 ≠ 10) ∨ t.getD k 0 ≠ 46
theorem miss1 {lim : Nat} : ∀ (d s : Nat) (out : Bool) (sn : PySem.Sre.Seen), s + d = lim → (∀ k, s ≤ k → k < lim → NoAt t k) → Ends (S code1 t lim s lim 5 s s out [F0 5 s out] 1 none sn) (3 * d + 4) Miss
  | 0, s, out, sn, hd, _ => by
    have hs : ¬ s < lim := by omega
    refine at_step t (N := 3) ?_
    split
    · exact fun sn => lit_no (c := 46) (by decide) rfl rfl (.inl (by omega)) fun sn => last_step t hs
    · exact fun sn => Ends.le (last_step t hs) (by decide)
  | d + 1, s, out, sn, hd, hn => by
    have hs : s < lim := by omega
    have ih := fun out sn => miss1 d (s + 1) out sn (by omega) fun k hk hk2 => hn k (by omega) hk2
    rw [show 3 * (d + 1) + 4 = ((3 * d + 4) + 1 + 1) + 1 by omega]
    refine at_step t ?_
    split
    · rename_i q
      have hx : t.getD s 0 ≠ 46 := by
        rcases hn s (Nat.le_refl s) hs with ⟨h1, h2⟩ | h
        · rw [Bool.or_eq_true, beq_iff_eq, beq_iff_eq] at q
          rcases q with q | q
          · exact absurd q h1
          · exact absurd q h2
        · exact h
      exact fun sn => lit_no (c := 46) (by decide) rfl rfl (.inr hx) fun sn => next_step t hs (ih false sn)
    · exact fun sn => Ends.le (next_step t hs (ih false sn)) (by omega)
theorem hit1 {lim : Nat} (hl : 0 < lim) (h : t.getD 0 0 = 46) (sn : PySem.Sre.Seen) : Ends (S code1 t lim 0 lim 5 0 0 true [F0 5 0 true] 1 none sn) 10 (Hit 0 1) := by
  refine Ends.le (N := 5) (at_step t ?_) (by decide)
  rw [if_pos (by rfl)]
  refine fun sn => lit_yes (c := 46) (by decide) rfl rfl hl h fun sn => ?_
  exact Ends.step rfl rfl (Ends.step rfl rfl (Ends.step rfl rfl (Ends.now rfl ⟨rfl, rfl, rfl⟩)))
theorem search1 {lim s : Nat} {N : Nat} {P : M → Prop} (hs : s < lim) (h : ∀ sn, Ends (S code1 t lim s lim 5 s s true [F0 5 s true] 1 none sn) N P) : Ends (forSearch code1 t 0 s lim false) N P := by
  have hc : (decide (s > lim) || decide (lim - s < 1)) = false := by
    rw [Bool.or_eq_false_iff]; constructor <;> simp <;> omega
  have e0 : forSearch code1 t 0 s lim false = S code1 t lim s lim 5 s s true [F0 5 s true] 1 none (({} : PySem.Sre.Seen).add 14) := by
    unfold forSearch
    show (if (decide (s > lim) || decide (lim - s < 1)) = true then _ else _) = _
    rw [hc, if_neg Bool.false_ne_true]
    rfl
  rw [e0]; exact h _
end
end
section
section
variable {prog : Program} {w : World} {A : Around} {E : Value → Shared → Prop} {s : Shared}
theorem call_tree {T : String} {name : Str} {id : String} {b : Builtin} {self : Value} {rest : List Value} {Q : Value → Shared → Prop} (h : Slot T name id) (hT : s.TypeIs self T) (hb : entryFor table id = some b) (ha : argsOk id ⟨self :: rest, []⟩)
    (hc : wpAny (model prog w) A.in1 (b ⟨self :: rest, []⟩) (fun fin s' => match fin with
      | .done f => (match (Except.ok f : Result) with | .ok (.ret v) => Q v s' | .ok _ => False | .error e => E e s')
      | .again c' => c'.quiet = true ∧ codeAny (model prog w) A c' (fun r s' => match r with | .ok (.ret v) => Q v s' | .ok _ => False | .error e => E e s') s') E s) :
    wpAny (model prog w) A (call (.builtin id) (self :: rest)) Q E s :=
  wpAny_call (codeAny_call_builtin h.plain hb (h.check _ _ _ _ _ _ _ _ hT ha hc))

open PySem.Sre in
theorem drive_to {P : M → Prop} {Q : M → Shared → Prop} : ∀ (turns N : Nat) (m : M), Ends m N P → N ≤ 4 * turns → 0 < turns → (∀ m', P m' → m'.outcome.isSome = true → Q m' s) → wpAny (model prog w) A (Builtin.Re.reDrive turns m) Q E s
  | 0, _, _, _, _, h, _ => absurd h (Nat.lt_irrefl 0)
  | turns + 1, N, m, hE, hN, _, hQ => by
    obtain ⟨m', h1, h2, h3⟩ := hE
    unfold Builtin.Re.reDrive
    show wpAny _ A (if (m.runFor 4).outcome.isSome = true then pure (m.runFor 4) else _) Q E s
    by_cases ho : (m.runFor 4).outcome.isSome = true
    · rw [if_pos ho]
      have e : m.runFor 4 = m' := by
        rcases Nat.le_total N 4 with q | q
        · rw [show 4 = N + (4 - N) by omega, run_add, h1, run_some h2]
        · rw [← h1, show N = 4 + (N - 4) by omega, run_add, run_some ho]
      rw [e]
      exact wpAny_pure (hQ m' h3 h2)
    · rw [if_neg ho]
      have hlt : 4 < N := by
        rcases Nat.lt_or_ge 4 N with q | q
        · exact q
        · exfalso
          rw [show 4 = N + (4 - N) by omega, run_add, h1, run_some h2] at ho
          exact ho h2
      refine wpAny_bind (wpAny_rule ?_)
      exact drive_to turns (N - 4) (m.runFor 4) ⟨m', by rw [← run_add, show 4 + (N - 4) = N by omega]; exact h1, h2, h3⟩ (by omega) (by omega) hQ

open PySem.Sre in
theorem run_end {P : M → Prop} {Q : Option M → Shared → Prop} {N : Nat} {m : M} (hE : Ends m N P) (hN : N ≤ 1000000) (hQ : ∀ m', P m' → (m'.outcome = some .matched ∧ Q (some m') s) ∨ (m'.outcome = some .failed ∧ Q none s)) : wpAny (model prog w) A (Builtin.Re.reRunToEnd m) Q E s := by
  unfold Builtin.Re.reRunToEnd
  refine wpAny_bind (drive_to _ N m hE (Nat.le_trans hN (by decide)) (by decide) fun m' hP ho => ?_)
  refine wpAny_bind (wpAny_forIn_list (E := E) _ (fun _ _ s' => s' = s) _ (fun x rest b s' hs => ?_) (fun b s' hs => ?_) _ _ rfl)
  · subst hs
    refine wpAny_ite_split (fun _ => wpAny_bind (wpAny_rule (wpAny_pure rfl))) (fun _ => wpAny_pure rfl)
  · subst hs
    rcases hQ m' hP with ⟨e, q⟩ | ⟨e, q⟩
    · rw [e]; exact wpAny_pure q
    · rw [e]; exact wpAny_pure q

/-- the pattern's object -/
structure IsPat (h : Heap) (p : Addr) (code : Array Nat) : Prop where
  there : ∃ a fl c t1 t2 t3 t4 n, h.get? p = some { cls := .type "re.Pattern", data := .fields #[.str a t1, .int fl t2, .int 0 t3, .none, .none, .ref c, .int 0 t4] } ∧
    ∃ items : Array Value, h.get? c = some { cls := .type "tuple", data := .seq items n } ∧ (items.map Builtin.Re.reRawOf).map Int.toNat = code
theorem IsPat.keeps {h h' : Heap} {p : Addr} {code : Array Nat} (x : IsPat h p code) (k : ∀ b o, h.get? b = some o → h'.get? b = some o) : IsPat h' p code := by
  obtain ⟨a, fl, c, t1, t2, t3, t4, n, h1, items, h2, h3⟩ := x.there
  exact ⟨a, fl, c, t1, t2, t3, t4, n, k _ _ h1, items, k _ _ h2, h3⟩
open Builtin.Re in
theorem target_of {p : Addr} {code : Array Nat} {x : Str} {t : Tok} {Q : ReTarget → Shared → Prop} (hp : IsPat s.heap p code)
    (h : Q { pattern := .ref p, string := .str x t, code, text := x.cps, kind := 0, groups := 0, pos := 0, lim := x.cps.size } s) : wpAny (model prog w) A (reWholeTarget (.ref p) (.str x t)) Q E s := by
  obtain ⟨a, fl, c, t1, t2, t3, t4, n, h1, items, h2, h3⟩ := hp.there
  unfold reWholeTarget
  refine wpAny_bind (wpAny_fieldsOf h1 rfl ?_)
  refine wpAny_bind (wpAny_of_eq (a := (x.cps, 0)) rfl ?_)
  show wpAny _ A ((pure () : Sem Unit) >>= fun _ => reRawItems (.ref c) >>= fun its => pure { pattern := .ref p, string := .str x t, code := its.map Int.toNat, text := x.cps, kind := 0, groups := 0, pos := 0, lim := x.cps.size }) Q E s
  refine wpAny_bind (wpAny_pure (wpAny_bind ?_))
  unfold reRawItems
  refine wpAny_bind (wpAny_seqItems h2 rfl (wpAny_pure (wpAny_pure ?_)))
  show Q { pattern := .ref p, string := .str x t, code := (items.map reRawOf).map Int.toNat, text := x.cps, kind := 0, groups := 0, pos := 0, lim := x.cps.size } s
  rw [h3]
  exact h

noncomputable def subArgs (p : Addr) (x : Str) (t : Tok) (r : Str) (u : Tok) (n done start : Nat) (must : Bool) (D : Addr) : Args :=
  ⟨[.ref p, .str x t, .str r u, rawInt 0, rawInt 0, rawInt n, rawInt done, rawInt start, .bool must, .ref D, .bool false], []⟩
theorem push_plain {D : Addr} {vs : List Value} {v : Value} {Q : Unit → Shared → Prop} (hl : s.heap.PlainList D vs.toArray) (hsz : vs.length ≤ 1000)
    (h : ∀ h', h'.PlainList D (vs ++ [v]).toArray → Heap.SameBut D s.heap h' → Q () { s with heap := h' }) : wpAny (model prog w) A (updateSeq D (·.push v)) Q E s := by
  obtain ⟨m, ho⟩ := hl
  have hz : vs.toArray.size ≤ sizeLine := by rw [List.size_toArray]; exact Nat.le_trans hsz (by decide)
  have e : (vs ++ [v]).toArray = vs.toArray.push v := by simp
  refine wpAny_updateSeq ho rfl (h _ ⟨m + 1, ?_⟩ (Heap.SameBut.update ..)) hz ?_
  · rw [e, Heap.get?_update_self _ ho (by rw [Obj.mapSeq_push_plain]; rfl), Obj.mapSeq_push_plain]
  · show (vs.toArray.push v).size ≤ _
    rw [Array.size_push]; omega
noncomputable def loopAt (p : Addr) (x : Str) (t : Tok) (r : Str) (u : Tok) (n done start : Nat) (must : Bool) (D : Addr) : Code := .builtin "re.Pattern.sub.loop" (subArgs p x t r u n done start must D)
open Builtin.Re PySem.Sre in
theorem sub_hit {p D : Addr} {code : Array Nat} {x r : Str} {t u : Tok} {n done start e hd : Nat} {must : Bool} {R : Result → Shared → Prop} {N : Nat} {vs : List Value} (hp : IsPat s.heap p code)
    (hE : Ends (forSearch code x.cps 0 start x.cps.size must) N (Hit e hd)) (hN : N ≤ 1000000) (hl : s.heap.PlainList D vs.toArray) (hv : vs.length ≤ 900) (hx : x.length ≤ sizeLine)
    (h : ∀ h' tk tk', h'.PlainList D (vs ++ (if done < e then [Value.str ⟨x.cps.extract done e⟩ tk] else []) ++ [Value.str r u]).toArray → Heap.SameBut D s.heap h' → codeAny (model prog w) A (loopAt p x t r u (n + 1) hd hd (hd == e) D) R { s with heap := h', toks := tk' }) :
    codeAny (model prog w) A (loopAt p x t r u n done start must D) R s := by
  unfold loopAt
  refine codeAny_builtin RX.entry_loop ?_
  rw [Around.under_plainId RX.plain_loop _]
  unfold Builtin.«re.Pattern.sub.loop» subArgs
  dsimp only
  refine wpAny_bind (target_of hp ?_)
  rw [if_pos (by rfl)]
  refine wpAny_bind (wpAny_of_eq (a := ()) rfl ?_)
  dsimp only
  refine wpAny_bind ?_
  rw [if_neg (by rw [Bool.and_eq_true]; exact fun q => absurd q.1 (by decide))]
  unfold reNextFound
  refine run_end hE hN fun m' ⟨o1, o2, o3⟩ => .inl ⟨o1, ?_⟩
  dsimp only
  rw [o2, o3]
  have fin : ∀ (s₁ : Shared) (vs₁ : List Value), s₁.heap.PlainList D vs₁.toArray → vs₁.length ≤ 1000 → (∀ h', h'.PlainList D (vs₁ ++ [Value.str r u]).toArray → Heap.SameBut D s₁.heap h' → codeAny (model prog w) A (loopAt p x t r u (n + 1) hd hd (hd == e) D) R { s₁ with heap := h' }) →
      wpAny (model prog w) A.in1 (do
        let item ← (pure (Value.str r u) : Sem Value)
        if (item != Value.none) = true then do
          updateSeq D fun x => x.push item
          again (Code.builtin "re.Pattern.sub.loop" { pos := [Value.ref p, Value.str x t, Value.str r u, rawInt 0, rawInt 0, rawInt (↑n + 1), rawInt ↑hd, rawInt ↑hd, Value.bool (hd == e), Value.ref D, Value.bool false] })
        else again (Code.builtin "re.Pattern.sub.loop" { pos := [Value.ref p, Value.str x t, Value.str r u, rawInt 0, rawInt 0, rawInt (↑n + 1), rawInt ↑hd, rawInt ↑hd, Value.bool (hd == e), Value.ref D, Value.bool false] }))
        (fun fin s' => match fin with | .done f => R (.ok f) s' | .again c' => c'.quiet = true ∧ codeAny (model prog w) A c' R s') (fun e s' => R (.error e) s') s₁ := by
    intro s₁ vs₁ hl₁ hz₁ hk
    refine wpAny_bind (wpAny_pure ?_)
    rw [if_pos (by rfl)]
    refine wpAny_bind (push_plain hl₁ hz₁ fun h' hl' hs' => ?_)
    exact wpAny_pure ⟨plainId_quiet RX.plain_loop _, hk h' hl' hs'⟩
  by_cases hde : done < e
  · rw [if_pos (by rw [Int.toNat_natCast]; exact hde)]
    have hsz : (⟨x.cps.extract done e⟩ : Str).length ≤ sizeLine := by
      refine Nat.le_trans ?_ hx
      show (x.cps.extract done e).size ≤ x.cps.size
      rw [Array.size_extract]; omega
    refine wpAny_bind ?_
    unfold reSlice
    rw [if_pos (by rfl), Int.toNat_natCast]
    refine wpAny_mkStr ?_ hsz
    refine wpAny_bind (push_plain (s := { s with toks := s.toks + 1 }) hl (by omega) fun h₁ hl₁ hs₁ => ?_)
    rw [if_pos (by rfl)]
    refine fin _ _ hl₁ (by rw [List.length_append, List.length_singleton]; omega) fun h' hl' hs' => ?_
    exact h h' s.toks _ (by rw [if_pos hde]; exact hl') (hs₁.trans hs')
  · rw [if_neg (by rw [Int.toNat_natCast]; exact hde)]
    rw [if_pos (by rfl)]
    refine fin _ _ hl (by omega) fun h' hl' hs' => ?_
    exact h h' 0 s.toks (by rw [if_neg hde, List.append_nil]; exact hl') hs'
open Builtin.Re PySem.Sre in
theorem sub_miss {p D : Addr} {code : Array Nat} {x r : Str} {t u : Tok} {n done start : Nat} {must : Bool} {R : Result → Shared → Prop} {N : Nat} {l : List (Str × Tok)} (hp : IsPat s.heap p code)
    (hE : Ends (forSearch code x.cps 0 start x.cps.size must) N Miss) (hN : N ≤ 1000000) (hl : s.heap.PlainList D (strValues l).toArray) (hv : l.length ≤ 900) (hx : x.length ≤ 10000) (hl2 : ∀ q ∈ l, q.1.length ≤ 50) (hx2 : x.length ≤ 50)
    (hne : l ≠ [] ∨ done < x.length)
    (h : ∀ h' tk tk', Heap.SameBut D s.heap h' → R (.ok (.ret (.str (Txt.join Str.empty (l.map (·.1) ++ (if done < x.length then [⟨x.cps.extract done x.cps.size⟩] else []))) tk))) { s with heap := h', toks := tk' }) :
    codeAny (model prog w) A (loopAt p x t r u n done start must D) R s := by
  unfold loopAt
  refine codeAny_builtin RX.entry_loop ?_
  rw [Around.under_plainId RX.plain_loop _]
  unfold Builtin.«re.Pattern.sub.loop» subArgs
  dsimp only
  refine wpAny_bind (target_of hp ?_)
  rw [if_pos (by rfl)]
  refine wpAny_bind (wpAny_of_eq (a := ()) rfl ?_)
  dsimp only
  refine wpAny_bind ?_
  rw [if_neg (by rw [Bool.and_eq_true]; exact fun q => absurd q.1 (by decide))]
  unfold reNextFound
  refine run_end hE hN fun m' o1 => .inr ⟨o1, ?_⟩
  dsimp only
  have fin : ∀ (s₁ : Shared) (l₁ : List (Str × Tok)), s₁.heap.PlainList D (strValues l₁).toArray → l₁.length ≤ 1000 → l₁ ≠ [] → (∀ q ∈ l₁, q.1.length ≤ 50) → (∀ tk tk', R (.ok (.ret (.str (Txt.join Str.empty (l₁.map (·.1))) tk))) { s₁ with toks := tk' }) →
      wpAny (model prog w) A.in1 (do
        let joiner ← reSlice x.cps 0 0 0
        let its ← seqItems? (Value.ref D)
        if (its.getD #[]).isEmpty = true then do
            let text ← pure joiner
            if false = true then do
                let __do_lift ← holding [text] do
                      let __do_lift ← mkInt ↑n
                      newTuple [text, __do_lift]
                ret __do_lift
              else ret text
          else do
            let text ← call (Value.builtin (if (0 == 0) = true then "str.join" else "bytes.join")) [joiner, Value.ref D]
            if false = true then do
                let __do_lift ← holding [text] do
                      let __do_lift ← mkInt ↑n
                      newTuple [text, __do_lift]
                ret __do_lift
              else ret text)
        (fun fin s' => match fin with | .done f => R (.ok f) s' | .again c' => c'.quiet = true ∧ codeAny (model prog w) A c' R s') (fun e s' => R (.error e) s') s₁ := by
    intro s₁ l₁ hl₁ hz₁ hne₁ hsm₁ hk
    obtain ⟨m₁, ho₁⟩ := id hl₁
    refine wpAny_bind ?_
    unfold reSlice
    rw [if_pos (by rfl)]
    have e0 : (⟨x.cps.extract 0 0⟩ : Str) = Str.empty := by
      apply Str.ext'
      show x.cps.extract 0 0 = #[]
      apply Array.toList_inj.mp; simp
    rw [e0]
    refine wpAny_mkStr ?_ (by decide)
    refine wpAny_bind (wpAny_seqItems (s := { s₁ with toks := s₁.toks + 1 }) ho₁ rfl ?_)
    have hemp : ¬ ((some (strValues l₁).toArray).getD #[]).isEmpty = true := by
      cases l₁ with
      | nil => exact absurd rfl hne₁
      | cons a b => simp [strValues]
    rw [if_neg hemp]
    refine wpAny_bind ?_
    show wpAny _ _ (call (.builtin "str.join") [.str Str.empty _, .ref D]) _ _ _
    refine PySem.SC.join (s := { s₁ with toks := s₁.toks + 1 }) hl₁.isList rfl (joinOk_of _ (by decide) _ (fun z hz => ?_) (by rw [List.length_map]; exact hz₁)) fun tk k => ?_
    · obtain ⟨q, hq, rfl⟩ := List.mem_map.mp hz
      exact hsm₁ q hq
    · rw [if_neg (by decide)]
      exact wpAny_pure (hk tk k)
  by_cases hde : done < x.length
  · rw [if_pos (by rw [Int.toNat_natCast]; exact hde)]
    have hsz : (⟨x.cps.extract done x.cps.size⟩ : Str).length ≤ x.length := by
      show (x.cps.extract done x.cps.size).size ≤ x.cps.size
      rw [Array.size_extract]; omega
    refine wpAny_bind ?_
    conv => arg 3; unfold reSlice
    rw [if_pos (by rfl), Int.toNat_natCast]
    refine wpAny_mkStr ?_ (Nat.le_trans hsz (Nat.le_trans hx (by decide)))
    refine wpAny_bind (push_plain (s := { s with toks := s.toks + 1 }) hl (by simp [strValues]; omega) fun h₁ hl₁ hs₁ => ?_)
    have el : strValues l ++ [Value.str ⟨x.cps.extract done x.cps.size⟩ s.toks] = strValues (l ++ [(⟨x.cps.extract done x.cps.size⟩, s.toks)]) := by simp [strValues]
    rw [el] at hl₁
    refine fin _ _ hl₁ (by rw [List.length_append, List.length_singleton]; omega) (by simp) (fun q hq => ?_) fun tk tk' => ?_
    · rcases List.mem_append.mp hq with e | e
      · exact hl2 q e
      · rw [List.mem_singleton.mp e]; exact Nat.le_trans hsz hx2
    · have := h h₁ tk tk' hs₁
      rw [if_pos hde] at this
      rw [List.map_append]
      exact this
  · rw [if_neg (by rw [Int.toNat_natCast]; exact hde)]
    refine fin _ _ hl (by omega) (hne.resolve_right hde) hl2 fun tk tk' => ?_
    have := h s.heap tk tk' (.refl ..)
    rw [if_neg hde, List.append_nil] at this
    exact this
end
end
section
section
variable {prog : Program} {w : World} {A : Around} {E : Value → Shared → Prop} {s : Shared}
theorem str_no_call : typeLookup (.type "str") (Str.ofString "__call__") = pure none := by rw [typeLookup_type, builtinLookup_eq_fast]; kernel_rfl
open Builtin.Re in
theorem call_sub {p : Addr} {code : Array Nat} {x r : Str} {t u : Tok} {Q : Value → Shared → Prop} (hp : IsPat s.heap p code) (hr : r.cps.contains 92 = false)
    (h : ∀ D h', s.heap.get? D = none → h'.PlainList D #[] → (∀ b o, s.heap.get? b = some o → h'.get? b = some o) → codeAny (model prog w) A (loopAt p x t r u 0 0 0 false D) (fun r s' => match r with | .ok (.ret v) => Q v s' | .ok _ => False | .error e => E e s') { s with heap := h' }) :
    wpAny (model prog w) A (call (.builtin "re.Pattern.sub") [.ref p, .str r u, .str x t]) Q E s := by
  have hT : s.TypeIs (.ref p) "re.Pattern" := let ⟨_, _, _, _, _, _, _, _, h1, _⟩ := hp.there; ⟨_, h1, rfl⟩
  refine call_tree RX.slot_sub hT RX.entry_sub (RX.args_sub _ _ _) ?_
  unfold Builtin.«re.Pattern.sub» reSubstitute
  simp only
  refine wpAny_bind (wpAny_of_eq (a := [some (.str r u), some (.str x t), none]) (by first | rfl | kernel_rfl!) ?_)
  dsimp only
  refine wpAny_bind (wpAny_pure ?_)
  refine wpAny_bind (wpAny_specialOf (name := Str.ofString "__call__") (typeIs_str s r u) str_no_call ?_)
  rw [if_neg (by decide)]
  refine wpAny_bind (wpAny_of_eq (a := some r) rfl ?_)
  dsimp only
  refine wpAny_bind (wpAny_pure ?_)
  rw [if_neg (by decide), hr]
  rw [if_pos (by decide)]
  refine wpAny_bind (wpAny_pure ?_)
  refine wpAny_bind (wpAny_holding (target_of hp ?_))
  dsimp only
  rw [if_neg (by decide)]
  refine wpAny_bind (wpAny_newObj_type ?_)
  refine wpAny_pure ⟨plainId_quiet RX.plain_loop _, ?_⟩
  exact h s.heap.objs.size _ get_size_none ⟨0, Heap.get?_push_size _ rfl⟩ (fun b o e => Heap.get?_push_of_some _ e)
end

section
variable {w : World} {n : Nat} {cx : Cx} {pos : Pos}
/-- what `sub` of a pattern gives -/
noncomputable def SubGives (w : World) (p : Addr) (r x y : Str) : Prop := ∀ (A : Around) (E : Value → Shared → Prop) (s : Shared) (t u : Tok) (Q : Value → Shared → Prop), A.handled = none → GH w s.heap →
  (∀ tk s', Kp s s' → Q (.str y tk) s') → wpAny (MD w) A (call (.builtin "re.Pattern.sub") [.ref p, .str r u, .str x t]) Q E s
theorem SE_sub {y : Str} {np ap cp : Pos} {p : Addr} {e₁ e₂ : Expr} {ob : Obj} {K : Dat → Prop} (hk : cx.sc.lookup y = some .globalImplicit) (hf : nsIn (hd.heap_39 w.params) mainGlobals y = some (some (.ref p))) (hl : (hd.heap_39 w.params).lookup p = some ob) (hc : ob.cls = .type "re.Pattern") (hdi : ob.dict = none)
    (hdb : (y == ("__debug__" : Str)) = false) (hbase : ∀ env, attributeBase (.Name y np) "sub" env (eval (.Name y np) env) = eval (.Name y np) env) (hs : ∀ env, starEach [e₁, e₂] env = [(false, eval e₁ env), (false, eval e₂ env)]) (hline : (ap.endLine == cp.line) = true)
    (h : SE w n cx e₁ fun d => ∃ r, d = .str r ∧ SE w n cx e₂ fun d' => ∃ x z, d' = .str x ∧ SubGives w p r x z ∧ K (.str z)) :
    SE w n cx (.Call (.Attribute (.Name y np) "sub" ap) [e₁, e₂] [] cp) K := fun A E env s W rm g o v => by
  refine Call_method2 (hbase env) (hs env) hline (name_global g v hk hf hdb ?_)
  have hT : s.TypeIs (.ref p) "re.Pattern" := ⟨ob, g.1 _ _ hl, hc⟩
  refine ⟨"re.Pattern", "re.Pattern.sub", RX.plainAttrs, RX.slot_sub, RX.type_sub, hT, (fun a e => by cases e; exact ⟨ob, g.1 _ _ hl, hdi⟩), ?_⟩
  refine Calls.callWith_builtin rfl (Calls.evalArgs_plain (Calls.spliced_cons (wpAny_mono (h A E env s W rm g o v) (fun v₁ s₁ ⟨d, rd, ⟨r, hd, h₁⟩, k₁⟩ => ?_) fun _ _ q => q)))
  subst hd
  cases rd with
  | str _ t₁ =>
  refine Calls.spliced_cons (wpAny_mono (h₁ A E env s₁ W rm (g.keeps k₁.k) (o.keeps k₁.k) (v.keeps k₁.k)) (fun v₂ s₂ ⟨d', rd', ⟨x, z, hd', hg, hK⟩, k₂⟩ => Calls.spliced_nil ?_) fun _ _ q => q)
  subst hd'
  cases rd' with
  | str _ t₂ =>
  exact hg A E s₂ t₂ t₁ _ rm.handled (g.keeps (k₁.trans k₂).k) fun tk s' k₃ => ⟨_, .str _ tk, hK, (k₁.trans k₂).trans k₃⟩
theorem pat_of {p : Addr} {code : Array Nat} (a : Str) (fl : Int) (c : Addr) (t1 t2 t3 t4 : Tok) (m : Nat) (items : Array Value) (h1 : (hd.heap_39 w.params).lookup p = some { cls := .type "re.Pattern", data := .fields #[.str a t1, .int fl t2, .int 0 t3, .none, .none, .ref c, .int 0 t4] })
    (h2 : (hd.heap_39 w.params).lookup c = some { cls := .type "tuple", data := .seq items m }) (h3 : (items.map Builtin.Re.reRawOf).map Int.toNat = code) {h : Heap} (g : GH w h) : IsPat h p code :=
  ⟨a, fl, c, t1, t2, t3, t4, m, g.1 _ _ h1, items, g.1 _ _ h2, h3⟩
end
open PySem.Sre in
theorem loop_end {w : World} {p : Addr} {code : Array Nat} {x r : Str} {t u : Tok} {D : Addr} {A : Around} {E : Value → Shared → Prop} {s₀ s : Shared} {Q : Value → Shared → Prop} {y : Str} {n done start : Nat} {must : Bool} {l : List (Str × Tok)} {N : Nat} (hp : IsPat s.heap p code)
    (fr : s₀.heap.get? D = none) (k : Kp s₀ s) (hE : Ends (forSearch code x.cps 0 start x.cps.size must) N Miss) (hN : N ≤ 1000000) (hl : s.heap.PlainList D (strValues l).toArray) (hv : l.length ≤ 900) (hl2 : ∀ q ∈ l, q.1.length ≤ 50) (hx2 : x.length ≤ 50) (hne : l ≠ [] ∨ done < x.length)
    (hy : Txt.join Str.empty (l.map (·.1) ++ (if done < x.length then [⟨x.cps.extract done x.cps.size⟩] else [])) = y) (hQ : ∀ tk s', Kp s₀ s' → Q (.str y tk) s') :
    codeAny (MD w) A (loopAt p x t r u n done start must D) (fun r s' => match r with | .ok (.ret v) => Q v s' | .ok _ => False | .error e => E e s') s := by
  refine sub_miss hp hE hN hl hv (Nat.le_trans hx2 (by decide)) hl2 hx2 hne fun h' tk tk' hs => ?_
  rw [hy]
  refine hQ tk _ ?_
  obtain ⟨h₁, t₁, ⟨gs, rfl, ab⟩, k₁⟩ := k
  exact ⟨h', tk', ⟨_, rfl, ab⟩, fun b ob e => hs.extBut b ob (by rintro rfl; rw [fr] at e; cases e) (k₁ b ob e)⟩
end
section
theorem pat70 (w : World) {h : Heap} (g : GH w h) : IsPat h 70 code2 := pat_of _ _ _ _ _ _ _ _ _ (by k_is) (by k_is) (by decide +kernel) g
theorem pat65 (w : World) {h : Heap} (g : GH w h) : IsPat h 65 code1 := pat_of _ _ _ _ _ _ _ _ _ (by k_is) (by k_is) (by decide +kernel) g
theorem getD_list (a : Array Nat) (k : Nat) : a.getD k 0 = (a.toList[k]?).getD 0 := by
  rw [Array.getD_eq_getD_getElem?, Array.getElem?_toList]
theorem join_two (a b : Str) : Txt.join Str.empty [a, b] = a ++ b := by
  unfold Txt.join
  rw [StrLaws.glued_eq_join]
  show a ++ Str.empty ++ b = a ++ b
  rw [Str.append_empty]
theorem join_one (a : Str) : Txt.join Str.empty [a] = a := by
  unfold Txt.join
  rw [StrLaws.glued_eq_join]; rfl
open PySem.Sre in
theorem sub2_gives (w : World) (x : Str) (body ending : List Nat) (hx : x.cps.toList = body ++ ending) (he : ending = [10] ∨ ending = [13, 10] ∨ ending = [13]) (hb : ∀ c ∈ body, c ≠ 10 ∧ c ≠ 13) (hne : body ≠ []) (hlen : x.length ≤ 40) :
    SubGives w 70 (Str.ofString "\r\n") x ⟨(body ++ [13, 10]).toArray⟩ := by
  intro A E s t u Q hh g hQ
  have hxl : x.cps.size = body.length + ending.length := by rw [← Array.length_toList, hx, List.length_append]
  have hpos : 0 < body.length := List.length_pos_iff.mpr hne
  have hn : ∀ k, k < body.length → x.cps.getD k 0 ≠ 10 ∧ x.cps.getD k 0 ≠ 13 := by
    intro k hk
    rw [getD_list, hx, List.getElem?_append_left hk, List.getElem?_eq_getElem hk]
    exact hb _ (List.getElem_mem hk)
  have he0 : x.cps.getD body.length 0 = ending.headD 0 := by
    rw [getD_list, hx, List.getElem?_append_right (Nat.le_refl _), Nat.sub_self]
    rcases he with rfl | rfl | rfl <;> rfl
  have hE : Ends (forSearch code2 x.cps 0 0 x.cps.size false) 30 (Hit body.length x.cps.size) := by
    have hlt : body.length < x.cps.size := by rw [hxl]; rcases he with rfl | rfl | rfl <;> simp
    refine search2 x.cps hlt (by rw [he0]; rcases he with rfl | rfl | rfl <;> simp) hn fun sn => ?_
    rcases he with rfl | rfl | rfl
    · have e : x.cps.size = body.length + 1 := hxl
      rw [e]
      exact Ends.le (hit_lf x.cps body.length sn he0) (by decide)
    · have e : x.cps.size = body.length + 2 := hxl
      have he1 : x.cps.getD (body.length + 1) 0 = 10 := by
        rw [getD_list, hx, List.getElem?_append_right (by omega), Nat.add_sub_cancel_left]; rfl
      rw [e]
      exact Ends.le (hit_crlf x.cps body.length sn he0 he1) (by decide)
    · have e : x.cps.size = body.length + 1 := hxl
      rw [e]
      exact hit_cr x.cps body.length sn he0
  refine call_sub (pat70 w g) (by decide +kernel) fun D h' fr hl k => ?_
  have k1 : Kp s { s with heap := h' } := ⟨h', s.toks, ⟨_, rfl, GB.refl _⟩, k⟩
  have hl0 : h'.PlainList D ([] : List Value).toArray := hl
  refine sub_hit ((pat70 w g).keeps k) hE (by decide) hl0 (by decide) (Nat.le_trans hlen (by decide)) fun h'' tk tk' hl2 hs => ?_
  rw [if_pos hpos] at hl2
  have up : ∀ b o, s.heap.get? b = some o → h''.get? b = some o := fun b o e => hs.extBut b o (by rintro rfl; rw [fr] at e; cases e) (k b o e)
  refine loop_end (s₀ := s) (l := [(⟨x.cps.extract 0 body.length⟩, tk), (Str.ofString "\r\n", u)]) ((pat70 w g).keeps up) fr ⟨h'', tk', ⟨_, rfl, GB.refl _⟩, up⟩ (search_end x.cps code2 rfl x.cps.size _) (by decide) hl2 (by simp) ?_ (Nat.le_trans hlen (by decide)) (.inl (by simp)) ?_ hQ
  · intro q hq
    simp only [List.mem_cons, List.not_mem_nil, or_false] at hq
    rcases hq with rfl | rfl
    · show (x.cps.extract 0 body.length).size ≤ 50
      rw [Array.size_extract]
      have : x.cps.size ≤ 40 := hlen
      omega
    · show (Str.ofString "\r\n").length ≤ 50
      decide +kernel
  · rw [if_neg (by show ¬ x.cps.size < x.cps.size; omega), List.append_nil]
    show Txt.join Str.empty [_, _] = _
    rw [join_two]
    apply Str.ext'
    apply Array.toList_inj.mp
    show (x.cps.extract 0 body.length ++ (Str.ofString "\r\n").cps).toList = _
    rw [Array.toList_append]
    have e1 : (x.cps.extract 0 body.length).toList = body := by
      show (Builtin.Str.strSub x 0 body.length).cps.toList = body
      rw [StrLaws.strSub_toList, hx, List.drop_zero, Nat.sub_zero, List.take_left]
    rw [e1]
    show body ++ (Str.ofString "\r\n").cps.toList = body ++ [13, 10]
    congr 1
open PySem.Sre in
theorem sub1_gives (w : World) (x : Str) (c : Nat) (rest : List Nat) (hx : x.cps.toList = c :: rest) (hb : ∀ k, k + 1 < x.cps.size → x.cps.getD k 0 ≠ 10) (h1 : 1 < x.cps.size) (hlen : x.length ≤ 40) :
    SubGives w 65 (Str.ofString "..") x (if c = 46 then ⟨(46 :: 46 :: rest).toArray⟩ else x) := by
  intro A E s t u Q hh g hQ
  have hc0 : x.cps.getD 0 0 = c := by rw [getD_list, hx]; rfl
  have h40 : x.cps.size ≤ 40 := hlen
  have hno : ∀ k, 1 ≤ k → k < x.cps.size → NoAt x.cps k := fun k h2 h3 => .inl ⟨by omega, hb (k - 1) (by omega)⟩
  refine call_sub (pat65 w g) (by decide +kernel) fun D h' fr hl k => ?_
  have k1 : Kp s { s with heap := h' } := ⟨h', s.toks, ⟨_, rfl, GB.refl _⟩, k⟩
  have hl0 : h'.PlainList D ([] : List Value).toArray := hl
  by_cases hc : c = 46
  · rw [if_pos hc] at hQ
    subst hc
    have hE : Ends (forSearch code1 x.cps 0 0 x.cps.size false) 10 (Hit 0 1) := search1 x.cps (by omega) fun sn => hit1 x.cps (by omega) hc0 sn
    refine sub_hit ((pat65 w g).keeps k) hE (by decide) hl0 (by decide) (Nat.le_trans hlen (by decide)) fun h'' tk tk' hl2 hs => ?_
    rw [if_neg (by decide), List.append_nil, List.nil_append] at hl2
    have up : ∀ b o, s.heap.get? b = some o → h''.get? b = some o := fun b o e => hs.extBut b o (by rintro rfl; rw [fr] at e; cases e) (k b o e)
    have hE2 : Ends (forSearch code1 x.cps 0 1 x.cps.size ((1 : Nat) == 0)) (3 * (x.cps.size - 1) + 4) Miss := search1 x.cps h1 fun sn => miss1 x.cps (x.cps.size - 1) 1 true sn (by omega) hno
    refine loop_end (s₀ := s) (l := [(Str.ofString "..", u)]) ((pat65 w g).keeps up) fr ⟨h'', tk', ⟨_, rfl, GB.refl _⟩, up⟩ hE2 (by omega) hl2 (by simp) ?_ (Nat.le_trans hlen (by decide)) (.inl (by simp)) ?_ hQ
    · intro q hq
      rw [List.mem_singleton.mp hq]
      show (Str.ofString "..").length ≤ 50
      decide +kernel
    · rw [if_pos (by show 1 < x.cps.size; exact h1)]
      show Txt.join Str.empty [_, _] = _
      rw [join_two]
      apply Str.ext'
      apply Array.toList_inj.mp
      show ((Str.ofString "..").cps ++ x.cps.extract 1 x.cps.size).toList = _
      rw [Array.toList_append]
      have e1 : (x.cps.extract 1 x.cps.size).toList = rest := by
        show (Builtin.Str.strSub x 1 x.cps.size).cps.toList = rest
        rw [StrLaws.strSub_toList, hx]
        have : rest.length = x.cps.size - 1 := by rw [← Array.length_toList, hx]; rfl
        exact List.take_of_length_le (by show rest.length ≤ _; omega)
      rw [e1]; rfl
  · rw [if_neg hc] at hQ
    have hE : Ends (forSearch code1 x.cps 0 0 x.cps.size false) (3 * x.cps.size + 4) Miss := search1 x.cps (by omega) fun sn => miss1 x.cps x.cps.size 0 true sn (by omega) fun k _ hk => by
      rcases Nat.eq_zero_or_pos k with h0 | h0
      · subst h0; exact .inr (by rw [hc0]; exact hc)
      · exact hno k h0 hk
    refine loop_end (s₀ := s) (l := []) ((pat65 w g).keeps k) fr k1 hE (by omega) hl (by decide) (by simp) (Nat.le_trans hlen (by decide)) (.inr (by show 0 < x.cps.size; omega)) ?_ hQ
    rw [if_pos (by show 0 < x.cps.size; omega)]
    show Txt.join Str.empty [_] = _
    rw [join_one]
    apply Str.ext'
    apply Array.toList_inj.mp
    show (Builtin.Str.strSub x 0 x.cps.size).cps.toList = _
    rw [StrLaws.strSub_toList, List.drop_zero, Nat.sub_zero]
    exact List.take_of_length_le (by rw [Array.length_toList]; exact Nat.le_refl _)
end
section
theorem c_quote (w : World) (data : Str) (c : Nat) (r ending : List Nat) (hx : data.cps.toList = (c :: r) ++ ending) (he : ending = [10] ∨ ending = [13, 10] ∨ ending = [13]) (hb : ∀ d ∈ c :: r, d ≠ 10 ∧ d ≠ 13) (hlen : data.length ≤ 35) :
    SC w 1 77 [.str data] (fun d => d = .str ⟨((if c = 46 then [46] else []) ++ (c :: r) ++ [13, 10]).toArray⟩) := by
  refine SC_def (xs := [Str.ofString "data"]) (by k_is) (by rfl) ⟨by rfl, by k_is, by rfl, by rfl, by rfl, by rfl, by rfl, by rfl, ?_, by decide, by decide⟩ rfl (by dsimp only) (by dsimp only [List.zip, List.zipWith]) ?_
  · rintro (_ | ⟨v0, _ | ⟨u, vs⟩⟩) h <;> first | rfl | cases h
  · walk_at "s"
    walk_at "s"
    refine SE_sub (by rfl) (by k_is) (by k_is) (by rfl) (by rfl) (by decide) (fun _ => by rfl) (fun _ => by rfl) (by rfl) ?_
    repeat walk_at "s"
    refine ⟨_, rfl, ?_⟩
    refine SE_sub (by rfl) (by k_is) (by k_is) (by rfl) (by rfl) (by decide) (fun _ => by rfl) (fun _ => by rfl) (by rfl) ?_
    repeat walk_at "s"
    refine ⟨_, rfl, ?_⟩
    repeat walk_at "s"
    refine ⟨_, _, rfl, sub2_gives w data (c :: r) ending hx he hb (by simp) (Nat.le_trans hlen (by decide)), ?_⟩
    have hdl : data.length = (c :: r).length + ending.length := by
      show data.cps.size = _
      rw [← Array.length_toList, hx, List.length_append]
    have hend : 1 ≤ ending.length := by rcases he with rfl | rfl | rfl <;> simp
    have hsz : (((c :: r) ++ [13, 10]).toArray).size = (c :: r).length + 2 := by simp
    refine ⟨_, _, rfl, sub1_gives w ⟨((c :: r) ++ [13, 10]).toArray⟩ c (r ++ [13, 10]) rfl (fun k hk => ?_) (by show 1 < (((c :: r) ++ [13, 10]).toArray).size; rw [hsz]; omega) (by show (((c :: r) ++ [13, 10]).toArray).size ≤ 40; rw [hsz]; omega), ?_⟩
    · have hk' : k + 1 < (c :: r).length + 2 := by rw [← hsz]; exact hk
      show (((c :: r) ++ [13, 10]).toArray).getD k 0 ≠ 10
      rw [getD_list]
      show ((((c :: r) ++ [13, 10]))[k]?).getD 0 ≠ 10
      rcases Nat.lt_or_ge k (c :: r).length with h | h
      · rw [List.getElem?_append_left h, List.getElem?_eq_getElem h]
        exact (hb _ (List.getElem_mem h)).1
      · rw [List.getElem?_append_right h, show k - (c :: r).length = 0 by omega]
        decide
    · split
      · rename_i h; subst h; rfl
      · rfl
end
section
section
variable {w : World} {word : Str} {X Y Z L fl : Nat}
noncomputable abbrev tailR (word : Str) (X Y Z L fl : Nat) : List (Str × Dat) :=
  let F := Ww (opOf word) fl X Z ++ Ww (opOf word) fl Y L ++ Ww (opOf word) fl X L ++ Ww (opOf word) fl Y Z
  [(Str.ofString "found", .list (nats F)), (Str.ofString "listed", .list (nats F)), (Str.ofString "lists", .list [.list (nats (Ww (opOf word) fl X Z)), .list (nats (Ww (opOf word) fl Y L)), .list (nats (Ww (opOf word) fl X L)), .list (nats (Ww (opOf word) fl Y Z))]),
    (Str.ofString "word", .str word), (Str.ofString "x", .int (X : Int)), (Str.ofString "y", .int (Y : Int)), (Str.ofString "z", .int (Z : Int)), (Str.ofString "last", .int (L : Int))]
theorem Ww_small {s k fl : Nat} {op : Nat → Nat → Bool} (hk : k ≤ 7) (hf : fl ≤ 7) : ∀ p ∈ Ww op fl s k, p ≠ 0 ∧ p < 2 ^ 32 := fun p hp => by
  obtain ⟨h1, r, h2, h3⟩ := Ww_bound op fl s k p hp
  have h4 := Nat.two_pow_pos (k + fl)
  exact ⟨by omega, Nat.lt_of_lt_of_le h1 (Nat.pow_le_pow_right (by decide) (by omega))⟩
theorem Ww_size {s k fl : Nat} {op : Nat → Nat → Bool} (hk : k ≤ 7) : (Ww op fl s k).length ≤ 2187 := by
  unfold Ww
  split
  · simp
  · exact Nat.le_trans (wayT_size op s fl (k - s) k) (Nat.pow_le_pow_right (by decide) hk)
theorem Nn_small {s k fl : Nat} {op : Nat → Nat → Bool} (hk : k ≤ 7) : Nn op s k < 2 ^ 63 := by
  rw [← Ww_len op fl s k]
  exact Nat.lt_of_le_of_lt (Ww_size hk) (by decide)
theorem count_Nn (w : World) (ha : ∀ c ∈ word.cps.toList, c ∈ alpha) (s e : Nat) (hse : s ≤ e) (he : e ≤ word.length) (hw : word.length ≤ 7) : SC w 2 132 [.str word, .int (s : Int), .int (e : Int)] (fun d => d = .int (Nn (opOf word) s e : Nat)) := by
  refine (c_count w word s e hse (by omega) (opOf word) (fun i j h1 h2 h3 h4 => c_isop w word ha i j h2 h4 (by omega)) (by omega)).mono fun d e' => ?_
  rw [e']
  unfold Nn
  rw [if_neg (by omega)]
theorem from_lookup {P : Prop} {α : Type} {l : Option α} {ob ob' : α} (h : l = some ob) (h' : l = some ob') (k : ob' = ob → P) : P := k (Option.some.inj (h'.symm.trans h))
theorem law_tail {ob : Obj} {fd : FuncData} {body : List Stmt} (ho : (hd.heap_39 w.params).lookup 152 = some ob) (hdt : ob.data = .func fd) (hbody : fd.body = .stmts body)
    (ha : ∀ c ∈ word.cps.toList, c ∈ alpha) (hL : word.length = L) (hL7 : L ≤ 7) (hXY : X ≠ Y) (hXZ : X ≤ Z) (hYZ : Y ≤ Z) (hZL : Z ≤ L) (hfl : fl ≤ 7) :
    SSs w 6 ⟨fd.scope.names, tailR word X Y Z L fl, none⟩ (body.drop 14) (fun _ => False) (fun d => d = .bool true) (fun _ => False) := by
  refine from_lookup ho (by k_is) (fun e => ?_)
  subst e
  cases hdt
  cases hbody
  clear ho
  dsimp only [List.drop]
  obtain ⟨l1, e1⟩ : ∃ l, l = Ww (opOf word) fl X Z := ⟨_, rfl⟩
  obtain ⟨l2, e2⟩ : ∃ l, l = Ww (opOf word) fl Y L := ⟨_, rfl⟩
  obtain ⟨l3, e3⟩ : ∃ l, l = Ww (opOf word) fl X L := ⟨_, rfl⟩
  obtain ⟨l4, e4⟩ : ∃ l, l = Ww (opOf word) fl Y Z := ⟨_, rfl⟩
  unfold tailR
  rw [← e1, ← e2, ← e3, ← e4]
  dsimp only
  have s1 : ∀ p ∈ l1, p ≠ 0 ∧ p < 2 ^ 32 := e1 ▸ Ww_small (by omega) hfl
  have s2 : ∀ p ∈ l2, p ≠ 0 ∧ p < 2 ^ 32 := e2 ▸ Ww_small (by omega) hfl
  have s3 : ∀ p ∈ l3, p ≠ 0 ∧ p < 2 ^ 32 := e3 ▸ Ww_small (by omega) hfl
  have s4 : ∀ p ∈ l4, p ≠ 0 ∧ p < 2 ^ 32 := e4 ▸ Ww_small (by omega) hfl
  have z1 : l1.length ≤ 2187 := e1 ▸ Ww_size (by omega)
  have z2 : l2.length ≤ 2187 := e2 ▸ Ww_size (by omega)
  have z3 : l3.length ≤ 2187 := e3 ▸ Ww_size (by omega)
  have z4 : l4.length ≤ 2187 := e4 ▸ Ww_size (by omega)
  have sF : ∀ p ∈ l1 ++ l2 ++ l3 ++ l4, p ≠ 0 ∧ p < 2 ^ 32 := fun p hp => by
    rcases List.mem_append.mp hp with hp | hp
    · rcases List.mem_append.mp hp with hp | hp
      · rcases List.mem_append.mp hp with hp | hp
        · exact s1 p hp
        · exact s2 p hp
      · exact s3 p hp
    · exact s4 p hp
  repeat walk_at "s"
  refine Oc_NeNats ⟨_, rfl, ?_⟩
  rw [if_neg (by decide)]
  walk_at "s"
  walk_at "s"
  refine SS_assign_comp (by rfl) (fun _ e => by cases e) (by rfl) (fun _ _ => by rfl) (by rfl) (by rfl) ?_
  refine SIt_list ?_
  walk_at "s"
  refine ⟨_, rfl, ?_⟩
  refine (SG_map (fun it acc env => turn1 _ _ _ _ _ _ _ it acc env) (by rfl) (by rfl) (by rfl) (nats (l1 ++ l2 ++ l3 ++ l4)) [] (f := fun _ => true) (g := fun d => match d with | .int i => strL (wn i.toNat) | _ => d) ?_ ?_ ?_).mono ?_
  · intro d hd
    exact STs_nil rfl
  · intro d hd _
    obtain ⟨p, hp, rfl⟩ := List.mem_map.mp hd
    obtain ⟨hp0, hp1⟩ := sF p hp
    refine SE_strm PySem.F.slot_str_split PySem.F.type_str_split (fun _ => by rfl) (fun _ => by rfl) (by rfl) ?_
    repeat walk_at "s"
    refine ((c_pretty w p hp0 hp1).le (by decide)).mono fun d e => ?_
    refine ⟨_, e, ?_⟩
    repeat walk_at "s"
    have hlen := wn_join_len hp0 hp1
    refine OB_split (by decide +kernel) (Nat.le_trans hlen (by decide)) (split_parts_le hlen) ?_
    show Dat.list ((Txt.split (Txt.join (Str.ofString ", ") (wn p)) (Str.ofString ", ")).map .str) = strL (wn ((p : Int)).toNat)
    rw [wn_split hp0 hp1, Int.toNat_natCast]; rfl
  · unfold nats
    rw [List.length_map, List.length_nil, List.length_append, List.length_append, List.length_append]
    exact Nat.le_trans (by omega) (show 10000 ≤ sizeLine by decide)
  · intro ds hds
    have e5 : ds = (l1.map wn ++ l2.map wn ++ l3.map wn ++ l4.map wn).map strL := by
      rw [hds, List.nil_append, List.filter_eq_self.mpr (fun _ _ => rfl)]
      unfold nats
      rw [List.map_map, ← List.map_append, ← List.map_append, ← List.map_append, List.map_map]
      refine List.map_congr_left fun p _ => ?_
      show strL (wn ((p : Int)).toNat) = strL (wn p)
      rw [Int.toNat_natCast]
    rw [e5, List.map_append, List.map_append, List.map_append]
    clear hds e5
    obtain ⟨A1, hA1⟩ : ∃ A, A = (l1.map wn).map strL := ⟨_, rfl⟩
    obtain ⟨A2, hA2⟩ : ∃ A, A = (l2.map wn).map strL := ⟨_, rfl⟩
    obtain ⟨A3, hA3⟩ : ∃ A, A = (l3.map wn).map strL := ⟨_, rfl⟩
    obtain ⟨A4, hA4⟩ : ∃ A, A = (l4.map wn).map strL := ⟨_, rfl⟩
    rw [← hA1, ← hA2, ← hA3, ← hA4]
    have n1 : A1.length = l1.length := by rw [hA1, List.length_map, List.length_map]
    have n2 : A2.length = l2.length := by rw [hA2, List.length_map, List.length_map]
    have n3 : A3.length = l3.length := by rw [hA3, List.length_map, List.length_map]
    have n4 : A4.length = l4.length := by rw [hA4, List.length_map, List.length_map]
    have c1 := cutA A1 A2 A3 A4
    have c2 := cutB A1 A2 A3 A4
    have c3 := cutC A1 A2 A3 A4
    have c4 := cutD A1 A2 A3 A4
    rw [n1] at c1 c2 c3 c4
    rw [n2] at c2 c3 c4
    rw [n3] at c3 c4
    simp only [Int.natCast_add] at c2 c3 c4
    have nF : (A1 ++ A2 ++ A3 ++ A4).length ≤ sizeLine := by
      rw [List.length_append, List.length_append, List.length_append]
      exact Nat.le_trans (by omega) (show 10000 ≤ sizeLine by decide)
    have p12 : SC w 1 142 [.list A1, .list A2] (fun d => d = .int (pc l1 l2 : Nat)) := by
      rw [hA1, hA2]
      refine (c_parted w (l1.map wn) (l2.map wn) (fun l hl => ?_)).mono fun d e => ?_
      · obtain ⟨p, _, rfl⟩ := List.mem_map.mp hl
        exact Nat.le_trans (wn_len p) (by decide)
      · rw [e, part_pc l1 l2 s1 s2]
    have p34 : SC w 1 142 [.list A3, .list A4] (fun d => d = .int (pc l3 l4 : Nat)) := by
      rw [hA3, hA4]
      refine (c_parted w (l3.map wn) (l4.map wn) (fun l hl => ?_)).mono fun d e => ?_
      · obtain ⟨p, _, rfl⟩ := List.mem_map.mp hl
        exact Nat.le_trans (wn_len p) (by decide)
      · rw [e, part_pc l3 l4 s3 s4]
    clear hA1 hA2 hA3 hA4
    have m1 : (nats l1).length = l1.length := List.length_map ..
    have m2 : (nats l2).length = l2.length := List.length_map ..
    have m3 : (nats l3).length = l3.length := List.length_map ..
    repeat walk_at "s"
    refine OG_list (by decide) (by decide) (by rfl) ?_
    repeat walk_at "s"
    refine OB_len_list (by rw [m1]; omega) ?_
    rw [m1]
    repeat walk_at "s"
    refine OG_list (by decide) (by decide) (by rfl) ?_
    repeat walk_at "s"
    refine OB_len_list (by rw [m2]; omega) ?_
    rw [m2]
    repeat walk_at "s"
    refine Ob_add ?_
    repeat walk_at "s"
    refine OG_list (by decide) (by decide) (by rfl) ?_
    repeat walk_at "s"
    refine OB_len_list (by rw [m3]; omega) ?_
    rw [m3]
    repeat walk_at "s"
    refine Ob_add ?_
    repeat walk_at "s"
    refine ⟨_, rfl, ?_⟩
    refine OS_list nF ?_
    rw [c1]
    repeat walk_at "s"
    refine ⟨_, rfl, ?_⟩
    repeat walk_at "s"
    refine ⟨_, rfl, ?_⟩
    refine OS_list nF ?_
    rw [c2]
    repeat walk_at "s"
    refine (p12.le (by decide)).mono fun d e => ?_
    subst e
    repeat walk_at "s"
    refine ⟨_, rfl, ?_⟩
    repeat walk_at "s"
    refine ⟨_, rfl, ?_⟩
    refine OS_list nF ?_
    rw [c3]
    repeat walk_at "s"
    refine ⟨_, rfl, ?_⟩
    repeat walk_at "s"
    refine OS_list nF ?_
    rw [c4]
    repeat walk_at "s"
    refine (p34.le (by decide)).mono fun d e => ?_
    subst e
    refine Ob_sub ?_
    repeat walk_at "s"
    refine ((count_Nn w ha X Z hXZ (by omega) (by omega)).le (by decide)).mono fun d e => ?_
    subst e
    repeat walk_at "s"
    refine ((count_Nn w ha Y L (by omega) (by omega) (by omega)).le (by decide)).mono fun d e => ?_
    subst e
    refine Ob_mul (mulOk (Nn_small (fl := fl) (by omega)) _) ?_
    repeat walk_at "s"
    refine ((count_Nn w ha X L (by omega) (by omega) (by omega)).le (by decide)).mono fun d e => ?_
    subst e
    repeat walk_at "s"
    refine ((count_Nn w ha Y Z hYZ (by omega) (by omega)).le (by decide)).mono fun d e => ?_
    subst e
    refine Ob_mul (mulOk (Nn_small (fl := fl) (by omega)) _) ?_
    refine Ob_sub ?_
    have hGD := two_ways (opOf word) fl hXY (Z + L) Z L rfl
    rw [← e1, ← e2, ← e3, ← e4] at hGD
    rw [← hGD]
    obtain ⟨G, hG⟩ : ∃ G : Int, G = (pc l1 l2 : Int) - (pc l3 l4 : Int) := ⟨_, rfl⟩
    rw [← hG]
    repeat walk_at "s"
    refine Oc_Eq (OT_bool ?_)
    rw [beq_self_eq_true, if_pos rfl]
    repeat walk_at "s"
    refine ((c_ISEOF w G).le (by decide)).mono fun d e => ?_
    subst e
    repeat walk_at "s"
    refine Oc_Eq ?_
    refine Oc_IsBool (OT_bool ?_)
    rw [beq_self_eq_true, if_pos rfl]
    repeat walk_at "s"
    refine Ob_add ?_
    repeat walk_at "s"
    refine ((c_ISTERMINAL w _).le (by decide)).mono fun d e => ?_
    subst e
    repeat walk_at "s"
    refine Oc_Lt ?_
    refine Oc_IsBool ?_
    have hlt : decide ((256 : Int) + G < 256) = decide (G < 0) := by
      rw [decide_eq_decide]; omega
    rw [hlt, beq_self_eq_true]
end
end
section
section
variable {w : World} {word : Str} {X L fl st lk : Nat}
theorem XSs_weak {n : Nat} {cx cx' : Cx} {sts : List Stmt} {Kr : Dat → Prop} (x : XSs w n cx' sts Kr) (hs : cx'.sc = cx.sc) (hr : SubR cx'.ρ cx.ρ) (ho : cx'.ω = cx.ω) : XSs w n cx sts Kr :=
  fun A E env s B W O rm hfr hf si => x A E env s B W O rm hfr hf (si.weak hs hr.lk (.inl ho))
theorem XSs_le {n m : Nat} {cx : Cx} {sts : List Stmt} {Kr : Dat → Prop} (x : XSs w n cx sts Kr) (h : n ≤ m) : XSs w m cx sts Kr :=
  fun A E env s B W O rm hfr hf si => x A E env s B W O (rm.le h) hfr hf si
theorem ways_Ww (w : World) (word : Str) (s e fl : Nat) (hse : s ≤ e) (he : e ≤ 7) (hfl : fl ≤ 7) (hw : word.length ≤ 7) : SC w 2 137 [.str word, .int (s : Int), .int (e : Int), .int (fl : Int)] (fun d => d = .list (nats (Ww (opOf word) fl s e))) := by
  refine (c_ways w word s e fl hse he (by omega) (opOf word) (fun i j _ _ _ _ => rfl) (by omega)).mono fun d e' => ?_
  rw [e']
  unfold Ww
  rw [if_neg (by omega)]
theorem law_mid {ob : Obj} {fd : FuncData} {body : List Stmt} (ho : (hd.heap_39 w.params).lookup 152 = some ob) (hdt : ob.data = .func fd) (hbody : fd.body = .stmts body)
    (ha : ∀ c ∈ word.cps.toList, c ∈ alpha) (hL : word.length = L) (hL6 : 6 ≤ L) (hL7 : L ≤ 7) (hX : X ≤ 2) (hst : st ≤ 1) (hlk : lk ≤ 1) (hfl : fl ≤ 7) :
    XSs w 6 ⟨fd.scope.names, [(Str.ofString "word", .str word), (Str.ofString "flag", .int (fl : Int)), (Str.ofString "x", .int (X : Int)), (Str.ofString "step", .int (st : Int)), (Str.ofString "lack", .int (lk : Int))], none⟩ (body.drop 7) (fun d => d = .bool true) := by
  have tail := @law_tail w word X (X + 1 + st) (L - 1 - lk) L fl ob fd body ho hdt hbody ha hL hL7 (by omega) (by omega) (by omega) (by omega) hfl
  refine from_lookup ho (by k_is) (fun e => ?_)
  subst e
  cases hdt
  cases hbody
  clear ho
  dsimp only [List.drop] at tail ⊢
  refine XSs_cons ?_
  walk_at "s"
  walk_at "s"
  walk_at "s"
  walk_at "s"
  refine SL_nil ?_
  refine OB_len_str (by omega) ?_
  rw [hL]
  refine XSs_cons ?_
  repeat walk_at "s"
  refine Ob_add ?_
  repeat walk_at "s"
  refine Ob_add ?_
  refine XSs_cons ?_
  repeat walk_at "s"
  refine Ob_sub ?_
  repeat walk_at "s"
  refine Ob_sub ?_
  rw [show ((X : Int) + 1 + (st : Int)) = ((X + 1 + st : Nat) : Int) by omega, show ((L : Int) - 1 - (lk : Int)) = ((L - 1 - lk : Nat) : Int) by omega]
  obtain ⟨Y, hY⟩ : ∃ Y, Y = X + 1 + st := ⟨_, rfl⟩
  obtain ⟨Z, hZ⟩ : ∃ Z, Z = L - 1 - lk := ⟨_, rfl⟩
  rw [← hY, ← hZ] at tail ⊢
  refine XSs_cons ?_
  repeat walk_at "s"
  refine Ob_add ?_
  repeat walk_at "s"
  refine Ob_add ?_
  refine Ob_pow (by omega) (by omega) (by decide) ?_
  repeat walk_at "s"
  refine Ob_pow (by omega) (by omega) (by decide) ?_
  refine Ob_sub ?_
  obtain ⟨b, hb⟩ : ∃ b, b = fl + L + 1 := ⟨_, rfl⟩
  have hpw : (2 : Nat) ^ fl < 2 ^ b := Nat.pow_lt_pow_right (by decide) (by omega)
  have hpb : (2 : Nat) ^ b ≤ 2 ^ 15 := Nat.pow_le_pow_right (by decide) (by omega)
  have eF : (2 : Int) ^ ((fl : Int) + (L : Int) + 1).toNat - 2 ^ ((fl : Int)).toNat = ((2 ^ b - 2 ^ fl : Nat) : Int) := by
    rw [show ((fl : Int) + (L : Int) + 1).toNat = b by omega, Int.toNat_natCast, pow_cast, pow_cast]
    omega
  rw [eF]
  repeat walk_at "s"
  have hq0 : 2 ^ b - 2 ^ fl ≠ 0 := Nat.sub_ne_zero_of_lt hpw
  have hq1 : 2 ^ b - 2 ^ fl < 2 ^ 32 := Nat.lt_of_le_of_lt (Nat.sub_le _ _) (Nat.lt_of_le_of_lt hpb (by decide))
  refine ((c_pretty w (2 ^ b - 2 ^ fl) hq0 hq1).le (by decide)).mono fun d e => ?_
  subst e
  repeat walk_at "s"
  refine Ob_add ?_
  repeat walk_at "s"
  refine Ob_add ?_
  rw [show ((fl : Int) + (L : Int) + 1) = ((b : Nat) : Int) by omega]
  repeat walk_at "s"
  refine ((c_names w fl b (by omega) (by omega)).le (by decide)).mono fun d e => ?_
  subst e
  refine Oc_NotEqs ⟨_, rfl, ?_⟩
  have hrun : bitNames 32 0 (2 ^ b - 2 ^ fl) = (List.range' fl (b - fl)).map nm := wn_run (by omega) (by omega)
  rw [hrun, bne_self_eq_false, if_neg (by decide)]
  refine SSs_nil ?_
  clear hrun eF hpb hpw hq0 hq1
  refine XSs_cons ?_
  repeat walk_at "s"
  refine ((ways_Ww w word X Z fl (by omega) (by omega) hfl (by omega)).le (by decide)).mono fun d e => ?_
  subst e
  repeat walk_at "s"
  refine ((ways_Ww w word Y L fl (by omega) (by omega) hfl (by omega)).le (by decide)).mono fun d e => ?_
  subst e
  repeat walk_at "s"
  refine ((ways_Ww w word X L fl (by omega) (by omega) hfl (by omega)).le (by decide)).mono fun d e => ?_
  subst e
  repeat walk_at "s"
  refine ((ways_Ww w word Y Z fl (by omega) (by omega) hfl (by omega)).le (by decide)).mono fun d e => ?_
  subst e
  repeat walk_at "s"
  refine ⟨(by show 4 ≤ sizeLine; decide), ?_⟩
  unfold tailR at tail
  dsimp only at tail
  have z1 : (Ww (opOf word) fl X Z).length ≤ 2187 := Ww_size (by omega)
  have z2 : (Ww (opOf word) fl Y L).length ≤ 2187 := Ww_size (by omega)
  have z3 : (Ww (opOf word) fl X L).length ≤ 2187 := Ww_size (by omega)
  have z4 : (Ww (opOf word) fl Y Z).length ≤ 2187 := Ww_size (by omega)
  have s1 : ∀ p ∈ Ww (opOf word) fl X Z, p ≠ 0 ∧ p < 2 ^ 32 := Ww_small (by omega) hfl
  have s2 : ∀ p ∈ Ww (opOf word) fl Y L, p ≠ 0 ∧ p < 2 ^ 32 := Ww_small (by omega) hfl
  have s3 : ∀ p ∈ Ww (opOf word) fl X L, p ≠ 0 ∧ p < 2 ^ 32 := Ww_small (by omega) hfl
  have s4 : ∀ p ∈ Ww (opOf word) fl Y Z, p ≠ 0 ∧ p < 2 ^ 32 := Ww_small (by omega) hfl
  obtain ⟨l1, e1⟩ : ∃ l, l = Ww (opOf word) fl X Z := ⟨_, rfl⟩
  obtain ⟨l2, e2⟩ : ∃ l, l = Ww (opOf word) fl Y L := ⟨_, rfl⟩
  obtain ⟨l3, e3⟩ : ∃ l, l = Ww (opOf word) fl X L := ⟨_, rfl⟩
  obtain ⟨l4, e4⟩ : ∃ l, l = Ww (opOf word) fl Y Z := ⟨_, rfl⟩
  rw [← e1] at z1 s1 tail ⊢
  rw [← e2] at z2 s2 tail ⊢
  rw [← e3] at z3 s3 tail ⊢
  rw [← e4] at z4 s4 tail ⊢
  clear e1 e2 e3 e4
  have sF : ∀ p ∈ l1 ++ l2 ++ l3 ++ l4, p ≠ 0 ∧ p < 2 ^ 32 := fun p hp => by
    rcases List.mem_append.mp hp with hp | hp
    · rcases List.mem_append.mp hp with hp | hp
      · rcases List.mem_append.mp hp with hp | hp
        · exact s1 p hp
        · exact s2 p hp
      · exact s3 p hp
    · exact s4 p hp
  refine XSs_cons (SS_assign_comp (by rfl) (fun _ e => by cases e) (by rfl) (fun _ _ => by rfl) (by rfl) (by rfl) ?_)
  refine SIt_list ?_
  walk_at "s"
  refine ⟨_, rfl, ?_⟩
  refine (SG_map2 (fun it acc env => turn2a _ _ _ _ _ _ _ _ _ _ _ it acc env) (fun it acc env => turn2b _ _ _ _ _ _ _ _ _ _ _ it acc env) (by rfl) (fun _ _ => by rfl) (by rfl) (by rfl) (by rfl) (by rfl) (by rfl) (by rfl) (by rfl) [Dat.list (nats l1), Dat.list (nats l2), Dat.list (nats l3), Dat.list (nats l4)] []
      (f := fun _ => true) (h := fun d => match d with | .list l => l | _ => []) (g := fun d v => v) (N := 2187) ?_ ?_ ?_ ?_ ?_).mono ?_
  · intro d hd
    exact STs_nil rfl
  · intro d hd hf
    refine SIt_list ?_
    have : ∃ l, d = .list l := by
      simp only [List.mem_cons, List.not_mem_nil, or_false] at hd
      rcases hd with rfl | rfl | rfl | rfl <;> exact ⟨_, rfl⟩
    obtain ⟨l, rfl⟩ := this
    walk_at "s"
    exact ⟨_, rfl, rfl⟩
  · intro d hd hf v hv
    walk_at "s"
    rfl
  · intro d hd hf
    simp only [List.mem_cons, List.not_mem_nil, or_false] at hd
    rcases hd with rfl | rfl | rfl | rfl
    · show (nats l1).length ≤ _; unfold nats; rw [List.length_map]; exact z1
    · show (nats l2).length ≤ _; unfold nats; rw [List.length_map]; exact z2
    · show (nats l3).length ≤ _; unfold nats; rw [List.length_map]; exact z3
    · show (nats l4).length ≤ _; unfold nats; rw [List.length_map]; exact z4
  · show 0 + 4 * 2187 ≤ sizeLine
    decide
  · intro ds hds
    have e5 : ds = nats (l1 ++ l2 ++ l3 ++ l4) := by
      rw [hds]
      show [] ++ (List.map _ (nats l1) ++ (List.map _ (nats l2) ++ (List.map _ (nats l3) ++ (List.map _ (nats l4) ++ [])))) = _
      have hid : ∀ l : List Dat, List.map (fun v => v) l = l := List.map_id
      unfold nats
      rw [List.map_append, List.map_append, List.map_append, List.nil_append, List.append_nil, List.append_assoc, List.append_assoc]
      exact congr (congrArg _ (hid _)) (congr (congrArg _ (hid _)) (congr (congrArg _ (hid _)) (hid _)))
    rw [e5]
    clear hds e5
    refine XSs_read (n := 3) (by rfl) (by k_is) ⟨_, _, by k_is, by rfl⟩ (by rfl) (by decide) (fun p hp => Nat.lt_trans (sF p hp).2 (by decide)) ?_ (by rfl) (by rfl) (fun _ => by rfl) (fun _ => by rfl) ?_
    · rw [List.length_append, List.length_append, List.length_append]; omega
    · refine XSs_weak (XSs_of tail) (by rfl) ⟨rfl, rfl, rfl, rfl, rfl, rfl, rfl, rfl, trivial⟩ (by rfl)
end
end
section
noncomputable def sg (n : Nat) : Nat := alpha.getD (n % 8) 0
theorem sg_mem (n : Nat) : sg n ∈ alpha := by
  unfold sg
  have : n % 8 < 8 := Nat.mod_lt _ (by decide)
  have h : ∀ k, k < 8 → alpha.getD k 0 ∈ alpha := by decide
  exact h _ this
theorem sg_at (n : Nat) : (Str.ofString "*=.<>/-(").cps[n % 8]? = some (sg n) := by
  unfold sg
  have : n % 8 < 8 := Nat.mod_lt _ (by decide)
  have h : ∀ k, k < 8 → (Str.ofString "*=.<>/-(").cps[k]? = some (alpha.getD k 0) := by decide +kernel
  exact h _ this
theorem join_chars (l : List Nat) : Txt.join (Str.ofString "") (l.map fun c => ⟨#[c]⟩) = ⟨l.toArray⟩ := by
  unfold Txt.join
  rw [StrLaws.glued_eq_join]
  induction l with
  | nil => rfl
  | cons c l ih =>
    cases l with
    | nil => rfl
    | cons d l =>
      show (⟨#[c] ++ #[] ++ (Str.join (Str.ofString "") ((d :: l).map fun c => ⟨#[c]⟩)).cps⟩ : Str) = _
      rw [ih]
      simp
theorem figs (N : Nat) : [Dat.int ((N : Int).fmod 7), .int (((N : Int).fdiv 7).fmod 4), .int ((((N : Int).fdiv 7).fdiv 4).fmod 8), .int (((((N : Int).fdiv 7).fdiv 4).fdiv 8).fmod 3), .int ((((((N : Int).fdiv 7).fdiv 4).fdiv 8).fdiv 3).fmod 2), .int (((((((N : Int).fdiv 7).fdiv 4).fdiv 8).fdiv 3).fdiv 2).fmod 2), .int ((((((((N : Int).fdiv 7).fdiv 4).fdiv 8).fdiv 3).fdiv 2).fdiv 2).fmod 3)] =
    nats [N % 7, N / 7 % 4, N / 7 / 4 % 8, N / 7 / 4 / 8 % 3, N / 7 / 4 / 8 / 3 % 2, N / 7 / 4 / 8 / 3 / 2 % 2, N / 7 / 4 / 8 / 3 / 2 / 2 % 3] := by
  have m : ∀ a b : Nat, (a : Int).fmod (b : Int) = ((a % b : Nat) : Int) := fmodN
  have d : ∀ a b : Nat, (a : Int).fdiv (b : Int) = ((a / b : Nat) : Int) := fdivN
  rw [show (7 : Int) = ((7 : Nat) : Int) from rfl, show (4 : Int) = ((4 : Nat) : Int) from rfl, show (8 : Int) = ((8 : Nat) : Int) from rfl, show (3 : Int) = ((3 : Nat) : Int) from rfl, show (2 : Int) = ((2 : Nat) : Int) from rfl]
  simp only [m, d]
  rfl
noncomputable def namesOf (l : List Expr) : List (Str × Pos) := l.filterMap fun e => match e with | .Name x p => some (x, p) | _ => none
section
variable {w : World} {n : Nat} {cx : Cx} {pos : Pos} {Kn Kb : Cx → Prop} {Kr : Dat → Prop}
theorem SS_unpackN {elts : List Expr} {tk : Nat} {tp : Pos} {value : Expr} (he : ∀ env, assignEach elts env = (namesOf elts).map fun q => (false, assign (.Name q.1 q.2) env)) (hv : allVars cx (namesOf elts) = true)
    (hs : ∀ env, swapsWithSole [.Tuple elts tk tp] value pos.line env = pure false) (hw : ∀ env, swappedStores [.Tuple elts tk tp] value env = pure none) (ha : ∀ env, (assignEach [.Tuple elts tk tp] env).map (·.2) = [assign (.Tuple elts tk tp) env])
    (h : SE w n cx value fun d => ∃ ds, d = .list ds ∧ ds.length = (namesOf elts).length ∧ Kn (bindAll cx (namesOf elts) ds)) : SS w n cx (.Assign [.Tuple elts tk tp] value pos) Kn Kr Kb := SS_unpack he hv hs hw ha h
end
theorem bindAll_sc (xs : List (Str × Pos)) : ∀ (ds : List Dat) (cx : Cx), (bindAll cx xs ds).sc = cx.sc := by
  induction xs with
  | nil => intro ds cx; rfl
  | cons q xs ih =>
    intro ds cx
    cases ds with
    | nil => rfl
    | cons d ds => exact ih ds _
noncomputable def mids : List (List Nat) := [[], [46], [92, 34, 61], [92, 92]]
noncomputable def ends : List (List Nat) := [[10], [13, 10], [13]]
theorem mids_at (k : Nat) (hk : k < 4) : [Dat.str (Str.ofString ""), Dat.str (Str.ofString "."), Dat.str (Str.ofString "\\\"="), Dat.str (Str.ofString "\\\\")][k]? = some (.str ⟨(mids.getD k []).toArray⟩) := by
  have h : k = 0 ∨ k = 1 ∨ k = 2 ∨ k = 3 := by omega
  rcases h with rfl | rfl | rfl | rfl
  · show some (Dat.str (Str.ofString "")) = _; rw [show Str.ofString "" = ⟨#[]⟩ by decide +kernel]; rfl
  · show some (Dat.str (Str.ofString ".")) = _; rw [show Str.ofString "." = ⟨#[46]⟩ by decide +kernel]; rfl
  · show some (Dat.str (Str.ofString "\\\"=")) = _; rw [show Str.ofString "\\\"=" = ⟨#[92, 34, 61]⟩ by decide +kernel]; rfl
  · show some (Dat.str (Str.ofString "\\\\")) = _; rw [show Str.ofString "\\\\" = ⟨#[92, 92]⟩ by decide +kernel]; rfl
theorem ends_at (k : Nat) (hk : k < 3) : [Dat.str (Str.ofString "\n"), Dat.str (Str.ofString "\r\n"), Dat.str (Str.ofString "\r")][k]? = some (.str ⟨(ends.getD k []).toArray⟩) := by
  have h : k = 0 ∨ k = 1 ∨ k = 2 := by omega
  rcases h with rfl | rfl | rfl
  · show some (Dat.str (Str.ofString "\n")) = _; rw [show Str.ofString "\n" = ⟨#[10]⟩ by decide +kernel]; rfl
  · show some (Dat.str (Str.ofString "\r\n")) = _; rw [show Str.ofString "\r\n" = ⟨#[13, 10]⟩ by decide +kernel]; rfl
  · show some (Dat.str (Str.ofString "\r")) = _; rw [show Str.ofString "\r" = ⟨#[13]⟩ by decide +kernel]; rfl
theorem mids_mid (k : Nat) (hk : k < 4) : isMid (mids.getD k []) := by
  have h : k = 0 ∨ k = 1 ∨ k = 2 ∨ k = 3 := by omega
  rcases h with rfl | rfl | rfl | rfl
  · exact .inl rfl
  · exact .inr (.inl rfl)
  · exact .inr (.inr (.inl rfl))
  · exact .inr (.inr (.inr rfl))
theorem ends_end (k : Nat) (hk : k < 3) : ends.getD k [] = [10] ∨ ends.getD k [] = [13, 10] ∨ ends.getD k [] = [13] := by
  have h : k = 0 ∨ k = 1 ∨ k = 2 := by omega
  rcases h with rfl | rfl | rfl
  · exact .inl rfl
  · exact .inr (.inl rfl)
  · exact .inr (.inr rfl)
theorem str_app (a b : List Nat) : (⟨a.toArray⟩ : Str) ++ ⟨b.toArray⟩ = ⟨(a ++ b).toArray⟩ := by
  show (⟨a.toArray ++ b.toArray⟩ : Str) = _
  simp
theorem str_len (a : List Nat) : (⟨a.toArray⟩ : Str).length = a.length := by show a.toArray.size = _; simp
theorem alpha_clean : ∀ c ∈ alpha, (c ≠ 34 ∧ c ≠ 92) ∧ c ≠ 10 ∧ c ≠ 13 := by decide
theorem mid_line {m : List Nat} (h : isMid m) : ∀ c ∈ m, c ≠ 10 ∧ c ≠ 13 := by
  rcases h with rfl | rfl | rfl | rfl <;> decide
theorem str_inj {a b : List Nat} : ((⟨a.toArray⟩ : Str) == ⟨b.toArray⟩) = (a == b) := by
  rw [Bool.eq_iff_iff, beq_iff_eq, beq_iff_eq]
  constructor
  · intro e
    injection e with e
    simpa using e
  · rintro rfl; rfl
section
variable {w : World} {T : List Nat} {at' th fl X st lk tu : Nat}
theorem law_row {ob : Obj} {fd : FuncData} {body : List Stmt} (ho : (hd.heap_39 w.params).lookup 152 = some ob) (hdt : ob.data = .func fd) (hbody : fd.body = .stmts body)
    (hTl : T.length = 6) (hTa : ∀ c ∈ T, c ∈ alpha) (bat : at' < 7) (bth : th < 4) (bfl : fl < 8) (bX : X < 3) (bst : st < 2) (blk : lk < 2) (btu : tu < 3) :
    XSs w 6 ⟨fd.scope.names, [(Str.ofString "text", .str ⟨T.toArray⟩), (Str.ofString "at", .int (at' : Int)), (Str.ofString "thing", .int (th : Int)), (Str.ofString "flag", .int (fl : Int)), (Str.ofString "x", .int (X : Int)), (Str.ofString "step", .int (st : Int)), (Str.ofString "lack", .int (lk : Int)), (Str.ofString "turn", .int (tu : Int))], none⟩ (body.drop 3) (fun d => d = .bool true) := by
  have tail := fun (word : Str) (L : Nat) => @law_mid w word X L fl st lk ob fd body ho hdt hbody
  refine from_lookup ho (by k_is) (fun e => ?_)
  subst e
  cases hdt
  cases hbody
  clear ho
  dsimp only [List.drop] at tail ⊢
  obtain ⟨mid, hmid⟩ : ∃ m, m = mids.getD th [] := ⟨_, rfl⟩
  have hmm : isMid mid := hmid ▸ mids_mid th bth
  have hml : mid.length ≤ 3 := by rcases hmm with rfl | rfl | rfl | rfl <;> simp
  refine XSs_cons ?_
  repeat walk_at "s"
  refine ⟨(by show 4 ≤ sizeLine; decide), ?_⟩
  repeat walk_at "s"
  refine OG_list (by omega) (by omega) (d := .str ⟨mid.toArray⟩) (by rw [Int.toNat_natCast, hmid]; exact mids_at th bth) ?_
  have eq1 : Str.ofString "\"" = ⟨[34].toArray⟩ := by decide +kernel
  rw [eq1]
  refine Ob_adds (by rw [str_len, str_len]; exact Nat.le_trans (show [34].length + mid.length ≤ 10 by simp; omega) (by decide)) ?_
  rw [str_app]
  repeat walk_at "s"
  refine Ob_adds (by rw [str_len, str_len]; exact Nat.le_trans (show ([34] ++ mid).length + [34].length ≤ 10 by simp; omega) (by decide)) ?_
  rw [str_app]
  refine XSs_cons ?_
  repeat walk_at "s"
  obtain ⟨P, hP⟩ : ∃ P, P = T.take at' := ⟨_, rfl⟩
  obtain ⟨S, hS⟩ : ∃ S, S = T.drop at' := ⟨_, rfl⟩
  have hPS : P ++ S = T := by rw [hP, hS, List.take_append_drop]
  have hPl : P.length ≤ 6 := by rw [hP, List.length_take]; omega
  have hSl : P.length + S.length = 6 := by rw [← List.length_append, hPS, hTl]
  have hPa : ∀ c ∈ P, c ∈ alpha := fun c hc => hTa c (by rw [← hPS]; exact List.mem_append_left _ hc)
  have hSa : ∀ c ∈ S, c ∈ alpha := fun c hc => hTa c (by rw [← hPS]; exact List.mem_append_right _ hc)
  have sl1 : Txt.slice ⟨T.toArray⟩ none (some (at' : Int)) = ⟨P.toArray⟩ := by
    rw [slice_cut]; show (⟨(cut T none (some (at' : Int))).toArray⟩ : Str) = _
    rw [cut_to T (by omega), hP]
  have sl2 : Txt.slice ⟨T.toArray⟩ (some (at' : Int)) none = ⟨S.toArray⟩ := by
    rw [slice_cut]; show (⟨(cut T (some (at' : Int)) none).toArray⟩ : Str) = _
    rw [cut_from T (by omega), hS]
  refine ⟨_, rfl, ?_⟩
  refine OS_str (by rw [str_len, hTl]; decide) ?_
  rw [sl1]
  repeat walk_at "s"
  refine Ob_adds (by rw [str_len, str_len]; exact Nat.le_trans (show P.length + ([34] ++ mid ++ [34]).length ≤ 20 by simp; omega) (by decide)) ?_
  rw [str_app]
  repeat walk_at "s"
  refine ⟨_, rfl, ?_⟩
  repeat walk_at "s"
  refine OS_str (by rw [str_len, hTl]; decide) ?_
  rw [sl2]
  refine Ob_adds (by rw [str_len, str_len]; exact Nat.le_trans (show (P ++ ([34] ++ mid ++ [34])).length + S.length ≤ 20 by simp; omega) (by decide)) ?_
  rw [str_app]
  repeat walk_at "s"
  refine ⟨(by show 3 ≤ sizeLine; decide), ?_⟩
  repeat walk_at "s"
  obtain ⟨en, hen⟩ : ∃ m, m = ends.getD tu [] := ⟨_, rfl⟩
  have hee : en = [10] ∨ en = [13, 10] ∨ en = [13] := hen ▸ ends_end tu btu
  have hel : en.length ≤ 2 := by rcases hee with rfl | rfl | rfl <;> simp
  refine OG_list (by omega) (by omega) (d := .str ⟨en.toArray⟩) (by rw [Int.toNat_natCast, hen]; exact ends_at tu btu) ?_
  refine Ob_adds (by rw [str_len, str_len]; exact Nat.le_trans (show (P ++ ([34] ++ mid ++ [34]) ++ S).length + en.length ≤ 30 by simp; omega) (by decide)) ?_
  rw [str_app]
  repeat walk_at "s"
  obtain ⟨c, r, hcr⟩ : ∃ c r, P ++ 34 :: (mid ++ 34 :: S) = c :: r := by
    cases P with
    | nil => exact ⟨_, _, rfl⟩
    | cons a P => exact ⟨_, _, rfl⟩
  have hrow : P ++ ([34] ++ mid ++ [34]) ++ S = c :: r := by rw [← hcr]; simp
  rw [hrow]
  have hline : ∀ d ∈ c :: r, d ≠ 10 ∧ d ≠ 13 := fun d hd => by
    rw [← hcr] at hd
    rcases List.mem_append.mp hd with hd | hd
    · exact (alpha_clean d (hPa d hd)).2
    · rcases List.mem_cons.mp hd with rfl | hd
      · decide
      · rcases List.mem_append.mp hd with hd | hd
        · exact mid_line hmm d hd
        · rcases List.mem_cons.mp hd with rfl | hd
          · decide
          · exact (alpha_clean d (hSa d hd)).2
  have hrl : (c :: r).length ≤ 11 := by rw [← hcr]; simp; omega
  refine ((c_quote w ⟨((c :: r) ++ en).toArray⟩ c r en rfl hee hline (by rw [str_len, List.length_append]; omega)).le (by decide)).mono fun d e => ?_
  subst e
  obtain ⟨dot, hdot⟩ : ∃ dot : List Nat, dot = if c = 46 then [46] else [] := ⟨_, rfl⟩
  rw [← hdot]
  have hdc : clean dot := by
    rw [hdot]
    split
    · intro x hx; simp at hx; subst hx; decide
    · intro x hx; cases hx
  have hdl : dot.length ≤ 1 := by rw [hdot]; split <;> simp
  have hsent : dot ++ (c :: r) ++ [13, 10] = (dot ++ P) ++ 34 :: (mid ++ 34 :: (S ++ [13, 10])) := by rw [← hcr]; simp
  rw [hsent]
  refine XSs_cons ?_
  repeat walk_at "s"
  refine ((c_stripped w (pre := dot ++ P) (mid := mid) (post := S ++ [13, 10]) (fun x hx => ?_) (fun x hx => ?_) hmm (by simp) (by simp; omega)).le (by decide)).mono fun d e => ?_
  · rcases List.mem_append.mp hx with hx | hx
    · exact hdc x hx
    · exact (alpha_clean x (hPa x hx)).1
  · rcases List.mem_append.mp hx with hx | hx
    · exact (alpha_clean x (hSa x hx)).1
    · simp at hx; rcases hx with rfl | rfl <;> decide
  subst e
  have hword : dot ++ P ++ (S ++ [13, 10]) = (dot ++ T) ++ [13, 10] := by rw [← hPS]; simp
  rw [hword]
  repeat walk_at "s"
  refine O1_neg ?_
  refine ⟨_, rfl, ?_⟩
  refine OS_str (by rw [str_len]; exact Nat.le_trans (show (dot ++ T ++ [13, 10]).length ≤ 20 by simp; omega) (by decide)) ?_
  have sl3 : Txt.slice ⟨((dot ++ T) ++ [13, 10]).toArray⟩ none (some (-2)) = ⟨(dot ++ T).toArray⟩ := by
    rw [slice_cut]
    show (⟨(cut ((dot ++ T) ++ [13, 10]) none (some (-2))).toArray⟩ : Str) = _
    have hl : ((dot ++ T) ++ [13, 10]).length = (dot ++ T).length + 2 := by rw [List.length_append]; rfl
    have hcl : cl (some (-2)) ((dot ++ T) ++ [13, 10]).length ((dot ++ T) ++ [13, 10]).length = (dot ++ T).length := by
      show (max 0 (min (if (-2 : Int) < 0 then (-2 : Int) + (((dot ++ T) ++ [13, 10]).length : Int) else (-2 : Int)) ((((dot ++ T) ++ [13, 10]).length : Nat) : Int))).toNat = _
      rw [hl]; omega
    unfold cut
    rw [hcl]
    show (⟨(((dot ++ T ++ [13, 10]).drop 0).take ((dot ++ T).length - 0)).toArray⟩ : Str) = _
    rw [List.drop_zero, Nat.sub_zero, List.take_left]
  rw [sl3]
  refine XSs_cons ?_
  repeat walk_at "s"
  refine Oc_Gt ⟨_, rfl, ?_⟩
  have eqd : Str.ofString "." = ⟨[46].toArray⟩ := by decide +kernel
  have eqe : Str.ofString "" = ⟨[].toArray⟩ := by decide +kernel
  have step : dot = [46] ∧ 0 < at' ∧ T[0]? = some 46 ∨ dot = [] ∧ (at' = 0 ∨ ∃ t0, T[0]? = some t0 ∧ t0 ≠ 46) := by
    cases P with
    | nil =>
      have hz : at' = 0 := by
        have := congrArg List.length hP
        rw [List.length_take, List.length_nil] at this
        omega
      have hc : c = 34 := by
        have : 34 :: (mid ++ 34 :: S) = c :: r := hcr
        injection this with h1 _
        exact h1.symm
      exact .inr ⟨by rw [hdot, hc]; decide, .inl hz⟩
    | cons a P =>
      have hc : c = a := by
        have : a :: (P ++ 34 :: (mid ++ 34 :: S)) = c :: r := hcr
        injection this with h1 _
        exact h1.symm
      have h0 : T[0]? = some a := by rw [← hPS]; rfl
      have hp : 0 < at' := by
        rcases Nat.eq_zero_or_pos at' with h | h
        · rw [h] at hP; cases hP
        · exact h
      by_cases h : a = 46
      · exact .inl ⟨by rw [hdot, hc, h]; rfl, hp, by rw [h0, h]⟩
      · exact .inr ⟨by rw [hdot, hc, if_neg h], .inr ⟨a, h0, h⟩⟩
  have ha1 : ∀ c ∈ ([46] ++ T : List Nat), c ∈ alpha := fun c hc => by
    rcases List.mem_append.mp hc with hc | hc
    · rw [List.mem_singleton] at hc; subst hc; decide
    · exact hTa c hc
  have ha0 : ∀ c ∈ ([] ++ T : List Nat), c ∈ alpha := fun c hc => hTa c (by simpa using hc)
  clear hsent hword sl1 sl2 sl3 hrow hline
  rcases step with ⟨hd1, hp, h0⟩ | ⟨hd1, hz | ⟨t0, h0, hne⟩⟩
  · subst hd1
    rw [show decide ((0 : Int) < (at' : Int)) = true by simp; omega, if_pos rfl]
    repeat walk_at "s"
    refine OG_str (c := 46) (by decide) (by decide) (by show T.toArray[0]? = some 46; rw [List.getElem?_toArray]; exact h0) ?_
    repeat walk_at "s"
    refine Oc_Eqs ⟨_, rfl, ?_⟩
    rw [show ((⟨#[46]⟩ : Str) == Str.ofString ".") = true by decide +kernel, if_pos rfl]
    walk_at "s"
    rw [if_pos rfl]
    repeat walk_at "s"
    refine Ob_adds (by rw [eqd, str_len, str_len]; exact Nat.le_trans (show ([46] : List Nat).length + T.length ≤ 20 by simp; omega) (by decide)) ?_
    refine Oc_NotEqs ⟨_, rfl, ?_⟩
    rw [eqd, str_app, bne_self_eq_false, if_neg (by decide)]
    refine SSs_nil ?_
    refine XSs_weak (tail ⟨([46] ++ T).toArray⟩ 7 (fun c hc => ha1 c hc) (by rw [str_len]; simp; omega) (by decide) (by decide) (by omega) (by omega) (by omega) (by omega)) (by rfl) ⟨rfl, rfl, rfl, rfl, rfl, trivial⟩ (by rfl)
  · subst hd1
    rw [show decide ((0 : Int) < (at' : Int)) = false by simp; omega, if_neg (by decide), if_neg (by decide)]
    repeat walk_at "s"
    refine Ob_adds (by rw [eqe, str_len, str_len]; exact Nat.le_trans (show ([] : List Nat).length + T.length ≤ 20 by simp; omega) (by decide)) ?_
    refine Oc_NotEqs ⟨_, rfl, ?_⟩
    rw [eqe, str_app, bne_self_eq_false, if_neg (by decide)]
    refine SSs_nil ?_
    refine XSs_weak (tail ⟨([] ++ T).toArray⟩ 6 (fun c hc => ha0 c hc) (by rw [str_len]; simp; omega) (by decide) (by decide) (by omega) (by omega) (by omega) (by omega)) (by rfl) ⟨rfl, rfl, rfl, rfl, rfl, trivial⟩ (by rfl)
  · subst hd1
    by_cases hp : 0 < at'
    · rw [show decide ((0 : Int) < (at' : Int)) = true by simp; omega, if_pos rfl]
      repeat walk_at "s"
      refine OG_str (c := t0) (by decide) (by decide) (by show T.toArray[0]? = some t0; rw [List.getElem?_toArray]; exact h0) ?_
      repeat walk_at "s"
      refine Oc_Eqs ⟨_, rfl, ?_⟩
      have hq : ((⟨#[t0]⟩ : Str) == Str.ofString ".") = false := by
        rw [eqd]; exact one_ne hne
      rw [hq, if_neg (by decide), if_neg (by decide)]
      repeat walk_at "s"
      refine Ob_adds (by rw [eqe, str_len, str_len]; exact Nat.le_trans (show ([] : List Nat).length + T.length ≤ 20 by simp; omega) (by decide)) ?_
      refine Oc_NotEqs ⟨_, rfl, ?_⟩
      rw [eqe, str_app, bne_self_eq_false, if_neg (by decide)]
      refine SSs_nil ?_
      refine XSs_weak (tail ⟨([] ++ T).toArray⟩ 6 (fun c hc => ha0 c hc) (by rw [str_len]; simp; omega) (by decide) (by decide) (by omega) (by omega) (by omega) (by omega)) (by rfl) ⟨rfl, rfl, rfl, rfl, rfl, trivial⟩ (by rfl)
    · rw [show decide ((0 : Int) < (at' : Int)) = false by simp; omega, if_neg (by decide), if_neg (by decide)]
      repeat walk_at "s"
      refine Ob_adds (by rw [eqe, str_len, str_len]; exact Nat.le_trans (show ([] : List Nat).length + T.length ≤ 20 by simp; omega) (by decide)) ?_
      refine Oc_NotEqs ⟨_, rfl, ?_⟩
      rw [eqe, str_app, bne_self_eq_false, if_neg (by decide)]
      refine SSs_nil ?_
      refine XSs_weak (tail ⟨([] ++ T).toArray⟩ 6 (fun c hc => ha0 c hc) (by rw [str_len]; simp; omega) (by decide) (by decide) (by omega) (by omega) (by omega) (by omega)) (by rfl) ⟨rfl, rfl, rfl, rfl, rfl, trivial⟩ (by rfl)
end
end
section
theorem c_law (w : World) {A : Around} {R : Result → Shared → Prop} {s : Shared} {W : Addr → Prop} {vs : List Value} (is : List Int) (his : is.length < 2 ^ 62) (rm : Rm 8 A) (hfr : A.frames = some []) (g : GH w s.heap) (o : WOk W s.heap) (rs : RepAll s.heap W vs [.tuple (is.map .int)])
    (hQ : ∀ s' h' tk', GnB s s' h' tk' → (∀ b o, s.heap.get? b = some o → h'.get? b = some o) → R (.ok (.ret (.bool true))) s') : codeAny (MD w) A (.call (.ref 152) ⟨vs, []⟩) R s := by
  refine code_hand (n := 7) (xs := [Str.ofString "script"]) (ds := [.tuple (is.map .int)]) (B := s.heap) (W := W) (by k_is) (by rfl) ⟨by rfl, by k_is, by rfl, by rfl, by rfl, by rfl, by rfl, by rfl, ?_, by decide, by decide⟩ rfl (by dsimp only) (by dsimp only [List.zip, List.zipWith]) rm g o (fun _ _ e => e) rs ?_
  · rintro (_ | ⟨v0, _ | ⟨u, vs⟩⟩) h <;> first | rfl | cases h
  intro env s₁ si hf hL hC ⟨h₁, t₁, es⟩ hk rm₁
  have fr : (A.deeper env).frames = some [env] := Around.frames_deeper hfr
  refine wpAny_mono ((?_ : XSs w 7 _ _ (fun d => d = .bool true)) _ _ env s₁ s.heap W N0 rm₁ fr hf si) (fun fl s' h => ?_) fun _ _ q => q
  · refine XSs_cons ?_
    walk_at "s"
    walk_at "s"
    walk_at "s"
    walk_at "s"
    refine SL_nil ?_
    refine ((c_numbers w is his).le (by decide)).mono ?_
    rintro d ⟨ns, hns, rfl⟩
    obtain ⟨N, hN⟩ : ∃ N, ns[6]? = some N := ⟨ns[6], by simp⟩
    have hcut : cut (nats ns) none (some 6) = nats (ns.take 6) := by
      have := cut_to (nats ns) (i := 6) (by unfold nats; rw [List.length_map]; omega)
      rw [show ((6 : Nat) : Int) = 6 from rfl] at this
      rw [this]; unfold nats; rw [List.map_take]
    change XSs w 7 (Cx.bind _ _ (.list (nats ns))) _ _
    have h6 : (ns.take 6).length = 6 := by rw [List.length_take]; omega
    refine XSs_cons (assign' (by rfl) (by rfl) (fun _ => by rfl) ?_)
    refine SE_strm PySem.F.slot_str_join PySem.F.type_str_join (fun _ => by rfl) (fun _ => by rfl) (by rfl) ?_
    walk_at "s"
    refine ⟨_, rfl, ?_⟩
    walk_at "s"
    refine SIt_list ?_
    repeat walk_at "s"
    refine ⟨_, rfl, ?_⟩
    refine OS_list (by unfold nats; rw [List.length_map, hns]; decide) ?_
    rw [hcut]
    refine ⟨_, rfl, ?_⟩
    refine (SG_map (fun it acc env => turn1 _ _ _ _ _ _ _ it acc env) (by rfl) (by rfl) (by rfl) (nats (ns.take 6)) [] (f := fun _ => true) (g := fun d => match d with | .int i => .str ⟨#[sg i.toNat]⟩ | _ => d) ?_ ?_ ?_).mono ?_
    · intro d hd
      exact STs_nil rfl
    · intro d hd _
      obtain ⟨p, hp, rfl⟩ := List.mem_map.mp hd
      repeat walk_at "s"
      refine Ob_mod (by decide) ?_
      rw [show (8 : Int) = ((8 : Nat) : Int) from rfl, fmodN]
      refine OG_str (c := sg p) (by omega) (by omega) (by rw [Int.toNat_natCast]; exact sg_at p) ?_
      show Dat.str ⟨#[sg p]⟩ = Dat.str ⟨#[sg ((p : Int)).toNat]⟩
      rw [Int.toNat_natCast]
    · unfold nats
      rw [List.length_map, h6]
      show 0 + 6 ≤ sizeLine
      decide
    · intro ds hds
      obtain ⟨T, hT⟩ : ∃ T, T = (ns.take 6).map sg := ⟨_, rfl⟩
      have hTl : T.length = 6 := by rw [hT, List.length_map, h6]
      have hTa : ∀ c ∈ T, c ∈ alpha := fun c hc => by
        rw [hT] at hc
        obtain ⟨p, _, rfl⟩ := List.mem_map.mp hc
        exact sg_mem p
      have e5 : ds = (T.map fun c => (⟨#[c]⟩ : Str)).map .str := by
        rw [hds, List.nil_append, List.filter_eq_self.mpr (fun _ _ => rfl), hT]
        unfold nats
        rw [List.map_map, List.map_map, List.map_map]
        refine List.map_congr_left fun p _ => ?_
        show Dat.str ⟨#[sg ((p : Int)).toNat]⟩ = Dat.str ⟨#[sg p]⟩
        rw [Int.toNat_natCast]
      rw [e5]
      clear hds e5
      refine OB_join (joinOk_of _ (by decide) _ (fun y hy => ?_) (by rw [List.length_map, hTl]; decide)) ?_
      · obtain ⟨c, _, rfl⟩ := List.mem_map.mp hy
        show 1 ≤ 50
        decide
      rw [join_chars]
      refine XSs_cons (SS_unpackN (fun _ => by rfl) (by rfl) (fun _ => by rfl) (fun _ => by rfl) (fun _ => by rfl) ?_)
      repeat walk_at "s"
      refine OG_list (by decide) (by decide) (d := .int (N : Int)) (by show (nats ns)[6]? = _; unfold nats; rw [List.getElem?_map, hN]; rfl) ?_
      repeat walk_at "s"
      refine ((c_figures w (N : Int)).le (by decide)).mono fun d e => ?_
      rw [figs] at e
      obtain ⟨at', hat⟩ : ∃ a, a = N % 7 := ⟨_, rfl⟩
      obtain ⟨th, hth⟩ : ∃ a, a = N / 7 % 4 := ⟨_, rfl⟩
      obtain ⟨fl, hfl⟩ : ∃ a, a = N / 7 / 4 % 8 := ⟨_, rfl⟩
      obtain ⟨X, hX⟩ : ∃ a, a = N / 7 / 4 / 8 % 3 := ⟨_, rfl⟩
      obtain ⟨st, hst⟩ : ∃ a, a = N / 7 / 4 / 8 / 3 % 2 := ⟨_, rfl⟩
      obtain ⟨lk, hlk⟩ : ∃ a, a = N / 7 / 4 / 8 / 3 / 2 % 2 := ⟨_, rfl⟩
      obtain ⟨tu, htu⟩ : ∃ a, a = N / 7 / 4 / 8 / 3 / 2 / 2 % 3 := ⟨_, rfl⟩
      rw [← hat, ← hth, ← hfl, ← hX, ← hst, ← hlk, ← htu] at e
      have bat : at' < 7 := hat ▸ Nat.mod_lt _ (by decide)
      have bth : th < 4 := hth ▸ Nat.mod_lt _ (by decide)
      have bfl : fl < 8 := hfl ▸ Nat.mod_lt _ (by decide)
      have bX : X < 3 := hX ▸ Nat.mod_lt _ (by decide)
      have bst : st < 2 := hst ▸ Nat.mod_lt _ (by decide)
      have blk : lk < 2 := hlk ▸ Nat.mod_lt _ (by decide)
      have btu : tu < 3 := htu ▸ Nat.mod_lt _ (by decide)
      clear hat hth hfl hX hst hlk htu
      refine ⟨_, e, rfl, ?_⟩
      clear e
      refine XSs_weak (cx' := ⟨_, [(Str.ofString "text", .str ⟨T.toArray⟩), (Str.ofString "at", .int (at' : Int)), (Str.ofString "thing", .int (th : Int)), (Str.ofString "flag", .int (fl : Int)), (Str.ofString "x", .int (X : Int)), (Str.ofString "step", .int (st : Int)), (Str.ofString "lack", .int (lk : Int)), (Str.ofString "turn", .int (tu : Int))], none⟩) ?_ (by refine Eq.trans ?_ (bindAll_sc _ _ _).symm; dsimp only [Cx.bind]) ⟨rfl, rfl, rfl, rfl, rfl, rfl, rfl, rfl, trivial⟩ rfl
      clear hcut hN hT h6
      exact XSs_le (law_row (by k_is) (by rfl) (by rfl) hTl hTa bat bth bfl bX bst blk btu) (by decide)
  · cases fl with
    | next => obtain ⟨_, _, _, _, _, q⟩ := h; exact q.elim
    | brk => obtain ⟨_, _, _, _, _, q⟩ := h; exact q.elim
    | cont => exact h.elim
    | ret v =>
      obtain ⟨d, rd, hd, e, up⟩ := h
      subst hd
      cases rd
      refine hQ s' s'.heap s'.toks ?_ up
      have n₁ : GnB s s₁ s₁.heap s₁.toks := by subst es; exact ⟨_, rfl, GB.refl _⟩
      exact n₁.trans e.gn
end
section
theorem ints_rep {h : Heap} : ∀ {vs : List Value} {is : List Int}, IntsAre vs is → RepAll h N0 vs (is.map .int)
  | _, _, .nil => .nil
  | _, _, .cons n t r => .cons (.int n t) (ints_rep r)
theorem caller_rm : Rm 8 callerA := ⟨rfl, by decide +kernel, by decide +kernel⟩
theorem law_ends (w : World) {s₁ : Shared} {fa l : Addr} {vs : List Value} {is : List Int} {mg mb : Str → Option Value} {mean : ExcName → Option Value} (KX : (hd.heap_39 w.params).In s₁.heap) (T : Top hd.view_39 LS mean mg mb s₁.heap)
    (hmg : mg (Str.ofString "law") = some (.ref fa)) (hg : s₁.gens = #[]) (hL : s₁.heap.IsList l vs.toArray) (hI : IntsAre vs is) (hlen : ¬ (63 : Int) < (is.length : Int)) :
    codeAny (MD w) callerA (.call (.ref fa) ⟨[.ref l], []⟩) (fun r s' => r = .ok (.ret (.bool true)) ∧ (∀ b o, s₁.heap.get? b = some o → s'.heap.get? b = some o) ∧ s'.os = s₁.os ∧ AllBare s'.gens) s₁ := by
  have hfa : fa = 152 := by
    have h := mg_of (n := Str.ofString "law") (v := .ref 152) KX T.g (by k_is)
    rw [hmg] at h
    cases h
    rfl
  subst hfa
  refine c_law w (W := N0) is (by omega) caller_rm rfl ⟨KX, mg, mb, mean, T⟩ (fun _ q => q.elim) (.cons (.seq hL id (ints_rep hI) rfl) .nil) fun s' h' tk' gn hk => ?_
  obtain ⟨gs, rfl, ab⟩ := gn
  refine ⟨rfl, hk, rfl, ab.1 ?_⟩
  rw [hg]; exact AllBare.empty
end
section
theorem final : PySem.Challenge.rw_sr0045_01.Holds := by
  refine holds_law hdSaid fun said => holds_open (q := hd.view_39) (loose := hdLoose) (Xt := hdXt) (XP := XL hd.view_39 []) (Yf := Hook.obs (kHook hd.heap_39 hdAs hdKeys)) (Ya := Hook.val (kHook hd.heap_39 hdAs hdKeys)) (YP := Hook.says (kHook hd.heap_39 hdAs hdKeys)) (N := 4644) hdLeft (Hook.of _) (Hook.keeps _)
    (fun s e => xl_of s (Bool.and_eq_true_iff.mp e).1) XL.keeps (by rfl) (by rfl) (by rfl) (fun s e => recFacts_of (Bool.and_eq_true_iff.mp e).2) (by rfl) said (by decide +kernel) ⟨rfl, rfl, rfl, rfl, rfl, by decide +kernel⟩ ?hw ?hc
  case hw => w_witness2
  k_fill
  intro w s₀ s₁ mg mb G Y fa o pm cd doc dV kV ho hdd hcd hD hmg hg args vals as hpre hlay hrd hwl hlo
  have KX := kIn_of Y
  refine Ground.open G ?_
  intro T B D TE TW
  try (refine guard_noD D (by decide +kernel) ?_; clear D)
  wrow_args hpre hlay hrd hwl hlo
  all_goals (first | refine callC_kw (enter_call ?_) | refine enter_call ?_ | refine callC_kw (enter_callW ?_) | refine enter_callW ?_)
  rename_i hL ra w1 r0 hI hr hcond hT
  refine codeAny_mono (law_ends w KX T hmg hg hL hI hcond) fun r s' ⟨hr, hk, hos, hb⟩ => ?_
  subst hr
  exact ⟨.inl ⟨.bool true, .bool true, [], rfl, fun _ => rfl, .bool true, postW_of (by wrow_shape) (by wtm_val) (by str_meet; first | done | w_fin), fun _ => ⟨.nil, fun _ h => by cases h⟩⟩, OldK.of_keep hk, hos, hb⟩
end
end Mine

theorem PySem.Challenge.cw_sr0045_01_holds : PySem.Challenge.rw_sr0045_01.Holds := by
  exact Mine.final
